import PyProof.Rows.All
import Wide.All
import OpenK.AllK
import Wide.FinOn
import PySem.Challenge.RW_af5022_01
set_option Elab.async false
set_option linter.unusedVariables false
set_option linter.unusedSimpArgs false
set_option maxRecDepth 100000
-- part B0
namespace Mine
open PySem PySem.Calls PySem.W PyProof.Rows
/-- what is known of one object -/
inductive Cell where
  | ns (l : List (Str × Option Value))
  | list (vs : List Value)
  | cell (v : Option Value)
  | obj (o : Obj)
  | fobj (T : String) (vs : Array Value)
  | fn (fd : FuncData)
def Cell.notCode : Cell → Prop
  | .obj o => o.cls ≠ .type "code"
  | .fobj T _ => T ≠ "code"
  | _ => True
def Cell.notDict : Cell → Prop
  | .ns _ => False
  | .obj o => ∀ es ep, o.data ≠ .dict es ep
  | _ => True
def Cell.plain : Cell → Prop
  | .obj o => ∀ es ep, o.data ≠ .dict es ep
  | _ => True
def mapOf (l : List (Str × Option Value)) (x : Str) : Option Value := (l.lookup x).join
def CodeC (h : Heap) (cd : Value) (q : Str) : Prop := ∃ c o vs t, cd = .ref c ∧ h.get? c = some o ∧ o.cls = .type "code" ∧ o.data = .fields vs ∧ vs[1]? = some (.str q t)
theorem CodeC.keeps {h h' : Heap} {cd q} (x : CodeC h cd q) (hk : ∀ b o, h.get? b = some o → h'.get? b = some o) : CodeC h' cd q :=
  let ⟨c, o, vs, t, e, g, r⟩ := x; ⟨c, o, vs, t, e, hk _ _ g, r⟩
theorem CodeC.rec {h : Heap} {cd q} (x : CodeC h cd q) : h.CodeRec cd q := let ⟨c, o, vs, t, e, g, _, r⟩ := x; ⟨c, o, vs, t, e, g, r⟩
def fnObj (fd : FuncData) : Obj := { cls := .type "function", data := .func fd }
def Sat (h : Heap) (a : Addr) : Cell → Prop
  | .ns l => h.Ns a (mapOf l) ∧ (l.map (·.1)).Nodup
  | .list vs => ∃ n, IsL h a vs.toArray n
  | .cell v => h.IsCell a v
  | .obj o => h.get? a = some o
  | .fobj T vs => ∃ o, h.get? a = some o ∧ o.cls = .type T ∧ o.data = .fields vs
  | .fn fd => h.get? a = some (fnObj fd) ∧ CodeC h fd.code fd.qualname
/-- a state: what is known, each address once -/
abbrev St := List (Addr × Cell)
structure Cx where
  prog : Program
  w : World
  base : Heap
  os : OsState
  tabs : List (Addr × List (Pos × Str))
  ng : Nat
def GensOk (C : Cx) (g : Array GenState) : Prop := AllBare g ∧ C.ng ≤ g.size
def TabOk (h : Heap) (P : Addr) (qs : List (Pos × Str)) : Prop :=
  ∃ ps, h.get? P = some (tabObj ps) ∧ TriplesOk ps.toList ∧ ∀ x ∈ qs, ∀ c, codeAmong x.1 ps.toList = some c → CodeC h c x.2
def FrOk (base h : Heap) (fr : List Env) : Prop :=
  ∀ env ∈ fr, env.scope.kind ≠ .module ∧ ∃ L o es ep, env.frame = some L ∧ base.get? L = none ∧ h.get? L = some o ∧ o.data = .dict es ep
structure Good (C : Cx) (A : Around) (S : St) (s : Shared) : Prop where
  keep : ∀ b o, C.base.get? b = some o → s.heap.get? b = some o
  os : s.os = C.os
  gens : GensOk C s.gens
  tabs : ∀ x ∈ C.tabs, C.base.get? x.1 = none ∧ TabOk s.heap x.1 x.2
  frames : ∃ fr, A.frames = some fr ∧ FrOk C.base s.heap fr
  sat : ∀ p ∈ S, C.base.get? p.1 = none ∧ (∀ x ∈ C.tabs, p.1 ≠ x.1) ∧ Sat s.heap p.1 p.2
  nodup : (S.map (·.1)).Nodup
  plain : ∀ p ∈ S, p.2.plain
theorem fresh_none (h : Heap) : h.get? h.objs.size = none := by
  cases e : h.get? h.objs.size with
  | none => rfl
  | some o => exact absurd (Heap.lt_size e) (Nat.lt_irrefl _)
theorem Sat.get {h : Heap} {a : Addr} {c : Cell} (x : Sat h a c) : ∃ o, h.get? a = some o := by
  cases c with
  | ns l => obtain ⟨⟨o, es, ep, e, _⟩, _⟩ := x; exact ⟨o, e⟩
  | list vs => obtain ⟨n, e⟩ := x; exact ⟨_, e⟩
  | cell v => obtain ⟨o, e, _⟩ := x; exact ⟨o, e⟩
  | obj o => exact ⟨o, x⟩
  | fobj T vs => obtain ⟨o, e, _⟩ := x; exact ⟨o, e⟩
  | fn fd => exact ⟨_, x.1⟩
theorem Sat.lt {h : Heap} {a : Addr} {c : Cell} (x : Sat h a c) : a < h.objs.size := let ⟨_, e⟩ := x.get; Heap.lt_size e
theorem Sat.at {h h' : Heap} {a : Addr} {c : Cell} (x : Sat h a c) (k : ∀ o, h.get? a = some o → h'.get? a = some o) (kc : ∀ cd q, CodeC h cd q → CodeC h' cd q) : Sat h' a c := by
  cases c with
  | ns l => obtain ⟨⟨o, es, ep, e, r⟩, nd⟩ := x; exact ⟨⟨o, es, ep, k _ e, r⟩, nd⟩
  | list vs => obtain ⟨n, e⟩ := x; exact ⟨n, k _ e⟩
  | cell v => obtain ⟨o, e, r⟩ := x; exact ⟨o, k _ e, r⟩
  | obj o => exact k _ x
  | fobj T vs => obtain ⟨o, e, r⟩ := x; exact ⟨o, k _ e, r⟩
  | fn fd => exact ⟨k _ x.1, kc _ _ x.2⟩
theorem Sat.notCodeObj {h : Heap} {a : Addr} {c : Cell} (x : Sat h a c) (hn : c.notCode) {o : Obj} {vs : Array Value} (e : h.get? a = some o) (hc : o.cls = .type "code") (hd : o.data = .fields vs) : False := by
  cases c with
  | ns l => obtain ⟨⟨o', es, ep, e1, e2, _⟩, _⟩ := x; rw [e] at e1; cases e1; rw [hd] at e2; cases e2
  | list vs' => obtain ⟨n, e1⟩ := x; rw [show h.get? a = _ from e1] at e; cases e; cases hd
  | cell v => obtain ⟨o', e1, e2⟩ := x; rw [e] at e1; cases e1; rw [hd] at e2; cases e2
  | obj o' => rw [show h.get? a = some o' from x] at e; cases e; exact hn hc
  | fobj T vs' => obtain ⟨o', e1, e2, _⟩ := x; rw [e] at e1; cases e1; rw [hc] at e2; cases e2; exact hn rfl
  | fn fd => rw [x.1] at e; cases e; cases hd
theorem Sat.codes {h h' : Heap} {a : Addr} {c : Cell} (x : Sat h a c) (hn : c.notCode) (k : ∀ b o, b ≠ a → h.get? b = some o → h'.get? b = some o) (cd : Value) (q : Str) (y : CodeC h cd q) : CodeC h' cd q := by
  obtain ⟨cc, o, vs, t, q1, q2, q0, q3, q4⟩ := y
  exact ⟨cc, o, vs, t, q1, k _ _ (fun hca => x.notCodeObj hn (hca ▸ q2) q0 q3) q2, q0, q3, q4⟩
theorem Sat.notDict {h : Heap} {a : Addr} {c : Cell} (x : Sat h a c) (hn : c.notDict) : ¬ ∃ o es ep, h.get? a = some o ∧ o.data = .dict es ep := by
  rintro ⟨o, es, ep, e1, e2⟩
  cases c with
  | ns l => exact hn
  | list vs => obtain ⟨n, e⟩ := x; rw [show h.get? a = _ from e] at e1; cases e1; cases e2
  | cell v => obtain ⟨o', e, d⟩ := x; rw [e1] at e; cases e; rw [e2] at d; cases d
  | obj o' => have e : h.get? a = some o' := x; rw [e1] at e; cases e; exact hn _ _ e2
  | fobj T vs => obtain ⟨o', e, _, d⟩ := x; rw [e1] at e; cases e; rw [e2] at d; cases d
  | fn fd => rw [x.1] at e1; cases e1; cases e2
theorem TabOk.keeps {h h' : Heap} {P : Addr} {qs} (x : TabOk h P qs) (k : ∀ b o, h.get? b = some o → h'.get? b = some o) : TabOk h' P qs :=
  let ⟨ps, e, t, r⟩ := x; ⟨ps, k _ _ e, t, fun y hy c hc => (r y hy c hc).keeps k⟩
theorem TabOk.lt {h : Heap} {P : Addr} {qs} (x : TabOk h P qs) : P < h.objs.size := let ⟨_, e, _⟩ := x; Heap.lt_size e
theorem FrOk.keeps {base h h' : Heap} {fr} (x : FrOk base h fr) (k : ∀ b o, h.get? b = some o → h'.get? b = some o) : FrOk base h' fr :=
  fun env he => let ⟨a, L, o, es, ep, b, c, d, e⟩ := x env he; ⟨a, L, o, es, ep, b, c, k _ _ d, e⟩
/-- in S the object at a turns from c₀ to c -/
inductive Upd (a : Addr) (c₀ c : Cell) : St → St → Prop where
  | here {S} : Upd a c₀ c ((a, c₀) :: S) ((a, c) :: S)
  | there {p S S'} : Upd a c₀ c S S' → Upd a c₀ c (p :: S) (p :: S')
theorem Upd.keys {a c₀ c} {S S' : St} (u : Upd a c₀ c S S') : S'.map (·.1) = S.map (·.1) := by
  induction u with
  | here => rfl
  | there _ ih => rw [List.map_cons, List.map_cons, ih]
theorem Upd.mem {a c₀ c} {S S' : St} (u : Upd a c₀ c S S') : (a, c₀) ∈ S := by
  induction u with
  | here => exact .head _
  | there _ ih => exact .tail _ ih
theorem Upd.mem' {a c₀ c} {S S' : St} (u : Upd a c₀ c S S') : (a, c) ∈ S' := by
  induction u with
  | here => exact .head _
  | there _ ih => exact .tail _ ih
theorem Upd.cases' {a c₀ c} {S S' : St} (u : Upd a c₀ c S S') (nd : (S.map (·.1)).Nodup) : ∀ p ∈ S', p = (a, c) ∨ (p ∈ S ∧ p.1 ≠ a) := by
  induction u with
  | here =>
    intro p hp
    rcases List.mem_cons.mp hp with rfl | hp
    · exact .inl rfl
    · refine .inr ⟨.tail _ hp, fun e => ?_⟩
      exact (List.nodup_cons.mp nd).1 (List.mem_map.mpr ⟨p, hp, e⟩)
  | there u ih =>
    intro p hp
    have nd' := List.nodup_cons.mp nd
    rcases List.mem_cons.mp hp with rfl | hp
    · exact .inr ⟨.head _, fun e => nd'.1 (List.mem_map.mpr ⟨_, u.mem, e.symm⟩)⟩
    · rcases ih nd'.2 p hp with e | ⟨e, n⟩
      · exact .inl e
      · exact .inr ⟨.tail _ e, n⟩
/-- an object that is no longer known -/
inductive Del (a : Addr) (c₀ : Cell) : St → St → Prop where
  | here {S} : Del a c₀ ((a, c₀) :: S) S
  | there {p S S'} : Del a c₀ S S' → Del a c₀ (p :: S) (p :: S')
theorem Del.mem {a c₀} {S S' : St} (u : Del a c₀ S S') : (a, c₀) ∈ S := by
  induction u with
  | here => exact .head _
  | there _ ih => exact .tail _ ih
theorem Del.sub {a c₀} {S S' : St} (u : Del a c₀ S S') : S'.Sublist S := by
  induction u with
  | here => exact List.sublist_cons_self _ _
  | there _ ih => exact ih.cons_cons _
theorem Del.ne {a c₀} {S S' : St} (u : Del a c₀ S S') (nd : (S.map (·.1)).Nodup) : ∀ p ∈ S', p.1 ≠ a := by
  induction u with
  | here => intro p hp e; exact (List.nodup_cons.mp nd).1 (List.mem_map.mpr ⟨p, hp, e⟩)
  | there u ih =>
    intro p hp
    have nd' := List.nodup_cons.mp nd
    rcases List.mem_cons.mp hp with rfl | hp
    · exact fun e => nd'.1 (List.mem_map.mpr ⟨_, u.mem, e.symm⟩)
    · exact ih nd'.2 p hp
section
variable {C : Cx} {A : Around} {S : St} {s : Shared}
theorem Good.weaken {S₀ : St} (G : Good C A S s) (h : S₀.Sublist S) : Good C A S₀ s :=
  { G with sat := fun p hp => G.sat p (h.subset hp), nodup := G.nodup.sublist (h.map _), plain := fun p hp => G.plain p (h.subset hp) }
theorem Good.around {A' : Around} (G : Good C A S s) (h : A'.frames = A.frames) : Good C A' S s :=
  { G with frames := by rw [h]; exact G.frames }
/-- the heap has grown; nothing known has changed -/
theorem Good.grow {s' : Shared} (G : Good C A S s) (k : ∀ b o, s.heap.get? b = some o → s'.heap.get? b = some o)
    (hos : s'.os = s.os := by rfl) (hg : GensOk C s'.gens := by exact Good.gens (by assumption)) : Good C A S s' where
  keep := fun b o e => k b o (G.keep b o e)
  os := hos.trans G.os
  gens := hg
  tabs := fun x hx => ⟨(G.tabs x hx).1, (G.tabs x hx).2.keeps k⟩
  frames := let ⟨fr, e, f⟩ := G.frames; ⟨fr, e, f.keeps k⟩
  sat := fun p e => let ⟨x, y, z⟩ := G.sat p e; ⟨x, y, z.at (k p.1) fun cd q c => c.keeps k⟩
  nodup := G.nodup
  plain := G.plain
theorem Good.tok (G : Good C A S s) (t : Nat) : Good C A S { s with toks := t } := G.grow (s' := { s with toks := t }) (fun _ _ e => e) rfl G.gens
/-- a new object -/
theorem Good.new {s' : Shared} {a : Addr} {c : Cell} (G : Good C A S s) (k : ∀ b o, s.heap.get? b = some o → s'.heap.get? b = some o) (ha : s.heap.get? a = none) (hc : Sat s'.heap a c)
    (hos : s'.os = s.os := by rfl) (hg : GensOk C s'.gens := by exact Good.gens (by assumption)) (hpl : c.plain := by first | trivial | (intro es ep h; cases h)) : Good C A ((a, c) :: S) s' := by
  have G' := G.grow k hos hg
  refine { G' with sat := fun p hp => ?_, nodup := ?_, plain := fun p hp => (List.mem_cons.mp hp).elim (fun e => e ▸ hpl) (G'.plain p) }
  · rcases List.mem_cons.mp hp with rfl | hp
    · refine ⟨?_, fun x hx => ?_, hc⟩
      · show C.base.get? a = none
        cases e2 : C.base.get? a with
        | none => rfl
        | some o => have := G.keep _ _ e2; rw [ha] at this; cases this
      · intro e3
        have e3 : a = x.1 := e3
        obtain ⟨ps, e, _⟩ := (G.tabs x hx).2
        rw [← e3, ha] at e; cases e
    · exact G'.sat p hp
  · refine List.nodup_cons.mpr ⟨fun hm => ?_, G.nodup⟩
    obtain ⟨p, hp, e⟩ := List.mem_map.mp hm
    have e : p.1 = a := e
    obtain ⟨o, ho⟩ := (G.sat p hp).2.2.get
    rw [e, ha] at ho; cases ho
theorem Good.news {s' : Shared} {X : St} (G : Good C A S s) (k : ∀ b o, s.heap.get? b = some o → s'.heap.get? b = some o) (hX : ∀ p ∈ X, s.heap.get? p.1 = none ∧ Sat s'.heap p.1 p.2) (nd : (X.map (·.1)).Nodup)
    (hos : s'.os = s.os := by rfl) (hg : GensOk C s'.gens := by exact Good.gens (by assumption)) (hpl : ∀ p ∈ X, p.2.plain := by simp [Cell.plain]) : Good C A (X ++ S) s' := by
  induction X with
  | nil => exact G.grow k hos hg
  | cons p X ih =>
    have nd' := List.nodup_cons.mp nd
    have G' := ih (fun q hq => hX q (.tail _ hq)) nd'.2 (fun q hq => hpl q (.tail _ hq))
    have ⟨ha, hc⟩ := hX p (.head _)
    refine { G' with sat := fun q hq => ?_, nodup := ?_, plain := fun q hq => (List.mem_cons.mp hq).elim (fun e => e ▸ hpl p (.head _)) (G'.plain q) }
    · rcases List.mem_cons.mp hq with rfl | hq
      · refine ⟨?_, fun x hx e3 => ?_, hc⟩
        · cases e2 : C.base.get? q.1 with
          | none => rfl
          | some o => have := G.keep _ _ e2; rw [ha] at this; cases this
        · obtain ⟨ps, e, _⟩ := (G.tabs x hx).2
          rw [← e3, ha] at e; cases e
      · exact G'.sat q hq
    · refine List.nodup_cons.mpr ⟨fun hm => ?_, G'.nodup⟩
      obtain ⟨q, hq, e⟩ := List.mem_map.mp hm
      rcases List.mem_append.mp hq with hq | hq
      · exact nd'.1 (List.mem_map.mpr ⟨q, hq, e⟩)
      · obtain ⟨o, ho⟩ := (G.sat q hq).2.2.get
        have e : q.1 = p.1 := e
        rw [e, ha] at ho; cases ho
/-- a known object has changed -/
theorem Good.change {S' : St} {s' : Shared} {a : Addr} {c₀ c : Cell} (G : Good C A S s) (u : Upd a c₀ c S S') (sb : Heap.SameBut a s.heap s'.heap) (hc : Sat s'.heap a c)
    (hnc : c₀.notCode := by trivial)
    (hd : (∃ o es ep, s.heap.get? a = some o ∧ o.data = .dict es ep) → ∃ o es ep, s'.heap.get? a = some o ∧ o.data = .dict es ep)
    (hos : s'.os = s.os := by rfl) (hg : GensOk C s'.gens := by exact Good.gens (by assumption)) (hpl : c.plain := by first | trivial | (intro es ep h; cases h)) : Good C A S' s' := by
  have ⟨n1, n2, n3⟩ := G.sat _ u.mem
  have k : ∀ b o, b ≠ a → s.heap.get? b = some o → s'.heap.get? b = some o := fun b o hb e => (sb.2 b hb).trans e
  refine ⟨fun b o e => k b o (fun q => by rw [q, n1] at e; cases e) (G.keep b o e), hos.trans G.os, hg, fun x hx => ⟨(G.tabs x hx).1, ?_⟩, ?_, fun p hp => ?_, u.keys ▸ G.nodup, fun p hp => by
    rcases u.cases' G.nodup p hp with rfl | ⟨hp, _⟩
    · exact hpl
    · exact G.plain p hp⟩
  · obtain ⟨ps, e, t, r⟩ := (G.tabs x hx).2
    refine ⟨ps, k _ _ (fun q => n2 x hx q.symm) e, t, fun y hy c' hc' => ?_⟩
    exact n3.codes hnc k _ _ (r y hy c' hc')
  · obtain ⟨fr, e, f⟩ := G.frames
    refine ⟨fr, e, fun env he => ?_⟩
    obtain ⟨a1, L, o, es, ep, b1, c1, d1, e1⟩ := f env he
    by_cases hLa : L = a
    · subst hLa
      obtain ⟨o', es', ep', x1, x2⟩ := hd ⟨o, es, ep, d1, e1⟩
      exact ⟨a1, L, o', es', ep', b1, c1, x1, x2⟩
    · exact ⟨a1, L, o, es, ep, b1, c1, k _ _ hLa d1, e1⟩
  · rcases u.cases' G.nodup p hp with rfl | ⟨hp, hb⟩
    · exact ⟨n1, n2, hc⟩
    · obtain ⟨x1, x2, x3⟩ := G.sat p hp
      exact ⟨x1, x2, x3.at (fun o => k p.1 o hb) (n3.codes hnc k)⟩
/-- a known object has changed, nothing is said how -/
theorem Good.lose {S' : St} {s' : Shared} {a : Addr} {c₀ : Cell} (G : Good C A S s) (u : Del a c₀ S S') (sb : Heap.ExtBut a s.heap s'.heap)
    (hnc : c₀.notCode := by trivial) (hnd : c₀.notDict := by trivial)
    (hos : s'.os = s.os := by rfl) (hg : GensOk C s'.gens := by exact Good.gens (by assumption)) : Good C A S' s' := by
  have ⟨n1, n2, n3⟩ := G.sat _ u.mem
  refine ⟨fun b o e => sb b o (fun q => by rw [q, n1] at e; cases e) (G.keep b o e), hos.trans G.os, hg, fun x hx => ⟨(G.tabs x hx).1, ?_⟩, ?_, fun p hp => ?_, G.nodup.sublist (u.sub.map _), fun p hp => G.plain p (u.sub.subset hp)⟩
  · obtain ⟨ps, e, t, r⟩ := (G.tabs x hx).2
    refine ⟨ps, sb _ _ (fun q => n2 x hx q.symm) e, t, fun y hy c' hc' => ?_⟩
    exact n3.codes hnc sb _ _ (r y hy c' hc')
  · obtain ⟨fr, e, f⟩ := G.frames
    refine ⟨fr, e, fun env he => ?_⟩
    obtain ⟨a1, L, o, es, ep, b1, c1, d1, e1⟩ := f env he
    exact ⟨a1, L, o, es, ep, b1, c1, sb _ _ (fun hLa => n3.notDict hnd ⟨o, es, ep, hLa ▸ d1, e1⟩) d1, e1⟩
  · obtain ⟨x1, x2, x3⟩ := G.sat p (u.sub.subset hp)
    exact ⟨x1, x2, x3.at (fun o e => sb p.1 o (u.ne G.nodup p hp) e) (n3.codes hnc sb)⟩
end
/-- the tree, from any state that bears S, comes to Q (or raises into E) -/
structure W {α : Type} (C : Cx) (A : Around) (S : St) (t : Sem α) (Q : α → St → Prop) (E : Value → Shared → Prop) : Prop where
  intro ::
  run : ∀ s, Good C A S s → wpAny (model C.prog C.w) A t (fun a s' => ∃ S', Good C A S' s' ∧ Q a S') E s
structure Room (A : Around) (n : Nat) : Prop where
  handled : A.handled = none
  depth : A.depth + n < recursionLimit
  units : A.units + 8 * n < cLine
theorem Room.mono {A : Around} {n m : Nat} (r : Room A n) (h : m ≤ n) : Room A m := ⟨r.handled, by have := r.depth; omega, by have := r.units; omega⟩
theorem Room.deeper {A : Around} {n : Nat} {env : Env} (r : Room A (n + 1)) : Room (A.deeper env) n :=
  ⟨r.handled, by have := r.depth; show A.depth + 1 + n < _; omega, by have := r.units; show A.units + 3 + 8 * n < _; omega⟩
theorem Room.in1 {A : Around} {n : Nat} (r : Room A (n + 1)) : Room A.in1 n :=
  ⟨r.handled, by have := r.depth; show A.depth + n < _; omega, by have := r.units; show A.units + 1 + 8 * n < _; omega⟩
section
variable {α β : Type} {C : Cx} {A : Around} {S : St} {E : Value → Shared → Prop}
theorem W.pur {a : α} {Q : α → St → Prop} (h : Q a S) : W C A S (Pure.pure a) Q E := .intro fun _ G => wpAny_pure ⟨S, G, h⟩
theorem W.mono {t : Sem α} {Q Q' : α → St → Prop} (h : W C A S t Q E) (hQ : ∀ a S', Q a S' → Q' a S') : W C A S t Q' E := .intro
  fun s G => wpAny_mono (h.1 s G) (fun a _ ⟨S', G', q⟩ => ⟨S', G', hQ a S' q⟩) fun _ _ x => x
theorem W.bind {m : Sem α} {f : α → Sem β} {Q : β → St → Prop} (h : W C A S m (fun a S' => W C A S' (f a) Q E) E) : W C A S (m >>= f) Q E := .intro
  fun s G => wpAny_bind (wpAny_mono (h.1 s G) (fun _ _ ⟨_, G', q⟩ => q.1 _ G') fun _ _ x => x)
theorem W.weaken {S₀ : St} {t : Sem α} {Q : α → St → Prop} (h : W C A S₀ t Q E) (hs : S₀.Sublist S) : W C A S t Q E := .intro fun s G => h.1 s (G.weaken hs)
/-- from a rule of the library whose end is a state that has grown -/
theorem W.ofw {t : Sem α} {Q : α → St → Prop} (h : ∀ s, Good C A S s → wpAny (model C.prog C.w) A t (fun a s' => ∃ S', Good C A S' s' ∧ Q a S') E s) : W C A S t Q E := ⟨h⟩
end
end Mine
-- part B1
namespace Mine
open PySem PySem.Calls PySem.W PyProof.Rows
inductive UpdL (x : Str) (v : Value) : List (Str × Option Value) → List (Str × Option Value) → Prop where
  | here {u l} : UpdL x v ((x, u) :: l) ((x, some v) :: l)
  | there {p l l'} : UpdL x v l l' → UpdL x v (p :: l) (p :: l')
theorem mapOf_mem {l : List (Str × Option Value)} (nd : (l.map (·.1)).Nodup) {x : Str} {v : Option Value} (h : (x, v) ∈ l) : mapOf l x = v := by
  unfold mapOf
  induction l with
  | nil => cases h
  | cons p l ih =>
    have nd' := List.nodup_cons.mp nd
    rw [List.lookup_cons]
    rcases List.mem_cons.mp h with rfl | h
    · simp
    · have hne : (x == p.1) = false := by
        simp only [beq_eq_false_iff_ne, ne_eq]
        rintro rfl
        exact nd'.1 (List.mem_map.mpr ⟨_, h, rfl⟩)
      rw [hne]
      exact ih nd'.2 h
theorem UpdL.keys {x v} {l l' : List (Str × Option Value)} (u : UpdL x v l l') : l'.map (·.1) = l.map (·.1) := by
  induction u with
  | here => rfl
  | there _ ih => rw [List.map_cons, List.map_cons, ih]
theorem UpdL.map {x v} {l l' : List (Str × Option Value)} (u : UpdL x v l l') (nd : (l.map (·.1)).Nodup) : mapOf l' = fun y => if y = x then some v else mapOf l y := by
  induction u with
  | here =>
    funext y
    unfold mapOf
    rw [List.lookup_cons, List.lookup_cons]
    by_cases h : y = x
    · subst h; simp
    · have hb : (y == x) = false := by simpa using h
      rw [hb, if_neg h]
  | @there p l l' u ih =>
    have nd' := List.nodup_cons.mp nd
    funext y
    have := congrFun (ih nd'.2) y
    unfold mapOf at this ⊢
    rw [List.lookup_cons, List.lookup_cons]
    cases hy : y == p.1 with
    | true =>
      have hyp := eq_of_beq hy
      by_cases h : y = x
      · exfalso
        have hk : x ∈ l.map (·.1) := by
          have : ∃ w, (x, w) ∈ l := by
            clear this ih nd nd'
            induction u with
            | here => exact ⟨_, .head _⟩
            | there _ ih2 => obtain ⟨w, hw⟩ := ih2; exact ⟨w, .tail _ hw⟩
          obtain ⟨w, hw⟩ := this
          exact List.mem_map.mpr ⟨_, hw, rfl⟩
        rw [← h, hyp] at hk
        exact nd'.1 hk
      · rw [if_neg h]
    | false => exact this
section
variable {α β : Type} {C : Cx} {A : Around} {S : St} {E : Value → Shared → Prop} {env : Env}
-- statements
theorem W.sNil {Q : Flow → St → Prop} (h : Q .next S) : W C A S (execs [] env) Q E := .intro fun _ G => wpAny_execs_nil ⟨S, G, h⟩
theorem W.sCons {st rest} {Q : Flow → St → Prop}
    (h : W C A S (exec st env) (fun f S' => match f with | .next => W C A S' (execs rest env) Q E | f => Q f S') E) : W C A S (execs (st :: rest) env) Q E := .intro
  fun s G => wpAny_execs_cons (wpAny_mono (h.1 s G) (fun f s' ⟨S', G', q⟩ => by cases f <;> first | exact q.1 s' G' | exact ⟨S', G', q⟩) fun _ _ x => x)
theorem W.sIf {test body orelse pos} {Q : Flow → St → Prop}
    (h : W C A S (isTrue test env (eval test env)) (fun b S' => if b then W C A S' (execs body env) Q E else W C A S' (execs orelse env) Q E) E) : W C A S (exec (.If test body orelse pos) env) Q E := .intro
  fun s G => wpAny_If (wpAny_mono (h.1 s G) (fun b s' ⟨S', G', q⟩ => by cases b <;> exact q.1 s' G') fun _ _ x => x)
theorem W.sRet {e pos} {Q : Flow → St → Prop} (h : W C A S (eval e env) (fun v => Q (.ret v)) E) : W C A S (exec (.Return (some e) pos) env) Q E := .intro
  fun s G => wpAny_Return_some (h.1 s G)
theorem W.sPass {pos} {Q : Flow → St → Prop} (h : Q .next S) : W C A S (exec (.Pass pos) env) Q E := .intro fun _ G => wpAny_Pass ⟨S, G, h⟩
theorem W.sBrk {pos} {Q : Flow → St → Prop} (h : Q .brk S) : W C A S (exec (.Break pos) env) Q E := .intro fun _ G => wpAny_Break ⟨S, G, h⟩
theorem W.sAssign {x pos' value pos} {Q : Flow → St → Prop} (h : W C A S (eval value env) (fun v S' => W C A S' (storeName env x v) (fun _ => Q .next) E) E)
    (hs : swapsWith value (some (.Name x pos')) pos.line env = Pure.pure false := by rfl) : W C A S (exec (.Assign [.Name x pos'] value pos) env) Q E := .intro
  fun s G => wpAny_Assign_Name (wpAny_mono (h.1 s G) (fun _ s' ⟨_, G', q⟩ => q.1 s' G') fun _ _ x => x) hs
theorem W.sAug {x pos' op value pos} {Q : Flow → St → Prop}
    (h : W C A S (loadName env x) (fun old S₁ => W C A S₁ (eval value env) (fun v S₂ => W C A S₂ (inplaceOp op old v) (fun r S₃ => W C A S₃ (storeName env x r) (fun _ => Q .next) E) E) E) E) :
    W C A S (exec (.AugAssign (.Name x pos') op value pos) env) Q E := .intro
  fun s G => wpAny_AugAssign_Name (wpAny_mono (h.1 s G) (fun _ s' ⟨_, G', q⟩ => wpAny_mono (q.1 s' G') (fun _ s' ⟨_, G', q⟩ => wpAny_mono (q.1 s' G') (fun _ s' ⟨_, G', q⟩ => q.1 s' G') fun _ _ x => x) fun _ _ x => x) fun _ _ x => x)
theorem W.sExpr {e pos} {Q : Flow → St → Prop} (h : W C A S (eval e env) (fun v S' => (∀ a, v ≠ .ref a) ∧ Q .next S') E)
    (hi : interactive env = false := by rfl) (hs : swapsWith e none pos.line env = Pure.pure false := by rfl) : W C A S (exec (.Expr e pos) env) Q E := .intro
  fun s G => wpAny_Expr (wpAny_mono (h.1 s G) (fun v s' ⟨S', G', q⟩ => by cases v <;> first | exact ⟨S', G', q.2⟩ | exact absurd rfl (q.1 _)) fun _ _ x => x) hi hs
/-- an expression whose value is an object that is let go -/
-- expressions
theorem W.cInt {i k pos} {Q : Value → St → Prop} (h : ∀ t, Q (.int i t) S) : W C A S (eval (.Constant (.int i) k pos) env) Q E := .intro fun s G => wpAny_Constant_int ⟨S, G.tok _, h _⟩
theorem W.cStr {x : Str} {k pos} {Q : Value → St → Prop} (h : ∀ t, Q (.str x t) S) : W C A S (eval (.Constant (.str x) k pos) env) Q E := .intro fun s G => wpAny_Constant_str ⟨S, G.tok _, h _⟩
theorem W.cBool {b k pos} {Q : Value → St → Prop} (h : Q (.bool b) S) : W C A S (eval (.Constant (.bool b) k pos) env) Q E := .intro fun s G => wpAny_Constant_bool ⟨S, G, h⟩
theorem W.cNone {k pos} {Q : Value → St → Prop} (h : Q .none S) : W C A S (eval (.Constant .none k pos) env) Q E := .intro fun s G => wpAny_Constant_none ⟨S, G, h⟩
theorem W.ldl {x : Str} {v : Value} {l} {Q : Value → St → Prop} (hm : (env.locals, .ns l) ∈ S) (hx : (x, some v) ∈ l) (h : Q v S)
    (hk : env.scope.kind = .function := by rfl) (hl : env.kindOf x = some .local := by rfl) : W C A S (loadName env x) Q E := .intro fun s G =>
  wpAny_loadName_local hk hl (G.sat _ hm).2.2.1 (mapOf_mem (G.sat _ hm).2.2.2 hx) ⟨S, G, h⟩
theorem W.name {x pos} {v : Value} {l} {Q : Value → St → Prop} (hm : (env.locals, .ns l) ∈ S) (hx : (x, some v) ∈ l) (h : Q v S)
    (hk : env.scope.kind = .function := by rfl) (hl : env.kindOf x = some .local := by rfl) (hd : (x == ("__debug__" : Str)) = false := by decide) : W C A S (eval (.Name x pos) env) Q E := .intro fun s G =>
  wpAny_Name ((W.ldl hm hx h hk hl).1 s G) hd
theorem W.nameC {x pos} {c : Addr} {v : Value} {Q : Value → St → Prop} (hc : env.cells.lookup x = some c) (hm : (c, .cell (some v)) ∈ S) (h : Q v S)
    (hk : env.scope.kind = .function := by rfl) (hl : env.kindOf x = some .cell := by rfl) (hd : (x == ("__debug__" : Str)) = false := by decide) : W C A S (eval (.Name x pos) env) Q E := .intro fun s G =>
  wpAny_Name (wpAny_loadName_cell hk hl hc (G.sat _ hm).2.2 ⟨S, G, h⟩) hd
theorem W.nameF {x pos} {c : Addr} {v : Value} {Q : Value → St → Prop} (hc : env.cells.lookup x = some c) (hm : (c, .cell (some v)) ∈ S) (h : Q v S)
    (hk : env.scope.kind = .function := by rfl) (hl : env.kindOf x = some .free := by rfl) (hn : (x == ("__classdict__" : Str)) = false := by decide) (hd : (x == ("__debug__" : Str)) = false := by decide) : W C A S (eval (.Name x pos) env) Q E := .intro fun s G =>
  wpAny_Name (wpAny_loadName_free hk hl hc (G.sat _ hm).2.2 ⟨S, G, h⟩ hn) hd
/-- what a global name of the text or of the built-ins means -/
def GlobalIs (C : Cx) (x : Str) (v : Value) : Prop :=
  ∃ mg mb, C.base.Ns mainGlobals mg ∧ C.base.Ns builtinsNs mb ∧ (mg x = some v ∨ (mg x = Option.none ∧ mb x = some v))
theorem W.glob {x pos} {v : Value} {Q : Value → St → Prop} (g : GlobalIs C x v) (h : Q v S) (hg : env.globals = mainGlobals := by rfl) (hb : env.builtins = builtinsNs := by rfl)
    (hk : env.scope.kind = .function := by rfl) (hl : env.kindOf x = some .globalImplicit := by rfl) (hd : (x == ("__debug__" : Str)) = false := by decide) : W C A S (eval (.Name x pos) env) Q E := .intro fun s G => by
  refine wpAny_Name ?_ hd
  unfold loadName
  simp only [Env.blockKind, hk, hl, ScopeKind.isAnnotationScope, Bool.false_and, Bool.false_eq_true, if_false]
  obtain ⟨mg, mb, h1, h2, h3⟩ := g
  unfold loadGlobal
  rw [hg, hb]
  rcases h3 with h3 | ⟨h3, h4⟩
  · exact wpAny_bind (wpAny_nsGet (h1.keeps G.keep) (by rw [h3]; exact wpAny_pure ⟨S, G, h⟩))
  · refine wpAny_bind (wpAny_nsGet (h1.keeps G.keep) ?_)
    rw [h3]
    exact wpAny_bind (wpAny_nsGet (h2.keeps G.keep) (by rw [h4]; exact wpAny_pure ⟨S, G, h⟩))
theorem W.stl {x : Str} {v : Value} {l l' S'} {Q : Unit → St → Prop} (hm : Upd env.locals (.ns l) (.ns l') S S') (hu : UpdL x v l l') (h : Q () S')
    (hk : env.scope.kind = .function := by rfl) (hl : env.kindOf x = some .local := by rfl) : W C A S (storeName env x v) Q E := .intro fun s G => by
  have ⟨n1, n2, n3⟩ := G.sat _ hm.mem
  refine wpAny_storeName_local hl n3.1 (fun h' hn hs => ⟨S', G.change hm hs ⟨?_, ?_⟩ trivial (fun _ => ?_) rfl G.gens, h⟩) (by rw [hk]; rfl)
  · rw [hu.map n3.2]; exact hn
  · rw [hu.keys]; exact n3.2
  · obtain ⟨o, es, ep, e1, e2, _⟩ := hn; exact ⟨o, es, ep, e1, e2⟩
theorem W.stc {x : Str} {c : Addr} {v₀ : Option Value} {v : Value} {S'} {Q : Unit → St → Prop} (hc : env.cells.lookup x = some c) (hm : Upd c (.cell v₀) (.cell (some v)) S S') (h : Q () S')
    (hk : env.scope.kind = .function := by rfl) (hl : env.kindOf x = some .cell := by rfl) : W C A S (storeName env x v) Q E := .intro fun s G => by
  have ⟨n1, n2, n3⟩ := G.sat _ hm.mem
  refine wpAny_storeName_cell hk hl hc n3 (fun h' hn hs => ⟨S', G.change hm hs hn trivial (fun ⟨o, es, ep, e1, e2⟩ => ?_) rfl G.gens, h⟩)
  obtain ⟨o', e3, e4⟩ := n3
  rw [e1] at e3; cases e3; rw [e2] at e4; cases e4
theorem W.binop {l op r pos} {Q : Value → St → Prop} (h : W C A S (eval l env) (fun a S₁ => W C A S₁ (eval r env) (fun b S₂ => W C A S₂ (binaryOp op a b) Q E) E) E) :
    W C A S (eval (.BinOp l op r pos) env) Q E := .intro fun s G =>
  wpAny_BinOp (wpAny_mono (h.1 s G) (fun _ s' ⟨_, G', q⟩ => wpAny_mono (q.1 s' G') (fun _ s' ⟨_, G', q⟩ => q.1 s' G') fun _ _ x => x) fun _ _ x => x)
theorem W.cmp {l op r pos} {Q : Value → St → Prop} (h : W C A S (eval l env) (fun a S₁ => W C A S₁ (eval r env) (fun b S₂ => W C A S₂ (compareOp op a b) Q E) E) E)
    (hm : behindInMarks op r = false := by with_unfolding_all rfl) : W C A S (eval (.Compare l [op] [r] pos) env) Q E := .intro fun s G =>
  wpAny_Compare1 (wpAny_mono (h.1 s G) (fun _ s' ⟨_, G', q⟩ => wpAny_mono (q.1 s' G') (fun _ s' ⟨_, G', q⟩ => q.1 s' G') fun _ _ x => x) fun _ _ x => x) hm
theorem W.truthyB {b : Bool} {Q : Bool → St → Prop} (h : Q b S) : W C A S (truthy (.bool b)) Q E := .intro fun s G => wpAny_truthy_bool ⟨S, G, h⟩
/-- a comparison as a test: what it gives is a bool -/
theorem W.tcmp {l op r pos whole} {Q : Bool → St → Prop}
    (h : W C A S (eval l env) (fun a S₁ => W C A S₁ (eval r env) (fun b S₂ => W C A S₂ (compareOp op a b) (fun c S₃ => ∃ z, c = .bool z ∧ Q z S₃) E) E) E)
    (hm : behindInMarks op r = false := by with_unfolding_all rfl) : W C A S (isTrue (.Compare l [op] [r] pos) env whole) Q E := .intro fun s G =>
  wpAny_isTrue_Compare1 (wpAny_mono (h.1 s G) (fun _ s' ⟨_, G', q⟩ => wpAny_mono (q.1 s' G') (fun _ s' ⟨_, G', q⟩ => wpAny_mono (q.1 s' G') (fun c s' ⟨S', G', z, e, q⟩ => by
    subst e; exact wpAny_truthy_bool ⟨S', G', q⟩) fun _ _ x => x) fun _ _ x => x) fun _ _ x => x) hm
theorem W.unop {op : UnaryOp} {x : Expr} {pos : Pos} {Q : Value → St → Prop} (h : W C A S (eval x env) (fun v S₁ => W C A S₁ (unaryOp op v) Q E) E) : W C A S (eval (.UnaryOp op x pos) env) Q E := .intro fun s G =>
  wpAny_UnaryOp (wpAny_mono (h.1 s G) (fun _ s' ⟨_, G', q⟩ => q.1 s' G') fun _ _ x => x)
theorem W.ifexp {test body orelse : Expr} {pos : Pos} {Q : Value → St → Prop}
    (h : W C A S (isTrue test env (eval test env)) (fun b S₁ => if b then W C A S₁ (eval body env) Q E else W C A S₁ (eval orelse env) Q E) E) : W C A S (eval (.IfExp test body orelse pos) env) Q E := .intro fun s G =>
  wpAny_IfExp (wpAny_mono (h.1 s G) (fun b s' ⟨_, G', q⟩ => by cases b <;> exact q.1 s' G') fun _ _ x => x)
theorem W.tnot {x : Expr} {pos : Pos} {whole : Sem Value} {Q : Bool → St → Prop} (h : W C A S (isTrue x env (eval x env)) (fun b S₁ => Q (!b) S₁) E) : W C A S (isTrue (.UnaryOp .Not x pos) env whole) Q E := .intro fun s G =>
  wpAny_isTrue_Not (h.1 s G)
theorem W.and2 {x y : Expr} {pos : Pos} {Q : Value → St → Prop} (h : W C A S (eval x env) (fun v S₁ => W C A S₁ (truthy v) (fun t S₂ => if t then W C A S₂ (eval y env) Q E else Q v S₂) E) E) :
    W C A S (eval (.BoolOp .And [x, y] pos) env) Q E := .intro fun s G =>
  wpAny_And2 (wpAny_mono (h.1 s G) (fun _ s' ⟨_, G', q⟩ => wpAny_mono (q.1 s' G') (fun b s' ⟨S', G', q⟩ => by cases b; exact ⟨S', G', q⟩; exact q.1 s' G') fun _ _ x => x) fun _ _ x => x)
theorem W.or2 {x y : Expr} {pos : Pos} {Q : Value → St → Prop} (h : W C A S (eval x env) (fun v S₁ => W C A S₁ (truthy v) (fun t S₂ => if t then Q v S₂ else W C A S₂ (eval y env) Q E) E) E) :
    W C A S (eval (.BoolOp .Or [x, y] pos) env) Q E := .intro fun s G =>
  wpAny_Or2 (wpAny_mono (h.1 s G) (fun _ s' ⟨_, G', q⟩ => wpAny_mono (q.1 s' G') (fun b s' ⟨S', G', q⟩ => by cases b; exact q.1 s' G'; exact ⟨S', G', q⟩) fun _ _ x => x) fun _ _ x => x)
theorem W.tval {e : Expr} {whole : Sem Value} {Q : Bool → St → Prop} (h : W C A S whole (fun v S₁ => W C A S₁ (truthy v) Q E) E)
    (he : isTrue e env whole = (do let v ← whole; standAt e.pos; holding [v] (truthy v)) := by rfl) : W C A S (isTrue e env whole) Q E := .intro fun s G =>
  wpAny_isTrue_value (wpAny_mono (h.1 s G) (fun _ s' ⟨_, G', q⟩ => q.1 s' G') fun _ _ x => x) he
theorem W.tbool {op : BoolOp} {values : List Expr} {pos : Pos} {whole : Sem Value} {Q : Bool → St → Prop} (h : W C A S (allTrue op values env) Q E) : W C A S (isTrue (.BoolOp op values pos) env whole) Q E := .intro fun s G =>
  wpAny_isTrue_BoolOp (h.1 s G)
theorem W.andNil {Q : Bool → St → Prop} (h : Q true S) : W C A S (allTrue .And [] env) Q E := .intro fun s G => wpAny_allTrue_And_nil ⟨S, G, h⟩
theorem W.andCons {x : Expr} {rest : List Expr} {Q : Bool → St → Prop} (h : W C A S (isTrue x env (eval x env)) (fun b S₁ => if b then W C A S₁ (allTrue .And rest env) Q E else Q false S₁) E) : W C A S (allTrue .And (x :: rest) env) Q E := .intro fun s G =>
  wpAny_allTrue_And_cons (wpAny_mono (h.1 s G) (fun b s' ⟨S', G', q⟩ => by cases b; exact ⟨S', G', q⟩; exact q.1 s' G') fun _ _ x => x)
theorem W.itemsNil {pos : Pos} {Q : List Value → St → Prop} (h : Q [] S) : W C A S (spliced (backTo pos (starEach [] env))) Q E := .intro fun s G => wpAny_items_nil ⟨S, G, h⟩
theorem W.itemsCons {pos : Pos} {e : Expr} {rest : List Expr} {Q : List Value → St → Prop}
    (h : W C A S (eval e env) (fun v S₁ => W C A S₁ (spliced (backTo pos (starEach rest env))) (fun vs S₂ => Q (v :: vs) S₂) E) E)
    (he : starEach (e :: rest) env = (false, eval e env) :: starEach rest env := by rfl) : W C A S (spliced (backTo pos (starEach (e :: rest) env))) Q E := .intro fun s G =>
  wpAny_items_cons (wpAny_mono (h.1 s G) (fun _ s' ⟨_, G', q⟩ => q.1 s' G') fun _ _ x => x) he
def tupObj (vs : List Value) : Obj := { cls := .type "tuple", data := .seq vs.toArray }
theorem W.mkTuple {elts : List Expr} {k : Nat} {pos : Pos} {Q : Value → St → Prop}
    (h : W C A S (spliced (backTo pos (starEach elts env))) (fun vs S₁ => vs.length ≤ sizeLine ∧ ∀ a, Q (.ref a) ((a, .obj (tupObj vs)) :: S₁)) E) : W C A S (eval (.Tuple elts k pos) env) Q E := .intro fun s G =>
  wpAny_Tuple (wpAny_mono (h.1 s G) (fun vs s' ⟨S', G', q⟩ => ⟨q.1, _, G'.new (a := s'.heap.objs.size) (c := .obj (tupObj vs)) (fun b o e => Heap.get?_push_of_some _ e) (fresh_none _) (Heap.get?_push_size _ rfl) rfl G'.gens, q.2 _⟩) fun _ _ x => x)
theorem W.mkList {elts : List Expr} {pos : Pos} {Q : Value → St → Prop}
    (h : W C A S (spliced (backTo pos (starEach elts env))) (fun vs S₁ => vs.length ≤ sizeLine ∧ ∀ a, Q (.ref a) ((a, .list vs) :: S₁)) E) : W C A S (eval (.List elts pos) env) Q E := .intro fun s G =>
  wpAny_List (wpAny_mono (h.1 s G) (fun vs s' ⟨S', G', q⟩ => ⟨q.1, _, G'.new (a := s'.heap.objs.size) (c := .list vs) (fun b o e => Heap.get?_push_of_some _ e) (fresh_none _) ⟨_, Heap.get?_push_size _ rfl⟩ rfl G'.gens, q.2 _⟩) fun _ _ x => x)
theorem W.sub {value slice pos} {Q : Value → St → Prop} (h : W C A S (eval value env) (fun o S₁ => W C A S₁ (eval slice env) (fun i S₂ => W C A S₂ (subscriptTail value slice o i) Q E) E) E) :
    W C A S (eval (.Subscript value slice pos) env) Q E := .intro fun s G =>
  Subscript_ (wpAny_mono (h.1 s G) (fun _ s' ⟨_, G', q⟩ => wpAny_mono (q.1 s' G') (fun _ s' ⟨_, G', q⟩ => q.1 s' G') fun _ _ x => x) fun _ _ x => x)
end
end Mine
-- part B2
namespace Mine
open PySem PySem.Calls PySem.W PyProof.Rows
/-- no exception leaves -/
abbrev NoE : Value → Shared → Prop := fun _ _ => False
def retOf : Flow → Value
  | .ret v => v
  | _ => .none
def locals0 (binds : List (Str × Value)) (others : List Str) : List (Str × Option Value) := binds.map (fun b => (b.1, some b.2)) ++ others.map (fun n => (n, none))
theorem locals0_keys (binds others) : (locals0 binds others).map (·.1) = binds.map (·.1) ++ others := by simp [locals0, Function.comp_def]
theorem mapOf_locals0 (binds : List (Str × Value)) (others : List Str) (nd : ((binds.map (·.1)) ++ others).Nodup) : mapOf (locals0 binds others) = fun x => binds.reverse.lookup x := by
  funext x
  cases hx : binds.reverse.lookup x with
  | some v =>
    have hm : (x, v) ∈ binds.reverse := mem_of_lookup hx
    exact mapOf_mem (by rw [locals0_keys]; exact nd) (List.mem_append_left _ (List.mem_map.mpr ⟨(x, v), List.mem_reverse.mp hm, rfl⟩))
  | none =>
    have hn : ∀ v, (x, v) ∉ binds := fun v hv => by
      have : ∀ l : List (Str × Value), (x, v) ∈ l → l.lookup x ≠ none := by
        intro l
        induction l with
        | nil => intro h; cases h
        | cons p l ih =>
          intro h e
          rw [List.lookup_cons] at e
          cases hb : x == p.1 with
          | true => rw [hb] at e; cases e
          | false =>
            rw [hb] at e
            rcases List.mem_cons.mp h with rfl | h
            · simp at hb
            · exact ih h e
      exact this _ (List.mem_reverse.mpr hv) hx
    by_cases ho : x ∈ others
    · exact mapOf_mem (by rw [locals0_keys]; exact nd) (List.mem_append_right _ (List.mem_map.mpr ⟨x, ho, rfl⟩))
    · unfold mapOf
      have : (locals0 binds others).lookup x = none := by
        have hk : x ∉ (locals0 binds others).map (·.1) := by
          rw [locals0_keys, List.mem_append]
          rintro (h | h)
          · obtain ⟨p, hp, rfl⟩ := List.mem_map.mp h
            exact hn p.2 hp
          · exact ho h
        generalize locals0 binds others = l at hk
        induction l with
        | nil => rfl
        | cons p l ih =>
          rw [List.lookup_cons]
          have h1 : (x == p.1) = false := by
            simp only [beq_eq_false_iff_ne, ne_eq]
            rintro rfl
            exact hk (by simp)
          rw [h1]
          exact ih fun h => hk (by simp [h])
      rw [this]; rfl
/-- at F stands the def fd -/
structure FnIs (C : Cx) (F : Addr) (fd : FuncData) : Prop where
  at_ : ∃ o, C.base.get? F = some o ∧ o.data = .func fd
  code : C.base.CodeRec fd.code fd.qualname
  nolimit : C.base.NoLimit
section
variable {α β : Type} {C : Cx} {A : Around} {S : St} {E : Value → Shared → Prop} {env : Env}
theorem Good.enter {s s' : Shared} {L : Addr} {c : Cell} {S₁ : St} (G : Good C A S s) {env : Env} (hf : env.frame = some L) (hk : env.scope.kind ≠ .module) (G' : Good C A S₁ s') (hm : ∃ l, (L, .ns l) ∈ S₁) : Good C (A.deeper env) S₁ s' :=
  { G' with
    frames := by
      obtain ⟨fr, e, f⟩ := G'.frames
      obtain ⟨l, hl⟩ := hm
      have ⟨n1, n2, n3⟩ := G'.sat _ hl
      obtain ⟨⟨o, es, ep, e1, e2, _⟩, _⟩ := n3
      refine ⟨env :: fr, by show A.frames.map _ = _; rw [e]; rfl, fun env' he => ?_⟩
      rcases List.mem_cons.mp he with rfl | he
      · exact ⟨hk, L, o, es, ep, hf, n1, e1, e2⟩
      · exact f env' he }
theorem Good.leave {s : Shared} {env : Env} (G : Good C (A.deeper env) S s) (hA : ∃ fr, A.frames = some fr) : Good C A S s :=
  { G with
    frames := by
      obtain ⟨fr, e⟩ := hA
      obtain ⟨fr', e', f⟩ := G.frames
      refine ⟨fr, e, ?_⟩
      have : A.frames.map (env :: ·) = some fr' := e'
      rw [e] at this
      cases this
      exact fun env' he => f env' (.tail _ he) }
/-- a call of a def without cells -/
theorem W.callDef {F : Addr} {fd : FuncData} {n : Nat} {body : List Stmt} {vals : List Value} {kw : List (Str × Value)} {binds : List (Str × Value)} {Q : Value → St → Prop} (names others : List Str)
    (hF : FnIs C F fd) (R : Room A (n + 1)) (hbody : fd.body = .stmts body) (hbind : ∀ s, Good C A S s → BindsTo s fd ⟨vals, kw⟩ binds)
    (hcell : ∀ x ∈ fd.scope.names, x.2 ≠ .cell) (hloc : ∀ x ∈ names, fd.scope.names.lookup x = some .local) (hnd : (names ++ others).Nodup)
    (h : ∀ L, Room (A.deeper (callEnv fd L F)) n → W C (A.deeper (callEnv fd L F)) ((L, .ns (locals0 binds others)) :: S) (execs body (callEnv fd L F)) (fun fl S' => ∃ S'', S''.Sublist S' ∧ Q (retOf fl) S'') NoE)
    (hco : fd.scope.isCoroutine = false := by rfl) (hgen : fd.scope.isGenerator = false := by rfl) (hk : fd.scope.kind = .function := by rfl) (hnm : binds.map (·.1) = names := by rfl) : W C A S (call (.ref F) vals kw) Q E := .intro fun s G => by
  subst hnm
  obtain ⟨⟨o, ho, hd⟩, hcd, hlim⟩ := hF
  refine wpAny_call (codeAny_call_def (binds := binds) (body := body) (by have := R.depth; omega) (G.keep _ _ ho) hd (hlim.keeps G.keep) (hcd.keeps G.keep) hbody (hbind s G) hcell (fun x hx => hloc _ (List.mem_map.mpr ⟨x, hx, rfl⟩)) (fun h₀ hn k => ?_) hco hgen hk)
  have hA : ∃ fr, A.frames = some fr := let ⟨fr, e, _⟩ := G.frames; ⟨fr, e⟩
  have G1 : Good C A ((s.heap.objs.size, .ns (locals0 binds others)) :: S) { s with heap := h₀, toks := s.toks + binds.length } :=
    G.new k (fresh_none _) ⟨by rw [mapOf_locals0 _ _ hnd]; exact hn, by rw [locals0_keys]; exact hnd⟩ rfl G.gens
  refine wpAny_mono ((h _ R.deeper).1 _ (Good.enter (c := .cell none) G (env := callEnv fd s.heap.objs.size F) rfl (by show fd.scope.kind ≠ _; rw [hk]; decide) G1 ⟨_, .head _⟩)) (fun fl s' ⟨S', G', S'', hs, q⟩ => ?_) (fun _ _ x => x.elim)
  exact ⟨S'', (G'.leave hA).weaken hs, q⟩
-- how a call comes to «call»
theorem W.callName {id : Str} {p pos : Pos} {args : List Expr} {keywords : List Keyword} {Q : Value → St → Prop}
    (h : W C A S (eval (.Name id p) env) (fun f S₁ => W C A S₁ (callWith pos f [] (backTo pos (starEach args env)) (backToKw pos (keywordEach keywords env))) Q E) E) :
    W C A S (eval (.Call (.Name id p) args keywords pos) env) Q E := .intro fun s G =>
  wpAny_Call_Name_kw (wpAny_mono (h.1 s G) (fun _ s' ⟨_, G', q⟩ => q.1 s' G') fun _ _ x => x)
theorem W.withFn {F : Addr} {fd : FuncData} {pos : Pos} {first : List Value} {e : Expr} {rest : List Expr} {Q : Value → St → Prop} (hF : FnIs C F fd)
    (h : W C A S (spliced (backTo pos (starEach (e :: rest) env))) (fun vs S₁ => W C A S₁ (call (.ref F) (first ++ vs)) Q E) E)
    (he : starEach (e :: rest) env = (false, eval e env) :: starEach rest env := by rfl) : W C A S (callWith pos (.ref F) first (backTo pos (starEach (e :: rest) env)) []) Q E := .intro fun s G => by
  obtain ⟨⟨o, ho, hd⟩, _, _⟩ := hF
  refine callWith_function (o := o) (fd := fd) ?_
  rw [show backTo pos (starEach (e :: rest) env) = (false, eval e env) :: backTo pos (starEach rest env) from by rw [he]; rfl]
  refine evalArgs_plain ?_
  rw [show (false, eval e env) :: backTo pos (starEach rest env) = backTo pos (starEach (e :: rest) env) from by rw [he]; rfl]
  exact wpAny_mono (h.1 s G) (fun vs s' ⟨S', G', q⟩ => ⟨⟨G'.keep _ _ ho, hd⟩, q.1 s' G'⟩) fun _ _ x => x
theorem W.withB {id : String} {pos : Pos} {first : List Value} {e : Expr} {rest : List Expr} {Q : Value → St → Prop}
    (h : W C A S (spliced (backTo pos (starEach (e :: rest) env))) (fun vs S₁ => W C A S₁ (call (.builtin id) (first ++ vs)) Q E) E)
    (he : starEach (e :: rest) env = (false, eval e env) :: starEach rest env := by rfl) (hplain : (backTo pos (starEach rest env)).any (·.1) = false := by rfl) :
    W C A S (callWith pos (.builtin id) first (backTo pos (starEach (e :: rest) env)) []) Q E := .intro fun s G =>
  callWith_method1 (wpAny_mono (h.1 s G) (fun _ s' ⟨_, G', q⟩ => q.1 s' G') fun _ _ x => x) he hplain
theorem W.withB0 {id : String} {pos : Pos} {first : List Value} {Q : Value → St → Prop} (h : W C A S (call (.builtin id) first) Q E) : W C A S (callWith pos (.builtin id) first (backTo pos (starEach [] env)) []) Q E := .intro fun s G =>
  callWith_method0 (h.1 s G)
theorem W.withT {T : String} {pos : Pos} {e : Expr} {rest : List Expr} {Q : Value → St → Prop}
    (h : W C A S (spliced (backTo pos (starEach (e :: rest) env))) (fun vs S₁ => W C A S₁ (call (.type T) vs) Q E) E)
    (he : starEach (e :: rest) env = (false, eval e env) :: starEach rest env := by rfl) (hplain : (backTo pos (starEach rest env)).any (·.1) = false := by rfl) :
    W C A S (callWith pos (.type T) [] (backTo pos (starEach (e :: rest) env)) []) Q E := .intro fun s G =>
  PyProof.Rows.callWith_type1 (wpAny_mono (h.1 s G) (fun _ s' ⟨_, G', q⟩ => q.1 s' G') fun _ _ x => x) he hplain
/-- a method of a built-in type, by its slot -/
theorem W.callMeth {o : Expr} {name : Str} {apos pos : Pos} {args : List Expr} {T id : String} {Q : Value → St → Prop}
    (pa : PlainAttrs T) (slot : Slot T name id) (hty : typeOf (.builtin id) = Pure.pure (.type "method_descriptor"))
    (h : W C A S (eval o env) (fun ov S₁ => (∀ s, Good C A S₁ s → s.TypeIs ov T ∧ ∀ a, ov = .ref a → ∃ ob, s.heap.get? a = some ob ∧ ob.dict = none) ∧
      W C A S₁ (callWith pos (.builtin id) [ov] (backTo pos (starEach args env)) []) Q E) E)
    (hbase : attributeBase o name env (eval o env) = eval o env := by rfl)
    (hfew : ((backTo pos (starEach args env)).all (fun x => !x.1) && (backToKw pos (keywordEach [] env)).all (fun x => x.1.isSome)
      && decide (args.length + ([] : List Keyword).length + (if ([] : List Keyword).isEmpty then 0 else 1) < 30)) = true := by rfl)
    (hline : (apos.endLine == pos.line) = true := by rfl) :
    W C A S (eval (.Call (.Attribute o name apos) args [] pos) env) Q E := .intro fun s G =>
  wpAny_Call_method hbase hfew hline pa slot hty (wpAny_mono (h.1 s G) (fun ov s' ⟨S', G', q1, q2⟩ => ⟨(q1 s' G').1, (q1 s' G').2, q2.1 s' G'⟩) fun _ _ x => x)
end
end Mine
-- part B3
namespace Mine
open PySem PySem.Calls PySem.W PyProof.Rows
section
variable {α β : Type} {C : Cx} {A : Around} {S : St} {E : Value → Shared → Prop} {env : Env}
theorem Good.list {s : Shared} {a : Addr} {vs : List Value} (G : Good C A S s) (h : (a, .list vs) ∈ S) : s.heap.IsList a vs.toArray :=
  let ⟨n, e⟩ := (G.sat _ h).2.2; ⟨_, e, rfl, n, rfl⟩
-- len, truth
theorem W.lenL {a : Addr} {vs : List Value} {Q : Value → St → Prop} (hm : (a, .list vs) ∈ S) (h : ∀ t, Q (.int vs.length t) S) (hsz : vs.length ≤ 1000) : W C A S (call (.builtin "len") [.ref a]) Q E := .intro fun s G =>
  call_len_list (G.list hm) (by simp; omega) ⟨S, G.tok _, by simpa using h _⟩
theorem W.lenS {x : Str} {t : Tok} {Q : Value → St → Prop} (h : ∀ t', Q (.int x.length t') S) (hsz : x.length ≤ 100000) : W C A S (call (.builtin "len") [.str x t]) Q E := .intro fun s G =>
  PyProof.Rows.len_str (by omega) ⟨S, G.tok _, h _⟩
theorem W.truL {a : Addr} {vs : List Value} {Q : Bool → St → Prop} (hm : (a, .list vs) ∈ S) (h : Q (!vs.isEmpty) S) (hsz : vs.length ≤ 1000) : W C A S (truthy (.ref a)) Q E := .intro fun s G =>
  wpAny_truthy_list (G.list hm) (by simp; omega) ⟨S, G.tok _, by simpa using h⟩
theorem W.truS {x : Str} {t : Tok} {Q : Bool → St → Prop} (h : Q ((x.length : Int) != 0) S) (hsz : x.length ≤ 100000) : W C A S (truthy (.str x t)) Q E := .intro fun s G =>
  PySem.P.truthy_str (by omega) ⟨S, G.tok _, h⟩
-- items
theorem W.itemL {value slice : Expr} {a : Addr} {vs : List Value} {k : Int} {t : Tok} {x : Value} {Q : Value → St → Prop} (hm : (a, .list vs) ∈ S) (h0 : 0 ≤ k) (hk : k < 1000) (hx : vs[k.toNat]? = some x) (h : Q x S)
    (hs : subscripted slice false (.ref a) (.int k t) = operate [.ref a, .int k t] (getItem (.ref a) (.int k t)) := by with_unfolding_all rfl) :
    W C A S (subscriptTail value slice (.ref a) (.int k t)) Q E := .intro fun s G =>
  tail_any (G.list hm).typeIs PySem.slot_list_getitem.lookup (wpAny_getItem_list (G.list hm) h0 (by omega) (by simpa using hx) ⟨S, G, h⟩) hs
theorem W.itemLneg {value slice : Expr} {a : Addr} {vs : List Value} {k : Int} {t : Tok} {x : Value} {Q : Value → St → Prop} (hm : (a, .list vs) ∈ S) (h0 : k < 0) (hk : -(vs.length : Int) ≤ k) (hkl : -1000 < k) (hx : vs[(k + vs.length).toNat]? = some x) (h : Q x S)
    (hs : subscripted slice false (.ref a) (.int k t) = operate [.ref a, .int k t] (getItem (.ref a) (.int k t)) := by with_unfolding_all rfl) :
    W C A S (subscriptTail value slice (.ref a) (.int k t)) Q E := .intro fun s G =>
  tail_any (G.list hm).typeIs PySem.slot_list_getitem.lookup (wpAny_getItem_list_neg (G.list hm) h0 (by simpa using hk) (by omega) (by simpa using hx) ⟨S, G, h⟩) hs
theorem W.itemS {value slice : Expr} {y : Str} {u : Tok} {k : Int} {t : Tok} {c : Nat} {Q : Value → St → Prop} (h0 : 0 ≤ k) (hk : k < 100000) (hx : y.cps[k.toNat]? = some c) (h : ∀ t', Q (.str ⟨#[c]⟩ t') S)
    (hs : subscripted slice false (.str y u) (.int k t) = operate [.str y u, .int k t] (getItem (.str y u) (.int k t)) := by with_unfolding_all rfl) :
    W C A S (subscriptTail value slice (.str y u) (.int k t)) Q E := .intro fun s G => by
  refine tail_any (T := "str") (id := "str.__getitem__") rfl PySem.F.slot_str_getitem.lookup (PyProof.Rows.getItem_str (c := c) ?_ ?_ ⟨S, G.tok _, h _⟩) hs
  · simp; omega
  · have : k.toNat < y.cps.size := (Array.getElem?_eq_some_iff.mp hx).1
    have e : seqIndex? k y.length = some k.toNat := by
      unfold seqIndex? Str.length
      simp; omega
    rw [e]; exact hx
theorem W.itemT {value slice : Expr} {a : Addr} {vs : List Value} {k : Int} {t : Tok} {x : Value} {Q : Value → St → Prop} (hm : (a, .obj (tupObj vs)) ∈ S) (h0 : 0 ≤ k) (hk : k < 1000) (hx : vs[k.toNat]? = some x) (h : Q x S)
    (hs : subscripted slice false (.ref a) (.int k t) = operate [.ref a, .int k t] (getItem (.ref a) (.int k t)) := by with_unfolding_all rfl) :
    W C A S (subscriptTail value slice (.ref a) (.int k t)) Q E := .intro fun s G => by
  have hb : k.toNat < vs.length := (List.getElem?_eq_some_iff.mp hx).1
  refine item_tupleT (l := vs) ⟨_, (G.sat _ hm).2.2, rfl, 0, rfl⟩ (by omega) (by omega) (j := k.toNat) ?_ hx ⟨S, G, h⟩ hs
  unfold seqIndex?
  simp; omega
-- comparisons
theorem W.eqS {x y : Str} {t u : Tok} {Q : Value → St → Prop} (h : Q (.bool (x == y)) S) : W C A S (compareOp .Eq (.str x t) (.str y u)) Q E := .intro fun s G => PyProof.Rows.eq_str ⟨S, G, h⟩
theorem W.neS {x y : Str} {t u : Tok} {Q : Value → St → Prop} (h : Q (.bool (x != y)) S) : W C A S (compareOp .NotEq (.str x t) (.str y u)) Q E := .intro fun s G => PyProof.Rows.ne_str ⟨S, G, h⟩
theorem W.inLS {a : Addr} {vs : List Value} {ys : List Str} {k : Str} {t : Tok} {Q : Value → St → Prop} (hm : (a, .list vs) ∈ S) (hi : StrsAre vs ys) (h : Q (.bool (ys.any (· == k))) S) : W C A S (compareOp .In (.str k t) (.ref a)) Q E := .intro fun s G =>
  in_list_strs (G.list hm) hi ⟨S, G, h⟩
-- sums
theorem W.addS {x y : Str} {t u : Tok} {Q : Value → St → Prop} (h : ∀ t', Q (.str (x ++ y) t') S) (hsz : x.length + y.length ≤ 100000) : W C A S (binaryOp .Add (.str x t) (.str y u)) Q E := .intro fun s G =>
  PyProof.Rows.add_str (fun t' tk => ⟨S, G.tok _, h _⟩) (by rw [sizeLine_eq]; omega)
theorem W.iaddS {x y : Str} {t u : Tok} {Q : Value → St → Prop} (h : ∀ t', Q (.str (x ++ y) t') S) (hsz : x.length + y.length ≤ 100000) : W C A S (inplaceOp .Add (.str x t) (.str y u)) Q E := .intro fun s G =>
  PyProof.Rows.iadd_str (fun t' tk => ⟨S, G.tok _, h _⟩) (by rw [sizeLine_eq]; omega)
theorem W.addL {a b : Addr} {xs ys : List Value} {Q : Value → St → Prop} (ha : (a, .list xs) ∈ S) (hb : (b, .list ys) ∈ S) (h : ∀ c, Q (.ref c) ((c, .list (xs ++ ys)) :: S)) (hsz : xs.length + ys.length ≤ 1000) :
    W C A S (binaryOp .Add (.ref a) (.ref b)) Q E := .intro fun s G => by
  obtain ⟨n, e⟩ := (G.sat _ ha).2.2
  obtain ⟨m, f⟩ := (G.sat _ hb).2.2
  refine PySem.P.add_list e f ⟨_, G.new (c := .list (xs ++ ys)) (fun b o e => Heap.get?_push_of_some _ e) (fresh_none _) ⟨0, ?_⟩ rfl G.gens, h _⟩ (by rw [sizeLine_eq]; simp; omega)
  rw [show (xs ++ ys).toArray = xs.toArray ++ ys.toArray from by simp]
  exact Heap.get?_push_size _ rfl
theorem W.append {a : Addr} {vs : List Value} {x : Value} {S'} {Q : Value → St → Prop} (hu : Upd a (.list vs) (.list (vs ++ [x])) S S') (h : Q .none S') (hsz : vs.length ≤ 1000) : W C A S (call (.builtin "list.append") [.ref a, x]) Q E := .intro fun s G => by
  obtain ⟨n, e⟩ := (G.sat _ hu.mem).2.2
  refine call_meets F.slot_list_append (G.list hu.mem).typeIs F.entry_list_append (args_list_append _ _) (list_append a vs.toArray n x (by rw [sizeLine_eq]; simp; omega)) ⟨e, S', ?_, h⟩
  refine G.change hu (Heap.SameBut.update ..) ⟨n + 1, ?_⟩ trivial (fun x => absurd x ((G.sat _ hu.mem).2.2.notDict trivial)) rfl G.gens
  have := Heap.get?_update_self (Obj.mapSeq fun x_1 => x_1.push x) e rfl
  rw [show s.heap.update a (Obj.mapSeq fun x_1 => x_1.push x) = _ from rfl]
  refine this.trans ?_
  simp [Obj.mapSeq]
end
end Mine
-- part B4
namespace Mine
open PySem PySem.Calls PySem.W PyProof.Rows
section
variable {α β : Type} {C : Cx} {A : Around} {S : St} {E : Value → Shared → Prop} {env : Env}
-- fields of a record
theorem W.field {a : Addr} {T : String} {vs : Array Value} {i : Nat} {x : Value} {Q : Value → St → Prop} (hm : (a, .fobj T vs) ∈ S) (hx : vs[i]? = some x) (h : Q x S) : W C A S (field (.ref a) i) Q E := .intro fun s G => by
  obtain ⟨o, ho, _, hd⟩ := (G.sat _ hm).2.2
  exact wpAny_field ho hd hx ⟨S, G, h⟩
theorem W.setField {a : Addr} {T : String} {vs : Array Value} {i : Nat} {x : Value} {S'} {Q : Unit → St → Prop} (hu : Upd a (.fobj T vs) (.fobj T (vs.setIfInBounds i x)) S S') (hT : T ≠ "code") (hi : i < vs.size) (h : Q () S') : W C A S (setField (.ref a) i x) Q E := .intro fun s G => by
  obtain ⟨o, ho, hc, hd⟩ := (G.sat _ hu.mem).2.2
  refine wpAny_setField ho hd hi ⟨S', G.change hu (Heap.SameBut.update ..) ⟨_, Heap.get?_update_self _ ho (Obj.isFreed_of_fields (Obj.data_mapFields hd _)), (Obj.cls_mapFields ..).trans hc, Obj.data_mapFields hd _⟩ hT (fun x => absurd x ((G.sat _ hu.mem).2.2.notDict trivial)) rfl G.gens, h⟩
theorem W.mkI {i : Int} {Q : Value → St → Prop} (h : ∀ t, Q (.int i t) S) : W C A S (mkInt i) Q E := .intro fun s G => wpAny_mkInt ⟨S, G.tok _, h _⟩
theorem W.newTup {vs : List Value} {Q : Value → St → Prop} (h : ∀ a, Q (.ref a) ((a, .obj (tupObj vs)) :: S)) (hsz : vs.length ≤ 1000) : W C A S (newTuple vs) Q E := .intro fun s G => by
  refine wpAny_newTuple ⟨_, G.new (c := .obj (tupObj vs)) (fun b o e => Heap.get?_push_of_some _ e) (fresh_none _) (Heap.get?_push_size _ rfl) rfl G.gens, h _⟩ ?_
  rw [sizeLine_eq]; omega
-- for loops, the tuple that the iterator owns too
theorem codeAny_forLoop' {prog : Program} {w : World} {s : Shared} {R : Result → Shared → Prop} {target : Expr} {it : Value} {body orelse : List Stmt} (I : Nat → Shared → Prop)
    (turn : ∀ n s, I n s → wpAny (model prog w) A (pyNext it) (fun r s₁ => match r with
      | none => wpAny (model prog w) A (execs orelse env) (fun f s₃ => R (.ok f) s₃) (notedBy (model prog w) A env fun e s' => R (.error e) s') s₁
      | some v => wpAny (model prog w) A (letOwnedTupleGo target it v) (fun _ s₁ => wpAny (model prog w) A (assign target env v) (fun _ s₂ => wpAny (model prog w) A (execs body env) (fun f s₃ => match f with
          | .next | .cont => ∃ m, m < n ∧ I m s₃
          | .brk => R (.ok .next) s₃
          | .ret v => R (.ok (.ret v)) s₃) (notedBy (model prog w) A env fun e s' => R (.error e) s') s₂) (notedBy (model prog w) A env fun e s' => R (.error e) s') s₁) (notedBy (model prog w) A env fun e s' => R (.error e) s') s₁) (notedBy (model prog w) A env fun e s' => R (.error e) s') s)
    (n : Nat) (h : I n s) : codeAny (model prog w) A (.forLoop target it body orelse env) R s := by
  refine codeAny_loop' rfl I (fun n s hI => ?_) n h
  show wpAny _ _ ((forTurn target it body orelse env).onRaise (fun x => do noteFrame x env; theTreesLotGoes x)) _ _ s
  refine wpAny_noted ?_
  simp only [forTurn]
  refine wpAny_bind (wpAny_standAt (wpAny_bind (wpAny_onRaise (wpAny_mono (turn n s hI) (fun r s₁ h₁ => ?_) fun _ _ h' => wpAny_standAt h'))))
  cases r with
  | none => exact wpAny_pure (.inr ⟨rfl, codeAny_block h₁⟩)
  | some v =>
    refine wpAny_bind (wpAny_mono h₁ (fun _ s₁ h₁ => ?_) fun _ _ h' => h')
    refine wpAny_bind (wpAny_mono h₁ (fun _ s₂ h₂ => wpAny_bind (wpAny_mono h₂ (fun f s₃ h₃ => ?_) fun _ _ h' => h')) fun _ _ h' => h')
    cases f with
    | next => exact wpAny_pure (.inl ⟨rfl, h₃⟩)
    | cont => exact wpAny_pure (.inl ⟨rfl, h₃⟩)
    | brk => exact wpAny_pure h₃
    | ret v => exact wpAny_pure h₃
/-- an iterator: its objects before the i-th item; what it yields, with the objects behind it -/
structure Iter (C : Cx) (A : Around) (it : Value) (n : Nat) (K : Nat → St → Prop) (D : St → Prop) (V : Nat → Value → St → Prop) : Prop where
  item : ∀ i, i < n → ∀ X S E, K i X → D S → W C A (X ++ S) (pyNext it) (fun r S' => ∃ v Y, r = some v ∧ V i v Y ∧ S' = Y ++ S) E
  stop : ∀ X S E, K n X → D S → W C A (X ++ S) (pyNext it) (fun r S' => r = none ∧ S' = S) E
/-- a for loop: T is what holds before the i-th turn -/
structure ForBody (C : Cx) (A : Around) (env : Env) (target : Expr) (body : List Stmt) (it : Value) (n : Nat) (K : Nat → St → Prop) (V : Nat → Value → St → Prop) (D : St → Prop) (T : Nat → St → Prop) (Q : Flow → St → Prop) : Prop where
  dep : ∀ i S, T i S → D S
  turn : ∀ i, i < n → ∀ v Y S, V i v Y → T i S → W C A (Y ++ S) (letOwnedTupleGo target it v) (fun _ S₁ => W C A S₁ (assign target env v) (fun _ S₂ => W C A S₂ (execs body env) (fun f S₃ => match f with
      | .next | .cont => ∃ X S₄, K (i + 1) X ∧ (X ++ S₄).Sublist S₃ ∧ T (i + 1) S₄
      | .brk => Q .next S₃
      | .ret v => Q (.ret v) S₃) NoE) NoE) NoE
  fin : ∀ S, T n S → Q .next S
theorem W.sFor {target iter body pos} {Q : Flow → St → Prop}
    (h : W C A S (eval iter env) (fun x S₁ => W C A S₁ (pyIter x) (fun it S₂ => ∃ n K D V X S₃ T, Iter C A it n K D V ∧ ForBody C A env target body it n K V D T Q ∧ K 0 X ∧ (X ++ S₃).Sublist S₂ ∧ T 0 S₃) NoE) NoE)
    (hs : ∀ x, foldedSetIterable iter env x = Pure.pure x := by intro _; rfl) :
    W C A S (exec (.For target iter body [] pos) env) Q E := .intro fun s G => by
  refine wpAny_For (wpAny_mono (h.1 s G) (fun x s₁ ⟨S₁, G₁, q₁⟩ => wpAny_mono (q₁.1 s₁ G₁) (fun it s₂ ⟨S₂, G₂, q₂⟩ => ?_) fun _ _ x => x.elim) fun _ _ x => x.elim) hs
  obtain ⟨n, K, D, V, X, S₃, T, I, B, hK, hsub, hT⟩ := q₂
  refine codeAny_forLoop' (fun m s' => ∃ i, m = n - i ∧ i ≤ n ∧ ∃ X S', K i X ∧ T i S' ∧ Good C A (X ++ S') s') (fun m s' ⟨i, hm, hi, X, S', hK', hT', G'⟩ => ?_) (n - 0) ⟨0, rfl, Nat.zero_le _, X, S₃, hK, hT, G₂.weaken hsub⟩
  rcases Nat.lt_or_ge i n with hlt | hge
  · refine wpAny_mono ((I.item i hlt X S' NoE hK' (B.dep i S' hT')).1 s' G') (fun r s₃ ⟨S₄, G₄, v, Y, e1, hV, e2⟩ => ?_) fun _ _ x => x.elim
    subst e1 e2
    refine wpAny_mono ((B.turn i hlt v Y S' hV hT').1 s₃ G₄) (fun _ s₅ ⟨S₅, G₅, q₅⟩ => wpAny_mono (q₅.1 s₅ G₅) (fun _ s₆ ⟨S₆, G₆, q₆⟩ => wpAny_mono (q₆.1 s₆ G₆) (fun f s₇ ⟨S₇, G₇, q₇⟩ => ?_) fun _ _ x => x.elim) fun _ _ x => x.elim) fun _ _ x => x.elim
    cases f with
    | next => obtain ⟨X', S₈, hK, hs, hT⟩ := q₇; exact ⟨n - (i + 1), by omega, i + 1, rfl, hlt, X', S₈, hK, hT, G₇.weaken hs⟩
    | cont => obtain ⟨X', S₈, hK, hs, hT⟩ := q₇; exact ⟨n - (i + 1), by omega, i + 1, rfl, hlt, X', S₈, hK, hT, G₇.weaken hs⟩
    | brk => exact ⟨S₇, G₇, q₇⟩
    | ret v => exact ⟨S₇, G₇, q₇⟩
  · obtain rfl : i = n := Nat.le_antisymm hi hge
    refine wpAny_mono ((I.stop X S' NoE hK' (B.dep i S' hT')).1 s' G') (fun r s₃ ⟨S₄, G₄, e1, e2⟩ => ?_) fun _ _ x => x.elim
    subst e1 e2
    exact wpAny_execs_nil ⟨S₄, G₄, B.fin _ hT'⟩
theorem W.goName {x : Str} {p : Pos} {it v : Value} {Q : Unit → St → Prop} (h : Q () S) : W C A S (letOwnedTupleGo (.Name x p) it v) Q E := W.pur h
theorem W.asName {x : Str} {p : Pos} {v : Value} {Q : Unit → St → Prop} (h : W C A S (storeName env x v) Q E) : W C A S (assign (.Name x p) env v) Q E := .intro fun s G => PyProof.Rows.assign_Name (h.1 s G)
-- lists
def liCell (l : Addr) (i : Nat) : Cell := .fobj "list_iterator" #[.ref l, .int i 0]
theorem W.iterL {l : Addr} {vs : List Value} {Q : Value → St → Prop} (hm : (l, .list vs) ∈ S) (h : ∀ it, Q (.ref it) ((it, liCell l 0) :: S)) : W C A S (pyIter (.ref l)) Q E := .intro fun s G =>
  wpAny_pyIter_list (G.list hm) ⟨_, G.new (c := liCell l 0) (fun b o e => Heap.get?_push_of_some _ e) (fresh_none _) ⟨_, Heap.get?_push_size _ rfl, rfl, rfl⟩ rfl G.gens, h _⟩
theorem Iter.list {it l : Addr} {vs : List Value} (hh : A.handled = none) : Iter C A (.ref it) vs.length (fun i X => X = [(it, liCell l i)]) (fun S => (l, .list vs) ∈ S) (fun i v Y => vs[i]? = some v ∧ Y = [(it, liCell l (i + 1))]) where
  item := fun i hi X S E hX hD => .intro fun s G => by
    subst hX
    have hit : s.heap.IsListIter it l i := (G.sat (it, liCell l i) (.head _)).2.2
    refine wpAny_pyNext_list_item (x := vs[i]) hit (G.list (.tail _ hD)) (by simp [hi]) fun h' hi' hs => ⟨(it, liCell l (i + 1)) :: S, G.change .here hs hi' (by show "list_iterator" ≠ "code"; decide) (fun x => absurd x ((G.sat (it, liCell l i) (.head _)).2.2.notDict trivial)) rfl G.gens, _, _, rfl, ⟨by simp [hi], rfl⟩, rfl⟩
  stop := fun X S E hX hD => .intro fun s G => by
    subst hX
    have hit : s.heap.IsListIter it l vs.length := (G.sat (it, liCell l vs.length) (.head _)).2.2
    refine wpAny_pyNext_list_end hh hit (G.list (.tail _ hD)) (by simp) fun h' hs => ⟨S, G.lose .here hs (by show "list_iterator" ≠ "code"; decide) trivial rfl G.gens, rfl, rfl⟩
-- texts
def siCell (x : Str) (t : Tok) (i : Nat) : Cell := .fobj (strIterType x) #[.str x t, .int i 0]
theorem siCell_notCode {x : Str} {t : Tok} {i : Nat} : (siCell x t i).notCode := by
  show strIterType x ≠ "code"
  unfold strIterType
  split <;> decide
theorem W.iterS {x : Str} {t : Tok} {Q : Value → St → Prop} (h : ∀ it, Q (.ref it) ((it, siCell x t 0) :: S)) : W C A S (pyIter (.str x t)) Q E := .intro fun s G =>
  wpAny_pyIter_strU ⟨_, G.new (c := siCell x t 0) (fun b o e => Heap.get?_push_of_some _ e) (fresh_none _) ⟨_, Heap.get?_push_size _ rfl, rfl, rfl⟩ rfl G.gens, h _⟩
theorem Iter.str {it : Addr} {x : Str} {t : Tok} (hh : A.handled = none) : Iter C A (.ref it) x.cps.size (fun i X => X = [(it, siCell x t i)]) (fun S => True) (fun i v Y => (∃ c u, x.cps[i]? = some c ∧ v = .str ⟨#[c]⟩ u) ∧ Y = [(it, siCell x t (i + 1))]) where
  item := fun i hi X S E hX hD => .intro fun s G => by
    subst hX
    have hit : s.heap.IsStrIter it (strIterType x) x t i := (G.sat (it, siCell x t i) (.head _)).2.2
    have hn := (G.sat (it, siCell x t i) (.head _)).2.2.notDict trivial
    unfold strIterType at hit
    split at hit
    · rename_i ha
      refine wpAny_pyNext_ascii_item (c := x.cps[i]) hit (by simp [hi]) fun h' hi' hs => ⟨(it, siCell x t (i + 1)) :: S, G.change .here hs ?_ siCell_notCode (fun x => absurd x hn) rfl G.gens, _, _, rfl, ⟨⟨_, _, by simp [hi], rfl⟩, rfl⟩, rfl⟩
      show Heap.IsStrIter h' it (strIterType x) x t (i + 1)
      unfold strIterType; rw [if_pos ha]; exact hi'
    · rename_i ha
      refine wpAny_pyNext_wide_item (c := x.cps[i]) hit (by simp [hi]) fun h' hi' hs => ⟨(it, siCell x t (i + 1)) :: S, G.change .here hs ?_ siCell_notCode (fun x => absurd x hn) rfl G.gens, _, _, rfl, ⟨⟨_, _, by simp [hi], rfl⟩, rfl⟩, rfl⟩
      show Heap.IsStrIter h' it (strIterType x) x t (i + 1)
      unfold strIterType; rw [if_neg ha]; exact hi'
  stop := fun X S E hX hD => .intro fun s G => by
    subst hX
    have hit : s.heap.IsStrIter it (strIterType x) x t x.cps.size := (G.sat (it, siCell x t x.cps.size) (.head _)).2.2
    unfold strIterType at hit
    split at hit
    · exact wpAny_pyNext_ascii_end hh hit (by simp) fun h' hs => ⟨S, G.lose .here hs siCell_notCode trivial rfl G.gens, rfl, rfl⟩
    · exact wpAny_pyNext_wide_end hh hit (by simp) fun h' hs => ⟨S, G.lose .here hs siCell_notCode trivial rfl G.gens, rfl, rfl⟩
-- ranges
def rngCell (x left step : Int) : Cell := .fobj "range_iterator" #[rawInt x, rawInt left, rawInt step]
end
end Mine
-- part B5
namespace Mine
open PySem PySem.Calls PySem.W PyProof.Rows
section
variable {α β : Type} {C : Cx} {A : Around} {S : St} {E : Value → Shared → Prop} {env : Env}
def rangeObj (a b c : Int) (t u v : Tok) : Obj := { cls := .type "range", data := .fields #[.int a t, .int b u, .int c v] }
def rngObj (x left step : Int) : Obj := { cls := .type "range_iterator", data := .fields #[rawInt x, rawInt left, rawInt step] }
theorem W.range1 {n : Int} {t : Tok} {Q : Value → St → Prop} (h : ∀ a t0 t1, Q (.ref a) ((a, .obj (rangeObj 0 n 1 t0 t t1)) :: S)) : W C A S (call (.type "range") [.int n t]) Q E := .intro fun s G =>
  call_range_1 ⟨_, G.new (c := .obj (rangeObj 0 n 1 s.toks t (s.toks + 1))) (fun b o e => Heap.get?_push_of_some _ e) (fresh_none _) (Heap.get?_push_size _ rfl) rfl G.gens, h _ _ _⟩
theorem W.range3 {a b : Int} {t u v : Tok} {Q : Value → St → Prop} (h : ∀ r, Q (.ref r) ((r, .obj (rangeObj a b (-1) t u v)) :: S)) (hb : -1000 < b - a) (hb' : b - a < 1000) : W C A S (call (.type "range") [.int a t, .int b u, .int (-1) v]) Q E := .intro fun s G =>
  call_range_3 (by decide) ⟨_, G.new (c := .obj (rangeObj a b (-1) t u v)) (fun b o e => Heap.get?_push_of_some _ e) (fresh_none _) (Heap.get?_push_size _ rfl) rfl G.gens, h _⟩
    (.inl (PyProof.noPylong_small (by omega)))
theorem W.iterR {r : Addr} {a b c : Int} {t u v : Tok} {n : Nat} {Q : Value → St → Prop} (hm : (r, .obj (rangeObj a b c t u v)) ∈ S) (hs : Builtin.Range.small a b c = true) (hn : Builtin.Range.rangeSize a b c = n) (h : ∀ it, Q (.ref it) ((it, .obj (rngObj a n c)) :: S)) : W C A S (pyIter (.ref r)) Q E := .intro fun s G =>
  wpAny_pyIter_range (G.sat _ hm).2.2 hs ⟨_, G.new (c := .obj (rngObj a n c)) (fun b o e => Heap.get?_push_of_some _ e) (fresh_none _) (by rw [← hn]; exact Heap.get?_push_size _ rfl) rfl G.gens, h _⟩
theorem Iter.range {it : Addr} {a c : Int} {n : Nat} (hh : A.handled = none) : Iter C A (.ref it) n (fun i X => X = [(it, .obj (rngObj (a + i * c) (n - i) c))]) (fun S => True) (fun i v Y => (∃ u, v = .int (a + i * c) u) ∧ Y = [(it, .obj (rngObj (a + (i + 1 : Nat) * c) (n - (i + 1 : Nat)) c))]) where
  item := fun i hi X S E hX hD => .intro fun s G => by
    subst hX
    have hit := (G.sat _ (.head _)).2.2
    refine wpAny_pyNext_range_item (x := a + i * c) (left := n - i) (step := c) hit (by omega) fun h' hi' hs => ⟨(it, .obj (rngObj (a + (i + 1 : Nat) * c) (n - (i + 1 : Nat)) c)) :: S, G.change .here hs ?_ (by show Value.type "range_iterator" ≠ Value.type "code"; decide) (fun x => absurd x (Sat.notDict hit (by intro es ep h; cases h))) rfl G.gens, _, _, rfl, ⟨⟨_, rfl⟩, rfl⟩, rfl⟩
    show IsRangeIter h' it _ _ c
    rw [show a + ((i + 1 : Nat) : Int) * c = a + i * c + c from by rw [Int.natCast_add, Int.add_mul]; simp; omega, show ((n : Int) - ((i + 1 : Nat) : Int)) = n - i - 1 from by omega]
    exact hi'
  stop := fun X S E hX hD => .intro fun s G => by
    subst hX
    have hit := (G.sat _ (.head _)).2.2
    exact wpAny_pyNext_range_end hh hit (by omega) fun h' hs => ⟨S, G.lose .here hs (by show Value.type "range_iterator" ≠ Value.type "code"; decide) (by intro es ep h; cases h) rfl G.gens, rfl, rfl⟩
-- enumerate of a text
def enCell (it : Addr) (f : Value) (b : Bool) (i : Int) (old : Value) : Cell := .fobj "enumerate" #[f, .bool b, .ref it, rawInt i, .none, old]
theorem enCell_notCode {it f b i old} : (enCell it f b i old).notCode := by show "enumerate" ≠ "code"; decide
theorem W.enumS {x : Str} {t : Tok} {Q : Value → St → Prop} (h : ∀ e it, Q (.ref e) ((e, enCell it .none false 0 .none) :: (it, siCell x t 0) :: S)) : W C A S (call (.type "enumerate") [.str x t]) Q E := .intro fun s G =>
  call_enumerate_str fun h' he hi hz hk => ⟨_, G.news (X := [(s.heap.objs.size + 1, enCell s.heap.objs.size .none false 0 .none), (s.heap.objs.size, siCell x t 0)]) hk (fun p hp => by
    rcases List.mem_cons.mp hp with rfl | hp
    · refine ⟨?_, _, he, rfl, rfl⟩
      cases e : s.heap.get? (s.heap.objs.size + 1) with
      | none => rfl
      | some o => have h9 : s.heap.objs.size + 1 < s.heap.objs.size := Heap.lt_size e; omega
    · rcases List.mem_cons.mp hp with rfl | hp
      · exact ⟨fresh_none _, hi⟩
      · cases hp) (by simp) rfl G.gens (fun p hp => by
    rcases List.mem_cons.mp hp with rfl | hp
    · trivial
    · rcases List.mem_cons.mp hp with rfl | hp
      · trivial
      · cases hp), h _ _⟩
theorem W.nextOfS {it : Addr} {x : Str} {t : Tok} {i c : Nat} {S'} {Q : Value → St → Prop} (hu : Upd it (siCell x t i) (siCell x t (i + 1)) S S') (hx : x.cps[i]? = some c) (h : ∀ u, Q (.str ⟨#[c]⟩ u) S') :
    W C A S (Builtin.SmallTypes.nextOf (.ref it)) Q E := .intro fun s G => by
  have hit : s.heap.IsStrIter it (strIterType x) x t i := (G.sat _ hu.mem).2.2
  have hn := (G.sat _ hu.mem).2.2.notDict trivial
  have hty := hit.typeIs
  obtain ⟨o, ho, hc, hd⟩ := hit
  unfold Builtin.SmallTypes.nextOf
  have tail : ∀ {A' : Around}, wpAny (model C.prog C.w) A' (PySem.setField (.ref it) 1 (rawInt (i + 1)) >>= fun _ => mkStr ⟨#[c]⟩ >>= fun v => ret v) (fun fin s' => ∃ v, fin = .done (.ret v) ∧ ∃ S', Good C A S' s' ∧ Q v S') E s := by
    intro A'
    refine wpAny_bind (wpAny_setField ho hd (by simp) (wpAny_bind (wpAny_mkStr (wpAny_pure ⟨_, rfl, S', ?_, h _⟩) (by show 1 ≤ sizeLine; decide))))
    refine G.change hu (Heap.SameBut.update ..) ⟨_, Heap.get?_update_self _ ho (Obj.isFreed_of_fields (Obj.data_mapFields hd _)), (Obj.cls_mapFields ..).trans hc, ?_⟩ siCell_notCode (fun x => absurd x hn) rfl G.gens
    rw [Obj.data_mapFields hd]; simp [rawInt]
  unfold strIterType at hty
  split at hty
  · refine wpAny_bind (wpAny_callSpecial?_slot (name := Str.ofString "__next__") hty F.slot_str_ascii_iterator_next
      (wpAny_call_entry F.slot_str_ascii_iterator_next hty F.entry_str_ascii_iterator_next ?_ (F.args_str_ascii_iterator_next_1 _)))
    show wpAny _ _ (PySem.field (.ref it) 0 >>= _) _ _ s
    refine wpAny_bind (wpAny_field ho hd (x := .str x t) rfl ?_)
    show wpAny _ _ (PySem.field (.ref it) 1 >>= _) _ _ s
    refine wpAny_bind (wpAny_field ho hd (x := .int i 0) rfl ?_)
    simp only [Int.toNat_natCast, hx]
    exact wpAny_mono tail (fun fin s' ⟨v, e, S', G', q⟩ => ⟨v, e, wpAny_pure ⟨S', G', q⟩⟩) fun _ _ x => x
  · refine wpAny_bind (wpAny_callSpecial?_slot (name := Str.ofString "__next__") hty F.slot_str_iterator_next
      (wpAny_call_entry F.slot_str_iterator_next hty F.entry_str_iterator_next ?_ (F.args_str_iterator_next_1 _)))
    show wpAny _ _ (PySem.field (.ref it) 0 >>= _) _ _ s
    refine wpAny_bind (wpAny_field ho hd (x := .str x t) rfl ?_)
    show wpAny _ _ (PySem.field (.ref it) 1 >>= _) _ _ s
    refine wpAny_bind (wpAny_field ho hd (x := .int i 0) rfl ?_)
    simp only [Int.toNat_natCast, hx]
    exact wpAny_mono tail (fun fin s' ⟨v, e, S', G', q⟩ => ⟨v, e, wpAny_pure ⟨S', G', q⟩⟩) fun _ _ x => x
theorem W.around {A' : Around} {t : Sem α} {Q : α → St → Prop} (hf : A'.frames = A.frames) (h : W C A' S t Q E) : ∀ s, Good C A S s → wpAny (model C.prog C.w) A' t (fun a s' => ∃ S', Good C A S' s' ∧ Q a S') E s := fun s G =>
  wpAny_mono (h.1 s (G.around hf)) (fun a s' ⟨S', G', q⟩ => ⟨S', G'.around hf.symm, q⟩) fun _ _ x => x
theorem W.letGo {vs ks : List Value} {Q : Unit → St → Prop} (h : Q () S) : W C A S (PySem.letGo vs ks) Q E := .intro fun s G => wpAny_letGo ⟨S, G, h⟩
theorem W.ruleW {t : String} {Q : Unit → St → Prop} (h : Q () S) : W C A S (PySem.rule t) Q E := .intro fun s G => wpAny_rule ⟨S, G, h⟩
theorem W.isEnd {a : Addr} {o : Obj} {Q : Bool → St → Prop} (hm : (a, .obj o) ∈ S) (hc : o.cls = .type "StopIteration") (h : Q true S) : W C A S (PySem.isInstance (.ref a) (.type "StopIteration")) Q E := .intro fun s G =>
  wpAny_isInstance (T := "StopIteration") (b := true) ⟨_, (G.sat _ hm).2.2, hc⟩ isSubtype_stop ⟨S, G, h⟩
theorem raiseStop {s : Shared} {Q : α → Shared → Prop} {M : Model} (hh : A.handled = none)
    (h : ∀ h' a, (∀ b o, s.heap.get? b = some o → h'.get? b = some o) → (∃ o, h'.get? a = some o ∧ o.cls = .type "StopIteration") → E (.ref a) { s with heap := h' }) :
    wpAny M A (newExc (.type "StopIteration") [] >>= raiseNew) Q E s := by
  refine wpAny_bind ?_
  simp only [newExc, newTuple]
  refine wpAny_bind (wpAny_newObj_type ?_ (by size_fits))
  refine wpAny_bind (m := firstArgMember _ _) (wpAny_of_eq (a := Value.none) (by first | rfl | (simp only [firstArgMember]; rfl)) ?_)
  refine wpAny_newObj_type ?_ (by size_fits)
  simp only [raiseNew]
  refine wpAny_bind (wpAny_handled ?_)
  rw [hh]
  refine wpAny_bind (wpAny_pure (wpAny_throw ?_))
  exact h _ _ (fun b o e => Heap.get?_push_of_some _ (Heap.get?_push_of_some _ e)) ⟨_, Heap.get?_push_size _ rfl, rfl⟩
theorem nextOfS_end {s : Shared} {it : Addr} {x : Str} {t : Tok} {S₀ S'} {Q : Value → Shared → Prop} (hh : A.handled = none) (G : Good C A S₀ s) (hu : Del it (siCell x t x.cps.size) S₀ S')
    (h : ∀ s' a, Good C A S' s' → (∃ o, s'.heap.get? a = some o ∧ o.cls = .type "StopIteration") → E (.ref a) s') : wpAny (model C.prog C.w) A (Builtin.SmallTypes.nextOf (.ref it)) Q E s := by
  have hit : s.heap.IsStrIter it (strIterType x) x t x.cps.size := (G.sat _ hu.mem).2.2
  have hty := hit.typeIs
  obtain ⟨o, ho, hc, hd⟩ := hit
  have hx : x.cps[x.cps.size]? = none := by simp
  unfold Builtin.SmallTypes.nextOf
  have fin : ∀ h' a, (∀ b o, (s.heap.update it (Obj.mapFields (·.setIfInBounds 0 .none))).get? b = some o → h'.get? b = some o) → (∃ o, h'.get? a = some o ∧ o.cls = .type "StopIteration") → E (.ref a) { s with heap := h' } :=
    fun h' a k ho => h _ a (G.lose hu (s' := { s with heap := h' }) (fun b o' hb e => k b o' ((Heap.get?_update_other _ _ (Ne.symm hb)).trans e)) siCell_notCode trivial rfl G.gens) ho
  unfold strIterType at hty
  split at hty
  · refine wpAny_bind (wpAny_callSpecial?_slot (name := Str.ofString "__next__") hty F.slot_str_ascii_iterator_next
      (wpAny_call_entry F.slot_str_ascii_iterator_next hty F.entry_str_ascii_iterator_next ?_ (F.args_str_ascii_iterator_next_1 _)))
    show wpAny _ _ (PySem.field (.ref it) 0 >>= _) _ _ s
    refine wpAny_bind (wpAny_field ho hd (x := .str x t) rfl ?_)
    show wpAny _ _ (PySem.field (.ref it) 1 >>= _) _ _ s
    refine wpAny_bind (wpAny_field ho hd (x := .int x.cps.size 0) rfl ?_)
    simp only [Int.toNat_natCast, hx]
    refine wpAny_bind (wpAny_rule (wpAny_bind (wpAny_setField ho hd (by simp) (wpAny_bind (wpAny_letGo ?_)))))
    exact raiseStop hh fin
  · refine wpAny_bind (wpAny_callSpecial?_slot (name := Str.ofString "__next__") hty F.slot_str_iterator_next
      (wpAny_call_entry F.slot_str_iterator_next hty F.entry_str_iterator_next ?_ (F.args_str_iterator_next_1 _)))
    show wpAny _ _ (PySem.field (.ref it) 0 >>= _) _ _ s
    refine wpAny_bind (wpAny_field ho hd (x := .str x t) rfl ?_)
    show wpAny _ _ (PySem.field (.ref it) 1 >>= _) _ _ s
    refine wpAny_bind (wpAny_field ho hd (x := .int x.cps.size 0) rfl ?_)
    simp only [Int.toNat_natCast, hx]
    refine wpAny_bind (wpAny_rule (wpAny_bind (wpAny_setField ho hd (by simp) (wpAny_bind (wpAny_letGo ?_)))))
    exact raiseStop hh fin
theorem W.iterEnum {e it : Addr} {f : Value} {b : Bool} {i : Int} {old : Value} {Q : Value → St → Prop} (hm : (e, enCell it f b i old) ∈ S) (h : Q (.ref e) S) : W C A S (pyIter (.ref e)) Q E := .intro fun s G => by
  have hT : s.TypeIs (.ref e) "enumerate" := let ⟨o, a, b, _⟩ := (G.sat _ hm).2.2; ⟨o, a, b⟩
  refine wpAny_pyIter_slot hT F.slot_enumerate_iter (wpAny_call_entry F.slot_enumerate_iter hT F.entry_enumerate_iter ?_ (F.args_enumerate_iter_1 _))
  show wpAny _ _ (ret (.ref e)) _ _ s
  exact wpAny_pure ⟨_, rfl, "enumerate", _, hT, F.slot_enumerate_next.lookup, S, G, h⟩
theorem Iter.enumS {e it : Addr} {x : Str} {t : Tok} (hh : A.handled = none) : Iter C A (.ref e) x.cps.size (fun i X => ∃ old, X = [(e, enCell it .none false i old), (it, siCell x t i)]) (fun S => True)
    (fun i v Y => ∃ a c u u' old, x.cps[i]? = some c ∧ v = .ref a ∧ Y = [(a, .obj (tupObj [.int i u, .str ⟨#[c]⟩ u'])), (e, enCell it (rawInt a) false (i + 1) old), (it, siCell x t (i + 1))]) where
  item := fun i hi X S E hX hD => .intro fun s G => by
    obtain ⟨old, rfl⟩ := hX
    have hT : s.TypeIs (.ref e) "enumerate" := let ⟨o, a, b, _⟩ := (G.sat _ (.head _)).2.2; ⟨o, a, b⟩
    unfold pyNext
    refine wpAny_bind (wpAny_attempt (wpAny_callSpecial?_slot (name := Str.ofString "__next__") hT F.slot_enumerate_next
      (wpAny_call_entry F.slot_enumerate_next hT F.entry_enumerate_next ?_ (F.args_enumerate_next_1 _))))
    have hc : x.cps[i]? = some x.cps[i] := by simp [hi]
    refine W.around (A := A) (A' := A.in1) rfl (S := [(e, enCell it .none false i old), (it, siCell x t i)] ++ S) (Q := fun fin S' => ∃ v Y, fin = .done (.ret v) ∧ _ ∧ S' = Y ++ S) ?_ s G |> fun h => wpAny_mono h (fun fin s' ⟨S', G', v, Y, e1, e2, e3⟩ => e1 ▸ ⟨_, rfl, wpAny_pure ⟨S', G', v, Y, rfl, e2, e3⟩⟩) fun _ _ x => x
    show W C A.in1 _ (PySem.field (.ref e) 2 >>= _) _ _
    refine .bind (.field (.head _) rfl (.bind (.nextOfS (.there .here) hc fun u => ?_)))
    show W C A.in1 _ (PySem.field (.ref e) 3 >>= _) _ _
    refine .bind (.field (.head _) rfl ?_)
    show W C A.in1 _ (PySem.field (.ref e) 4 >>= _) _ _
    refine .bind (.field (.head _) rfl ?_)
    show W C A.in1 _ (PySem.mkInt i >>= _) _ _
    refine .bind (.mkI fun u' => ?_)
    show W C A.in1 _ (PySem.setField (.ref e) 3 (rawInt ((i : Int) + 1)) >>= _) _ _
    refine .bind (.setField .here (by decide) (by simp) ?_)
    show W C A.in1 _ (PySem.setField (.ref e) 4 .none >>= _) _ _
    refine .bind (.setField .here (by decide) (by simp) ?_)
    show W C A.in1 _ (PySem.newTuple [.int i u', .str ⟨#[x.cps[i]]⟩ u] >>= _) _ _
    refine .bind (.newTup (fun a => ?_) (by simp))
    show W C A.in1 _ (Builtin.SmallTypes.ownedTupleIsFree (.ref e) >>= _) _ _
    refine .bind ?_
    unfold Builtin.SmallTypes.ownedTupleIsFree
    refine .bind (.field (.tail _ (.head _)) rfl ?_)
    refine .pur ?_
    simp only [if_true]
    refine .bind (.ruleW (.bind (.field (.tail _ (.head _)) rfl (.bind (.setField (.there .here) (by decide) (by simp) ?_)))))
    show W C A.in1 _ (Builtin.SmallTypes.ownedTupleHandOut (.ref e) (.ref a) >>= _) _ _
    refine .bind ?_
    unfold Builtin.SmallTypes.ownedTupleHandOut
    refine .bind (.setField (.there .here) (by decide) (by simp) (.setField (.there .here) (by decide) (by simp) ?_))
    refine .bind (.letGo (.pur ⟨_, _, rfl, ⟨a, _, u', u, .str ⟨#[x.cps[i]]⟩ u, hc, rfl, rfl⟩, ?_⟩))
    simp [enCell, siCell]
  stop := fun X S E hX hD => .intro fun s G => by
    obtain ⟨old, rfl⟩ := hX
    have hT : s.TypeIs (.ref e) "enumerate" := let ⟨o, a, b, _⟩ := (G.sat _ (.head _)).2.2; ⟨o, a, b⟩
    unfold pyNext
    refine wpAny_bind (wpAny_attempt (wpAny_callSpecial?_slot (name := Str.ofString "__next__") hT F.slot_enumerate_next
      (wpAny_call_entry F.slot_enumerate_next hT F.entry_enumerate_next ?_ (F.args_enumerate_next_1 _))))
    show wpAny _ _ (PySem.field (.ref e) 2 >>= _) _ _ _
    obtain ⟨o, ho, hc, hd⟩ := (G.sat _ (.head _)).2.2
    refine wpAny_bind (wpAny_field ho hd (x := .ref it) rfl ?_)
    refine wpAny_bind (nextOfS_end (A := A.in1) hh (G.around rfl) (.there .here) fun s' a G' ⟨oa, ha, hca⟩ => ?_)
    refine wpAny_bind (wpAny_isInstance (T := "StopIteration") (b := true) ⟨oa, ha, hca⟩ isSubtype_stop ?_)
    exact wpAny_pure ⟨S, Good.around (A := A.in1) (A' := A) (G'.weaken (List.sublist_cons_self _ _)) rfl, rfl, rfl⟩
end
end Mine
-- part B6
namespace Mine
open PySem PySem.Calls PySem.W PyProof.Rows
/-- the signs of x at the slice's places -/
def strPick (x : Str) (lo hi st : Option Int) : Str := ⟨((Builtin.Str.strSliceIndices lo hi (st.getD 1) x.length).filterMap (x.cps[·]?)).toArray⟩
theorem ssi_eq (lo hi st : Option Int) (n : Nat) : Builtin.Str.strSliceIndices lo hi (st.getD 1) n = sliceRange (sliceBounds lo hi st n).1 (sliceBounds lo hi st n).2.1 (sliceBounds lo hi st n).2.2 := by
  cases lo <;> cases hi <;> rfl
theorem pickN {α : Type} (xs : Array α) (lo hi : Option Int) :
    (Builtin.Str.strSliceIndices lo hi 1 xs.size).filterMap (xs[·]?) = (xs.toList.drop (lo.elim 0 (clipAt xs.size))).take (hi.elim xs.size (clipAt xs.size) - lo.elim 0 (clipAt xs.size)) := by
  have := ssi_eq lo hi none xs.size
  simp only [Option.getD] at this
  rw [this, sliceBounds_plain]
  simp only [sliceRange_one, pick_run]
theorem clipAt_le (n : Nat) (i : Int) : clipAt n i ≤ n := by have := clipAt_cast n i; omega
theorem strPick_plain (x : Str) (lo hi : Option Int) : (strPick x lo hi none).cps.toList = (x.cps.toList.drop (lo.elim 0 (clipAt x.cps.size))).take (hi.elim x.cps.size (clipAt x.cps.size) - lo.elim 0 (clipAt x.cps.size)) := by
  unfold strPick
  simp only [Option.getD]
  exact pickN x.cps lo hi
theorem strPick_whole (x : Str) (lo hi : Option Int) (h : (Builtin.Str.strSliceIndices lo hi 1 x.length).length = x.length) : strPick x lo hi none = x := by
  have e := strPick_plain x lo hi
  have hl : (Builtin.Str.strSliceIndices lo hi 1 x.length).length = hi.elim x.cps.size (clipAt x.cps.size) - lo.elim 0 (clipAt x.cps.size) := by
    have := ssi_eq lo hi none x.length
    simp only [Option.getD] at this
    rw [this, sliceBounds_plain]
    simp only [sliceRange_one, List.length_map, List.length_range]
    rfl
  have h1 : hi.elim x.cps.size (clipAt x.cps.size) ≤ x.cps.size := by cases hi <;> simp [Option.elim, clipAt_le]
  have h2 : x.length = x.cps.size := rfl
  rw [hl, h2] at h
  have ha : lo.elim 0 (clipAt x.cps.size) = 0 ∨ x.cps.size = 0 := by omega
  have : (strPick x lo hi none).cps.toList = x.cps.toList := by
    rw [e, h]
    rcases ha with ha | ha
    · rw [ha, List.drop_zero]; exact List.take_of_length_le (by simp)
    · have : x.cps.toList = [] := by apply List.eq_nil_of_length_eq_zero; simpa using ha
      rw [this]; simp
  cases x with | mk c => 
  generalize hg : strPick ⟨c⟩ lo hi none = y at this
  cases y with | mk d =>
  simp only at this
  exact congrArg Str.mk (Array.toList_inj.mp this)
theorem sliceRange_rev (n : Nat) : sliceRange ((n : Int) - 1) (-1) (-1) = (List.range n).map fun k => n - 1 - k := by
  unfold sliceRange
  simp only [show ¬ ((-1 : Int) > 0) from by decide, if_false]
  by_cases hn : n = 0
  · subst hn; rfl
  · have : (if (n : Int) - 1 > -1 then ((n : Int) - 1 - -1 - -1 - 1) / - -1 else 0).toNat = n := by
      rw [if_pos (by omega)]
      simp
    rw [this]
    refine List.map_congr_left fun k hk => ?_
    have := List.mem_range.mp hk
    omega
theorem range_rev (n : Nat) : ((List.range n).map fun k => n - 1 - k) = (List.range n).reverse := by
  refine List.ext_getElem (by simp) fun i h1 h2 => ?_
  simp
theorem pick_rev {α : Type} (xs : Array α) : ((List.range xs.size).map fun k => xs.size - 1 - k).filterMap (xs[·]?) = xs.toList.reverse := by
  have h := pick_run xs 0 xs.size
  simp only [Nat.zero_add, List.map_id', List.drop_zero] at h
  rw [range_rev, List.filterMap_reverse, h, List.take_of_length_le (by simp)]
theorem strPick_rev (x : Str) : (strPick x none none (some (-1))).cps.toList = x.cps.toList.reverse := by
  unfold strPick
  rw [ssi_eq]
  simp only [sliceBounds, Option.getD, show ¬ ((-1 : Int) > 0) from by decide, if_false]
  rw [sliceRange_rev]
  exact pick_rev x.cps
theorem slicePick_rev (items : Array Value) : (slicePick items none none (some (-1))).toList = items.toList.reverse := by
  unfold slicePick
  simp only [sliceBounds, Option.getD, show ¬ ((-1 : Int) > 0) from by decide, if_false]
  rw [sliceRange_rev]
  exact pick_rev items
section
variable {α β : Type} {C : Cx} {A : Around} {S : St} {E : Value → Shared → Prop} {env : Env}
theorem W.eSlice {lower upper step : Option Expr} {p : Pos} {Q : Value → St → Prop}
    (h : W C A S (evalPart lower env) (fun l S₁ => W C A S₁ (evalPart upper env) (fun u S₂ => W C A S₂ (evalPart step env) (fun st S₃ => ∀ a, Q (.ref a) ((a, .fobj "slice" #[l, u, st]) :: S₃)) E) E) E) :
    W C A S (eval (.Slice lower upper step p) env) Q E := .intro fun s G =>
  wpAny_Slice (wpAny_mono (h.1 s G) (fun l s' ⟨_, G', q⟩ => wpAny_mono (q.1 s' G') (fun u s' ⟨_, G', q⟩ => wpAny_mono (q.1 s' G') (fun st s' ⟨S', G', q⟩ =>
    ⟨_, G'.new (c := .fobj "slice" #[l, u, st]) (fun b o e => Heap.get?_push_of_some _ e) (fresh_none _) ⟨_, Heap.get?_push_size _ rfl, rfl, rfl⟩ rfl G'.gens, q _⟩) fun _ _ x => x) fun _ _ x => x) fun _ _ x => x)
theorem W.partN {Q : Value → St → Prop} (h : Q .none S) : W C A S (evalPart none env) Q E := W.pur h
theorem W.partS {e : Expr} {Q : Value → St → Prop} (h : W C A S (eval e env) Q E) : W C A S (evalPart (some e) env) Q E := h
theorem W.slS {value slice : Expr} {x : Str} {t : Tok} {a : Addr} {l u st : Option (Int × Tok)} {Q : Value → St → Prop} (hm : (a, .fobj "slice" #[partValue l, partValue u, partValue st]) ∈ S)
    (h : ∀ t', Q (.str (strPick x (l.map (·.1)) (u.map (·.1)) (st.map (·.1))) t') S) (hsz : x.length ≤ 100000)
    (h0 : ((st.map (·.1)).getD 1 == 0) = false := by rfl) (hlen : (strPick x (l.map (·.1)) (u.map (·.1)) (st.map (·.1))).length ≤ x.length)
    (hs : ∃ ops, subscripted slice false (.str x t) (.ref a) = operate ops (getItem (.str x t) (.ref a)) := by exact ⟨_, rfl⟩) :
    W C A S (subscriptTail value slice (.str x t) (.ref a)) Q E := .intro fun s G => by
  obtain ⟨ops, hs⟩ := hs
  refine tail_any (T := "str") (id := "str.__getitem__") rfl PySem.F.slot_str_getitem.lookup (wpAny_getItem_str_slice (G.sat _ hm).2.2 h0 ?_) hs
  unfold sliceMade
  split
  · rename_i hc
    simp only [Bool.and_eq_true, beq_iff_eq] at hc
    have e : strPick x (l.map (·.1)) (u.map (·.1)) (st.map (·.1)) = x := by
      have h1 : (st.map (·.1)).getD 1 = 1 := hc.1
      have := strPick_whole x (l.map (·.1)) (u.map (·.1)) (by have := hc.2; unfold slicePicked at this; rw [h1] at this; exact this)
      refine Eq.trans ?_ this
      unfold strPick
      rw [h1]; rfl
    exact ⟨S, G, by have := h t; rwa [e] at this⟩
  · refine ⟨?_, S, G.tok _, h _⟩
    rw [sizeLine_eq]
    have : (strPick x (l.map (·.1)) (u.map (·.1)) (st.map (·.1))).length ≤ 100000 := Nat.le_trans hlen hsz
    exact Nat.le_trans this (by decide)
theorem strPick_len (x : Str) (lo hi : Option Int) : (strPick x lo hi none).length ≤ x.length := by
  have e := congrArg List.length (strPick_plain x lo hi)
  have h2 : ∀ y : Str, y.length = y.cps.toList.length := fun y => by simp [Str.length]
  rw [h2, h2, e]; simp; omega
theorem strPick_len_rev (x : Str) : (strPick x none none (some (-1))).length = x.length := by
  have e := congrArg List.length (strPick_rev x)
  have h2 : ∀ y : Str, y.length = y.cps.toList.length := fun y => by simp [Str.length]
  rw [h2, h2, e]; simp
theorem W.slL {value slice : Expr} {l a : Addr} {vs : List Value} {vl vu vst : Value} {lo hi st : Option Int} {Q : Value → St → Prop} (hm : (a, .fobj "slice" #[vl, vu, vst]) ∈ S) (hl : (l, .list vs) ∈ S)
    (pl : IsPart vl lo) (pu : IsPart vu hi) (ps : IsPart vst st) (h0 : st ≠ some 0) (h : ∀ c, Q (.ref c) ((c, .list (slicePick vs.toArray lo hi st).toList) :: S)) (hsz : vs.length ≤ 1000)
    (hs : ∃ ops, subscripted slice false (.ref l) (.ref a) = operate ops (getItem (.ref l) (.ref a)) := by exact ⟨_, rfl⟩) :
    W C A S (subscriptTail value slice (.ref l) (.ref a)) Q E := .intro fun s G => by
  obtain ⟨ops, hs⟩ := hs
  refine tail_any (G.list hl).typeIs PySem.slot_list_getitem.lookup (wpAny_getItem_list_slice (G.list hl) (G.sat _ hm).2.2 pl pu ps h0 ⟨_, G.new (c := .list (slicePick vs.toArray lo hi st).toList) (fun b o e => Heap.get?_push_of_some _ e) (fresh_none _) ⟨0, ?_⟩ rfl G.gens, h _⟩ (by rw [sizeLine_eq]; simp; omega)) hs
  simp only [Array.toArray_toList]
  exact Heap.get?_push_size _ rfl
-- unpacking
theorem W.unpT {t : Addr} {vs : List Value} {n : Nat} {Q : List Value → St → Prop} (hh : A.handled = none) (hm : (t, .obj (tupObj vs)) ∈ S) (hn : n = vs.length) (h : Q vs S) : W C A S (unpackItems (.ref t) n none) Q E := .intro fun s G => by
  have ht : s.heap.IsTuple t vs.toArray := ⟨_, (G.sat _ hm).2.2, rfl, 0, rfl⟩
  rw [show n = vs.toArray.size from by rw [hn]; simp]
  exact wpAny_unpackItems_tuple hh ht fun h' he => ⟨S, G.grow (s' := { s with heap := h' }) (fun b o e => he b o (Nat.ne_of_lt (Heap.lt_size e)) e) rfl G.gens, h⟩
theorem W.unpL {l : Addr} {vs : List Value} {n : Nat} {Q : List Value → St → Prop} (hh : A.handled = none) (hm : (l, .list vs) ∈ S) (hn : n = vs.length) (h : Q vs S) : W C A S (unpackItems (.ref l) n none) Q E := .intro fun s G => by
  rw [show n = vs.toArray.size from by rw [hn]; simp]
  exact kun_itemsOf hh (G.list hm) fun h' he => ⟨S, G.grow (s' := { s with heap := h' }) (fun b o e => he b o (Nat.ne_of_lt (Heap.lt_size e)) e) rfl G.gens, h⟩
theorem W.asTuple {elts : List Expr} {k : Nat} {p : Pos} {v : Value} {Q : Unit → St → Prop}
    (h : W C A S (unpackItems v (assignEach elts env).length ((assignEach elts env).findIdx? (·.1))) (fun vs S' => W C A S' (assignInOrder ((assignEach elts env).map (·.2)) vs) Q E) E) : W C A S (assign (.Tuple elts k p) env v) Q E := by
  show W C A S (do standAt p; unpack v (assignEach elts env)) Q E
  refine .bind (.intro fun s G => wpAny_standAt ⟨S, G, ?_⟩)
  unfold unpack
  exact .bind (.intro fun s G => wpAny_holding (h.1 s G))
theorem W.aioNil {ts : List (Value → Sem Unit)} {Q : Unit → St → Prop} (h : Q () S) : W C A S (assignInOrder ts []) Q E := by
  cases ts <;> exact W.pur h
theorem W.aioCons {t : Value → Sem Unit} {ts : List (Value → Sem Unit)} {x : Value} {xs : List Value} {Q : Unit → St → Prop} (h : W C A S (t x) (fun _ S' => W C A S' (assignInOrder ts xs) Q E) E) : W C A S (assignInOrder (t :: ts) (x :: xs)) Q E := by
  rw [assignInOrder]
  exact .bind (.intro fun s G => wpAny_holding (h.1 s G))
theorem W.bindN {x : Str} {v : Value} {Q : Unit → St → Prop} (h : W C A S (storeName env x v) Q E) : W C A S (bindName env x v) Q E := .intro fun s G => wpAny_bindName (h.1 s G)
theorem W.sAsTuple {elts k tpos value pos} {Q : Flow → St → Prop}
    (h : W C A S (eval value env) (fun v S' => W C A S' (assign (.Tuple elts k tpos) env v) (fun _ => Q .next) E) E)
    (hs : swapsWithSole [.Tuple elts k tpos] value pos.line env = Pure.pure false := by rfl)
    (hw : swappedStores [.Tuple elts k tpos] value env = Pure.pure none := by rfl) : W C A S (exec (.Assign [.Tuple elts k tpos] value pos) env) Q E := .intro fun s G =>
  Assign_Tuple (wpAny_mono (h.1 s G) (fun _ s' ⟨_, G', q⟩ => q.1 s' G') fun _ _ x => x) hs hw
theorem W.sAsSwap {elts k tpos value pos} {names : List Str} {Q : Flow → St → Prop}
    (h : W C A S (eval value env) (fun v S' => W C A S' (unpackItems v names.length none) (fun items S₂ => W C A S₂ (assignInOrder (names.reverse.map fun n => bindName env n) items.reverse) (fun _ => Q .next) E) E) E)
    (hw : swappedStores [.Tuple elts k tpos] value env = Pure.pure (some names))
    (hs : swapsWithSole [.Tuple elts k tpos] value pos.line env = Pure.pure false := by rfl) : W C A S (exec (.Assign [.Tuple elts k tpos] value pos) env) Q E := .intro fun s G =>
  Assign_Tuple_swapped (wpAny_mono (h.1 s G) (fun _ s' ⟨_, G', q⟩ => wpAny_mono (q.1 s' G') (fun _ s' ⟨_, G', q⟩ => q.1 s' G') fun _ _ x => x) fun _ _ x => x) hs hw
/-- the tuple that enumerate handed out is let go -/
theorem W.goEnum {elts : List Expr} {k : Nat} {p : Pos} {e it a : Addr} {i : Int} {old : Value} {S'} {Q : Unit → St → Prop} (hu : Upd e (enCell it (rawInt a) false i old) (enCell it .none false i old) S S') (h : Q () S') :
    W C A S (letOwnedTupleGo (.Tuple elts k p) (.ref e) (.ref a)) Q E := .intro fun s G => by
  obtain ⟨o, ho, hc, hd⟩ := (G.sat _ hu.mem).2.2
  unfold letOwnedTupleGo
  refine wpAny_bind (wpAny_load ho ?_)
  have hc : o.cls = .type "enumerate" := hc
  have hd : o.data = .fields #[rawInt a, .bool false, .ref it, rawInt i, .none, old] := hd
  rw [hc, hd]
  show wpAny _ _ (if ((["enumerate", "zip", "dict_itemiterator", "dict_reverseitemiterator", "odict_iterator", "itertools.zip_longest", "itertools.pairwise"].contains "enumerate" && (some (rawInt a) == some (rawInt a))) = true) then _ else _) _ _ _
  rw [if_pos (by simp)]
  refine wpAny_bind (wpAny_rule ?_)
  have := W.setField (C := C) (A := A) (i := 0) (x := .none) (E := E) (Q := Q) (T := "enumerate") (vs := #[rawInt a, .bool false, .ref it, rawInt i, .none, old]) hu (by decide) (by simp) h
  exact this.1 s G
theorem W.goList {elts : List Expr} {k : Nat} {p : Pos} {it l : Addr} {i : Nat} {v : Value} {Q : Unit → St → Prop} (hm : (it, liCell l i) ∈ S) (h : Q () S) : W C A S (letOwnedTupleGo (.Tuple elts k p) (.ref it) v) Q E := .intro fun s G => by
  obtain ⟨o, ho, hc, hd⟩ := (G.sat _ hm).2.2
  unfold letOwnedTupleGo
  cases v
  case ref a =>
    refine wpAny_bind (wpAny_load ho ?_)
    have hc : o.cls = .type "list_iterator" := hc
    rw [hc, hd]
    show wpAny _ _ (if _ then _ else _) _ _ _
    rw [if_neg (by simp)]
    exact wpAny_pure ⟨S, G, h⟩
  all_goals exact wpAny_pure ⟨S, G, h⟩
end
end Mine
-- part B7
namespace Mine
open PySem PySem.Calls PySem.W PyProof.Rows
/-- texts as lists of codes -/
abbrev Str.l (x : Str) : List Nat := x.cps.toList
theorem Str.l_inj {x y : Str} (h : Str.l x = Str.l y) : x = y := by
  cases x; cases y
  exact congrArg Str.mk (Array.toList_inj.mp h)
theorem strs_get {vs : List Value} {ws : List Str} (h : StrsAre vs ws) (i : Nat) (v : Value) (hv : vs[i]? = some v) : ∃ w t, ws[i]? = some w ∧ v = .str w t := by
  induction h generalizing i with
  | nil => simp at hv
  | cons y t h ih =>
    cases i with
    | zero => simp at hv; exact ⟨y, t, by simp, hv.symm⟩
    | succ i => simpa using ih i (by simpa using hv)
theorem strs_len {vs : List Value} {ws : List Str} (h : StrsAre vs ws) : vs.length = ws.length := by
  induction h with
  | nil => rfl
  | cons y t h ih => simp [ih]
theorem argBest_le (bt : Nat → Nat → Bool) (k : Nat) : argBest bt k ≤ k := by
  induction k with
  | zero => exact Nat.le_refl _
  | succ k ih => unfold argBest; split <;> omega
theorem argBest_best (bt : Nat → Nat → Bool) (irr : ∀ i, bt i i = false) (tr : ∀ i j k, bt j i = false → bt k j = true → bt k i = true ∨ True) (tr2 : ∀ i j k, bt i j = false → bt k j = true → bt i k = false) (k : Nat) : ∀ i ≤ k, bt i (argBest bt k) = false := by
  induction k with
  | zero => intro i hi; have : i = 0 := by omega
            subst this; exact irr 0
  | succ k ih =>
    intro i hi
    unfold argBest
    cases hb : bt (k + 1) (argBest bt k) with
    | true =>
      simp only [if_true]
      rcases Nat.lt_or_ge i (k + 1) with h | h
      · exact tr2 _ _ _ (ih i (by omega)) hb
      · have : i = k + 1 := by omega
        subst this; exact irr _
    | false =>
      simp only [Bool.false_eq_true, if_false]
      rcases Nat.lt_or_ge i (k + 1) with h | h
      · exact ih i (by omega)
      · have : i = k + 1 := by omega
        subst this; exact hb
section
variable {α β : Type} {C : Cx} {A : Around} {S : St} {E : Value → Shared → Prop} {env : Env}
theorem cmp_lt (ws : List Str) {prog w} {A : Around} : CmpOf prog w A .Lt (fun i v => ∃ x t, ws[i]? = some x ∧ v = .str x t) (fun i j => decide (Str.l (ws.getD i ⟨#[]⟩) < Str.l (ws.getD j ⟨#[]⟩))) := by
  rintro i j vi vj s Q E ⟨x, t, hi, rfl⟩ ⟨y, u, hj, rfl⟩ hQ
  have : wpAny (model prog w) A (compareOp .Lt (.str x t) (.str y u)) Q E s := PySem.P.lt_str (by
    simp only [List.getD_eq_getElem?_getD, hi, hj, Option.getD_some] at hQ; exact hQ)
  exact this
theorem cmp_gt (ws : List Str) {prog w} {A : Around} : CmpOf prog w A .Gt (fun i v => ∃ x t, ws[i]? = some x ∧ v = .str x t) (fun i j => decide (Str.l (ws.getD j ⟨#[]⟩) < Str.l (ws.getD i ⟨#[]⟩))) := by
  rintro i j vi vj s Q E ⟨x, t, hi, rfl⟩ ⟨y, u, hj, rfl⟩ hQ
  have : wpAny (model prog w) A (compareOp .Gt (.str x t) (.str y u)) Q E s := PySem.P.gt_str (by
    simp only [List.getD_eq_getElem?_getD, hi, hj, Option.getD_some] at hQ; exact hQ)
  exact this
theorem ll_irr (a : List Nat) : ¬ a < a := List.lt_irrefl a
theorem ll_trans2 (a b c : List Nat) (h1 : ¬ a < b) (h2 : c < b) : ¬ a < c := fun h => h1 (List.lt_trans h h2)
theorem W.minS {l : Addr} {vs : List Value} {ws : List Str} {Q : Value → St → Prop} (hh : A.handled = none) (hm : (l, .list vs) ∈ S) (hi : StrsAre vs ws) (hne : 0 < ws.length)
    (h : ∀ M t, M ∈ ws → (∀ w ∈ ws, ¬ Str.l w < Str.l M) → Q (.str M t) S) : W C A S (call (.builtin "min") [.ref l]) Q E := .intro fun s G => by
  refine call_min_walk (wpAny_pyIter_list (G.list hm) ?_)
  have hl := G.list hm
  refine ⟨s.heap.objs.size, [s.heap.objs.size, l], [s.heap.objs.size], vs.toArray.size, fun i v => vs.toArray[i]? = some v, fun i h => h.IsListIter s.heap.objs.size l i ∧ h.IsList l vs.toArray, fun i j => decide (Str.l (ws.getD i ⟨#[]⟩) < Str.l (ws.getD j ⟨#[]⟩)), rfl, ?_, ?_, ?_, ?_, ?_, ?_⟩
  · exact Walks.list (A := A.in1) hh _ _ (Nat.ne_of_lt (let ⟨o, e, _⟩ := hl; Heap.lt_size e)) _
  · exact ⟨⟨_, Heap.get?_push_size _ rfl, rfl, rfl⟩, hl.push _⟩
  · intro b hb
    have : l < s.heap.objs.size := let ⟨o, e, _⟩ := hl; Heap.lt_size e
    have e8 : ∀ o, (s.heap.push o).objs.size = s.heap.objs.size + 1 := fun o => Heap.size_push _ _
    show b < (s.heap.push _).objs.size
    rw [e8]
    rcases List.mem_cons.mp hb with hb | hb
    · rw [hb]; exact Nat.lt_succ_self _
    · rcases List.mem_cons.mp hb with hb | hb
      · rw [hb]; exact Nat.lt_succ_of_lt this
      · cases hb
  · have := strs_len hi; have e9 : vs.toArray.size = vs.length := rfl; rw [e9]; omega
  · intro i j vi vj s Q E h1 h2 hQ
    exact cmp_lt ws i j vi vj s Q E (strs_get hi i vi (by simpa using h1)) (strs_get hi j vj (by simpa using h2)) hQ
  · intro v h' tk hP hk
    obtain ⟨w, t, hw, rfl⟩ := strs_get hi _ v (by rw [List.getElem?_toArray] at hP; exact hP)
    refine ⟨S, G.grow (s' := { s with heap := h', toks := tk }) (fun b o e => hk b o (by
      have : b < s.heap.objs.size := Heap.lt_size e
      intro h9
      have h8 := List.mem_singleton.mp h9
      exact absurd this (h8 ▸ Nat.lt_irrefl _)) (Heap.get?_push_of_some _ e)) rfl G.gens, h w t (List.mem_of_getElem? hw) fun x hx => ?_⟩
    obtain ⟨i, hi', hxi⟩ := List.mem_iff_getElem.mp hx
    have hb := argBest_best (fun i j => decide (Str.l (ws.getD i ⟨#[]⟩) < Str.l (ws.getD j ⟨#[]⟩))) (fun i => by simp [ll_irr]) (fun _ _ _ _ _ => .inr trivial) (fun i j k h1 h2 => by
      simp only [decide_eq_false_iff_not, decide_eq_true_eq] at h1 h2 ⊢
      exact ll_trans2 _ _ _ h1 h2) (vs.toArray.size - 1) i (by have := strs_len hi; have e9 : vs.toArray.size = vs.length := rfl; rw [e9]; omega)
    simp only [decide_eq_false_iff_not] at hb
    rw [List.getD_eq_getElem?_getD, List.getD_eq_getElem?_getD, hw, List.getElem?_eq_getElem hi', hxi] at hb
    exact hb
theorem W.maxS {l : Addr} {vs : List Value} {ws : List Str} {Q : Value → St → Prop} (hh : A.handled = none) (hm : (l, .list vs) ∈ S) (hi : StrsAre vs ws) (hne : 0 < ws.length)
    (h : ∀ M t, M ∈ ws → (∀ w ∈ ws, ¬ Str.l M < Str.l w) → Q (.str M t) S) : W C A S (call (.builtin "max") [.ref l]) Q E := .intro fun s G => by
  refine call_max_walk (wpAny_pyIter_list (G.list hm) ?_)
  have hl := G.list hm
  refine ⟨s.heap.objs.size, [s.heap.objs.size, l], [s.heap.objs.size], vs.toArray.size, fun i v => vs.toArray[i]? = some v, fun i h => h.IsListIter s.heap.objs.size l i ∧ h.IsList l vs.toArray, fun i j => decide (Str.l (ws.getD j ⟨#[]⟩) < Str.l (ws.getD i ⟨#[]⟩)), rfl, ?_, ?_, ?_, ?_, ?_, ?_⟩
  · exact Walks.list (A := A.in1) hh _ _ (Nat.ne_of_lt (let ⟨o, e, _⟩ := hl; Heap.lt_size e)) _
  · exact ⟨⟨_, Heap.get?_push_size _ rfl, rfl, rfl⟩, hl.push _⟩
  · intro b hb
    have : l < s.heap.objs.size := let ⟨o, e, _⟩ := hl; Heap.lt_size e
    have e8 : ∀ o, (s.heap.push o).objs.size = s.heap.objs.size + 1 := fun o => Heap.size_push _ _
    show b < (s.heap.push _).objs.size
    rw [e8]
    rcases List.mem_cons.mp hb with hb | hb
    · rw [hb]; exact Nat.lt_succ_self _
    · rcases List.mem_cons.mp hb with hb | hb
      · rw [hb]; exact Nat.lt_succ_of_lt this
      · cases hb
  · have := strs_len hi; have e9 : vs.toArray.size = vs.length := rfl; rw [e9]; omega
  · intro i j vi vj s Q E h1 h2 hQ
    exact cmp_gt ws i j vi vj s Q E (strs_get hi i vi (by simpa using h1)) (strs_get hi j vj (by simpa using h2)) hQ
  · intro v h' tk hP hk
    obtain ⟨w, t, hw, rfl⟩ := strs_get hi _ v (by rw [List.getElem?_toArray] at hP; exact hP)
    refine ⟨S, G.grow (s' := { s with heap := h', toks := tk }) (fun b o e => hk b o (by
      have : b < s.heap.objs.size := Heap.lt_size e
      intro h9
      have h8 := List.mem_singleton.mp h9
      exact absurd this (h8 ▸ Nat.lt_irrefl _)) (Heap.get?_push_of_some _ e)) rfl G.gens, h w t (List.mem_of_getElem? hw) fun x hx => ?_⟩
    obtain ⟨i, hi', hxi⟩ := List.mem_iff_getElem.mp hx
    have hb := argBest_best (fun i j => decide (Str.l (ws.getD j ⟨#[]⟩) < Str.l (ws.getD i ⟨#[]⟩))) (fun i => by simp [ll_irr]) (fun _ _ _ _ _ => .inr trivial) (fun i j k h1 h2 => by
      simp only [decide_eq_false_iff_not, decide_eq_true_eq] at h1 h2 ⊢
      exact fun h => h1 (List.lt_trans h2 h)) (vs.toArray.size - 1) i (by have := strs_len hi; have e9 : vs.toArray.size = vs.length := rfl; rw [e9]; omega)
    simp only [decide_eq_false_iff_not] at hb
    rw [List.getD_eq_getElem?_getD, List.getD_eq_getElem?_getD, hw, List.getElem?_eq_getElem hi', hxi] at hb
    exact hb
end
end Mine
-- part B8
namespace Mine
open PySem PySem.Calls PySem.W PyProof.Rows
/-- the text of these codes -/
def mk (l : List Nat) : Str := ⟨l.toArray⟩
theorem mk_cps (l : List Nat) : (mk l).cps = l.toArray := rfl
theorem mk_l (l : List Nat) : Str.l (mk l) = l := rfl
theorem mk_l' (l : List Nat) : (mk l).cps.toList = l := rfl
theorem mk_of (x : Str) : mk (Str.l x) = x := by cases x; rfl
theorem mk_length (l : List Nat) : (mk l).length = l.length := rfl
theorem mk_inj {a b : List Nat} (h : mk a = mk b) : a = b := congrArg Str.l h
theorem mk_inj_iff {a b : List Nat} : mk a = mk b ↔ a = b := ⟨mk_inj, fun h => h ▸ rfl⟩
theorem mk_append (a b : List Nat) : mk a ++ mk b = mk (a ++ b) := Str.l_inj (by show (a.toArray ++ b.toArray).toList = a ++ b; simp)
theorem mk_beq (a b : List Nat) : (mk a == mk b) = decide (a = b) := by
  rw [Bool.eq_iff_iff]; simp [mk_inj_iff]
theorem mk_bne (a b : List Nat) : (mk a != mk b) = decide (a ≠ b) := by
  unfold bne; rw [mk_beq]; simp
theorem mk_get (l : List Nat) (i : Nat) : (mk l).cps[i]? = l[i]? := by rw [mk_cps, List.getElem?_toArray]
theorem mk_size (l : List Nat) : (mk l).cps.size = l.length := rfl
theorem mk_pick (l : List Nat) (lo hi : Option Int) : strPick (mk l) lo hi none = mk ((l.drop (lo.elim 0 (clipAt l.length))).take (hi.elim l.length (clipAt l.length) - lo.elim 0 (clipAt l.length))) :=
  Str.l_inj ((strPick_plain (mk l) lo hi).trans rfl)
theorem mk_rev (l : List Nat) : strPick (mk l) none none (some (-1)) = mk l.reverse := Str.l_inj ((strPick_rev (mk l)).trans rfl)
/-- values of these texts -/
abbrev SL (vs : List Value) (ls : List (List Nat)) : Prop := StrsAre vs (ls.map mk)
theorem SL.nil : SL [] [] := StrsAre.nil
theorem SL.cons {vs ls} (l : List Nat) (t : Tok) (h : SL vs ls) : SL (.str (mk l) t :: vs) (l :: ls) := StrsAre.cons (mk l) t h
theorem SL.len {vs ls} (h : SL vs ls) : vs.length = ls.length := (strs_len h).trans (by simp)
theorem SL.snoc {vs : List Value} {ls : List (List Nat)} (l : List Nat) (t : Tok) (h : SL vs ls) : SL (vs ++ [.str (mk l) t]) (ls ++ [l]) := by
  induction ls generalizing vs with
  | nil => cases h; exact .cons l t .nil
  | cons x ls ih => cases h with | cons y u h => exact SL.cons x u (ih h)
theorem SL.get {vs : List Value} {ls : List (List Nat)} (h : SL vs ls) {i : Nat} {l : List Nat} (hl : ls[i]? = some l) : ∃ t, vs[i]? = some (.str (mk l) t) := by
  have hi : i < vs.length := by rw [h.len]; exact (List.getElem?_eq_some_iff.mp hl).1
  obtain ⟨w, t, e1, e2⟩ := strs_get h i vs[i] (by simp [hi])
  rw [List.getElem?_map, hl] at e1
  cases e1
  exact ⟨t, by rw [← e2]; simp [hi]⟩
theorem SL.get' {vs : List Value} {ls : List (List Nat)} (h : SL vs ls) {i : Nat} {v : Value} (hv : vs[i]? = some v) : ∃ l t, ls[i]? = some l ∧ v = .str (mk l) t := by
  obtain ⟨w, t, e1, e2⟩ := strs_get h i v hv
  rw [List.getElem?_map] at e1
  cases hl : ls[i]? with
  | none => rw [hl] at e1; cases e1
  | some l => rw [hl] at e1; cases e1; exact ⟨l, t, rfl, e2⟩
theorem SL.drop {vs : List Value} {ls : List (List Nat)} (n : Nat) (h : SL vs ls) : SL (vs.drop n) (ls.drop n) := by
  induction n generalizing vs ls with
  | zero => simpa using h
  | succ n ih =>
    cases ls with
    | nil => cases h; simp; exact .nil
    | cons x ls => cases h with | cons y u h => simpa using ih h
theorem SL.take {vs : List Value} {ls : List (List Nat)} (n : Nat) (h : SL vs ls) : SL (vs.take n) (ls.take n) := by
  induction n generalizing vs ls with
  | zero => simp; exact .nil
  | succ n ih =>
    cases ls with
    | nil => cases h; simp; exact .nil
    | cons x ls => cases h with | cons y u h => simpa using SL.cons x u (ih h)
theorem SL.append {vs us : List Value} {ls ks : List (List Nat)} (h : SL vs ls) (g : SL us ks) : SL (vs ++ us) (ls ++ ks) := by
  induction ls generalizing vs with
  | nil => cases h; simpa using g
  | cons x ls ih => cases h with | cons y u h => exact SL.cons x u (ih h)
theorem SL.reverse {vs : List Value} {ls : List (List Nat)} (h : SL vs ls) : SL vs.reverse ls.reverse := by
  induction ls generalizing vs with
  | nil => cases h; simp; exact .nil
  | cons x ls ih => cases h with | cons y u h => simpa using SL.append (ih h) (SL.cons x u .nil)
section
variable {α β : Type} {C : Cx} {A : Around} {S : St} {E : Value → Shared → Prop} {env : Env}
theorem W.minM {l : Addr} {vs : List Value} {ls : List (List Nat)} {Q : Value → St → Prop} (hh : A.handled = none) (hm : (l, .list vs) ∈ S) (hi : SL vs ls) (hne : ls ≠ [])
    (h : ∀ M t, M ∈ ls → (∀ w ∈ ls, ¬ w < M) → Q (.str (mk M) t) S) : W C A S (call (.builtin "min") [.ref l]) Q E :=
  .minS hh hm hi (by simpa [List.length_pos_iff] using hne) fun M t hM hb => by
    obtain ⟨m, hm, rfl⟩ := List.mem_map.mp hM
    exact h m t hm fun w hw => hb (mk w) (List.mem_map.mpr ⟨w, hw, rfl⟩)
theorem W.maxM {l : Addr} {vs : List Value} {ls : List (List Nat)} {Q : Value → St → Prop} (hh : A.handled = none) (hm : (l, .list vs) ∈ S) (hi : SL vs ls) (hne : ls ≠ [])
    (h : ∀ M t, M ∈ ls → (∀ w ∈ ls, ¬ M < w) → Q (.str (mk M) t) S) : W C A S (call (.builtin "max") [.ref l]) Q E :=
  .maxS hh hm hi (by simpa [List.length_pos_iff] using hne) fun M t hM hb => by
    obtain ⟨m, hm, rfl⟩ := List.mem_map.mp hM
    exact h m t hm fun w hw => hb (mk w) (List.mem_map.mpr ⟨w, hw, rfl⟩)
theorem W.itemM {value slice : Expr} {y : List Nat} {u : Tok} {k : Int} {t : Tok} {c : Nat} {Q : Value → St → Prop} (h0 : 0 ≤ k) (hk : k < 100000) (hx : y[k.toNat]? = some c) (h : ∀ t', Q (.str (mk [c]) t') S)
    (hs : subscripted slice false (.str (mk y) u) (.int k t) = operate [.str (mk y) u, .int k t] (getItem (.str (mk y) u) (.int k t)) := by with_unfolding_all rfl) :
    W C A S (subscriptTail value slice (.str (mk y) u) (.int k t)) Q E := .itemS h0 hk (by rw [mk_get]; exact hx) h hs
theorem W.addM {x y : List Nat} {t u : Tok} {Q : Value → St → Prop} (h : ∀ t', Q (.str (mk (x ++ y)) t') S) (hsz : x.length + y.length ≤ 100000) : W C A S (binaryOp .Add (.str (mk x) t) (.str (mk y) u)) Q E :=
  .addS (fun t' => by rw [mk_append]; exact h t') hsz
theorem W.neM {x y : List Nat} {t u : Tok} {Q : Value → St → Prop} (h : Q (.bool (decide (x ≠ y))) S) : W C A S (compareOp .NotEq (.str (mk x) t) (.str (mk y) u)) Q E := .neS (by rw [mk_bne]; exact h)
theorem W.eqM {x y : List Nat} {t u : Tok} {Q : Value → St → Prop} (h : Q (.bool (decide (x = y))) S) : W C A S (compareOp .Eq (.str (mk x) t) (.str (mk y) u)) Q E := .eqS (by rw [mk_beq]; exact h)
theorem W.lenM {x : List Nat} {t : Tok} {Q : Value → St → Prop} (h : ∀ t', Q (.int x.length t') S) (hsz : x.length ≤ 100000) : W C A S (call (.builtin "len") [.str (mk x) t]) Q E := .lenS h hsz
theorem W.truM {x : List Nat} {t : Tok} {Q : Bool → St → Prop} (h : Q (decide (x ≠ [])) S) (hsz : x.length ≤ 100000) : W C A S (truthy (.str (mk x) t)) Q E :=
  .truS (by rw [mk_length]; rw [show (((x.length : Int)) != 0) = decide (x ≠ []) from by cases x <;> simp [bne]; omega]; exact h) hsz
theorem mk_to (l : List Nat) (i : Nat) : strPick (mk l) none (some (i : Int)) none = mk (l.take i) := by
  rw [mk_pick]; simp only [Option.elim, clipAt_nat, List.drop_zero, Nat.sub_zero]
  congr 1
  rcases Nat.le_total i l.length with h | h
  · rw [Nat.min_eq_left h]
  · rw [Nat.min_eq_right h, List.take_of_length_le (Nat.le_refl _), List.take_of_length_le h]
theorem mk_from (l : List Nat) (i : Nat) : strPick (mk l) (some (i : Int)) none none = mk (l.drop i) := by
  rw [mk_pick]; simp only [Option.elim, clipAt_nat]
  congr 1
  rcases Nat.le_total i l.length with h | h
  · rw [Nat.min_eq_left h, List.take_of_length_le (by simp)]
  · rw [Nat.min_eq_right h, List.drop_of_length_le (Nat.le_refl _), List.drop_of_length_le h]; simp
theorem mk_toneg (l : List Nat) (k : Nat) (hk : 1 ≤ k) : strPick (mk l) none (some (-(k : Int))) none = mk (l.take (l.length - k)) := by
  rw [mk_pick]; simp only [Option.elim, clipAt_neg _ _ hk, List.drop_zero, Nat.sub_zero]
theorem mk_mid (l : List Nat) (i j : Nat) : strPick (mk l) (some (i : Int)) (some (j : Int)) none = mk ((l.drop i).take (j - i)) := by
  rw [mk_pick]; simp only [Option.elim, clipAt_nat]
  congr 1
  rcases Nat.le_total i l.length with h | h
  · rw [Nat.min_eq_left h]
    rcases Nat.le_total j l.length with h2 | h2
    · rw [Nat.min_eq_left h2]
    · rw [Nat.min_eq_right h2, List.take_of_length_le (by simp), List.take_of_length_le (by simp; omega)]
  · rw [Nat.min_eq_right h, List.drop_of_length_le (Nat.le_refl _), List.drop_of_length_le h]; simp
theorem W.slTo {value slice : Expr} {x : List Nat} {t u : Tok} {a : Addr} {i : Nat} {Q : Value → St → Prop} (hm : (a, .fobj "slice" #[.none, .int i u, .none]) ∈ S) (hsz : x.length ≤ 100000) (h : ∀ t', Q (.str (mk (x.take i)) t') S)
    (hs : ∃ ops, subscripted slice false (.str (mk x) t) (.ref a) = operate ops (getItem (.str (mk x) t) (.ref a)) := by exact ⟨_, rfl⟩) : W C A S (subscriptTail value slice (.str (mk x) t) (.ref a)) Q E :=
  .slS (l := none) (u := some ((i : Int), u)) (st := none) hm (fun t' => by
    have := h t'; rw [← mk_to] at this; exact this) hsz rfl (strPick_len _ _ _) hs
theorem W.slFrom {value slice : Expr} {x : List Nat} {t u : Tok} {a : Addr} {i : Nat} {Q : Value → St → Prop} (hm : (a, .fobj "slice" #[.int i u, .none, .none]) ∈ S) (hsz : x.length ≤ 100000) (h : ∀ t', Q (.str (mk (x.drop i)) t') S)
    (hs : ∃ ops, subscripted slice false (.str (mk x) t) (.ref a) = operate ops (getItem (.str (mk x) t) (.ref a)) := by exact ⟨_, rfl⟩) : W C A S (subscriptTail value slice (.str (mk x) t) (.ref a)) Q E :=
  .slS (l := some ((i : Int), u)) (u := none) (st := none) hm (fun t' => by
    have := h t'; rw [← mk_from] at this; exact this) hsz rfl (strPick_len _ _ _) hs
theorem W.slNeg {value slice : Expr} {x : List Nat} {t u : Tok} {a : Addr} {k : Nat} {Q : Value → St → Prop} (hm : (a, .fobj "slice" #[.none, .int (-(k : Int)) u, .none]) ∈ S) (hsz : x.length ≤ 100000) (hk : 1 ≤ k) (h : ∀ t', Q (.str (mk (x.take (x.length - k))) t') S)
    (hs : ∃ ops, subscripted slice false (.str (mk x) t) (.ref a) = operate ops (getItem (.str (mk x) t) (.ref a)) := by exact ⟨_, rfl⟩) : W C A S (subscriptTail value slice (.str (mk x) t) (.ref a)) Q E :=
  .slS (l := none) (u := some (-(k : Int), u)) (st := none) hm (fun t' => by
    have := h t'; rw [← mk_toneg _ _ hk] at this; exact this) hsz rfl (strPick_len _ _ _) hs
theorem W.slMid {value slice : Expr} {x : List Nat} {t u v : Tok} {a : Addr} {i j : Nat} {Q : Value → St → Prop} (hm : (a, .fobj "slice" #[.int i u, .int j v, .none]) ∈ S) (hsz : x.length ≤ 100000) (h : ∀ t', Q (.str (mk ((x.drop i).take (j - i))) t') S)
    (hs : ∃ ops, subscripted slice false (.str (mk x) t) (.ref a) = operate ops (getItem (.str (mk x) t) (.ref a)) := by exact ⟨_, rfl⟩) : W C A S (subscriptTail value slice (.str (mk x) t) (.ref a)) Q E :=
  .slS (l := some ((i : Int), u)) (u := some ((j : Int), v)) (st := none) hm (fun t' => by
    have := h t'; rw [← mk_mid] at this; exact this) hsz rfl (strPick_len _ _ _) hs
theorem W.slRev {value slice : Expr} {x : List Nat} {t u : Tok} {a : Addr} {Q : Value → St → Prop} (hm : (a, .fobj "slice" #[.none, .none, .int (-1) u]) ∈ S) (hsz : x.length ≤ 100000) (h : ∀ t', Q (.str (mk x.reverse) t') S)
    (hs : ∃ ops, subscripted slice false (.str (mk x) t) (.ref a) = operate ops (getItem (.str (mk x) t) (.ref a)) := by exact ⟨_, rfl⟩) : W C A S (subscriptTail value slice (.str (mk x) t) (.ref a)) Q E :=
  .slS (l := none) (u := none) (st := some (-1, u)) hm (fun t' => by
    have := h t'; rw [← mk_rev] at this; exact this) hsz rfl (by show (strPick (mk x) none none (some (-1))).length ≤ _; rw [mk_rev, mk_length, mk_length]; simp) hs
end
end Mine
-- part B9
namespace Mine
open PySem PySem.Calls PySem.W PyProof.Rows
-- list comprehensions with one for, a name as its target, no tests
structure CompBody (C : Cx) (A : Around) (env : Env) (scope : Scope) (cl : List (Str × Addr)) (elt : Expr) (x : Str) (it : Value) (n : Nat) (K : Nat → St → Prop) (V : Nat → Value → St → Prop) (D : St → Prop) (S₃ : St) (F : Nat → List Value → Prop) : Prop where
  dep : ∀ X, D (X ++ S₃)
  self : ∀ X S, K 0 X → D S → W C A (X ++ S) (pyIter it) (fun r S' => r = it ∧ S' = X ++ S) NoE
  start : F 0 []
  turn : ∀ i, i < n → ∀ v Y vs cn ac, V i v Y → F i vs → W C A (Y ++ (cn, .ns [(x, some v)]) :: (ac, .list vs) :: S₃) (eval elt (compEnvC scope cl cn env)) (fun y S' => ∃ X, K (i + 1) X ∧ (X ++ (cn, .ns [(x, some v)]) :: (ac, .list vs) :: S₃).Sublist S' ∧ F (i + 1) (vs ++ [y])) NoE
section
variable {α β : Type} {C : Cx} {A : Around} {S : St} {E : Value → Shared → Prop} {env : Env}
theorem Good.clear {s : Shared} {a : Addr} {l} {h' : Heap} (G : Good C A ((a, .ns l) :: S) s) (hf : ∀ fr, A.frames = some fr → ∀ env ∈ fr, env.frame ≠ some a) (hs : Heap.SameBut a s.heap h') : Good C A S { s with heap := h' } := by
  have ⟨n1, n2, n3⟩ := G.sat _ (.head _)
  have k : ∀ b o, b ≠ a → s.heap.get? b = some o → h'.get? b = some o := fun b o hb e => (hs.2 b hb).trans e
  refine ⟨fun b o e => k b o (fun q => by rw [q, n1] at e; cases e) (G.keep b o e), G.os, G.gens, fun x hx => ⟨(G.tabs x hx).1, ?_⟩, ?_, fun p hp => ?_, (List.nodup_cons.mp G.nodup).2, fun p hp => G.plain p (.tail _ hp)⟩
  · obtain ⟨ps, e, t, r⟩ := (G.tabs x hx).2
    refine ⟨ps, k _ _ (fun q => n2 x hx q.symm) e, t, fun y hy c' hc' => ?_⟩
    exact Sat.codes (h := s.heap) (a := a) (c := .ns l) n3 trivial k _ _ (r y hy c' hc')
  · obtain ⟨fr, e, f⟩ := G.frames
    refine ⟨fr, e, fun env he => ?_⟩
    obtain ⟨a1, L, o, es, ep, b1, c1, d1, e1⟩ := f env he
    exact ⟨a1, L, o, es, ep, b1, c1, k _ _ (fun q => hf fr e env he (q ▸ b1)) d1, e1⟩
  · obtain ⟨x1, x2, x3⟩ := G.sat p (.tail _ hp)
    exact ⟨x1, x2, x3.at (fun o e => k p.1 o (fun q => (List.nodup_cons.mp G.nodup).1 (List.mem_map.mpr ⟨p, hp, q⟩)) e) (Sat.codes (h := s.heap) (a := a) (c := .ns l) n3 trivial k)⟩
theorem compCore {elt iter : Expr} {x : Str} {px pos : Pos} {scope : Scope} {cl : List (Str × Addr)} {it : Value} {n : Nat} {K : Nat → St → Prop} {V : Nat → Value → St → Prop} {D : St → Prop} {S₂ S₃ X : St} {F : Nat → List Value → Prop}
    {RR : Value → Addr → Result → Shared → Prop} {s₂ : Shared} (I : Iter C A it n K D V) (B : CompBody C A env scope cl elt x it n K V D S₃ F) (hK : K 0 X) (hsub : (X ++ S₃).Sublist S₂) (hn : n ≤ 1000)
    (hcell : ∀ y ∈ scope.names, y.2 ≠ .cell) (hkind : scope.kind = .function) (hx : scope.names.lookup x = some .local) (G : Good C A S₂ s₂)
    (h : ∀ ac cn l vs s', F n vs → Good C A ((cn, .ns l) :: (ac, .list vs) :: S₃) s' → (∀ fr, A.frames = some fr → ∀ env ∈ fr, env.frame ≠ some cn) → RR (.ref ac) cn (.ok .next) s') :
    wpAny (model C.prog C.w) A (newList []) (fun acc s₃ => wpAny (model C.prog C.w) A (newFunctionEnv scope env.globals cl [] env.qual none .none (some env)) (fun cenv s₄ =>
      codeAny (model C.prog C.w) A (.compStart (.ListComp elt [⟨.Name x px, iter, [], 0⟩] scope pos) 0 it acc { cenv with scope := relabel scope env }) (RR acc cenv.locals) s₄) NoE s₃) NoE s₂ := by
  refine wpAny_newObj_type (wpAny_newFunctionEnv hcell (by intro y hy; simp at hy) (fun h₁ hns₁ hsb₁ => ?_) hkind)
  have G1 : Good C A ((s₂.heap.objs.size, .list []) :: X ++ S₃) { s₂ with heap := s₂.heap.push { cls := .type "list", dict := none, data := .seq ([] : List Value).toArray } } :=
    (G.weaken hsub).new (c := .list []) (fun b o e => Heap.get?_push_of_some _ e) (fresh_none _) ⟨0, Heap.get?_push_size _ rfl⟩ rfl G.gens
  dsimp only at hns₁ hsb₁ ⊢
  generalize hH2 : s₂.heap.push { cls := .type "list", dict := none, data := .seq ([] : List Value).toArray } = H2 at hns₁ hsb₁ G1 ⊢
  have kk : ∀ b o, H2.get? b = some o → h₁.get? b = some o := fun b o e => hsb₁.extBut b o (Nat.ne_of_lt (Heap.lt_size e)) (Heap.get?_push_of_some _ e)
  have G2 : Good C A ((H2.objs.size, .ns [(x, none)]) :: (s₂.heap.objs.size, .list []) :: X ++ S₃) { s₂ with heap := h₁ } :=
    G1.new (s' := { s₂ with heap := h₁ }) (a := H2.objs.size) (c := .ns [(x, none)]) kk (fresh_none _) ⟨by
      have : mapOf [(x, none)] = fun y => ([] : List (Str × Value)).reverse.lookup y := by
        funext y; unfold mapOf; rw [List.lookup_cons]; cases y == x <;> rfl
      rw [this]; exact hns₁, by simp⟩ rfl G.gens
  have hfr : ∀ fr, A.frames = some fr → ∀ env ∈ fr, env.frame ≠ some H2.objs.size := by
    obtain ⟨fr, e, f⟩ := G1.frames
    intro fr' e' env he q
    rw [e] at e'; cases e'
    obtain ⟨_, L, o, es, ep, b1, _, d1, _⟩ := f env he
    rw [q] at b1; cases b1
    exact absurd (Heap.lt_size d1) (Nat.lt_irrefl _)
  clear hns₁ hsb₁ kk
  generalize hcn : H2.objs.size = cn at G2 hfr ⊢
  generalize hac : s₂.heap.objs.size = ac at G2 ⊢
  have loop : ∀ s₃ : Shared, Good C A (X ++ (cn, .ns [(x, none)]) :: (ac, .list []) :: S₃) s₃ →
      codeAny (model C.prog C.w) A (.compLoop (.ListComp elt [⟨.Name x px, iter, [], 0⟩] scope pos) 0 it (.ref ac) (compEnvC scope cl cn env)) (RR (.ref ac) cn) s₃ := by
    intro s₃ G3
    refine codeAny_compLoop_list (fun m s' => ∃ i, m = n - i ∧ i ≤ n ∧ ∃ X vx vs, vs.length = i ∧ K i X ∧ F i vs ∧ Good C A (X ++ (cn, .ns [(x, vx)]) :: (ac, .list vs) :: S₃) s')
      (fun m s' ⟨i, hm, hi, X, vx, vs, hvl, hK', hF, G'⟩ => ?_) (n - 0) ⟨0, rfl, Nat.zero_le _, X, none, [], rfl, hK, B.start, G3⟩
    rcases Nat.lt_or_ge i n with hlt | hge
    · refine wpAny_mono ((I.item i hlt X ((cn, .ns [(x, vx)]) :: (ac, .list vs) :: S₃) NoE hK' (B.dep [_, _])).1 s' G') (fun r s₄ ⟨S₄, G₄, v, Y, e1, hV, e2⟩ => ?_) fun _ _ x => x.elim
      subst e1 e2
      have h1 : W C A (Y ++ (cn, .ns [(x, vx)]) :: (ac, .list vs) :: S₃) (assign (.Name x px) (compEnvC scope cl cn env) v) (fun _ S' => S' = (Y ++ (cn, .ns [(x, some v)]) :: (ac, .list vs) :: S₃)) NoE := by
        refine .asName (.stl (l := [(x, vx)]) (l' := [(x, some v)]) (S' := Y ++ (cn, .ns [(x, some v)]) :: (ac, .list vs) :: S₃) ?_ .here rfl (by simp [compEnvC, relabel, hkind]) (lookup_relabel_local hx))
        show Upd cn _ _ _ _
        clear hV G₄
        induction Y with
        | nil => exact .here
        | cons p Y ih => exact .there ih
      refine wpAny_mono (h1.1 s₄ G₄) (fun _ s₅ ⟨S₅, G₅, e5⟩ => ?_) fun _ _ x => x.elim
      subst e5
      refine wpAny_mono ((B.turn i hlt v Y vs cn ac hV hF).1 s₅ G₅) (fun y s₆ ⟨S₆, G₆, X', hK6, hs6, hF6⟩ => ?_) fun _ _ x => x.elim
      have h2 : W C A (X' ++ (cn, .ns [(x, some v)]) :: (ac, .list vs) :: S₃) (call (.builtin "list.append") [.ref ac, y]) (fun _ S' => S' = (X' ++ (cn, .ns [(x, some v)]) :: (ac, .list (vs ++ [y])) :: S₃)) NoE := by
        refine .append (vs := vs) (S' := X' ++ (cn, .ns [(x, some v)]) :: (ac, .list (vs ++ [y])) :: S₃) ?_ rfl (by omega)
        clear hK6 hs6
        induction X' with
        | nil => exact .there .here
        | cons p Y ih => exact .there ih
      exact wpAny_mono (h2.1 s₆ (G₆.weaken hs6)) (fun _ s₇ ⟨S₇, G₇, e7⟩ => ⟨n - (i + 1), by omega, i + 1, rfl, hlt, X', some v, vs ++ [y], by simp [hvl], hK6, hF6, e7 ▸ G₇⟩) fun _ _ x => x.elim
    · obtain rfl : i = n := Nat.le_antisymm hi hge
      refine wpAny_mono ((I.stop X ((cn, .ns [(x, vx)]) :: (ac, .list vs) :: S₃) NoE hK' (B.dep [_, _])).1 s' G') (fun r s₄ ⟨S₄, G₄, e1, e2⟩ => ?_) fun _ _ x => x.elim
      subst e1 e2
      exact h ac cn _ vs s₄ hF G₄ hfr
  have pm : Good C A (X ++ (cn, .ns [(x, none)]) :: (ac, .list []) :: S₃) { s₂ with heap := h₁ } := by
    refine { G2 with sat := fun p hp => G2.sat p ?_, nodup := ?_, plain := fun p hp => G2.plain p (by simp only [List.mem_append, List.mem_cons] at hp ⊢; rcases hp with h | h | h | h <;> simp [h]) }
    · simp only [List.mem_append, List.mem_cons] at hp ⊢; rcases hp with h | h | h | h <;> simp [h]
    · have := G2.nodup
      refine List.Perm.nodup_iff (List.Perm.map _ ?_) |>.mp this
      show List.Perm ((cn, Cell.ns [(x, none)]) :: (ac, Cell.list []) :: (X ++ S₃)) _
      exact (List.perm_append_comm_assoc [_, _] X S₃)
  have pm' := pm.tok (s₂.toks + ([] : List (Str × Value)).length)
  refine codeAny_compStart_list (loop _ pm') ?_
  refine wpAny_mono ((B.self X _ hK (B.dep [_, _])).1 _ pm') (fun r s' ⟨S', G', e1, e2⟩ => ?_) fun _ _ x => x.elim
  subst e1 e2
  exact loop _ G'
theorem W.listComp {elt iter : Expr} {x : Str} {px pos : Pos} {scope : Scope} {cl : List (Str × Addr)} {Q : Value → St → Prop}
    (h : W C A S (eval iter env) (fun xv S₁ => W C A S₁ (pyIter xv) (fun it S₂ => ∃ n K D V X S₃ F, Iter C A it n K D V ∧ CompBody C A env scope cl elt x it n K V D S₃ F ∧ K 0 X ∧ (X ++ S₃).Sublist S₂ ∧ n ≤ 1000 ∧
      ∀ ac vs, F n vs → Q (.ref ac) ((ac, .list vs) :: S₃)) NoE) NoE)
    (hclos : closureFor scope env = Pure.pure cl := by rfl) (hcell : ∀ y ∈ scope.names, y.2 ≠ .cell := by decide) (hkind : scope.kind = .function := by rfl)
    (hnames : ∀ y ∈ scope.names, y.2 = .local → scope.names.lookup y.1 = some .local := by decide) (hx : scope.names.lookup x = some .local := by rfl)
    (hs : ∀ x, foldedSetIterable iter env x = Pure.pure x := by intro _; rfl) :
    W C A S (eval (.ListComp elt [⟨.Name x px, iter, [], 0⟩] scope pos) env) Q NoE := .intro fun s G => by
  rw [eval_ListComp]
  refine wpAny_comprehension_free (use := none) rfl hs hclos hkind hnames (wpAny_mono (h.1 s G) (fun xv s₁ ⟨S₁, G₁, h₁⟩ => wpAny_mono (h₁.1 s₁ G₁) (fun it s₂ ⟨S₂, G₂, h₂⟩ => ?_) fun _ _ e => e) fun _ _ e => e)
  obtain ⟨n, K, D, V, X, S₃, F, I, B, hK, hsub, hn, hQ⟩ := h₂
  refine compCore (RR := fun acc c => compPost (model C.prog C.w) A NoE none _ acc c) I B hK hsub hn hcell hkind hx G₂ fun ac cn l vs s' hF G' hfr => ?_
  have hsat := (G'.sat _ (.head _)).2.2.1
  exact ⟨_, hsat, fun h' hs' => ⟨_, G'.clear hfr hs', hQ ac vs hF⟩⟩
theorem W.sAssignComp {elt iter : Expr} {x y : Str} {px py pos spos : Pos} {scope : Scope} {cl : List (Str × Addr)} {Q : Flow → St → Prop}
    (h : W C A S (eval iter env) (fun xv S₁ => W C A S₁ (pyIter xv) (fun it S₂ => ∃ n K D V X S₃ F, Iter C A it n K D V ∧ CompBody C A env scope cl elt x it n K V D S₃ F ∧ K 0 X ∧ (X ++ S₃).Sublist S₂ ∧ n ≤ 1000 ∧
      ∀ ac cn l vs, F n vs → W C A ((cn, .ns l) :: (ac, .list vs) :: S₃) (storeName env y (.ref ac)) (fun _ S' => ∃ S'', ((cn, .ns l) :: S'').Sublist S' ∧ Q .next S'') NoE) NoE) NoE)
    (hsw : swapsWith (.ListComp elt [⟨.Name x px, iter, [], 0⟩] scope pos) (some (.Name y py)) spos.line env = Pure.pure true := by rfl)
    (hclos : closureFor scope env = Pure.pure cl := by rfl) (hcell : ∀ y ∈ scope.names, y.2 ≠ .cell := by decide) (hkind : scope.kind = .function := by rfl)
    (hnames : ∀ y ∈ scope.names, y.2 = .local → scope.names.lookup y.1 = some .local := by decide) (hx : scope.names.lookup x = some .local := by rfl)
    (hs : ∀ x, foldedSetIterable iter env x = Pure.pure x := by intro _; rfl) :
    W C A S (exec (.Assign [.Name y py] (.ListComp elt [⟨.Name x px, iter, [], 0⟩] scope pos) spos) env) Q NoE := .intro fun s G => by
  rw [exec_Assign_Name_used _ _ _ _ hsw]
  refine wpAny_bind (wpAny_standAt (wpAny_bind ?_))
  show wpAny _ A (do let _ ← comprehension (.ListComp elt [⟨.Name x px, iter, [], 0⟩] scope pos) scope env _ (newList []) false (eval iter env) (some (assign (.Name y py) env))) _ _ s
  refine wpAny_bind (wpAny_mono (wpAny_comprehension_free (use := some (assign (.Name y py) env)) (Q := fun _ s' => ∃ S', Good C A S' s' ∧ Q .next S') rfl hs hclos hkind hnames
    (wpAny_mono (h.1 s G) (fun xv s₁ ⟨S₁, G₁, h₁⟩ => wpAny_mono (h₁.1 s₁ G₁) (fun it s₂ ⟨S₂, G₂, h₂⟩ => ?_) fun _ _ e => e) fun _ _ e => e)) (fun _ s' hq => wpAny_pure (wpAny_pure hq)) fun _ _ e => e)
  obtain ⟨n, K, D, V, X, S₃, F, I, B, hK, hsub, hn, hQ⟩ := h₂
  refine compCore (RR := fun acc c => compPost (model C.prog C.w) A NoE (some (assign (.Name y py) env)) (fun _ s' => ∃ S', Good C A S' s' ∧ Q .next S') acc c) I B hK hsub hn hcell hkind hx G₂ fun ac cn l vs s' hF G' hfr => ?_
  show wpAny _ A (assign (.Name y py) env (.ref ac)) _ _ _
  refine wpAny_mono ((W.asName (hQ ac cn l vs hF)).1 s' G') (fun _ s₅ ⟨S₅, G₅, S'', hs5, hq⟩ => ?_) fun _ _ x => x
  have G6 := G₅.weaken hs5
  exact ⟨_, (G6.sat _ (.head _)).2.2.1, fun h' hs' => ⟨_, G6.clear hfr hs', hq⟩⟩
theorem Iter.selfL {it l : Addr} : ∀ X S, X = [(it, liCell l 0)] → W C A (X ++ S) (pyIter (.ref it)) (fun r S' => r = .ref it ∧ S' = X ++ S) NoE := fun X S hX => .intro fun s G => by
  subst hX
  have hit : s.heap.IsListIter it l 0 := (G.sat (it, liCell l 0) (.head _)).2.2
  exact wpAny_pyIter_listiter hit ⟨_, G, rfl, rfl⟩
theorem Iter.selfR {it : Addr} {a b c : Int} : ∀ X S, X = [(it, .obj (rngObj a b c))] → W C A (X ++ S) (pyIter (.ref it)) (fun r S' => r = .ref it ∧ S' = X ++ S) NoE := fun X S hX => .intro fun s G => by
  subst hX
  exact wpAny_pyIter_rangeiter (G.sat _ (.head _)).2.2 ⟨_, G, rfl, rfl⟩
end
end Mine
-- part B10
namespace Mine
open PySem PySem.Calls PySem.W PyProof.Rows
theorem bindL_local (kindOf : Str → Option NameKind) (binds : List (Str × Value)) (m : Str → Option Value) (h : ∀ x ∈ binds, kindOf x.1 = some .local) :
    bindL kindOf binds m = fun y => (binds.reverse.lookup y).or (m y) := by
  induction binds generalizing m with
  | nil => rfl
  | cons p r ih =>
    obtain ⟨n, v⟩ := p
    unfold bindL
    rw [if_pos (h _ (.head _)), ih _ fun x hx => h x (.tail _ hx)]
    funext y
    rw [List.reverse_cons]
    have e : ∀ (l : List (Str × Value)), (l ++ [(n, v)]).lookup y = (l.lookup y).or (if y = n then some v else none) := by
      intro l
      induction l with
      | nil =>
        show List.lookup y [(n, v)] = _
        rw [List.lookup_cons]
        by_cases hy : y = n
        · subst hy; simp
        · have : (y == n) = false := by simpa using hy
          rw [this, if_neg hy]; rfl
      | cons q l ih2 =>
        rw [List.cons_append, List.lookup_cons, List.lookup_cons]
        cases y == q.1 with
        | true => rfl
        | false => exact ih2
    rw [e, Option.or_assoc]
    congr 1
    by_cases hy : y = n
    · rw [if_pos hy, if_pos hy]; rfl
    · rw [if_neg hy, if_neg hy]; rfl
theorem bindC_local (kindOf : Str → Option NameKind) (binds : List (Str × Value)) (m : Str → Option Value) (h : ∀ x ∈ binds, kindOf x.1 = some .local) : bindC kindOf binds m = m := by
  induction binds generalizing m with
  | nil => rfl
  | cons p r ih =>
    obtain ⟨n, v⟩ := p
    unfold bindC
    rw [if_pos (h _ (.head _)), ih _ fun x hx => h x (.tail _ hx)]
theorem cellsFrom_keys (names : List (Str × NameKind)) (nd : (names.map (·.1)).Nodup) (n : Nat) (acc : List (Str × Addr)) (ha : ∀ p ∈ acc, p.1 ∉ names.map (·.1)) (hn : (acc.map (·.1)).Nodup) : ((cellsFrom n names acc).map (·.1)).Nodup := by
  induction names generalizing n acc with
  | nil => exact hn
  | cons p r ih =>
    obtain ⟨x, k⟩ := p
    have nd' := List.nodup_cons.mp nd
    unfold cellsFrom
    split
    · refine ih nd'.2 _ _ (fun p hp => ?_) ?_
      · rcases List.mem_cons.mp hp with rfl | hp
        · exact nd'.1
        · exact fun hm => ha p hp (List.mem_cons_of_mem _ hm)
      · refine List.nodup_cons.mpr ⟨fun hm => ?_, hn⟩
        obtain ⟨q, hq, e⟩ := List.mem_map.mp hm
        exact ha q hq (by rw [show q.1 = x from e]; exact .head _)
    · exact ih nd'.2 _ _ (fun p hp hm => ha p hp (List.mem_cons_of_mem _ hm)) hn
theorem lookup_of_nodup {l : List (Str × Addr)} (nd : (l.map (·.1)).Nodup) : ∀ {p}, p ∈ l → l.lookup p.1 = some p.2 := by
  induction l with
  | nil => intro p hp; cases hp
  | cons q l ih =>
    intro p hp
    have nd' := List.nodup_cons.mp nd
    rw [List.lookup_cons]
    rcases List.mem_cons.mp hp with rfl | hp
    · simp
    · have : (p.1 == q.1) = false := by
        simp only [beq_eq_false_iff_ne, ne_eq]
        intro e
        exact nd'.1 (List.mem_map.mpr ⟨p, hp, e⟩)
      rw [this]; exact ih nd'.2 hp
section
variable {α β : Type} {C : Cx} {A : Around} {S : St} {E : Value → Shared → Prop} {env : Env}
/-- a call of a def with cells (no parameter is one) -/
theorem W.callDefC {F : Addr} {fd : FuncData} {n : Nat} {body : List Stmt} {vals : List Value} {binds : List (Str × Value)} {Q : Value → St → Prop} (names others : List Str)
    (hF : FnIs C F fd) (R : Room A (n + 1)) (hbody : fd.body = .stmts body) (hbind : bindArgs fd ⟨vals, []⟩ = Pure.pure binds)
    (hloc : ∀ x ∈ names, fd.scope.names.lookup x = some .local) (hnd : (names ++ others).Nodup) (hnn : (fd.scope.names.map (·.1)).Nodup)
    (h : ∀ L, Room (A.deeper (callEnvC fd L F)) n → W C (A.deeper (callEnvC fd L F)) ((L, .ns (locals0 binds others)) :: ((cellsFrom (L + 1) fd.scope.names []).map (fun p => (p.2, Cell.cell none)) ++ S)) (execs body (callEnvC fd L F)) (fun fl S' => ∃ S'', S''.Sublist S' ∧ Q (retOf fl) S'') NoE)
    (hclo : fd.closure = [] := by rfl) (hco : fd.scope.isCoroutine = false := by rfl) (hgen : fd.scope.isGenerator = false := by rfl) (hk : fd.scope.kind = .function := by rfl) (hnm : binds.map (·.1) = names := by rfl) : W C A S (call (.ref F) vals) Q E := .intro fun s G => by
  subst hnm
  obtain ⟨⟨o, ho, hd⟩, hcd, hlim⟩ := hF
  have hl : ∀ x ∈ binds, fd.scope.names.lookup x.1 = some .local := fun x hx => hloc _ (List.mem_map.mpr ⟨x, hx, rfl⟩)
  refine wpAny_call (codeAny_call_cells (binds := binds) (body := body) (by have := R.depth; omega) (G.keep _ _ ho) hd (hlim.keeps G.keep) (hcd.keeps G.keep) hbody hbind hclo (fun x hx => .inl (hl x hx)) (fun s₁ X => ?_) hco hgen hk)
  have hA : ∃ fr, A.frames = some fr := let ⟨fr, e, _⟩ := G.frames; ⟨fr, e⟩
  have hkl : ∀ x ∈ binds, (callEnvC fd s.heap.objs.size F).kindOf x.1 = some .local := fun x hx => hl x hx
  rw [bindL_local _ _ _ hkl, bindC_local _ _ _ hkl] at X
  obtain ⟨⟨h', tk, rfl⟩, hns, kk, hfr⟩ := X.toInCall
  have hnk := cellsFrom_keys fd.scope.names hnn (s.heap.objs.size + 1) [] (by simp) (by simp)
  have G1 : Good C A (((s.heap.objs.size, .ns (locals0 binds others)) :: ((cellsFrom (s.heap.objs.size + 1) fd.scope.names []).map (fun p => (p.2, Cell.cell none)))) ++ S) { s with heap := h', toks := tk } := by
    refine G.news (s' := { s with heap := h', toks := tk }) kk (fun p hp => ?_) ?_ rfl G.gens ?_
    · have fr : ∀ b, s.heap.objs.size ≤ b → s.heap.get? b = none := fun b hb => by
        cases e : s.heap.get? b with
        | none => rfl
        | some o => exact absurd (Heap.lt_size e) (Nat.not_lt.mpr hb)
      rcases List.mem_cons.mp hp with rfl | hp
      · refine ⟨fr _ (Nat.le_refl _), ?_, ?_⟩
        · rw [mapOf_locals0 _ _ hnd]
          have e : (fun y => (binds.reverse.lookup y).or none) = fun y => binds.reverse.lookup y := by funext y; simp
          rw [← e]; exact hns
        · rw [locals0_keys]; exact hnd
      · obtain ⟨q, hq, rfl⟩ := List.mem_map.mp hp
        exact ⟨fr _ (Nat.le_of_lt (X.above q.1 q.2 hq)), X.cell q.1 q.2 (lookup_of_nodup hnk hq)⟩
    · refine List.nodup_cons.mpr ⟨fun hm => ?_, ?_⟩
      · obtain ⟨p, hp, e⟩ := List.mem_map.mp hm
        obtain ⟨q, hq, rfl⟩ := List.mem_map.mp hp
        exact absurd (X.above q.1 q.2 hq) (by rw [show q.2 = s.heap.objs.size from e]; exact Nat.lt_irrefl _)
      · rw [List.map_map]
        exact List.pairwise_map.mpr (X.apart.imp fun h => h)
    · intro p hp
      rcases List.mem_cons.mp hp with rfl | hp
      · trivial
      · obtain ⟨q, hq, rfl⟩ := List.mem_map.mp hp
        trivial
  refine wpAny_mono ((h _ R.deeper).1 _ (Good.enter (c := .cell none) G (env := callEnvC fd s.heap.objs.size F) rfl (by show fd.scope.kind ≠ _; rw [hk]; decide) G1 ⟨_, .head _⟩)) (fun fl s' ⟨S', G', S'', hs, q⟩ => ?_) (fun _ _ x => x.elim)
  exact ⟨S'', (G'.leave hA).weaken hs, q⟩
-- ints
theorem W.addI {a b : Int} {t u : Tok} {Q : Value → St → Prop} (h : ∀ t', Q (.int (a + b) t') S) : W C A S (binaryOp .Add (.int a t) (.int b u)) Q E := .intro fun s G => PyProof.Rows.add_int ⟨S, G.tok _, h _⟩
theorem W.subI {a b : Int} {t u : Tok} {Q : Value → St → Prop} (h : ∀ t', Q (.int (a - b) t') S) : W C A S (binaryOp .Sub (.int a t) (.int b u)) Q E := .intro fun s G => PyProof.Rows.sub_int ⟨S, G.tok _, h _⟩
theorem W.modI {a b : Int} {t u : Tok} {Q : Value → St → Prop} (hb : b ≠ 0) (h : ∀ t', Q (.int (a.fmod b) t') S) : W C A S (binaryOp .Mod (.int a t) (.int b u)) Q E := .intro fun s G => PyProof.Rows.mod_int hb ⟨S, G.tok _, h _⟩
theorem W.ltI {a b : Int} {t u : Tok} {Q : Value → St → Prop} (h : Q (.bool (decide (a < b))) S) : W C A S (compareOp .Lt (.int a t) (.int b u)) Q E := .intro fun s G => PyProof.Rows.lt_int ⟨S, G, h⟩
theorem W.gtI {a b : Int} {t u : Tok} {Q : Value → St → Prop} (h : Q (.bool (decide (b < a))) S) : W C A S (compareOp .Gt (.int a t) (.int b u)) Q E := .intro fun s G => PyProof.Rows.gt_int ⟨S, G, h⟩
theorem W.eqI {a b : Int} {t u : Tok} {Q : Value → St → Prop} (h : Q (.bool (decide (a = b))) S) : W C A S (compareOp .Eq (.int a t) (.int b u)) Q E := .intro fun s G => PyProof.Rows.eq_int ⟨S, G, by
  rw [show (a == b) = decide (a = b) from by rw [Bool.eq_iff_iff]; simp]; exact h⟩
theorem W.negI {a : Int} {t : Tok} {Q : Value → St → Prop} (h : ∀ t', Q (.int (-a) t') S) : W C A S (unaryOp .USub (.int a t)) Q E := .intro fun s G => PySem.P.neg_int ⟨S, G.tok _, h _⟩
theorem W.iaddI {a b : Int} {t u : Tok} {Q : Value → St → Prop} (h : ∀ t', Q (.int (a + b) t') S) : W C A S (inplaceOp .Add (.int a t) (.int b u)) Q E := .intro fun s G => PyProof.Rows.iadd_int ⟨S, G.tok _, h _⟩
end
end Mine
-- part B11
namespace Mine
open PySem PySem.Calls PySem.W PyProof.Rows
/-- items drawn into the list at ac, one by one -/
structure Pull (C : Cx) (A : Around) (I : Value) (ac : Addr) (n : Nat) (J : List Value → Nat → Shared → Prop) (P : Nat → Value → Prop) (Je : List Value → Shared → Prop) : Prop where
  item : ∀ acc i s, i < n → J acc i s → wpAny (model C.prog C.w) A.in1 (pyNext I) (fun r s' => ∃ v, r = some v ∧ P i v ∧ J acc (i + 1) s') NoE s
  stop : ∀ acc s, J acc n s → wpAny (model C.prog C.w) A.in1 (pyNext I) (fun r s' => r = none ∧ Je acc s') NoE s
  push : ∀ acc i s v, J acc i s → ∃ k, IsL s.heap ac acc.toArray k ∧ J (acc ++ [v]) i { s with heap := s.heap.update ac (Obj.mapSeq (·.push v)) }
theorem extendLoop {C : Cx} {A : Around} {I : Value} {ac : Addr} {n : Nat} {J : List Value → Nat → Shared → Prop} {P : Nat → Value → Prop} {Je : List Value → Shared → Prop} {R : Result → Shared → Prop} {res : Value}
    (PL : Pull C A I ac n J P Je) (hn : n ≤ 1000) (hR : ∀ acc s', acc.length = n → (∀ j v, acc[j]? = some v → P j v) → Je acc s' → R (.ok (.ret res)) s') :
    ∀ (k i : Nat) (acc : List Value) (s : Shared), n - i = k → i ≤ n → acc.length = i → (∀ j v, acc[j]? = some v → P j v) → J acc i s →
    codeAny (model C.prog C.w) A (.builtin "list.extend.loop" ⟨[.ref ac, I, res], []⟩) R s := by
  intro k
  induction k with
  | zero =>
    intro i acc s hk hi hl hP hJ
    have hin : i = n := by omega
    subst hin
    refine codeAny_builtin F.entry_extend_loop ?_
    rw [Around.under_plainId F.plain_extend_loop _]
    show wpAny _ A.in1 (pyNext I >>= _) _ _ s
    refine wpAny_bind (wpAny_mono (PL.stop acc s hJ) (fun r s' ⟨e, h⟩ => ?_) fun _ _ x => x.elim)
    subst e
    exact wpAny_pure (hR acc s' hl hP h)
  | succ k ih =>
    intro i acc s hk hi hl hP hJ
    refine codeAny_builtin F.entry_extend_loop ?_
    rw [Around.under_plainId F.plain_extend_loop _]
    show wpAny _ A.in1 (pyNext I >>= _) _ _ s
    refine wpAny_bind (wpAny_mono (PL.item acc i s (by omega) hJ) (fun r s' ⟨v, e, hv, h⟩ => ?_) fun _ _ x => x.elim)
    subst e
    obtain ⟨k', hl', hJ'⟩ := PL.push acc (i + 1) s' v h
    show wpAny _ A.in1 (updateSeq ac (·.push v) >>= _) _ _ _
    refine wpAny_bind (wpAny_updateSeq hl' rfl (wpAny_pure ⟨plainId_quiet F.plain_extend_loop _, ih (i + 1) (acc ++ [v]) _ (by omega) (by omega) (by simp [hl]) (fun j u hj => ?_) hJ'⟩) ?_ ?_)
    · rcases Nat.lt_or_ge j acc.length with h1 | h1
      · rw [List.getElem?_append_left h1] at hj; exact hP j u hj
      · rw [List.getElem?_append_right h1] at hj
        cases hj0 : j - acc.length with
        | zero => rw [hj0] at hj; simp at hj; subst hj; have : j = i := by omega
                  subst this; exact hv
        | succ m => rw [hj0] at hj; simp at hj
    · rw [sizeLine_eq]; simp; omega
    · rw [sizeLine_eq]; simp; omega
theorem extendWith_raw {C : Cx} {A : Around} {it T res : Value} {ac : Addr} {k : Nat} {R : Result → Shared → Prop} {s : Shared}
    (hty : ∀ {Q : Value → Shared → Prop} {E : Value → Shared → Prop}, Q T s → wpAny (model C.prog C.w) A.in1 (typeOf it) Q E s) (h1 : (T == .type "list") = false) (h2 : (T == .type "tuple") = false) (h3 : Builtin.List.listSameRef (.ref ac) it = false)
    (hit : wpAny (model C.prog C.w) A.in1 (pyIter it) (fun I s₁ => wpAny (model C.prog C.w) A.in1 (Builtin.List.listLengthHint it) (fun b s₂ =>
      ∃ k n J P Je, IsL s₂.heap ac #[] k ∧ Pull C A I ac n J P Je ∧ n ≤ 1000 ∧ J [] 0 s₂ ∧ J [] 0 { s₂ with heap := (s₂.heap.update ac (Obj.mapSeq (·.push .none))).update ac (Obj.mapSeq (·.pop)) } ∧
        ∀ acc s', acc.length = n → (∀ j v, acc[j]? = some v → P j v) → Je acc s' → R (.ok (.ret res)) s') NoE s₁) NoE s) :
    wpAny (model C.prog C.w) A.in1 (Builtin.List.listExtendWith (.ref ac) it res) (fun fin s' => match fin with | .done f => R (.ok f) s' | .again c' => c'.quiet = true ∧ codeAny (model C.prog C.w) A c' R s') (fun e s' => R (.error e) s') s := by
  unfold Builtin.List.listExtendWith
  refine wpAny_bind (hty ?_)
  simp only [h1, h2, h3, Bool.or_false, Bool.false_eq_true, if_false]
  refine wpAny_bind (wpAny_mono hit (fun I s₁ hI => ?_) fun _ _ x => x.elim)
  refine wpAny_bind (wpAny_holding (wpAny_mono hI (fun b s₂ ⟨k, n, J, P, Je, hl, PL, hn, hJ, hJ2, hR⟩ => ?_) fun _ _ x => x.elim))
  have fin : ∀ s₃, J [] 0 s₃ → wpAny (model C.prog C.w) A.in1 (again (.builtin "list.extend.loop" ⟨[.ref ac, I, res], []⟩)) (fun fin s' => match fin with | .done f => R (.ok f) s' | .again c' => c'.quiet = true ∧ codeAny (model C.prog C.w) A c' R s') (fun e s' => R (.error e) s') s₃ := fun s₃ h =>
    wpAny_pure ⟨plainId_quiet F.plain_extend_loop _, extendLoop PL hn hR n 0 [] s₃ rfl (Nat.zero_le _) rfl (fun j v hj => by simp at hj) h⟩
  split
  · refine wpAny_bind (wpAny_rule (wpAny_bind ?_))
    show wpAny _ A.in1 (updateSeq ac (·.push .none) >>= fun _ => updateSeq ac (·.pop)) _ _ _
    refine wpAny_bind (wpAny_updateSeq hl rfl ?_ (by rw [sizeLine_eq]; simp) (by rw [sizeLine_eq]; simp))
    exact wpAny_updateSeq (Heap.get?_update_self _ hl rfl) rfl (fin _ hJ2) (by rw [sizeLine_eq]; simp) (by rw [sizeLine_eq]; simp)
  · exact fin _ hJ
/-- what collect makes is a new list: its items -/
theorem collect_raw {C : Cx} {A : Around} {it T : Value} {Q : List Value → Shared → Prop} {s : Shared}
    (hty : ∀ s' {Q : Value → Shared → Prop} {E : Value → Shared → Prop}, (∀ b o, s.heap.get? b = some o → s'.heap.get? b = some o) → Q T s' → wpAny (model C.prog C.w) A.in1 (typeOf it) Q E s') (h1 : (T == .type "list") = false) (h2 : (T == .type "tuple") = false) (h3 : ∀ a, it = .ref a → a < s.heap.objs.size)
    (hit : wpAny (model C.prog C.w) A.in1 (pyIter it) (fun I s₁ => wpAny (model C.prog C.w) A.in1 (Builtin.List.listLengthHint it) (fun b s₂ =>
      ∃ k n J P Je, IsL s₂.heap s.heap.objs.size #[] k ∧ Pull C A I s.heap.objs.size n J P Je ∧ n ≤ 1000 ∧ J [] 0 s₂ ∧ J [] 0 { s₂ with heap := (s₂.heap.update s.heap.objs.size (Obj.mapSeq (·.push .none))).update s.heap.objs.size (Obj.mapSeq (·.pop)) } ∧
        ∀ acc s', acc.length = n → (∀ j v, acc[j]? = some v → P j v) → Je acc s' → (∃ k, IsL s'.heap s.heap.objs.size acc.toArray k) ∧ Q acc s') NoE s₁) NoE { s with heap := s.heap.push { cls := .type "list", data := .seq ([] : List Value).toArray } }) :
    wpAny (model C.prog C.w) A (collect it) Q NoE s := by
  unfold collect
  refine wpAny_bind (wpAny_runValue (codeAny_builtin F.entry_proto_collect ?_))
  rw [Around.under_plainId F.plain_proto_collect _]
  show wpAny _ A.in1 (newList [] >>= fun l => again (.builtin "list.__iadd__" ⟨[l, it], []⟩)) _ _ s
  refine wpAny_bind (wpAny_newObj_type ?_)
  refine wpAny_pure ⟨plainId_quiet F.plain_list_iadd _, codeAny_builtin F.entry_list_iadd ?_⟩
  rw [Around.under_plainId F.plain_list_iadd _]
  show wpAny _ A.in1 (Builtin.List.listExtendWith (.ref s.heap.objs.size) it (.ref s.heap.objs.size)) _ _ _
  have h3' : Builtin.List.listSameRef (.ref s.heap.objs.size) it = false := by
    cases it with
    | ref a => have := h3 a rfl; simp [Builtin.List.listSameRef]; exact fun e => absurd (e ▸ this) (Nat.lt_irrefl _)
    | _ => rfl
  refine wpAny_mono (extendWith_raw (C := C) (A := A) (R := fun r s' => ∃ acc k, r = .ok (.ret (.ref s.heap.objs.size)) ∧ IsL s'.heap s.heap.objs.size acc.toArray k ∧ Q acc s') (k := 0) (hty _ fun b o e => Heap.get?_push_of_some _ e) h1 h2 h3'
    (wpAny_mono hit (fun I s₁ h => wpAny_mono h (fun b s₂ ⟨k, n, J, P, Je, a1, a2, a3, a4, a5, a6⟩ => ⟨k, n, J, P, Je, a1, a2, a3, a4, a5, fun acc s' b1 b2 b3 => let ⟨⟨k, c1⟩, c2⟩ := a6 acc s' b1 b2 b3; ⟨acc, k, rfl, c1, c2⟩⟩) fun _ _ x => x) fun _ _ x => x)) (fun fin s' h => ?_) (fun e s' h => ?_)
  · cases fin with
    | done f =>
      obtain ⟨acc, k, e, hl, hq⟩ := h
      cases e
      show wpAny _ A (load s.heap.objs.size >>= _) _ _ s'
      refine wpAny_bind (wpAny_load hl ?_)
      have : acc = acc.toArray.toList := by simp
      exact wpAny_pure (by rw [this] at hq; exact hq)
    | again c =>
      refine ⟨h.1, codeAny_mono h.2 fun r s'' ⟨acc, k, e, hl, hq⟩ => ?_⟩
      subst e
      show wpAny _ A (load s.heap.objs.size >>= _) _ _ s''
      refine wpAny_bind (wpAny_load hl ?_)
      have : acc = acc.toArray.toList := by simp
      exact wpAny_pure (by rw [this] at hq; exact hq)
  · obtain ⟨acc, k, e, _⟩ := h
    cases e
end Mine
-- part B12
namespace Mine
open PySem PySem.Calls PySem.W PyProof.Rows
theorem Good.perm {C : Cx} {A : Around} {S S' : St} {s : Shared} (G : Good C A S s) (h : S.Perm S') : Good C A S' s :=
  { G with sat := fun p hp => G.sat p (h.mem_iff.mpr hp), nodup := (List.Perm.nodup_iff (h.map _)).mp G.nodup, plain := fun p hp => G.plain p (h.mem_iff.mpr hp) }
def IsLst (s : Shared) (ac : Addr) (acc : List Value) : Prop := ∃ k, IsL s.heap ac acc.toArray k
def genCode (elt iter : Expr) (x : Str) (px pos : Pos) (scope : Scope) (it : Value) (cenv : Env) : Code := .compLoop (.GeneratorExp elt [⟨.Name x px, iter, [], 0⟩] scope pos) 0 it .none cenv
theorem over_gen (A : Around) (elt iter : Expr) (x : Str) (px pos : Pos) (scope : Scope) (it : Value) (cenv : Env) : A.over (genCode elt iter x px pos scope it cenv) [] = A.deeper cenv := by
  rfl
/-- the turns of a generator expression, drawn into the list at ac; a is the generator, cn its variables -/
structure GenBody (C : Cx) (A : Around) (cenv : Env) (elt : Expr) (x : Str) (cn : Addr) (it : Value) (n : Nat) (K : Nat → St → Prop) (V : Nat → Value → St → Prop) (D : St → Prop) (T : Nat → St → Prop) (P : Nat → Value → Prop) : Prop where
  dep : ∀ i S Z, T i S → D (Z ++ S)
  self : ∀ X S, K 0 X → D S → W C A (X ++ S) (pyIter it) (fun r S' => r = it ∧ S' = X ++ S) NoE
  turn : ∀ i, i < n → ∀ v Y acc ac a go S, V i v Y → T i S → W C A (Y ++ (cn, .ns [(".0", some it), (x, some v)]) :: (ac, .list acc) :: (a, .obj go) :: S) (eval elt cenv)
    (fun y S' => P i y ∧ ∃ X S₄, K (i + 1) X ∧ T (i + 1) S₄ ∧ (X ++ (cn, .ns [(".0", some it), (x, some v)]) :: (ac, .list acc) :: (a, .obj go) :: S₄).Sublist S') NoE
def genR (C : Cx) (A : Around) (ac a : Addr) (go : Obj) (n : Nat) (T : Nat → St → Prop) : GenEnd := fun m s₀ r s₁ =>
  r = .ok .next ∧ (m = 0 ∧ ∀ acc, IsLst s₀ ac acc → ∃ S, T n S ∧ Good C A ((ac, .list acc) :: (a, .obj go) :: S) s₁)
def genY (C : Cx) (A : Around) (ac a cn : Addr) (go : Obj) (n : Nat) (P : Nat → Value → Prop) : Protocol := fun m s₀ v s kap =>
  ∃ i, m = n - i - 1 ∧ i < n ∧ P i v ∧ ∃ S₁, (∃ l, (cn, Cell.ns l) ∈ S₁) ∧ (∀ acc, IsLst s₀ ac acc → Good C A ((ac, .list acc) :: (a, .obj go) :: S₁) s) ∧
    ∀ acc s'', Good C A ((ac, .list acc) :: (a, .obj go) :: S₁) s'' → kap (.send .none) s''
theorem IsLst.eq {s : Shared} {ac : Addr} {x y : List Value} (h : IsLst s ac x) (g : IsLst s ac y) : x = y := by
  obtain ⟨k, h⟩ := h
  obtain ⟨j, g⟩ := g
  have := (show s.heap.get? ac = _ from h).symm.trans g
  have h := this
  simp at h
  exact h.1
theorem Good.isLst {C : Cx} {A : Around} {S : St} {s : Shared} {ac : Addr} {acc : List Value} (G : Good C A S s) (h : (ac, Cell.list acc) ∈ S) : IsLst s ac acc := (G.sat _ h).2.2
section
variable {C : Cx} {A : Around} {elt iter : Expr} {x : Str} {px pos : Pos} {scope : Scope} {it : Value} {cenv : Env} {cn ac a : Addr} {go : Obj} {n : Nat} {K : Nat → St → Prop} {V : Nat → Value → St → Prop} {D : St → Prop} {T : Nat → St → Prop} {P : Nat → Value → Prop}
theorem seg_gen (I : Iter C (A.deeper cenv) it n K D V) (B : GenBody C (A.deeper cenv) cenv elt x cn it n K V D T P) (hcn : cenv.locals = cn) (hx : cenv.kindOf x = some .local) (hk : cenv.scope.kind = .function) (hco : cenv.scope.isCoroutine = false) (hx0 : x ≠ ".0") :
    ∀ (k i : Nat), n - i = k → i ≤ n → ∀ acc X vx S s₀ s, K i X → T i S → IsLst s₀ ac acc → Good C (A.deeper cenv) (X ++ (cn, .ns [(".0", some it), (x, vx)]) :: (ac, .list acc) :: (a, .obj go) :: S) s →
      Seg (model C.prog C.w) A (genR C (A.deeper cenv) ac a go n T) (genY C (A.deeper cenv) ac a cn go n P) k s₀ (genCode elt iter x px pos scope it cenv) ((model C.prog C.w).den (genCode elt iter x px pos scope it cenv)) [] s := by
  intro k
  induction k with
  | zero =>
    intro i hk' hi acc X vx S s₀ s hK hT hacc G
    have hin : i = n := by omega
    subst hin
    show Seg _ A _ _ _ s₀ _ ((compTurn (.GeneratorExp elt [⟨.Name x px, iter, [], 0⟩] scope pos) 0 it .none cenv).onRaise (leaving cenv)) [] s
    rw [compTurn_gen, Sem.onRaise_eq_wrap]
    refine seg_bind_wrap (wpAny_standAt ?_)
    refine seg_bind_wrap ?_
    rw [over_gen]
    refine wpAny_mono ((I.stop X _ NoE hK (B.dep _ S [_, _, _] hT)).1 s G) (fun r s₁ ⟨S₁, G₁, e1, e2⟩ => ?_) fun _ _ x => x.elim
    subst e1 e2
    refine seg_end (.ok .next) ⟨rfl, rfl, fun acc' ha' => ⟨S, hT, ?_⟩⟩
    rw [ha'.eq hacc]
    exact G₁.weaken (List.sublist_cons_self _ _)
  | succ k ih =>
    intro i hk' hi acc X vx S s₀ s hK hT hacc G
    have hlt : i < n := by omega
    show Seg _ A _ _ _ s₀ _ ((compTurn (.GeneratorExp elt [⟨.Name x px, iter, [], 0⟩] scope pos) 0 it .none cenv).onRaise (leaving cenv)) [] s
    rw [compTurn_gen, Sem.onRaise_eq_wrap]
    refine seg_bind_wrap (wpAny_standAt ?_)
    refine seg_bind_wrap ?_
    rw [over_gen]
    refine wpAny_mono ((I.item i hlt X _ NoE hK (B.dep _ S [_, _, _] hT)).1 s G) (fun r s₁ ⟨S₁, G₁, v, Y, e1, hV, e2⟩ => ?_) fun _ _ x => x.elim
    subst e1 e2
    have hgo : letOwnedTupleGo (.Name x px) it v = Pure.pure () := rfl
    refine seg_bind_wrap ?_
    rw [over_gen]
    refine wpAny_of_eq hgo ?_
    refine seg_bind_wrap ?_
    rw [over_gen]
    have h1 : W C (A.deeper cenv) (Y ++ (cn, .ns [(".0", some it), (x, vx)]) :: (ac, .list acc) :: (a, .obj go) :: S) (assign (.Name x px) cenv v) (fun _ S' => S' = (Y ++ (cn, .ns [(".0", some it), (x, some v)]) :: (ac, .list acc) :: (a, .obj go) :: S)) NoE := by
      refine .asName (.stl (l := [(".0", some it), (x, vx)]) (l' := [(".0", some it), (x, some v)]) (S' := Y ++ (cn, .ns [(".0", some it), (x, some v)]) :: (ac, .list acc) :: (a, .obj go) :: S) ?_ (.there .here) rfl hk hx)
      rw [hcn]
      clear hV G₁
      induction Y with
      | nil => exact .here
      | cons p Y ih => exact .there ih
    refine wpAny_mono (h1.1 s₁ G₁) (fun _ s₂ ⟨S₂, G₂, e2⟩ => ?_) fun _ _ x => x.elim
    subst e2
    refine seg_bind_wrap ?_
    rw [over_gen]
    show wpAny _ _ (forIn [] true _) _ _ _
    refine wpAny_pure ?_
    simp only [if_true]
    have hy : ∀ v, yieldOut cenv v = yieldValue v := fun v => by simp only [yieldOut, hco, Bool.false_eq_true, if_false]
    simp only [hy]
    rw [Sem.bind_eq_wrap', Sem.bind_eq_wrap', Sem.wrap_wrap, Sem.wrap_wrap]
    refine seg_wrap ?_
    rw [over_gen]
    refine wpAny_mono ((B.turn i hlt v Y acc ac a go S hV hT).1 s₂ G₂) (fun y s₃ ⟨S₃, G₃, hP, X', S₄, hK', hT', hs⟩ => ?_) fun _ _ x => x.elim
    have G₄ := G₃.weaken hs
    refine seg_at (seg_yield rfl rfl rfl ⟨i, by omega, hlt, hP, X' ++ (cn, .ns [(".0", some it), (x, some v)]) :: S₄, ⟨_, List.mem_append_right _ (.head _)⟩, fun acc' ha' => ?_, fun acc' s'' G' => ?_⟩)
    · rw [ha'.eq hacc]
      refine G₄.perm ?_
      have := (List.perm_append_comm_assoc [(ac, Cell.list acc), (a, Cell.obj go)] (X' ++ [(cn, Cell.ns [(".0", some it), (x, some v)])]) S₄)
      simp only [List.append_assoc, List.cons_append, List.nil_append, List.singleton_append] at this ⊢
      exact this.symm
    · have G'' : Good C (A.deeper cenv) (X' ++ (cn, .ns [(".0", some it), (x, some v)]) :: (ac, .list acc') :: (a, .obj go) :: S₄) s'' := by
        refine G'.perm ?_
        have := (List.perm_append_comm_assoc [(ac, Cell.list acc'), (a, Cell.obj go)] (X' ++ [(cn, Cell.ns [(".0", some it), (x, some v)])]) S₄)
        simp only [List.append_assoc, List.cons_append, List.nil_append, List.singleton_append] at this ⊢
        exact this
      exact seg_again rfl (ih (i + 1) (by omega) hlt acc' X' (some v) S₄ s'' s'' hK' hT' (G''.isLst (List.mem_append_right _ (.tail _ (.head _)))) G'')
theorem seg_genStart (I : Iter C (A.deeper cenv) it n K D V) (B : GenBody C (A.deeper cenv) cenv elt x cn it n K V D T P) (hcn : cenv.locals = cn) (hx : cenv.kindOf x = some .local) (hk : cenv.scope.kind = .function) (hco : cenv.scope.isCoroutine = false) (hx0 : x ≠ ".0")
    (acc X vx S s₀ s) (hK : K 0 X) (hT : T 0 S) (hacc : IsLst s₀ ac acc) (G : Good C (A.deeper cenv) (X ++ (cn, .ns [(".0", some it), (x, vx)]) :: (ac, .list acc) :: (a, .obj go) :: S) s) :
      Seg (model C.prog C.w) A (genR C (A.deeper cenv) ac a go n T) (genY C (A.deeper cenv) ac a cn go n P) n s₀ (.compStart (.GeneratorExp elt [⟨.Name x px, iter, [], 0⟩] scope pos) 0 it .none cenv)
        ((model C.prog C.w).den (.compStart (.GeneratorExp elt [⟨.Name x px, iter, [], 0⟩] scope pos) 0 it .none cenv)) [] s := by
  have loop := fun s₁ (G₁ : Good C (A.deeper cenv) (X ++ (cn, .ns [(".0", some it), (x, vx)]) :: (ac, .list acc) :: (a, .obj go) :: S) s₁) => seg_gen (iter := iter) (px := px) (pos := pos) (scope := scope) I B hcn hx hk hco hx0 n 0 (Nat.sub_zero _) (Nat.zero_le _) acc X vx S s₀ s₁ hK hT hacc G₁
  show Seg _ A _ _ _ s₀ _ ((compStart (.GeneratorExp elt [⟨.Name x px, iter, [], 0⟩] scope pos) 0 it .none cenv).onRaise (leaving cenv)) [] s
  unfold compStart
  rw [Sem.onRaise_eq_wrap]
  have ov : A.over (.compStart (.GeneratorExp elt [⟨.Name x px, iter, [], 0⟩] scope pos) 0 it .none cenv) [] = A.deeper cenv := rfl
  have self := (B.self X _ hK (B.dep _ S [_, _, _] hT)).1 s G
  have hs := wpAny_mono (Q' := fun r s' => Seg (model C.prog C.w) A (genR C (A.deeper cenv) ac a go n T) (genY C (A.deeper cenv) ac a cn go n P) n s₀ (.compStart (.GeneratorExp elt [⟨.Name x px, iter, [], 0⟩] scope pos) 0 it .none cenv) (.pure (.again (.compLoop (.GeneratorExp elt [⟨.Name x px, iter, [], 0⟩] scope pos) 0 r .none cenv))) [] s') (E' := NoE) self (fun r s' ⟨S', G', e1, e2⟩ => by subst e1 e2; exact seg_again rfl (loop s' G')) fun _ _ x => x
  show Seg _ A _ _ _ s₀ _ ((ask >>= _).wrap _ _ _ _) [] s
  refine seg_bind_wrap (wpAny_askSetting ?_)
  split
  · exact seg_again rfl (loop s G)
  · refine seg_bind_wrap (wpAny_rule ?_)
    show Seg _ A _ _ _ s₀ _ ((standAt iter.pos >>= _).wrap _ _ _ _) [] s
    refine seg_bind_wrap (wpAny_standAt ?_)
    refine seg_bind_wrap ?_
    rw [ov]
    exact wpAny_mono hs (fun r s' h => h) fun _ _ x => x.elim
end
end Mine
-- part B13
namespace Mine
open PySem PySem.Calls PySem.W PyProof.Rows
/-- the module's own built-ins entry -/
def HasBuiltins (C : Cx) : Prop := ∃ mg bm ob, C.base.Ns mainGlobals mg ∧ mg "__builtins__" = some (.ref bm) ∧ bm ≠ builtinsNs ∧ C.base.get? bm = some ob ∧ ob.cls = .type "module" ∧ ob.dict = some builtinsNs ∧ ob.data = .plain
/-- c is a code whose places lie at P -/
structure Host (C : Cx) (c P : Addr) (pos : Pos) (qual : Str) : Prop where
  hd : CodeHd C.base c P
  qs : ∃ qs, (P, qs) ∈ C.tabs ∧ (pos, qual) ∈ qs
  own : ∀ x ∈ C.tabs, x.1 = P → ∀ y ∈ x.2, y.1.line = pos.line → y.1.col = pos.col → y.2 = qual
theorem codeAmong_ne {pos p : Pos} {c : Value} (l : List Value) (h : TriplesOk l) (hne : ¬ (pos.line = p.line ∧ pos.col = p.col)) : codeAmong p (l ++ [rawInt pos.line, rawInt pos.col, c]) = codeAmong p l := by
  fun_induction TriplesOk l with
  | case1 =>
    show codeAmong p [rawInt pos.line, rawInt pos.col, c] = none
    simp only [rawInt, codeAmong]
    rw [if_neg]
    simp only [Bool.and_eq_true, beq_iff_eq, Int.ofNat_inj, not_and]
    intro h1 h2
    exact hne ⟨by omega, by omega⟩
  | case2 a t b u x rest ih =>
    simp only [List.cons_append, codeAmong]
    split
    · rfl
    · exact ih h
  | case3 => exact h.elim
theorem codeAmong_same {pos p : Pos} {l : List Value} (h1 : p.line = pos.line) (h2 : p.col = pos.col) : codeAmong p l = codeAmong pos l := by
  fun_induction codeAmong p l with
  | case1 a t b u c rest h => simp only [codeAmong]; rw [if_pos (by rw [← h1, ← h2]; exact h)]
  | case2 a t b u c rest h ih => simp only [codeAmong]; rw [if_neg (by rw [← h1, ← h2]; exact h)]; exact ih
  | case3 => unfold codeAmong; split <;> first | rfl | (rename_i h; exact absurd rfl (h _ _ _ _ _ _))
section
variable {α β : Type} {C : Cx} {A : Around} {S : St} {E : Value → Shared → Prop} {env : Env}
theorem Good.tabGrow {s : Shared} {P : Addr} {qs : List (Pos × Str)} {ps : Array Value} {pos : Pos} {qual : Str} {c' : Addr} {h' : Heap} {tk : Tok} (G : Good C A S s) (hP : (P, qs) ∈ C.tabs) (hps : s.heap.get? P = some (tabObj ps)) (ht : TriplesOk ps.toList)
    (hx : Heap.ExtBut P s.heap h') (hg : h'.get? P = some (tabObj (ps ++ #[rawInt pos.line, rawInt pos.col, .ref c']))) (hnf : codeAmong pos ps.toList = none) (hc : CodeC h' (.ref c') qual) (hq : ∀ x ∈ C.tabs, x.1 = P → ∀ y ∈ x.2, y.1.line = pos.line → y.1.col = pos.col → y.2 = qual) : Good C A S { s with heap := h', toks := tk } := by
  have nP := (G.tabs _ hP).1
  have kc : ∀ cd q, CodeC s.heap cd q → CodeC h' cd q := fun cd q ⟨cc, o, vs, t, q1, q2, q0, q3, q4⟩ => ⟨cc, o, vs, t, q1, hx _ _ (fun e => by
    rw [e, hps] at q2; cases q2; cases q0) q2, q0, q3, q4⟩
  refine ⟨fun b o e => hx b o (fun q => by rw [q, nP] at e; cases e) (G.keep b o e), G.os, G.gens, fun x hx' => ⟨(G.tabs x hx').1, ?_⟩, ?_, fun p hp => ?_, G.nodup, G.plain⟩
  · obtain ⟨ps', e, t, r⟩ := (G.tabs x hx').2
    by_cases hxP : x.1 = P
    · rw [hxP, hps] at e
      cases e
      refine ⟨_, by rw [hxP]; exact hg, ?_, fun y hy c hc' => ?_⟩
      · have : (ps ++ #[rawInt pos.line, rawInt pos.col, Value.ref c']).toList = ps.toList ++ [rawInt pos.line, rawInt pos.col, .ref c'] := by simp
        rw [this]; exact TriplesOk_snoc _ _ _ _ ht
      · have : (ps ++ #[rawInt pos.line, rawInt pos.col, Value.ref c']).toList = ps.toList ++ [rawInt pos.line, rawInt pos.col, .ref c'] := by simp
        rw [this] at hc'
        by_cases hyp : pos.line = y.1.line ∧ pos.col = y.1.col
        · rw [codeAmong_same hyp.1.symm hyp.2.symm, codeAmong_snoc _ ht hnf] at hc'
          cases hc'
          rw [hq x hx' hxP y hy hyp.1.symm hyp.2.symm]; exact hc
        · rw [codeAmong_ne _ ht hyp] at hc'
          exact kc _ _ (r y hy c hc')
    · exact ⟨ps', hx _ _ hxP e, t, fun y hy c hc' => kc _ _ (r y hy c hc')⟩
  · obtain ⟨fr, e, f⟩ := G.frames
    refine ⟨fr, e, fun env he => ?_⟩
    obtain ⟨a1, L, o, es, ep, b1, c1, d1, e1⟩ := f env he
    exact ⟨a1, L, o, es, ep, b1, c1, hx _ _ (fun q => by rw [q, hps] at d1; cases d1; cases e1) d1, e1⟩
  · obtain ⟨x1, x2, x3⟩ := G.sat p hp
    exact ⟨x1, x2, x3.at (fun o e => hx _ _ (x2 _ hP) e) kc⟩
theorem Good.lam {s : Shared} (G : Good C A S s) {a : Addr} {fd : FuncData} {h' : Heap} {tk : Tok} (G' : Good C A S { s with heap := h', toks := tk }) (hc : CodeC h' fd.code fd.qualname) : Good C A ((h'.objs.size, .fn fd) :: S) { s with heap := h'.push (fnObj fd), toks := tk } :=
  G'.new (c := .fn fd) (fun b o e => Heap.get?_push_of_some _ e) (fresh_none _) ⟨Heap.get?_push_size _ rfl, hc.keeps fun b o e => Heap.get?_push_of_some _ e⟩ rfl G.gens
/-- the code of a place in a code's table, made or met -/
theorem genCodeW {c P : Addr} {pos : Pos} {qual : Str} {scope : Scope} (H : Host C c P pos qual) (hc : env.code = .ref c) {s : Shared} (G : Good C A S s) {Q : Value → Shared → Prop}
    (h : ∀ cv h' tk, Good C A S { s with heap := h', toks := tk } → Q cv { s with heap := h', toks := tk }) : wpAny (model C.prog C.w) A (genexprCode env pos qual scope) Q E s := by
  obtain ⟨qs, hP, hm⟩ := H.qs
  obtain ⟨ps, e, t, r⟩ := (G.tabs _ hP).2
  have CH : CodeHd s.heap c P := H.hd.keeps G.keep
  cases hf : codeAmong pos ps.toList with
  | some cv => exact wpAny_genexprCode_hit hc (CH.code e t) hf (h cv s.heap s.toks G)
  | none =>
    refine wpAny_genexprCodeX hc (CH.code e t) (CH.tab e) hf fun c' h' tk hx hge hlt _ hrec htb htb' => h _ h' tk ?_
    refine G.tabGrow hP e t hx htb.2 hf ?_ H.own
    obtain ⟨P', _, _, htb''⟩ := htb'
    obtain ⟨⟨o, vs, e1, e2, e3, _⟩, _⟩ := htb''
    obtain ⟨cc, o', vs', t', q1, q2, q3, q4⟩ := hrec
    cases q1
    rw [e1] at q2; cases q2
    rw [e3] at q3; cases q3
    exact ⟨c', o, vs, t', rfl, e1, e2, e3, q4⟩
theorem builtinsW (HB : HasBuiltins C) {s : Shared} (G : Good C A S s) {Q : Addr → Shared → Prop} {g b : Addr} (hg : g = mainGlobals) (h : Q builtinsNs s) : wpAny (model C.prog C.w) A (builtinsFor g b) Q E s := by
  obtain ⟨mg, bm, ob, h1, h2, h3, h4, h5, h6, h7⟩ := HB
  exact wpAny_builtinsFor (hg ▸ h1.keeps G.keep) h2 h3 (G.keep _ _ h4) h5 h6 h7 h
/-- a lambda is made -/
theorem W.lambda {name qual : Str} {params : Arguments} {body : Expr} {scope : Scope} {c P : Addr} {pos : Pos} {firstLine : Nat} {clos : List (Str × Addr)} {Q : Value → St → Prop} (H : Host C c P pos qual) (HB : HasBuiltins C) (hcode : env.code = .ref c) (hcl : closureFor scope env = Pure.pure clos) (hge0 : env.globals = mainGlobals) (hnP : P ≠ mainGlobals)
    (h : ∀ f fd, fd.params = params → fd.body = .expr body → fd.scope = scope → fd.closure = clos → fd.globals = mainGlobals → fd.builtins = builtinsNs → fd.qualname = qual → fd.defaults = .none → fd.kwdefaults = .none → Q (.ref f) ((f, .fn fd) :: S)) : W C A S (makeTail name qual params (.expr body) scope env .none .none none pos firstLine) Q E := .intro fun s G => by
  obtain ⟨qs, hP, hm⟩ := H.qs
  obtain ⟨ps, e, t, r⟩ := (G.tabs _ hP).2
  have nP := (G.tabs _ hP).1
  have CH : CodeHd s.heap c P := H.hd.keeps G.keep
  obtain ⟨mg, bm, ob, h1, h2, h3, h4, h5, h6, h7⟩ := HB
  have hg := h1.keeps G.keep
  unfold makeTail
  rw [hcl, hge0]
  refine wpAny_bind (wpAny_pure ?_)
  have done : ∀ (cv ctv : Value) (h' : Heap) (tk : Tok), Good C A S { s with heap := h', toks := tk } → CodeC h' cv qual → wpAny (model C.prog C.w) A (builtinsFor mainGlobals env.builtins >>= fun bi => nsGet mainGlobals "__name__" >>= fun pm => Pure.pure Value.none >>= fun doc =>
      newObj (.type "function") (.func { name, qualname := qual, params, body := .expr body, scope, globals := mainGlobals, closure := clos, defaults := .none, kwdefaults := .none, doc, pyModule := pm.getD .none, annotations := none, code := cv, closureTuple := ctv, builtins := bi })) (fun v s' => ∃ S', Good C A S' s' ∧ Q v S') E { s with heap := h', toks := tk } := by
    intro cv ctv h' tk G' hcv
    refine wpAny_bind (wpAny_builtinsFor (h1.keeps G'.keep) h2 h3 (G'.keep _ _ h4) h5 h6 h7 ?_)
    refine wpAny_bind (wpAny_nsGet (h1.keeps G'.keep) ?_)
    refine wpAny_bind (wpAny_pure ?_)
    exact wpAny_newObj_type ⟨_, Good.lam (a := h'.objs.size) G (fd := { name, qualname := qual, params, body := .expr body, scope, globals := mainGlobals, closure := clos, defaults := .none, kwdefaults := .none, doc := .none, pyModule := (mg "__name__").getD .none, annotations := none, code := cv, closureTuple := ctv, builtins := builtinsNs }) G' hcv, h _ _ rfl rfl rfl rfl rfl rfl rfl rfl rfl⟩ (by size_fits)
  have code : ∀ (s₁ : Shared) (ctv : Value), (∃ h₁ tk₁, s₁ = { s with heap := h₁, toks := tk₁ }) → Good C A S s₁ → s₁.heap.get? P = some (tabObj ps) → wpAny (model C.prog C.w) A (functionCode env pos firstLine name qual params scope (.expr body) >>= fun cv => builtinsFor mainGlobals env.builtins >>= fun bi => nsGet mainGlobals "__name__" >>= fun pm => Pure.pure Value.none >>= fun doc =>
      newObj (.type "function") (.func { name, qualname := qual, params, body := .expr body, scope, globals := mainGlobals, closure := clos, defaults := .none, kwdefaults := .none, doc, pyModule := pm.getD .none, annotations := none, code := cv, closureTuple := ctv, builtins := bi })) (fun v s' => ∃ S', Good C A S' s' ∧ Q v S') E s₁ := by
    rintro s₁ ctv ⟨h₁, tk₁, rfl⟩ G₁ e₁
    have CH : CodeHd h₁ c P := H.hd.keeps G₁.keep
    cases hf : codeAmong pos ps.toList with
    | some cv =>
      obtain ⟨ps', e', t', r'⟩ := (G₁.tabs _ hP).2
      have e'' : h₁.get? P = some (tabObj ps') := e'
      rw [show h₁.get? P = _ from e₁] at e''
      cases e''
      exact wpAny_bind (wpAny_functionCode_hit hcode (CH.code e₁ t) hf (done cv ctv h₁ tk₁ G₁ (r' _ hm _ hf)))
    | none =>
      refine wpAny_bind (wpAny_functionCodeX hcode (CH.code e₁ t) (CH.tab e₁) hf fun c' h' tk hx hge hlt _ hrec htb htb' => ?_)
      have hcc : CodeC h' (.ref c') qual := by
        obtain ⟨P', _, _, htb''⟩ := htb'
        obtain ⟨⟨o, vs, e1, e2, e3, _⟩, _⟩ := htb''
        obtain ⟨cc, o', vs', t', q1, q2, q3, q4⟩ := hrec
        cases q1
        rw [e1] at q2; cases q2
        rw [e3] at q3; cases q3
        exact ⟨c', o, vs, t', rfl, e1, e2, e3, q4⟩
      exact done _ ctv h' tk (G₁.tabGrow (tk := tk) hP e₁ t hx htb.2 hf hcc H.own) hcc
  cases clos with
  | nil =>
    simp only [List.isEmpty_nil, if_true]
    refine wpAny_bind (wpAny_pure ?_)
    exact code s .none ⟨_, _, rfl⟩ G e
  | cons q r =>
    simp only [List.isEmpty_cons, Bool.false_eq_true, if_false]
    refine wpAny_bind (wpAny_newTextTuple ?_)
    exact code _ _ ⟨_, _, rfl⟩ (G.grow (fun b o e => Heap.get?_push_of_some _ e) rfl G.gens) (Heap.get?_push_of_some _ e)
end
end Mine
-- part B14
namespace Mine
open PySem PySem.Calls PySem.W PyProof.Rows
def genObj (go : Obj) (g : Nat) : Prop := ∃ nm qn, go.cls = .type "generator" ∧ go.data = .fields #[.int g 0, nm, qn] ∧ go.slots = #[]
abbrev Cx.at (C : Cx) (m : Nat) : Cx := { C with ng := m }
abbrev Around.in3 (A : Around) : Around := A.in1.in1.in1
/-- a generator at a, not yet drawn from, with what it rests on -/
def GenReady (C : Cx) (A : Around) (a : Addr) (n : Nat) (T : Nat → St → Prop) (P : Nat → Value → Prop) (s : Shared) : Prop :=
  ∃ g go cn S₁ gs cenv, Good C A ((a, .obj go) :: S₁) s ∧ (∃ l, (cn, Cell.ns l) ∈ S₁) ∧ genObj go g ∧ C.ng ≤ g ∧ s.gens[g]? = some gs ∧ cenv.frame = some cn ∧ cenv.scope.kind ≠ .module ∧
    ∀ ac acc s'', Good (C.at (g + 1)) ((Around.in3 A).deeper cenv) ((ac, .list acc) :: (a, .obj go) :: S₁) s'' →
      gs.Goes (model C.prog C.w) (Around.in3 A) (genR (C.at (g + 1)) ((Around.in3 A).deeper cenv) ac a go n T) (genY (C.at (g + 1)) ((Around.in3 A).deeper cenv) ac a cn go n P) n (.send .none) s''
section
variable {α β : Type} {C : Cx} {A : Around} {S : St} {E : Value → Shared → Prop} {env : Env}
theorem Good.raise {m : Nat} {A' : Around} {s s' : Shared} {cenv : Env} {cn : Addr} (G : Good C A S s) (hA : A'.frames = A.frames) (hf : cenv.frame = some cn) (hk : cenv.scope.kind ≠ .module) (hcn : ∃ l, (cn, Cell.ns l) ∈ S) (hs : s'.heap = s.heap) (ho : s'.os = s.os) (hg : AllBare s'.gens) (hm : m ≤ s'.gens.size) :
    Good (C.at m) (A'.deeper cenv) S s' where
  keep := hs ▸ G.keep
  os := ho.trans G.os
  gens := ⟨hg, hm⟩
  tabs := hs ▸ G.tabs
  frames := by
    obtain ⟨fr, e, f⟩ := G.frames
    obtain ⟨l, hl⟩ := hcn
    have ⟨n1, n2, n3⟩ := G.sat _ hl
    obtain ⟨⟨o, es, ep, e1, e2, _⟩, _⟩ := n3
    refine ⟨cenv :: fr, by show A'.frames.map _ = _; rw [hA, e]; rfl, fun env' he => ?_⟩
    rw [hs]
    rcases List.mem_cons.mp he with rfl | he
    · exact ⟨hk, cn, o, es, ep, hf, n1, e1, e2⟩
    · exact f env' he
  sat := hs ▸ G.sat
  nodup := G.nodup
  plain := G.plain
theorem Good.lower {m : Nat} {A' : Around} {s s' : Shared} {cenv : Env} (G : Good (C.at m) (A'.deeper cenv) S s) (hA : ∃ fr, A.frames = some fr) (hA' : A'.frames = A.frames) (hs : s'.heap = s.heap) (ho : s'.os = s.os) (hg : AllBare s'.gens) (hm : C.ng ≤ s'.gens.size) : Good C A S s' where
  keep := hs ▸ G.keep
  os := ho.trans G.os
  gens := ⟨hg, hm⟩
  tabs := hs ▸ G.tabs
  frames := by
    obtain ⟨fr, e⟩ := hA
    obtain ⟨fr', e', f⟩ := G.frames
    refine ⟨fr, e, ?_⟩
    have : A'.frames.map (cenv :: ·) = some fr' := e'
    rw [hA', e] at this
    cases this
    rw [hs]
    exact fun env' he => f env' (.tail _ he)
  sat := hs ▸ G.sat
  nodup := G.nodup
  plain := G.plain
theorem AllBare.setGen {s : Shared} {g : Nat} {gs : GenState} (h : AllBare s.gens) (hb : gs.bare = true) : AllBare (s.setGen g gs).gens := fun y hy => by
  have hy : y ∈ s.gens.setIfInBounds g gs := hy
  obtain ⟨i, hi, rfl⟩ := Array.mem_iff_getElem.mp hy
  have hi' : i < s.gens.size := by simpa using hi
  rw [Array.getElem_setIfInBounds hi']
  split
  · exact hb
  · exact h _ (Array.getElem_mem _)
theorem setGen_size {s : Shared} {g : Nat} {gs : GenState} : (s.setGen g gs).gens.size = s.gens.size := by unfold Shared.setGen; simp
theorem collectGen {a : Addr} {n : Nat} {T : Nat → St → Prop} {P : Nat → Value → Prop} {s : Shared} {Q : List Value → Shared → Prop} (Rm : Room A 4) (hlim : C.base.NoLimit) (R : GenReady C A a n T P s) (hn : n ≤ 1000)
    (h : ∀ acc s' S lst, T n S → acc.length = n → (∀ j v, acc[j]? = some v → P j v) → Good C A ((lst, .list acc) :: S) s' → Q acc s') : wpAny (model C.prog C.w) A.in1 (collect (.ref a)) Q NoE s := by
  obtain ⟨g, go, cn, S₁, gs, cenv, G, hcn, hgo, hng, hgs, hf, hk, hgoes⟩ := R
  have hA : ∃ fr, A.frames = some fr := let ⟨fr, e, _⟩ := G.frames; ⟨fr, e⟩
  have isgen : ∀ {S : St} {s : Shared} {C' : Cx} {A' : Around}, Good C' A' S s → (a, Cell.obj go) ∈ S → s.heap.IsGen a g := fun G h => by
    obtain ⟨nm, qn, e1, e2, e3⟩ := hgo
    exact ⟨go, nm, qn, (G.sat _ h).2.2, e1, e2, e3⟩
  have hg0 := isgen G (.head _)
  have glt : ∀ {s' : Shared} {gs : GenState}, s'.gens[g]? = some gs → g < s'.gens.size := fun e => (Array.getElem?_eq_some_iff.mp e).1
  have alt : a < s.heap.objs.size := (G.sat _ (.head _)).2.2.lt
  -- what holds before the i-th item
  let J : Addr → List Value → Nat → Shared → Prop := fun ac acc i s' => ∃ S₁ gs, (∃ l, (cn, Cell.ns l) ∈ S₁) ∧ Good C A ((ac, .list acc) :: (a, .obj go) :: S₁) s' ∧ s'.gens[g]? = some gs ∧
    ∀ acc s'', Good (C.at (g + 1)) ((Around.in3 A).deeper cenv) ((ac, .list acc) :: (a, .obj go) :: S₁) s'' → gs.Goes (model C.prog C.w) (Around.in3 A) (genR (C.at (g + 1)) ((Around.in3 A).deeper cenv) ac a go n T) (genY (C.at (g + 1)) ((Around.in3 A).deeper cenv) ac a cn go n P) (n - i) (.send .none) s''
  have PL : Pull C A.in1 (.ref a) s.heap.objs.size n (J s.heap.objs.size) P (fun acc s' => ∃ S, T n S ∧ Good C A ((s.heap.objs.size, .list acc) :: S) s') := by
    generalize s.heap.objs.size = ac
    refine ⟨fun acc i s₁ hi hJ => ?_, fun acc s₁ hJ => ?_, fun acc i s₁ v hJ => ?_⟩
    · obtain ⟨S₁, gs, hcn, G, hgs, hgoes⟩ := hJ
      have Gr : Good (C.at (g + 1)) ((Around.in3 A).deeper cenv) ((ac, .list acc) :: (a, .obj go) :: S₁) (s₁.setGen g .running) :=
        G.raise rfl hf hk (let ⟨l, hl⟩ := hcn; ⟨l, .tail _ (.tail _ hl)⟩) rfl rfl (AllBare.setGen G.gens.1 rfl) (by rw [setGen_size]; exact glt hgs)
      refine wpAny_pyNext_genexpQ (A := A.in1.in1) (P := fun m s₀ s₁ => m = 0 ∧ ∀ acc, IsLst s₀ ac acc → ∃ S, T n S ∧ Good (C.at (g + 1)) ((Around.in3 A).deeper cenv) ((ac, .list acc) :: (a, .obj go) :: S) s₁)
        (Y := genY (C.at (g + 1)) ((Around.in3 A).deeper cenv) ac a cn go n P) Rm.handled (hlim.keeps G.keep) (by have := Rm.depth; show A.depth < _; omega) (isgen G (.tail _ (.head _))) hgs (hgoes acc _ Gr) (fun v s₂ gs' hb hY => ?_) (fun s₂ hP h' hk => ?_)
      · obtain ⟨i', e, hi', hP, S₂, hcn2, hG2, hkap⟩ := hY
        have : i' = i := by omega
        subst this
        have G2 := hG2 acc (Gr.isLst (.head _))
        have hlt : g + 1 ≤ s₂.gens.size := G2.gens.2
        refine ⟨v, rfl, hP, S₂, gs', hcn2, G2.lower hA rfl rfl rfl (AllBare.setGen G2.gens.1 hb) (by rw [setGen_size]; omega), ?_, fun acc' s'' G'' => ?_⟩
        · exact setGen_self (gs := s₂.gens[g]'(by omega)) (Array.getElem?_eq_getElem (by omega))
        · have := hkap acc' s'' G''
          have e : n - i' = (n - (i' + 1)) + 1 := by omega
          rw [e] at this
          exact this
      · exact absurd hP.1 (by omega)
    · obtain ⟨S₁, gs, hcn, G, hgs, hgoes⟩ := hJ
      have Gr : Good (C.at (g + 1)) ((Around.in3 A).deeper cenv) ((ac, .list acc) :: (a, .obj go) :: S₁) (s₁.setGen g .running) :=
        G.raise rfl hf hk (let ⟨l, hl⟩ := hcn; ⟨l, .tail _ (.tail _ hl)⟩) rfl rfl (AllBare.setGen G.gens.1 rfl) (by rw [setGen_size]; exact glt hgs)
      refine wpAny_pyNext_genexpQ (A := A.in1.in1) (P := fun m s₀ s₁ => m = 0 ∧ ∀ acc, IsLst s₀ ac acc → ∃ S, T n S ∧ Good (C.at (g + 1)) ((Around.in3 A).deeper cenv) ((ac, .list acc) :: (a, .obj go) :: S) s₁)
        (Y := genY (C.at (g + 1)) ((Around.in3 A).deeper cenv) ac a cn go n P) Rm.handled (hlim.keeps G.keep) (by have := Rm.depth; show A.depth < _; omega) (isgen G (.tail _ (.head _))) hgs (hgoes acc _ Gr) (fun v s₂ gs' hb hY => ?_) (fun s₂ hP h' hk => ?_)
      · obtain ⟨i', e, hi', hP, S₂, hcn2, hG2, hkap⟩ := hY
        have hh := hkap acc s₂ (hG2 acc (Gr.isLst (.head _)))
        rw [Nat.sub_self] at hh
        exact hh.elim
      · obtain ⟨S₃, hT, G3⟩ := hP.2 acc (Gr.isLst (.head _))
        have hlt : g + 1 ≤ s₂.gens.size := G3.gens.2
        have G4 : Good C A ((ac, .list acc) :: (a, .obj go) :: S₃) (s₂.setGen g .finished) := G3.lower hA rfl rfl rfl (AllBare.setGen G3.gens.1 rfl) (by rw [setGen_size]; omega)
        exact ⟨rfl, S₃, hT, (G4.grow (s' := { s₂.setGen g .finished with heap := h' }) hk rfl G4.gens).weaken (.cons_cons _ (List.sublist_cons_self _ _))⟩
    · obtain ⟨S₁, gs, hcn, G, hgs, hgoes⟩ := hJ
      obtain ⟨k, hl⟩ := (G.sat _ (.head _)).2.2
      refine ⟨k, hl, S₁, gs, hcn, ?_, hgs, hgoes⟩
      refine G.change .here (Heap.SameBut.update ..) ⟨k + 1, ?_⟩ trivial (fun x => absurd x ((G.sat _ (.head _)).2.2.notDict trivial)) rfl G.gens
      refine (Heap.get?_update_self (Obj.mapSeq fun xs => xs.push v) hl rfl).trans ?_
      simp [Obj.mapSeq]
  have fresh : ∀ b o, s.heap.get? b = some o → (s.heap.push { cls := .type "list", data := .seq ([] : List Value).toArray }).get? b = some o := fun b o e => Heap.get?_push_of_some _ e
  have G1 : Good C A ((s.heap.objs.size, .list []) :: (a, .obj go) :: S₁) { s with heap := s.heap.push { cls := .type "list", data := .seq ([] : List Value).toArray } } :=
    G.new (c := .list []) fresh (fresh_none _) ⟨0, Heap.get?_push_size _ rfl⟩ rfl G.gens
  refine collect_raw (T := .type "generator") (fun s' Q E hk hq => wpAny_typeOf (hg0.keeps hk).typeIs hq) (by decide) (by decide) (fun b e => by cases e; exact alt) ?_
  refine wpAny_pyIter_gen (isgen G1 (.tail _ (.head _))) ?_
  unfold Builtin.List.listLengthHint
  refine wpAny_bind (wpAny_specialOf (isgen G1 (.tail _ (.head _))).typeIs F.gen_no_len ?_)
  show wpAny _ _ (specialOf (Value.ref a) (Str.ofString "__length_hint__") >>= _) _ _ _
  refine wpAny_bind (wpAny_specialOf (isgen G1 (.tail _ (.head _))).typeIs F.gen_no_hint ?_)
  refine wpAny_pure ?_
  have hl : IsL (s.heap.push { cls := .type "list", data := .seq ([] : List Value).toArray }) s.heap.objs.size #[] 0 := Heap.get?_push_size _ rfl
  refine ⟨0, n, J s.heap.objs.size, P, _, hl, PL, hn, ⟨S₁, gs, hcn, G1, hgs, fun acc s'' G'' => hgoes _ acc s'' G''⟩, ⟨S₁, gs, hcn, ?_, hgs, fun acc s'' G'' => hgoes _ acc s'' G''⟩, fun acc s' h1 h2 ⟨S, hT, G'⟩ => ⟨(G'.sat _ (.head _)).2.2, h acc s' S _ hT h1 h2 G'⟩⟩
  have e1 := Heap.get?_update_self (Obj.mapSeq (·.push Value.none)) hl rfl
  have e2 := Heap.get?_update_self (Obj.mapSeq (·.pop)) e1 rfl
  refine G1.change .here ((Heap.SameBut.update ..).trans (Heap.SameBut.update ..)) ⟨_, e2⟩ trivial (fun x => absurd x ((G1.sat _ (.head _)).2.2.notDict trivial)) rfl G.gens
end
end Mine
-- part B15
namespace Mine
open PySem PySem.Calls PySem.W PyProof.Rows PySem.Spec
section
variable {α β : Type} {C : Cx} {A : Around} {S : St} {E : Value → Shared → Prop} {env : Env}
theorem genexpW {elt iter : Expr} {x : Str} {px pos : Pos} {scope : Scope} {cl : List (Str × Addr)} {c P : Addr} {Q : Value → Shared → Prop} (H : Host C c P pos (env.qual ++ "<genexpr>")) (HB : HasBuiltins C) (hcode : env.code = .ref c) (hge : env.globals = mainGlobals) (hlim : C.base.NoLimit) (Rm : Room A 4)
    (h : W C A S (eval iter env) (fun xv S₁ => W C A S₁ (pyIter xv) (fun it S₂ => ∃ n K D V T P X S₃, (X ++ S₃).Sublist S₂ ∧ K 0 X ∧ T 0 S₃ ∧
      (∀ m cn code, Iter (C.at m) ((Around.in3 A).deeper (genEnv scope cl cn code builtinsNs env)) it n K D V ∧ GenBody (C.at m) ((Around.in3 A).deeper (genEnv scope cl cn code builtinsNs env)) (genEnv scope cl cn code builtinsNs env) elt x cn it n K V D T P) ∧
      ∀ a s', GenReady C A a n T P s' → Q (.ref a) s') NoE) NoE)
    (hco : scope.isCoroutine = false := by rfl) (hclos : closureFor scope env = Pure.pure cl := by rfl) (hcell : ∀ y ∈ scope.names, y.2 ≠ .cell := by decide) (h0 : scope.names.lookup (".0" : Str) = some NameKind.local := by decide) (hkind : scope.kind = .function := by rfl)
    (hx : scope.names.lookup x = some .local := by rfl) (hx0 : x ≠ ".0" := by decide) (hs : ∀ x, genFold iter env x = Pure.pure x := by intro _; rfl) :
    ∀ s, Good C A S s → wpAny (model C.prog C.w) A (eval (.GeneratorExp elt [⟨.Name x px, iter, [], 0⟩] scope pos) env) Q NoE s := fun s G => by
  refine wpAny_GeneratorExp_make hco hclos hcell h0 hkind (by have := Rm.depth; omega) (wpAny_mono (h.1 s G) (fun xv s₁ ⟨S₁, G₁, q₁⟩ => wpAny_mono (q₁.1 s₁ G₁) (fun it s₂ ⟨S₂, G₂, q₂⟩ => ⟨hlim.keeps G₂.keep, genCodeW H hcode G₂ fun cv h' tk G₃ => builtinsW HB G₃ hge fun h₅ hn hsb => ?_⟩) fun _ _ x => x) fun _ _ x => x) hs
  obtain ⟨n, K, D, V, T, P', X, S₃, hsub, hK, hT, hIB, hQ⟩ := q₂
  have G₄ := G₃.weaken hsub
  refine hQ _ _ ?_
  have kk : ∀ b o, h'.get? b = some o → h₅.get? b = some o := fun b o e => hsb.extBut b o (Nat.ne_of_lt (Heap.lt_size e)) (Heap.get?_push_of_some _ e)
  have G5 : Good C A ((h'.objs.size, .ns [(".0", some it), (x, none)]) :: (X ++ S₃)) { s₂ with heap := h₅, toks := tk } := by
    refine G₄.new (s' := { s₂ with heap := h₅, toks := tk }) (a := h'.objs.size) (c := .ns [(".0", some it), (x, none)]) kk (fresh_none _) ⟨?_, ?_⟩ rfl G₂.gens
    · have : mapOf [(Str.ofString ".0", some it), (x, none)] = fun y => if y = (".0" : Str) then some it else none := by
        funext y; unfold mapOf; rw [List.lookup_cons]
        by_cases hy : y = ".0"
        · subst hy; simp
        · have : (y == (".0" : Str)) = false := by simpa using hy
          rw [show (y == (Str.ofString ".0", some it).1) = false from this, if_neg hy, List.lookup_cons]
          cases y == x <;> rfl
      rw [this]; exact hn
    · simp only [List.map_cons, List.map_nil, List.nodup_cons, List.mem_singleton, List.not_mem_nil, not_false_eq_true, List.nodup_nil, and_true]
      exact fun e => hx0 e.symm
  have hgens : GensOk C (s₂.gens.push (.fresh (.compStart (.GeneratorExp elt [⟨.Name x px, iter, [], 0⟩] scope pos) 0 it .none (genEnv scope cl h'.objs.size cv builtinsNs env)))) :=
    ⟨G₂.gens.1.push rfl, by rw [Array.size_push]; exact Nat.le_succ_of_le G₂.gens.2⟩
  refine ⟨s₂.gens.size, { cls := .type "generator", data := .fields #[.int s₂.gens.size 0, .str "<genexpr>" (tk + 1), .str (env.qual ++ "<genexpr>") (tk + 1 + 1)] }, h'.objs.size, (h'.objs.size, .ns [(".0", some it), (x, none)]) :: (X ++ S₃), _, genEnv scope cl h'.objs.size cv builtinsNs env, ?_, ⟨_, .head _⟩, ⟨_, _, rfl, rfl, rfl⟩, G₂.gens.2, Array.getElem?_push_size .., rfl, by show scope.kind ≠ _; rw [hkind]; decide, fun ac acc s'' G'' => ⟨rfl, ?_⟩⟩
  · exact G5.new (a := h₅.objs.size) (c := .obj _) (fun b o e => Heap.get?_push_of_some _ e) (fresh_none _) (Heap.get?_push_size _ rfl) rfl hgens
  · obtain ⟨I, B⟩ := hIB (s₂.gens.size + 1) h'.objs.size cv
    refine seg_genStart I B rfl hx hkind hco hx0 acc X none S₃ s'' s'' hK hT (G''.isLst (.head _)) ?_
    refine G''.perm ?_
    have := (List.perm_append_comm_assoc [(ac, Cell.list acc), (h₅.objs.size, Cell.obj { cls := .type "generator", data := .fields #[.int s₂.gens.size 0, .str "<genexpr>" (tk + 1), .str (env.qual ++ "<genexpr>") (tk + 1 + 1)] }), (h'.objs.size, Cell.ns [(Str.ofString ".0", some it), (x, none)])] X S₃)
    refine this.trans ?_
    refine List.Perm.append_left X ?_
    exact ((List.Perm.swap _ _ _).cons _).trans ((List.Perm.swap _ _ _))
theorem risingS_pw : ∀ (p : Str) (l : List Str), risingS p l = true → (p :: l).Pairwise (fun a b => ¬ Str.l b < Str.l a)
  | p, [], _ => List.pairwise_singleton _ _
  | p, x :: r, h => by
    have h : (!ltCps x.cps.toList p.cps.toList && risingS x r) = true := h
    simp only [Bool.and_eq_true, Bool.not_eq_true', ltCps_eq, decide_eq_false_iff_not] at h
    have ih := risingS_pw x r h.2
    refine List.pairwise_cons.mpr ⟨fun y hy => ?_, ih⟩
    rcases List.mem_cons.mp hy with rfl | hy
    · exact h.1
    · have h2 := (List.pairwise_cons.mp ih).1 y hy
      intro h3
      have : ¬ Str.l y < Str.l x := h2
      have h4 : Str.l x ≤ Str.l y := List.not_lt.mp this
      exact h.1 (List.lt_of_le_of_lt h4 h3)
theorem sortedS_pw {ss : List Str} (h : sortedS ss = true) : ss.Pairwise (fun a b => ¬ Str.l b < Str.l a) := by
  cases ss with
  | nil => exact List.Pairwise.nil
  | cons x r => exact risingS_pw x r h
theorem sortTail {acc : List Value} {ls : List (List Nat)} {s : Shared} {Q : Value → Shared → Prop} (G : Good C A S s) (hS : SL acc ls) (hn : acc.length ≤ 50)
    (h : ∀ s' lst vs' ls', SL vs' ls' → ls'.Perm ls → ls'.Pairwise (fun a b => ¬ b < a) → Good C A ((lst, .list vs') :: S) s' → Q (.ref lst) s') :
    wpAny (model C.prog C.w) A.in1 (newList acc >>= fun l => holding [l] (call (.builtin "list.sort") [l] []) >>= fun _ => ret l) (fun fin s' => ∃ v, fin = .done (.ret v) ∧ Q v s') E s := by
  refine wpAny_bind (wpAny_newList ?_ (by rw [sizeLine_eq]; omega))
  have hoL : (s.heap.push (seqObj "list" acc.toArray 0)).get? s.heap.objs.size = some (seqObj "list" acc.toArray 0) := Heap.get?_push_size _ rfl
  refine wpAny_bind (wpAny_holding (wpAny_call_entry slot_list_sort ⟨_, hoL, rfl⟩ entry_list_sort (list_sort_treeK strKind_oneLt hoL (StrsAre.keysOf hS) (fun v₁ v₂ rest e => keyKind_strs (by rw [← e]; exact hS)) (by omega) fun st' a1 a2 => ⟨_, rfl, ?_⟩) (args_list_sort _)))
  refine wpAny_pure ⟨_, rfl, ?_⟩
  obtain ⟨ss', h1, h2, h3⟩ := sorted_out_str hS a1 a2
  have e : ss' = (ss'.map Str.l).map mk := by rw [List.map_map]; exact (List.map_id'' (fun x => mk_of x) ss').symm
  obtain ⟨k, hat⟩ := sortedHeap_at (h := s.heap.push (seqObj "list" acc.toArray 0)) (vs := acc) (out := (arrOf st').map (·.2)) hoL
  refine h _ _ ((arrOf st').map (·.2)).toList (ss'.map Str.l) (by rw [e] at h1; exact h1) ?_ ?_ ?_
  · have := h2.map Str.l
    rw [List.map_map] at this
    have e2 : ls.map (Str.l ∘ mk) = ls := List.map_id'' (fun x => mk_l x) ls
    rw [e2] at this; exact this
  · exact List.pairwise_map.mpr (sortedS_pw h3)
  · have kk : ∀ b o, s.heap.get? b = some o → (sortedHeap (s.heap.push (seqObj "list" acc.toArray 0)) s.heap.objs.size acc ((arrOf st').map (·.2))).get? b = some o := fun b o eb => by
      have hb : b < s.heap.objs.size := Heap.lt_size eb
      rw [sortedHeap_old (Nat.ne_of_lt hb) (by rw [size_push']; exact Nat.lt_succ_of_lt hb), Heap.get?_push_ne _ _ _ (Nat.ne_of_lt hb)]
      exact eb
    have hsat : Sat (sortedHeap (s.heap.push (seqObj "list" acc.toArray 0)) s.heap.objs.size acc ((arrOf st').map (·.2))) s.heap.objs.size (.list ((arrOf st').map (·.2)).toList) := ⟨k, by rw [Array.toArray_toList]; exact hat⟩
    generalize sortedHeap (s.heap.push (seqObj "list" acc.toArray 0)) s.heap.objs.size acc ((arrOf st').map (·.2)) = hh at kk hsat ⊢
    exact G.new (s' := { s with heap := hh }) kk (fresh_none _) hsat rfl G.gens
theorem exists_SL (acc : List Value) (h : ∀ v ∈ acc, ∃ l t, v = Value.str (mk l) t) : ∃ ls, SL acc ls := by
  induction acc with
  | nil => exact ⟨[], SL.nil⟩
  | cons v acc ih =>
    obtain ⟨l, t, rfl⟩ := h v (.head _)
    obtain ⟨ls, h2⟩ := ih fun v hv => h v (.tail _ hv)
    exact ⟨l :: ls, SL.cons l t h2⟩
theorem sortedGen {a : Addr} {n : Nat} {T : Nat → St → Prop} {P : Nat → Value → Prop} {s : Shared} {Q : Value → Shared → Prop} (Rm : Room A 4) (hlim : C.base.NoLimit) (R : GenReady C A a n T P s) (hn : n ≤ 50) (hP : ∀ i v, P i v → ∃ l t, v = .str (mk l) t)
    (h : ∀ acc ls s' S lst vs' ls', T n S → acc.length = n → (∀ j v, acc[j]? = some v → P j v) → SL acc ls → SL vs' ls' → ls'.Perm ls → ls'.Pairwise (fun a b => ¬ b < a) → Good C A ((lst, .list vs') :: S) s' → Q (.ref lst) s') : wpAny (model C.prog C.w) A (call (.builtin "sorted") [.ref a]) Q NoE s := by
  refine Calls.call_function_entry kind_sorted plain_sorted entry_sorted (args_sorted1 _) ?_
  unfold Builtin.«sorted»
  refine wpAny_bind (m := checkCount "sorted" 1 1 _) (wpAny_pure ?_)
  refine wpAny_bind (collectGen Rm hlim R (by omega) fun acc s' S lst hT hl hPj G => ?_)
  obtain ⟨ls, hS⟩ := exists_SL acc fun v hv => by
    obtain ⟨i, hi, rfl⟩ := List.mem_iff_getElem.mp hv
    exact hP i _ (hPj i _ (List.getElem?_eq_getElem hi))
  exact sortTail (G.weaken (List.sublist_cons_self _ _)) hS (by omega) fun s'' lst vs' ls' h1 h2 h3 h4 => h acc ls s'' S lst vs' ls' hT hl hPj hS h1 h2 h3 h4
def joinM (sep : List Nat) : List (List Nat) → List Nat
  | [] => []
  | [x] => x
  | x :: y :: r => x ++ sep ++ joinM sep (y :: r)
theorem mk_join (sep : List Nat) : ∀ ls : List (List Nat), Txt.join (mk sep) (ls.map mk) = mk (joinM sep ls)
  | [] => rfl
  | [x] => by
    show Builtin.Str.glued (mk sep) [mk x] = _
    rw [StrLaws.glued_eq_join]; rfl
  | x :: y :: r => by
    have ih := mk_join sep (y :: r)
    show Builtin.Str.glued (mk sep) (mk x :: mk y :: r.map mk) = _
    have ih : Builtin.Str.glued (mk sep) (mk y :: r.map mk) = mk (joinM sep (y :: r)) := ih
    rw [StrLaws.glued_eq_join] at ih ⊢
    show mk x ++ mk sep ++ Str.join (mk sep) (mk y :: r.map mk) = _
    rw [ih, mk_append, mk_append]; rfl
theorem joinOkM (sep : List Nat) (ls : List (List Nat)) (h : (ls.map List.length).sum + ls.length * sep.length ≤ 100000) : JoinOk (mk sep) (ls.map mk) = true := by
  unfold JoinOk
  rw [StrLaws.joinTotal, List.map_map]
  have e : (ls.map ((fun x : Str => x.length) ∘ mk)) = ls.map List.length := List.map_congr_left fun x _ => rfl
  rw [e]
  simp only [List.length_map, mk_length, Builtin.Str.tooLong, Bool.not_eq_true', decide_eq_false_iff_not, sizeLine_eq]
  omega
theorem SL.values {vs : List Value} {ls : List (List Nat)} (h : SL vs ls) : ∃ l : List (Str × Tok), strValues l = vs ∧ l.map (·.1) = ls.map mk := by
  induction ls generalizing vs with
  | nil => cases h; exact ⟨[], rfl, rfl⟩
  | cons x ls ih =>
    cases h with
    | cons y u h =>
      obtain ⟨l, e1, e2⟩ := ih h
      exact ⟨(mk x, u) :: l, by rw [← e1]; rfl, by rw [List.map_cons, e2]; rfl⟩
theorem W.joinL {l : Addr} {vs : List Value} {ls : List (List Nat)} {sep : List Nat} {t : Tok} {Q : Value → St → Prop} (hm : (l, .list vs) ∈ S) (hi : SL vs ls) (hsz : (ls.map List.length).sum + ls.length * sep.length ≤ 100000) (h : ∀ t', Q (.str (mk (joinM sep ls)) t') S) : W C A S (call (.builtin "str.join") [.str (mk sep) t, .ref l]) Q E := .intro fun s G => by
  obtain ⟨l', e1, e2⟩ := hi.values
  have hl := G.list hm
  rw [← e1] at hl
  exact SC.join hl e2 (joinOkM sep ls hsz) fun t' k => ⟨S, G.tok k, by rw [mk_join]; exact h t'⟩
theorem joinGen {a : Addr} {n : Nat} {T : Nat → St → Prop} {P : Nat → Value → Prop} {s : Shared} {sep : List Nat} {t : Tok} {Q : Value → Shared → Prop} (Rm : Room A 4) (hlim : C.base.NoLimit) (R : GenReady C A a n T P s) (hn : n ≤ 50) (hP : ∀ i v, P i v → ∃ l t, v = .str (mk l) t)
    (h : ∀ acc ls S, T n S → acc.length = n → (∀ j v, acc[j]? = some v → P j v) → SL acc ls → (ls.map List.length).sum + ls.length * sep.length ≤ 100000 ∧ ∀ s' t', Good C A S s' → Q (.str (mk (joinM sep ls)) t') s') : wpAny (model C.prog C.w) A (call (.builtin "str.join") [.str (mk sep) t, .ref a]) Q NoE s := by
  refine wpAny_call (codeAny_call_builtin F.slot_str_join.plain F.entry_str_join (F.slot_str_join.check _ _ _ _ _ _ _ _ (typeIs_str _ _ _) (F.args_str_join_2 _ _) ?_))
  rw [join_tree_other]
  have hT : s.TypeIs (.ref a) "generator" := by
    obtain ⟨g, go, cn, S₁, gs, cenv, G, hcn, hgo, _⟩ := R
    obtain ⟨nm, qn, e1, e2, e3⟩ := hgo
    exact ⟨go, (G.sat _ (.head _)).2.2, e1⟩
  refine wpAny_bind (wpAny_typeOf hT ?_)
  show wpAny _ A.in1 ((pyIter (.ref a)).tryCatch _ >>= fun it => collect it >>= fun items => joinTail (mk sep) items) _ _ s
  refine wpAny_bind (wpAny_tryCatch ?_)
  have hg : ∃ g, s.heap.IsGen a g := by
    obtain ⟨g, go, cn, S₁, gs, cenv, G, hcn, hgo, _⟩ := R
    obtain ⟨nm, qn, e1, e2, e3⟩ := hgo
    exact ⟨g, go, nm, qn, (G.sat _ (.head _)).2.2, e1, e2, e3⟩
  obtain ⟨g, hg⟩ := hg
  refine wpAny_pyIter_gen hg ?_
  refine wpAny_bind (collectGen Rm hlim R (by omega) fun acc s' S lst hT hl hPj G => ?_)
  obtain ⟨ls, hS⟩ := exists_SL acc fun v hv => by
    obtain ⟨i, hi, rfl⟩ := List.mem_iff_getElem.mp hv
    exact hP i _ (hPj i _ (List.getElem?_eq_getElem hi))
  obtain ⟨hsz, hq⟩ := h acc ls S hT hl hPj hS
  obtain ⟨l, e1, e2⟩ := hS.values
  have hok := joinOkM sep ls hsz
  rw [← e2] at hok
  rw [← e1]
  unfold JoinOk at hok
  rw [Bool.not_eq_true'] at hok
  have g : Gives (joinTail (mk sep) (strValues l)) (joinMade (mk sep) l) := by
    have g0 := gives_joinTail (mk sep) l hok
    cases l with
    | nil => exact g0
    | cons p r => cases r with
      | nil => exact g0
      | cons q r' => exact g0
  refine g C.prog C.w A (wants Q NoE) s' (post_join l ⟨joinFit_length hok, fun t' k => ?_⟩)
  rw [e2, mk_join]
  exact hq _ t' ((G.weaken (List.sublist_cons_self _ _)).tok k)
end
end Mine
-- part B16
namespace Mine
open PySem PySem.Calls PySem.W PyProof.Rows
/-- a StopIteration just made -/
def New (C : Cx) (A : Around) (S : St) (e : Addr) (s : Shared) : Prop := ∃ h₀, Good C A S { s with heap := h₀ } ∧ Heap.NewExc h₀ s.heap e "StopIteration"
/-- a StopIteration on its way, with a traceback -/
def Fly (C : Cx) (A : Around) (S : St) (e : Addr) (s : Shared) : Prop := ∃ h₀ hid a0 fr, A.frames = some fr ∧ Good C A S { s with heap := h₀ } ∧
  (∀ a ∈ hid, C.base.get? a = none ∧ ∃ o es ep, h₀.get? a = some o ∧ o.data = .dict es ep) ∧ Heap.FlyingW (hideAll h₀ hid) fr e (.type "StopIteration") a0 s.heap ∧ h₀.UpToSlots s.heap
def Stops (C : Cx) (A : Around) (T : St → Prop) (v : Value) (s : Shared) : Prop := ∃ e S, v = .ref e ∧ T S ∧ (New C A S e s ∨ Fly C A S e s)
theorem Good.upTo {C : Cx} {A : Around} {S : St} {s : Shared} {h₀ : Heap} {hid : List Addr} (G : Good C A S { s with heap := h₀ }) (hh : ∀ a ∈ hid, C.base.get? a = none ∧ ∃ o es ep, h₀.get? a = some o ∧ o.data = .dict es ep)
    (k : (hideAll h₀ hid).StaysIn s.heap) (u : h₀.UpToSlots s.heap) : Good C A S s := by
  have kx : ∀ b o, h₀.get? b = some o → (∀ es ep, o.data ≠ .dict es ep) → s.heap.get? b = some o := fun b o e hn => k b o (hideAll_get hid e fun hm => by
    obtain ⟨_, o', es, ep, e1, e2⟩ := hh b hm
    rw [e] at e1; cases e1; exact hn _ _ e2)
  have kd : ∀ b o es ep, h₀.get? b = some o → o.data = .dict es ep → ∃ sl, s.heap.get? b = some { o with slots := sl } := fun b o es ep e hd => u b o e fun vs q => by rw [hd] at q; cases q
  have kc : ∀ cd q, CodeC h₀ cd q → CodeC s.heap cd q := fun cd q ⟨cc, o, vs, t, q1, q2, q0, q3, q4⟩ => ⟨cc, o, vs, t, q1, kx _ _ q2 (fun es ep q => by rw [q3] at q; cases q), q0, q3, q4⟩
  refine ⟨fun b o e => k b o (hideAll_get hid (G.keep b o e) fun hm => by rw [(hh b hm).1] at e; cases e), G.os, G.gens, fun x hx => ⟨(G.tabs x hx).1, ?_⟩, ?_, fun p hp => ?_, G.nodup, G.plain⟩
  · obtain ⟨ps, e, t, r⟩ := (G.tabs x hx).2
    exact ⟨ps, kx _ _ e (fun es ep q => by cases q), t, fun y hy c hc => kc _ _ (r y hy c hc)⟩
  · obtain ⟨fr, e, f⟩ := G.frames
    refine ⟨fr, e, fun env he => ?_⟩
    obtain ⟨a1, L, o, es, ep, b1, c1, d1, e1⟩ := f env he
    obtain ⟨sl, h1⟩ := kd L o es ep d1 e1
    exact ⟨a1, L, _, es, ep, b1, c1, h1, e1⟩
  · obtain ⟨x1, x2, x3⟩ := G.sat p hp
    refine ⟨x1, x2, ?_⟩
    have hpl := G.plain p hp
    obtain ⟨a, c⟩ := p
    cases c with
    | ns l =>
      obtain ⟨hn, hnd⟩ := x3
      exact ⟨u.ns hn, hnd⟩
    | list vs => obtain ⟨n, e⟩ := x3; exact ⟨n, kx _ _ e (fun es ep q => by cases q)⟩
    | cell v => obtain ⟨o, e, d⟩ := x3; exact ⟨o, kx _ _ e (fun es ep q => by rw [d] at q; cases q), d⟩
    | obj o => exact kx _ _ x3 hpl
    | fobj T vs => obtain ⟨o, e, d1, d2⟩ := x3; exact ⟨o, kx _ _ e (fun es ep q => by rw [d2] at q; cases q), d1, d2⟩
    | fn fd => exact ⟨kx _ _ x3.1 (fun es ep q => by cases q), kc _ _ x3.2⟩
section
variable {C : Cx} {A : Around} {S : St} {E : Value → Shared → Prop} {env : Env} {s : Shared} {e : Addr}
theorem Fly.good (h : Fly C A S e s) : Good C A S s := by
  obtain ⟨h₀, hid, a0, fr, hf, G, hh, F, u⟩ := h
  exact G.upTo hh F.1 u
theorem New.good (h : New C A S e s) : Good C A S s := let ⟨h₀, G, N⟩ := h; G.grow (s' := s) N.keeps rfl G.gens
theorem Stops.good {T : St → Prop} {v : Value} (h : Stops C A T v s) : ∃ e S, v = .ref e ∧ T S ∧ Good C A S s ∧ s.TypeIs (.ref e) "StopIteration" := by
  obtain ⟨e, S, rfl, hT, h⟩ := h
  refine ⟨e, S, rfl, hT, ?_⟩
  rcases h with h | h
  · refine ⟨h.good, ?_⟩
    obtain ⟨h₀, G, N⟩ := h
    obtain ⟨ob, t, e1, e2, _⟩ := N.there
    exact ⟨ob, e1, e2⟩
  · refine ⟨h.good, ?_⟩
    obtain ⟨h₀, hid, a0, fr, hf, G, hh, F, u⟩ := h
    obtain ⟨ob, e1, e2⟩ := F.there
    exact ⟨ob, e1, e2⟩
def frAddrs (fr : List Env) : List Addr := fr.filterMap (·.frame)
theorem mem_frAddrs {fr : List Env} {a : Addr} (h : a ∈ frAddrs fr) : ∃ env ∈ fr, env.frame = some a := List.mem_filterMap.mp h
theorem FrOk.hid {base h : Heap} {fr : List Env} (f : FrOk base h fr) : ∀ a ∈ frAddrs fr, base.get? a = none ∧ ∃ o es ep, h.get? a = some o ∧ o.data = .dict es ep := fun a ha => by
  obtain ⟨env, he, e⟩ := mem_frAddrs ha
  obtain ⟨_, L, o, es, ep, e1, n, e2, d⟩ := f env he
  rw [e] at e1; cases e1
  exact ⟨n, o, es, ep, e2, d⟩
theorem FrOk.fun {base h h' : Heap} {hid : List Addr} {fr : List Env} (f : FrOk base h fr) (hin : ∀ a ∈ frAddrs fr, a ∈ hid) (k : ∀ b o, h.get? b = some o → (∀ vs, o.data ≠ .fields vs) → ∃ sl, h'.get? b = some { o with slots := sl }) : h'.FunFrames (hideAll h hid) fr := by
  induction fr with
  | nil => trivial
  | cons env fr ih =>
    obtain ⟨k1, L, o, es, ep, e1, n, e2, d⟩ := f env (.head _)
    obtain ⟨sl, e3⟩ := k L o e2 fun vs q => by rw [d] at q; cases q
    refine ⟨k1, ⟨L, _, e1, hideAll_none _ (hin L (List.mem_filterMap.mpr ⟨env, .head _, e1⟩)), e3, fun vs q => by rw [show ({ o with slots := sl } : Obj).data = _ from d] at q; cases q⟩, ih (fun env he => f env (.tail _ he)) fun a ha => hin a ?_⟩
    obtain ⟨env', he, e⟩ := mem_frAddrs ha
    exact List.mem_filterMap.mpr ⟨env', .tail _ he, e⟩
theorem Good.outer {h₀ : Heap} (G : Good C (A.deeper env) S { s with heap := h₀ }) {fr : List Env} (hA : A.frames = some fr) : (A.deeper env).frames = some (env :: fr) ∧ FrOk C.base h₀ (env :: fr) := by
  obtain ⟨fr', e, f⟩ := G.frames
  have : (A.deeper env).frames = some (env :: fr) := by show A.frames.map _ = _; rw [hA]; rfl
  rw [this] at e; cases e
  exact ⟨this, f⟩
theorem New.leave {Q : Unit → Shared → Prop} {E : Value → Shared → Prop} {L : Addr} (h : New C (A.deeper env) S e s) (hA : ∃ fr, A.frames = some fr) (hf : env.frame = some L) (hQ : ∀ s', Fly C A S e s' → Q () s') : wpAny (model C.prog C.w) (A.deeper env) (leaving env (.ref e)) Q E s := by
  obtain ⟨h₀, G, N⟩ := h
  obtain ⟨fr, hA⟩ := hA
  obtain ⟨hfr, f⟩ := G.outer hA
  obtain ⟨ob, t, e1, e2, e3⟩ := N.there
  have hne : (hideAll h₀ (frAddrs (env :: fr))).get? e = none := by
    cases q : (hideAll h₀ (frAddrs (env :: fr))).get? e with
    | none => rfl
    | some o => have := of_hideAll _ q; rw [N.new] at this; cases this
  refine wpAny_leaving_firstW (base := hideAll h₀ (frAddrs (env :: fr))) hfr (f.fun (fun _ h => h) fun b o eb hn => ⟨o.slots, N.keeps b o eb⟩) hf e1 (fun b o eb => N.keeps b o (of_hideAll _ eb)) hne e3 rfl rfl fun h' hL => hQ _ ?_
  obtain ⟨k1, ⟨_, _, k2⟩, k3, k4⟩ := hL
  refine ⟨h₀, frAddrs (env :: fr), _, fr, hA, (Good.leave (s := { s with heap := h₀ }) G ⟨fr, hA⟩), f.hid, ⟨k1, hne, k2, e2 ▸ k3⟩, fun b o eb hn => k4 b o (N.keeps b o eb) hn⟩
theorem Fly.leave {Q : Unit → Shared → Prop} {E : Value → Shared → Prop} {L : Addr} (h : Fly C (A.deeper env) S e s) (hA : ∃ fr, A.frames = some fr) (hf : env.frame = some L) (hQ : ∀ s', Fly C A S e s' → Q () s') : wpAny (model C.prog C.w) (A.deeper env) (leaving env (.ref e)) Q E s := by
  obtain ⟨h₀, hid, a0, fr', hf', G, hh, F, u⟩ := h
  obtain ⟨fr, hA⟩ := hA
  obtain ⟨hfr, f⟩ := G.outer hA
  rw [hfr] at hf'; cases hf'
  exact wpAny_leaves_onW hfr hf F fun h' F' u' => hQ _ ⟨h₀, hid, a0, fr, hA, (Good.leave (s := { s with heap := h₀ }) G ⟨fr, hA⟩), hh, F', u.trans u'⟩
/-- what a body must show where it raises -/
def Lv (C : Cx) (A : Around) (env : Env) (T : St → Prop) : Value → Shared → Prop := fun v s =>
  wpAny (model C.prog C.w) (A.deeper env) (leaving env v) (fun _ s' => Stops C A T v s') (fun v' s' => Stops C A T v' s') s
theorem Stops.frames {T : St → Prop} {v : Value} (h : Stops C (A.deeper env) T v s) : ∃ fr, A.frames = some fr := by
  obtain ⟨e, S, _, _, G, _⟩ := h.good
  obtain ⟨fr, e, _⟩ := G.frames
  have e : A.frames.map (env :: ·) = some fr := e
  cases h : A.frames with
  | none => rw [h] at e; cases e
  | some fr => exact ⟨fr, rfl⟩
theorem Stops.lv {T T' : St → Prop} {v : Value} {L : Addr} (h : Stops C (A.deeper env) T v s) (hf : env.frame = some L) (hT : ∀ S, T S → ∃ S', S'.Sublist S ∧ T' S') : Lv C A env T' v s := by
  have hA := h.frames
  obtain ⟨e, S, rfl, hS, h⟩ := h
  obtain ⟨S', hs, hS'⟩ := hT S hS
  have fin : ∀ s', Fly C A S e s' → Stops C A T' (.ref e) s' := fun s' ⟨h₀, hid, a0, fr, hf, G, hh, F, u⟩ => ⟨e, S', rfl, hS', .inr ⟨h₀, hid, a0, fr, hf, G.weaken hs, hh, F, u⟩⟩
  rcases h with h | h
  · exact h.leave hA hf fin
  · exact h.leave hA hf fin
/-- a call of a def without cells, that may stop -/
theorem W.callDefE {F : Addr} {fd : FuncData} {n : Nat} {body : List Stmt} {vals : List Value} {kw : List (Str × Value)} {binds : List (Str × Value)} {Q : Value → St → Prop} {T : St → Prop} (names others : List Str)
    (hF : FnIs C F fd) (R : Room A (n + 1)) (hbody : fd.body = .stmts body) (hbind : ∀ s, Good C A S s → BindsTo s fd ⟨vals, kw⟩ binds)
    (hcell : ∀ x ∈ fd.scope.names, x.2 ≠ .cell) (hloc : ∀ x ∈ names, fd.scope.names.lookup x = some .local) (hnd : (names ++ others).Nodup)
    (h : ∀ L, Room (A.deeper (callEnv fd L F)) n → W C (A.deeper (callEnv fd L F)) ((L, .ns (locals0 binds others)) :: S) (execs body (callEnv fd L F)) (fun fl S' => ∃ S'', S''.Sublist S' ∧ Q (retOf fl) S'') (Lv C A (callEnv fd L F) T))
    (hco : fd.scope.isCoroutine = false := by rfl) (hgen : fd.scope.isGenerator = false := by rfl) (hk : fd.scope.kind = .function := by rfl) (hnm : binds.map (·.1) = names := by rfl) : W C A S (call (.ref F) vals kw) Q (Stops C A T) := .intro fun s G => by
  subst hnm
  obtain ⟨⟨o, ho, hd⟩, hcd, hlim⟩ := hF
  refine wpAny_call (codeAny_call_def (binds := binds) (body := body) (by have := R.depth; omega) (G.keep _ _ ho) hd (hlim.keeps G.keep) (hcd.keeps G.keep) hbody (hbind s G) hcell (fun x hx => hloc _ (List.mem_map.mpr ⟨x, hx, rfl⟩)) (fun h₀ hn k => ?_) hco hgen hk)
  have hA : ∃ fr, A.frames = some fr := let ⟨fr, e, _⟩ := G.frames; ⟨fr, e⟩
  have G1 : Good C A ((s.heap.objs.size, .ns (locals0 binds others)) :: S) { s with heap := h₀, toks := s.toks + binds.length } :=
    G.new k (fresh_none _) ⟨by rw [mapOf_locals0 _ _ hnd]; exact hn, by rw [locals0_keys]; exact hnd⟩ rfl G.gens
  refine wpAny_mono ((h _ R.deeper).1 _ (Good.enter (c := .cell none) G (env := callEnv fd s.heap.objs.size F) rfl (by show fd.scope.kind ≠ _; rw [hk]; decide) G1 ⟨_, .head _⟩)) (fun fl s' ⟨S', G', S'', hs, q⟩ => ?_) (fun v s' x => ?_)
  · exact ⟨S'', (G'.leave hA).weaken hs, q⟩
  · exact x
/-- raise StopIteration -/
theorem raiseNewExc {α : Type} {Q : α → Shared → Prop} {M : Model} (hh : A.handled = none) (h : ∀ h' a, Heap.NewExc s.heap h' a "StopIteration" → E (.ref a) { s with heap := h' }) :
    wpAny M A (newExc (.type "StopIteration") [] >>= raiseNew) Q E s := by
  refine wpAny_bind ?_
  simp only [newExc, newTuple]
  refine wpAny_bind (wpAny_newObj_type ?_ (by size_fits))
  refine wpAny_bind (m := firstArgMember _ _) (wpAny_of_eq (a := Value.none) (by first | rfl | (simp only [firstArgMember]; rfl)) ?_)
  refine wpAny_newObj_type ?_ (by size_fits)
  simp only [raiseNew]
  refine wpAny_bind (wpAny_handled ?_)
  rw [hh]
  refine wpAny_bind (wpAny_pure (wpAny_throw ?_))
  refine h _ _ ⟨fun b o e => Heap.get?_push_of_some _ (Heap.get?_push_of_some _ e), ?_, _, _, Heap.get?_push_size _ rfl, rfl, rfl⟩
  rw [Heap.size_push]
  cases q : s.heap.get? (s.heap.objs.size + 1) with
  | none => rfl
  | some o => exact absurd (Heap.lt_size q) (Nat.not_lt.mpr (Nat.le_succ _))
theorem glob_raw {x pos} {v : Value} {Q : Value → Shared → Prop} {E : Value → Shared → Prop} (g : GlobalIs C x v) (G : Good C A S s) (h : Q v s) (hg : env.globals = mainGlobals := by rfl) (hb : env.builtins = builtinsNs := by rfl)
    (hk : env.scope.kind = .function := by rfl) (hl : env.kindOf x = some .globalImplicit := by rfl) (hd : (x == ("__debug__" : Str)) = false := by decide) {A' : Around} : wpAny (model C.prog C.w) A' (eval (.Name x pos) env) Q E s := by
  refine wpAny_Name ?_ hd
  unfold loadName
  simp only [Env.blockKind, hk, hl, ScopeKind.isAnnotationScope, Bool.false_and, Bool.false_eq_true, if_false]
  obtain ⟨mg, mb, h1, h2, h3⟩ := g
  unfold loadGlobal
  rw [hg, hb]
  rcases h3 with h3 | ⟨h3, h4⟩
  · exact wpAny_bind (wpAny_nsGet (h1.keeps G.keep) (by rw [h3]; exact wpAny_pure h))
  · refine wpAny_bind (wpAny_nsGet (h1.keeps G.keep) ?_)
    rw [h3]
    exact wpAny_bind (wpAny_nsGet (h2.keeps G.keep) (by rw [h4]; exact wpAny_pure h))
theorem newOfMade {h₀ : Heap} {h' : Heap} (G : Good C A S { s with heap := h₀ }) {e : Addr} {args : List Value} (m : Heap.MadeExc h₀ h' e "StopIteration" args) : New C A S e { s with heap := h' } := by
  obtain ⟨t, ht, _⟩ := m.there
  exact ⟨h₀, G, m.keeps, m.new, _, _, ht, rfl, rfl⟩
theorem W.raiseStop {np pos : Pos} {Q : Flow → St → Prop} {T : St → Prop} (hh : A.handled = none) (g : GlobalIs C (Str.ofString "StopIteration") (.type "StopIteration")) (hT : T S) (hE : ∀ v s, Stops C A T v s → E v s) (hg : env.globals = mainGlobals := by rfl) (hb : env.builtins = builtinsNs := by rfl)
    (hk : env.scope.kind = .function := by rfl) (hl : env.kindOf (Str.ofString "StopIteration") = some .globalImplicit := by rfl) : W C A S (exec (.Raise (some (.Name (Str.ofString "StopIteration") np)) none pos) env) Q E := .intro fun s G =>
  owsi_raiseC hh (glob_raw g G ⟨rfl, rfl⟩ hg hb hk hl) fun h' e m => hE _ _ ⟨e, S, rfl, hT, .inl (newOfMade (s := s) (h₀ := s.heap) G m)⟩
def deadCell (i : Nat) : Cell := .fobj "list_iterator" #[.none, .int i 0]
theorem next_open {it : Addr} {Q : Value → Shared → Prop} (hT : s.TypeIs (.ref it) "list_iterator")
    (h : wpAny (model C.prog C.w) A.in1.in1 (Builtin.«list_iterator.__next__» ⟨[.ref it], []⟩) (fun fin s' => ∃ v, fin = .done (.ret v) ∧ Q v s') E s) : wpAny (model C.prog C.w) A (call (.builtin "next") [.ref it]) Q E s := by
  refine Calls.call_function_entry (by decide +kernel) (by decide +kernel) kdk_entry_next (kdk_args_next _) ?_
  unfold Builtin.«next»
  refine wpAny_bind (m := someArgs "next" 1 2 _) (wpAny_of_eq (a := [Value.ref it]) (by first | rfl | kernel_rfl!) ?_)
  dsimp only
  refine wpAny_bind (wpAny_specialOf (name := Str.ofString "__next__") hT slot_listiter_next.lookup ?_)
  refine wpAny_ite_split (fun hab => absurd hab (by decide)) (fun _ => ?_)
  refine wpAny_bind (wpAny_callSpecial?_slot (name := Str.ofString "__next__") hT slot_listiter_next (wpAny_call_entry slot_listiter_next hT entry_listiter_next (wpAny_mono h (fun fin s' ⟨v, e, q⟩ => ⟨v, e, ?_⟩) fun _ _ x => x) (args_listiter_next _)))
  exact wpAny_pure ⟨_, rfl, q⟩
/-- next(it) on a list's iterator -/
theorem W.nextL {it l : Addr} {i : Nat} {vs : List Value} {Q : Value → St → Prop} {S'} {v : Value} (hu : Upd it (liCell l i) (liCell l (i + 1)) S S') (hl : (l, .list vs) ∈ S) (hv : vs[i]? = some v) (h : Q v S') : W C A S (call (.builtin "next") [.ref it]) Q E := .intro fun s G => by
  have hit : s.heap.IsListIter it l i := (G.sat _ hu.mem).2.2
  have hn := (G.sat _ hu.mem).2.2.notDict trivial
  have hL := G.list hl
  refine next_open hit.typeIs ?_
  obtain ⟨o, ho, hc, hd⟩ := hit
  obtain ⟨ol, hol, _, nl, hdl⟩ := hL
  show wpAny _ _ (PySem.field (.ref it) 0 >>= _) _ _ s
  refine wpAny_bind (wpAny_field ho hd (x := .ref l) rfl ?_)
  show wpAny _ _ (if (Value.ref l == Value.none) = true then _ else _) _ _ s
  rw [if_neg (show ¬ ((Value.ref l == Value.none) = true) from Bool.false_ne_true)]
  show wpAny _ _ (PySem.field (.ref it) 1 >>= _) _ _ s
  refine wpAny_bind (wpAny_field ho hd (x := .int i 0) rfl ?_)
  show wpAny _ _ (seqItems? (.ref l) >>= _) _ _ s
  refine wpAny_bind (wpAny_seqItems hol hdl ?_)
  have hv' : vs.toArray[i]? = some v := by rw [List.getElem?_toArray]; exact hv
  simp only [Int.toNat_natCast, hv']
  refine wpAny_bind (wpAny_setField ho hd (by simp) (wpAny_pure ⟨v, rfl, S', ?_, h⟩))
  refine G.change hu (Heap.SameBut.update ..) ⟨_, Heap.get?_update_self _ ho (Obj.isFreed_of_fields (Obj.data_mapFields hd _)), (Obj.cls_mapFields ..).trans hc, ?_⟩ (by show "list_iterator" ≠ "code"; decide) (fun x => absurd x hn) rfl G.gens
  rw [Obj.data_mapFields hd]; simp [rawInt]
theorem W.nextEnd {it l : Addr} {vs : List Value} {Q : Value → St → Prop} {S'} (hh : A.handled = none) (hu : Upd it (liCell l vs.length) (deadCell vs.length) S S') (hl : (l, .list vs) ∈ S) (hE : ∀ v s, Stops C A (fun S'' => S'' = S') v s → E v s) : W C A S (call (.builtin "next") [.ref it]) Q E := .intro fun s G => by
  have hit : s.heap.IsListIter it l vs.length := (G.sat _ hu.mem).2.2
  have hn := (G.sat _ hu.mem).2.2.notDict trivial
  have hL := G.list hl
  refine next_open hit.typeIs ?_
  obtain ⟨o, ho, hc, hd⟩ := hit
  obtain ⟨ol, hol, _, nl, hdl⟩ := hL
  show wpAny _ _ (PySem.field (.ref it) 0 >>= _) _ _ s
  refine wpAny_bind (wpAny_field ho hd (x := .ref l) rfl ?_)
  show wpAny _ _ (if (Value.ref l == Value.none) = true then _ else _) _ _ s
  rw [if_neg (show ¬ ((Value.ref l == Value.none) = true) from Bool.false_ne_true)]
  show wpAny _ _ (PySem.field (.ref it) 1 >>= _) _ _ s
  refine wpAny_bind (wpAny_field ho hd (x := .int vs.length 0) rfl ?_)
  show wpAny _ _ (seqItems? (.ref l) >>= _) _ _ s
  refine wpAny_bind (wpAny_seqItems hol hdl ?_)
  have hv' : vs.toArray[vs.length]? = none := by simp
  simp only [Int.toNat_natCast, hv']
  refine wpAny_bind (wpAny_rule (wpAny_bind (wpAny_setField ho hd (by simp) ?_)))
  have G' : Good C A S' { s with heap := s.heap.update it (Obj.mapFields (·.setIfInBounds 0 .none)) } := by
    refine G.change hu (Heap.SameBut.update ..) ⟨_, Heap.get?_update_self _ ho (Obj.isFreed_of_fields (Obj.data_mapFields hd _)), (Obj.cls_mapFields ..).trans hc, ?_⟩ (by show "list_iterator" ≠ "code"; decide) (fun x => absurd x hn) rfl G.gens
    rw [Obj.data_mapFields hd]; simp [rawInt]
  exact raiseNewExc (A := A.in1.in1) hh fun h' a N => hE _ _ ⟨a, S', rfl, rfl, .inl ⟨_, G', N⟩⟩
theorem W.nextDead {it : Addr} {i : Nat} {Q : Value → St → Prop} (hh : A.handled = none) (hm : (it, deadCell i) ∈ S) (hE : ∀ v s, Stops C A (fun S'' => S'' = S) v s → E v s) : W C A S (call (.builtin "next") [.ref it]) Q E := .intro fun s G => by
  obtain ⟨o, ho, hc, hd⟩ := (G.sat _ hm).2.2
  refine next_open ⟨o, ho, hc⟩ ?_
  show wpAny _ _ (PySem.field (.ref it) 0 >>= _) _ _ s
  refine wpAny_bind (wpAny_field ho hd (x := .none) rfl ?_)
  show wpAny _ _ (if (Value.none == Value.none) = true then _ else _) _ _ s
  rw [if_pos (by decide)]
  refine wpAny_bind (wpAny_rule (wpAny_bind ?_))
  exact raiseNewExc (A := A.in1.in1) hh fun h' a N => hE _ _ ⟨a, S, rfl, rfl, .inl ⟨_, G, N⟩⟩
/-- try: body except StopIteration: suite -/
theorem W.tryStop {body : List Stmt} {b₀ : Stmt} {suite : List Stmt} {tp hpos pos : Pos} {Q : Flow → St → Prop} (A₀ : Around) (L : Addr) (T : St → Prop) (g : GlobalIs C (Str.ofString "StopIteration") (.type "StopIteration"))
    (h : W C A S (execs body env) (fun f S' => f ≠ .next ∧ Q f S') (fun v s' => Stops C A T v s'))
    (h2 : ∀ S' e, T S' → W C (A.mark (some (.ref e))) S' (execs (b₀ :: suite) env) Q NoE) (hA : A = A₀.deeper env := by rfl) (hf : env.frame = some L := by rfl) (hg : env.globals = mainGlobals := by rfl) (hb : env.builtins = builtinsNs := by rfl)
    (hk : env.scope.kind = .function := by rfl) (hl : env.kindOf (Str.ofString "StopIteration") = some .globalImplicit := by rfl) : W C A S (exec (.Try body [.ExceptHandler (some (.Name (Str.ofString "StopIteration") tp)) none (b₀ :: suite) hpos] [] [] pos) env) Q E := .intro fun s G => by
  have hA₀ : ∃ fr, A₀.frames = some fr := by
    subst hA
    obtain ⟨fr, e, _⟩ := G.frames
    have e : A₀.frames.map (env :: ·) = some fr := e
    cases h : A₀.frames with
    | none => rw [h] at e; cases e
    | some fr => exact ⟨fr, rfl⟩
  refine wpAny_Try_except (wpAny_mono (h.1 s G) (fun f s' ⟨S', G', hn, q⟩ => ?_) fun v s' hv => ?_)
  · cases f with
    | next => exact absurd rfl hn
    | _ => exact ⟨S', G', q⟩
  · obtain ⟨e, S', rfl, hT, hv⟩ := hv
    subst hA
    have done : ∀ s₂, Fly C (A₀.deeper env) S' e s₂ → wpAny (model C.prog C.w) (A₀.deeper env) (handleBy (.ref e) env [.ExceptHandler (some (.Name (Str.ofString "StopIteration") tp)) none (b₀ :: suite) hpos]) (fun f s' => ∃ S', Good C (A₀.deeper env) S' s' ∧ Q f S') E s₂ := by
      intro s₂ F
      refine wpAny_handleBy_builtin (X := "StopIteration") (T := "StopIteration") (b := true) owsi_raise.isExc (by rw [show ((Manifest.find? "StopIteration").elim "type" fun x => x.metatype) = "type" from by kernel_rfl, isSubtype_type]; kernel_rfl) isSubtype_stop ?_
      refine glob_raw (s := s₂) g F.good ⟨rfl, ?_, ?_⟩ hg hb hk hl
      · obtain ⟨h₀, hid, a0, fr, hf, G, hh, F, u⟩ := F
        obtain ⟨ob, e1, e2⟩ := F.there
        exact ⟨ob, e1, e2⟩
      · simp only [if_true]
        obtain ⟨h₀, hid, a0, fr, hf', G, hh, ⟨f1, f2, f3, f4⟩, u⟩ := F
        refine wpAny_setFlight_noneW f1 f3 f4 fun h' k1 k2 k3 k4 => ?_
        have G' : Good C (A₀.deeper env) S' { s₂ with heap := h' } := Good.upTo (s := { s₂ with heap := h' }) (h₀ := h₀) (hid := hid) G hh k1 (u.trans fun b o eb hn => ⟨o.slots, k4 b o eb hn⟩)
        exact wpAny_mono ((h2 S' e hT).1 _ (G'.around (A := A₀.deeper env) (A' := (A₀.deeper env).mark (some (.ref e))) rfl)) (fun f s' ⟨S'', G'', q⟩ => ⟨S'', G''.around rfl, q⟩) fun _ _ x => x.elim
    obtain ⟨fr, hA⟩ := hA₀
    rcases hv with hv | hv
    · obtain ⟨h₀, G, N⟩ := hv
      obtain ⟨hfr, f⟩ := G.outer hA
      obtain ⟨ob, t, e1, e2, e3⟩ := N.there
      have hne : (hideAll h₀ (frAddrs (env :: fr))).get? e = none := by
        cases q : (hideAll h₀ (frAddrs (env :: fr))).get? e with
        | none => rfl
        | some o => have := of_hideAll _ q; rw [N.new] at this; cases this
      have step : wpAny (model C.prog C.w) (A₀.deeper env) (noteFrame (.ref e) env) (fun _ s₂ => wpAny (model C.prog C.w) (A₀.deeper env) (setFlight (.ref e) none) (fun _ s₃ => Fly C (A₀.deeper env) S' e s₃) E s₂) E s' := by
        unfold noteFrame
        simp only [hf]
        refine wpAny_bind (wpAny_field e1 e3 (x := .none) rfl ?_)
        rw [if_neg (by decide)]
        refine wpAny_entryW (base := hideAll h₀ (frAddrs (env :: fr))) hfr (f.fun (fun _ h => h) fun b o eb hn => ⟨o.slots, N.keeps b o eb⟩) hf e1 (fun b o eb => N.keeps b o (of_hideAll _ eb)) hne e3 (by simp) rfl fun h' hN => ?_
        obtain ⟨k1, k2, k3, k4⟩ := hN
        refine wpAny_setFlight_noneW k1 k2 k3 fun h'' j1 j2 j3 j4 => ⟨h₀, _, _, _, hfr, G, f.hid, ⟨j1, hne, j2, e2 ▸ j3⟩, fun b o eb hn => ?_⟩
        obtain ⟨sl, e5⟩ := k4 b o (N.keeps b o eb) hn
        exact ⟨sl, j4 b _ e5 hn⟩
      exact wpAny_mono step (fun _ s₂ h => wpAny_mono h (fun _ s₃ F => done s₃ F) fun _ _ x => x) fun _ _ x => x
    · obtain ⟨h₀, hid, a0, fr', hf', G, hh, F, u⟩ := hv
      obtain ⟨hfr, f⟩ := G.outer hA
      rw [hfr] at hf'; cases hf'
      obtain ⟨f1, f2, f3, f4⟩ := F
      refine wpAny_noteFrame_onW hfr f3 hf f4 f1 f2 fun h' hN => ?_
      obtain ⟨k1, k2, k3, k4⟩ := hN
      refine wpAny_setFlight_noneW k1 k2 k3 fun h'' j1 j2 j3 j4 => done _ ⟨h₀, hid, a0, _, hfr, G, hh, ⟨j1, f2, j2, j3⟩, fun b o eb hn => ?_⟩
      obtain ⟨sl, e4⟩ := u b o eb hn
      obtain ⟨sl', e5⟩ := k4 b _ e4 hn
      exact ⟨sl', j4 b _ e5 hn⟩
/-- while: I what holds before a turn that has at most n turns to go -/
theorem W.sWhile {test : Expr} {body : List Stmt} {pos : Pos} {Q : Flow → St → Prop} (I : Nat → St → Prop) (n : Nat) (h0 : I n S) (hE : PassesOwn (model C.prog C.w) A env E)
    (h : ∀ n S, I n S → W C A S (isTrue test env (eval test env)) (fun b S₁ => if b then W C A S₁ (execs body env) (fun f S₂ => match f with
        | .next | .cont => ∃ m S₃, m < n ∧ S₃.Sublist S₂ ∧ I m S₃
        | .brk => Q .next S₂
        | .ret v => Q (.ret v) S₂) E else Q .next S₁) E) : W C A S (exec (.While test body [] pos) env) Q E := .intro fun s G => by
  refine wpAny_While (codeAny_whileLoop (fun m s' => ∃ S, I m S ∧ Good C A S s') (fun m s' ⟨S, hI, G'⟩ => ?_) n ⟨S, h0, G⟩)
  refine wpAny_mono ((h m S hI).1 s' G') (fun b s₁ ⟨S₁, G₁, q⟩ => ?_) (fun v s' hv => hE v s' hv)
  cases b with
  | false =>
    simp only [Bool.false_eq_true, if_false] at q ⊢
    exact wpAny_execs_nil ⟨S₁, G₁, q⟩
  | true =>
    simp only [if_true] at q ⊢
    refine wpAny_mono (q.1 s₁ G₁) (fun f s₂ ⟨S₂, G₂, q₂⟩ => ?_) (fun v s' hv => hE v s' hv)
    cases f with
    | next => obtain ⟨k, S₃, hk, hs, hI⟩ := q₂; exact ⟨k, hk, S₃, hI, G₂.weaken hs⟩
    | cont => obtain ⟨k, S₃, hk, hs, hI⟩ := q₂; exact ⟨k, hk, S₃, hI, G₂.weaken hs⟩
    | brk => exact ⟨S₂, G₂, q₂⟩
    | ret v => exact ⟨S₂, G₂, q₂⟩
theorem PassesOwn.noE {M : Model} {A : Around} {env : Env} : PassesOwn M A env NoE := fun _ _ h => h.elim
theorem PassesOwn.lv {T : St → Prop} : PassesOwn (model C.prog C.w) (A.deeper env) env (Lv C A env T) := PassesOwn.leaving
end
end Mine
-- part B17
namespace Mine
open PySem PySem.Calls PySem.W PyProof.Rows
/-- an object of the program's own class Cc, with slots -/
def instO (Cc dx : Addr) (sl : List (Option Value)) : Obj := { cls := .ref Cc, dict := some dx, data := .plain, slots := sl.toArray }
section
variable {C : Cx} {A : Around} {S : St} {E : Value → Shared → Prop} {env : Env} {s : Shared} {K : Frag} {x dx Cc p : Addr} {sl : List (Option Value)} {name : Str} {i : Nat} {v : Value} {l : List (Str × Option Value)}
theorem Good.inst (G : Good C A S s) (hm : (x, .obj (instO Cc dx sl)) ∈ S) (hd : (dx, .ns l) ∈ S) : ∃ od, InstAt s.heap x (instO Cc dx sl) Cc (some od) := by
  obtain ⟨⟨o, es, ep, e1, e2, _⟩, _⟩ := (G.sat _ hd).2.2
  exact ⟨o, (G.sat _ hm).2.2, rfl, rfl, e1⟩
theorem W.getSlot {Q : Value → St → Prop} {expr : Bool} (X : K.In C.base) (hm : (x, .obj (instO Cc dx sl)) ∈ S) (hd : (dx, .ns l) ∈ S) (hv : sl[i]? = some (some v)) (hh : handedIn v = true) (h : Q v S)
    (hg : plainGet K Cc name = true) (hc : isClsIn K Cc = true) (ha : findIn K (.ref Cc) name = some (some (.ref p))) (hn : specialIn K (.ref p) "__get__" = some (some (.builtin "member_descriptor.__get__"))) (ht : takesIn K (.ref p) = some true) (hp : slotIn K p Cc = some i) :
    W C A S (getAttr (.ref x) name expr) Q E := .intro fun s G => by
  obtain ⟨od, I⟩ := G.inst hm hd
  have X' := X.keeps G.keep
  have hv' : ((instO Cc dx sl).slots[i]?).join = some v := by show ((sl.toArray)[i]?).join = _; rw [List.getElem?_toArray, hv]; rfl
  exact get_bind X' I (plainGet_of hg).1 (findObj_data hc ha hn ht) (plainGet_of hg).2 (wpAny_call (slot_get (s := { s with toks := s.toks + 1 }) X' I hp hv' (handed_on hh ⟨S, G.tok _, h⟩)))
theorem slot_set' {C : Cx} {A : Around} {R : Result → Shared → Prop} {s : Shared} {od : Option Obj} {ox : Obj} (X : K.In s.heap) (I : InstAt s.heap x ox Cc od) (hp : slotIn K p Cc = some i) (hi : i < 1000)
    (h : R (.ok (.ret .none)) { s with heap := s.heap.update x (fun o => { o with slots := (o.slots ++ Array.replicate (i + 1 - o.slots.size) none).setIfInBounds i (some v) }) }) :
    codeAny (model C.prog C.w) A (.call (.builtin "member_descriptor.__set__") ⟨[.ref p, .ref x, v], []⟩) R s := by
  obtain ⟨n, tn, owner, behind, tb, d, sl, cd, ho, hc, hm, hb, rfl⟩ := slot_of X hp
  obtain ⟨hh, g, dr, t, os⟩ := s
  have L0 := I.type (M := model C.prog C.w)
  have L1 := looks_mroIn (M := model C.prog C.w) X hm
  have L2 : Looks (model C.prog C.w) hh (Builtin.Slots.slotNamesOf (.ref Cc)) cd.slotNames := (looks_clsIn X hc).andThen .now
  have hx := I.at_
  dsimp only at ho hx L0 L1
  have f0 := looks_field (M := model C.prog C.w) ho 0 (v := .str n tn) rfl
  have f1 := looks_field (M := model C.prog C.w) ho 1 (v := owner) rfl
  have f3 := looks_field (M := model C.prog C.w) ho 3 (v := .builtin "proto.slot#set") rfl
  have f4 := looks_field (M := model C.prog C.w) ho 4 (v := .int behind tb) rfl
  refine codeAny_call_builtin KF.slot_mset.plain KF.entry_mset (KF.slot_mset.check _ _ _ _ _ _ _ _ ⟨_, ho, rfl⟩ (KF.args_mset _ _ _) ?_)
  unfold Builtin.«member_descriptor.__set__» Builtin.Getset_descriptor.descrSet Builtin.Getset_descriptor.descrStoreThrough Builtin.Getset_descriptor.descrCheckInstance Builtin.Getset_descriptor.descrNameAndClass isInstance
  have f5 : Looks (model C.prog C.w) hh (Builtin.Getset_descriptor.descrItself (.ref p)) [.ref p] := ((Looks.ld (part := none) ho).andThen .now).andThen (Looks.of_pure (by kernel_rfl))
  repeat lk
  refine ⟨Code.quiet_builtin _ (by decide +kernel), codeAny_builtin KF.entry_slotset ?_⟩
  unfold Builtin.«proto.slot#set» Builtin.Slots.target
  repeat lk
  rw [if_neg hb]
  refine wpAny_pure (wpAny_bind ?_)
  unfold setSlotAt
  dsimp only
  rw [if_neg (by rw [sizeLine_eq]; omega)]
  exact wpAny_updatePart hx (wpAny_pure h)
def putSlot : List (Option Value) → Nat → Value → List (Option Value)
  | [], 0, v => [some v]
  | [], n + 1, v => none :: putSlot [] n v
  | _ :: l, 0, v => some v :: l
  | a :: l, n + 1, v => a :: putSlot l n v
theorem putSlot_eq : ∀ (sl : List (Option Value)) (i : Nat) (v : Value), putSlot sl i v = (sl ++ List.replicate (i + 1 - sl.length) none).set i (some v)
  | [], 0, v => rfl
  | [], n + 1, v => by
    have ih := putSlot_eq [] n v
    simp only [putSlot, ih, List.nil_append, List.length_nil, Nat.sub_zero]
    rw [List.replicate_succ (n := n + 1)]; rfl
  | _ :: l, 0, v => by simp [putSlot]
  | a :: l, n + 1, v => by
    have ih := putSlot_eq l n v
    have e : n + 1 + 1 - (a :: l).length = n + 1 - l.length := by simp
    rw [e]; simp only [putSlot, ih, List.cons_append, List.set_cons_succ]
theorem W.setSlot {Q : Unit → St → Prop} {S'} (X : K.In C.base) (hm : Upd x (.obj (instO Cc dx sl)) (.obj (instO Cc dx (putSlot sl i v))) S S') (hd : (dx, .ns l) ∈ S) (h : Q () S')
    (hs : findIn K (.ref Cc) "__setattr__" = some (some (.builtin "object.__setattr__"))) (hp : plainOver K Cc = true) (ht : takerIn K Cc name = some (some (.ref p))) (hT : typeIn K (.ref p) = some (.type "member_descriptor")) (hi : slotIn K p Cc = some i) (hz : i < 1000) :
    W C A S (setAttr (.ref x) name v) Q E := .intro fun s G => by
  obtain ⟨od, I⟩ := G.inst hm.mem hd
  have X' := X.keeps G.keep
  refine set_plain X' I hs (osa_descr (s := { s with toks := s.toks + 1 }) KF.slot_mset X' I hp ht hT (slot_set' (s := { s with toks := s.toks + 1 }) X' I hi hz ?_))
  refine ⟨S', ?_, h⟩
  have e := Heap.get?_update_self (fun o : Obj => { o with slots := (o.slots ++ Array.replicate (i + 1 - o.slots.size) none).setIfInBounds i (some v) }) I.at_ rfl
  refine (G.tok (s.toks + 1)).change hm (Heap.SameBut.update ..) (e.trans ?_) (by show Value.ref Cc ≠ Value.type "code"; intro q; cases q) (fun z => absurd z ((G.sat _ hm.mem).2.2.notDict (by intro es ep q; cases q))) rfl G.gens
  have e2 : (sl.toArray ++ Array.replicate (i + 1 - sl.toArray.size) none).setIfInBounds i (some v) = (putSlot sl i v).toArray := by
    rw [putSlot_eq]
    apply Array.toList_inj.mp
    simp
  show some _ = some _
  unfold instO
  rw [← e2]
/-- a def's code, called -/
theorem codeDef {F : Addr} {fd : FuncData} {n : Nat} {body : List Stmt} {vals : List Value} {kw : List (Str × Value)} {binds : List (Str × Value)} {Q : Value → St → Prop} (names others : List Str)
    (hF : FnIs C F fd) (R : Room A (n + 1)) (hbody : fd.body = .stmts body) (hbind : ∀ s, Good C A S s → BindsTo s fd ⟨vals, kw⟩ binds)
    (hcell : ∀ x ∈ fd.scope.names, x.2 ≠ .cell) (hloc : ∀ x ∈ names, fd.scope.names.lookup x = some .local) (hnd : (names ++ others).Nodup)
    (h : ∀ L, Room (A.deeper (callEnv fd L F)) n → W C (A.deeper (callEnv fd L F)) ((L, .ns (locals0 binds others)) :: S) (execs body (callEnv fd L F)) (fun fl S' => ∃ S'', S''.Sublist S' ∧ Q (retOf fl) S'') NoE)
    (hco : fd.scope.isCoroutine = false := by rfl) (hgen : fd.scope.isGenerator = false := by rfl) (hk : fd.scope.kind = .function := by rfl) (hnm : binds.map (·.1) = names := by rfl) :
    ∀ s, Good C A S s → codeAny (model C.prog C.w) A (.call (.ref F) ⟨vals, kw⟩) (fun r s' => ∃ v S', r = .ok (.ret v) ∧ Good C A S' s' ∧ Q v S') s := fun s G => by
  subst hnm
  obtain ⟨⟨o, ho, hd⟩, hcd, hlim⟩ := hF
  refine codeAny_call_def (binds := binds) (body := body) (by have := R.depth; omega) (G.keep _ _ ho) hd (hlim.keeps G.keep) (hcd.keeps G.keep) hbody (hbind s G) hcell (fun x hx => hloc _ (List.mem_map.mpr ⟨x, hx, rfl⟩)) (fun h₀ hn k => ?_) hco hgen hk
  have hA : ∃ fr, A.frames = some fr := let ⟨fr, e, _⟩ := G.frames; ⟨fr, e⟩
  have G1 : Good C A ((s.heap.objs.size, .ns (locals0 binds others)) :: S) { s with heap := h₀, toks := s.toks + binds.length } :=
    G.new k (fresh_none _) ⟨by rw [mapOf_locals0 _ _ hnd]; exact hn, by rw [locals0_keys]; exact hnd⟩ rfl G.gens
  refine wpAny_mono ((h _ R.deeper).1 _ (Good.enter (c := .cell none) G (env := callEnv fd s.heap.objs.size F) rfl (by show fd.scope.kind ≠ _; rw [hk]; decide) G1 ⟨_, .head _⟩)) (fun fl s' ⟨S', G', S'', hs, q⟩ => ?_) (fun _ _ x => x.elim)
  exact ⟨_, S'', rfl, (G'.leave hA).weaken hs, by cases fl <;> exact q⟩
/-- an object of a class is made -/
theorem W.makeInst {vals : List Value} {fI : Addr} {Q : Value → St → Prop} (X : K.In C.base) (hm : makesIn K Cc = true) (hi : findIn K (.ref Cc) "__init__" = some (some (.ref fI))) (hf : typeIn K (.ref fI) = some (.type "function"))
    (h : ∀ x dx A', A'.frames = A.frames → A'.handled = A.handled → A'.depth = A.depth + 1 → A'.units ≤ A.units + 8 → ∀ s, Good C A' ((x, .obj (instO Cc dx [])) :: (dx, .ns []) :: S) s → codeAny (model C.prog C.w) A' (.call (.ref fI) ⟨.ref x :: vals, []⟩) (fun r s' => ∃ v S', r = .ok (.ret v) ∧ Good C A' S' s' ∧ v = .none ∧ Q (.ref x) S') s) :
    W C A S (call (.ref Cc) vals) Q E := .intro fun s G => by
  have X' := X.keeps G.keep
  obtain ⟨hh, g, d, t, os⟩ := s
  refine wpAny_call (make_core (makes_of X' hm) (looks_findIn X' hi) (fun self => bind_fn X' self hf) (.inl rfl) ?_)
  have G1 : Good C A ((hh.objs.size, .ns []) :: S) ⟨hh.push emptyDict, g, d, t, os⟩ := G.new (s' := ⟨hh.push emptyDict, g, d, t, os⟩) (c := .ns []) (fun b o e => Heap.get?_push_of_some _ e) (fresh_none _) ⟨by
    have := Heap.Ns.new hh (.type "dict")
    exact this, by simp⟩ rfl G.gens
  have G2 : Good C A ((hh.objs.size + 1, .obj (instO Cc hh.objs.size [])) :: (hh.objs.size, .ns []) :: S) ⟨(hh.push emptyDict).push (instObj Cc hh.objs.size), g, d, t, os⟩ := by
    have e : hh.objs.size + 1 = (hh.push emptyDict).objs.size := (Heap.size_push ..).symm
    rw [e]
    exact G1.new (s' := ⟨(hh.push emptyDict).push (instObj Cc hh.objs.size), g, d, t, os⟩) (c := .obj (instO Cc hh.objs.size [])) (fun b o e => Heap.get?_push_of_some _ e) (fresh_none _) (Heap.get?_push_size _ rfl) rfl G.gens
  refine codeAny_mono (h (hh.objs.size + 1) hh.objs.size (A.under (.builtin "type.__call__" ⟨.ref Cc :: vals, []⟩)) rfl rfl rfl ?_ _ (G2.around rfl)) fun r s' ⟨v, S', e1, G', e2, q⟩ => ?_
  · show A.units + Code.cUnits _ ≤ _
    simp only [Code.cUnits, Code.frames, Code.isFrame]
    simp
  · subst e1 e2
    exact ⟨rfl, S', G'.around rfl, q⟩
theorem W.attr {value : Expr} {attr : Str} {pos : Pos} {Q : Value → St → Prop} (h : W C A S (eval value env) (fun o S₁ => W C A S₁ (getAttr o attr true) Q E) E)
    (he : eval (.Attribute value attr pos) env = (do
      let o ← eval value env
      standAt pos.atName
      let r ← holding [o] (getAttr o attr true)
      letTemporaryGo value o r
      pure r) := by with_unfolding_all rfl) : W C A S (eval (.Attribute value attr pos) env) Q E := .intro fun s G =>
  Attribute_any_ (wpAny_mono (h.1 s G) (fun _ s' ⟨_, G', q⟩ => q.1 s' G') fun _ _ x => x) he
theorem W.sSetAttr {o value : Expr} {attr : Str} {pos' pos : Pos} {Q : Flow → St → Prop} (h : W C A S (eval value env) (fun v S₁ => W C A S₁ (eval o env) (fun ov S₂ => W C A S₂ (setAttr ov attr v) (fun _ => Q .next) E) E) E)
    (hs : swapsWith value (some (.Attribute o attr pos')) pos.line env = Pure.pure false := by rfl) : W C A S (exec (.Assign [.Attribute o attr pos'] value pos) env) Q E := .intro fun s G =>
  plainObj_wpAny_Assign_Attribute (wpAny_mono (h.1 s G) (fun _ s' ⟨_, G', q⟩ => wpAny_mono (q.1 s' G') (fun _ s' ⟨_, G', q⟩ => q.1 s' G') fun _ _ x => x) fun _ _ x => x) hs
theorem W.sAugAttr {o value : Expr} {attr : Str} {tpos pos : Pos} {op : Operator} {Q : Flow → St → Prop}
    (h : W C A S (eval o env) (fun ov S₁ => W C A S₁ (getAttr ov attr true) (fun old S₂ => W C A S₂ (eval value env) (fun v S₃ => W C A S₃ (inplaceOp op old v) (fun new S₄ => W C A S₄ (setAttr ov attr new) (fun _ => Q .next) E) E) E) E) E) :
    W C A S (exec (.AugAssign (.Attribute o attr tpos) op value pos) env) Q E := .intro fun s G =>
  wpAny_AugAssign_AttributeAny (wpAny_mono (h.1 s G) (fun _ s' ⟨_, G', q⟩ => wpAny_mono (q.1 s' G') (fun _ s' ⟨_, G', q⟩ => wpAny_mono (q.1 s' G') (fun _ s' ⟨_, G', q⟩ => wpAny_mono (q.1 s' G') (fun _ s' ⟨_, G', q⟩ => q.1 s' G') fun _ _ x => x) fun _ _ x => x) fun _ _ x => x) fun _ _ x => x)
theorem Good.noShadow (G : Good C A S s) (hm : (x, .obj (instO Cc dx sl)) ∈ S) (hd : (dx, .ns []) ∈ S) : ∃ od, InstAt s.heap x (instO Cc dx sl) Cc (some od) ∧ ∀ name, shadowIn (some od) name = some false := by
  obtain ⟨⟨o, es, ep, e1, e2, e3, e4⟩, _⟩ := (G.sat _ hd).2.2
  refine ⟨o, ⟨(G.sat _ hm).2.2, rfl, rfl, e1⟩, fun name => ?_⟩
  have h4 : nsFind es name = none := e4 name
  unfold nsFind findBy at h4
  have h5 : es.toList.find? (fun e => e.key.isStr name) = none := by
    have : es.find? (fun e => e.key.isStr name) = none := by simpa using h4
    rw [← Array.find?_toList] at this; exact this
  have h6 : es.toList.any (·.refKey) = false := by
    rw [List.any_eq_false]
    intro e he
    obtain ⟨n, t, hk⟩ := e3 e (Array.mem_toList_iff.mp he)
    simp [DictEntry.refKey, hk]
  have h7 : lookIn name o = some none := by
    unfold lookIn
    split
    · rename_i es' _ h'
      rw [e2] at h'; cases h'
      rw [h5]; simp only [h6]; rfl
    · rename_i h'; exact absurd e2 (h' _ _)
  show (lookIn name o).map (·.isSome) = _
  rw [h7]; rfl
/-- self.method(): the class's own def -/
theorem W.callOwn0 {o : Expr} {apos pos : Pos} {f : Addr} {Q : Value → St → Prop} (X : K.In C.base)
    (h : W C A S (eval o env) (fun ov S₁ => ov = .ref x ∧ (x, .obj (instO Cc dx sl)) ∈ S₁ ∧ (dx, .ns []) ∈ S₁ ∧ W C A S₁ (call (.ref f) [.ref x]) Q E) E)
    (hga : findIn K (.ref Cc) "__getattribute__" = some (some (.builtin "object.__getattribute__"))) (hk : findIn K (.ref Cc) "__getattr__" = some none)
    (hf : findIn K (.ref Cc) name = some (some (.ref f))) (ht : typeIn K (.ref f) = some (.type "function")) (hfi : keepIn K (.ref f) = true)
    {pl : Sem Bool} (he : eval (.Call (.Attribute o name apos) [] [] pos) env = (do
      let ov ← eval o env
      standAt apos.atName
      let (f, first) ← holding [ov] (getMethod ov name pl)
      callWith pos f first (backTo pos (starEach [] env)) []) := by rfl) : W C A S (eval (.Call (.Attribute o name apos) [] [] pos) env) Q E := .intro fun s G => by
  refine MethodCall_ (pl := pl) (wpAny_mono (h.1 s G) (fun ov s₁ ⟨S₁, G₁, e1, hm, hd, q⟩ => ?_) fun _ _ x => x) he
  subst e1
  obtain ⟨od, I, hsh⟩ := G₁.noShadow hm hd
  have X' := X.keeps G₁.keep
  exact method_fn X' I hga hk hf ht (hsh name) (callWith_K0 X' hfi (q.1 s₁ G₁))
/-- iter(object) by the own __iter__ of its class, which gives the object back -/
theorem W.iterInst {f : Addr} {g : Value} {Q : Value → St → Prop} (X : K.In C.base) (hm : (x, .obj (instO Cc dx sl)) ∈ S) (hd : (dx, .ns l) ∈ S) (hi : findIn K (.ref Cc) "__iter__" = some (some (.ref f))) (ht : typeIn K (.ref f) = some (.type "function")) (hn : findIn K (.ref Cc) "__next__" = some (some g))
    (h : W C A S (call (.ref f) [.ref x]) (fun v S' => v = .ref x ∧ (x, .obj (instO Cc dx sl)) ∈ S' ∧ (dx, .ns l) ∈ S' ∧ Q (.ref x) S') E) : W C A S (pyIter (.ref x)) Q E := .intro fun s G => by
  obtain ⟨od, I⟩ := G.inst hm hd
  have X' := X.keeps G.keep
  let P : Option Value → Shared → Prop := fun r s' => r = some (.ref x) ∧ ∃ S', Good C A S' s' ∧ (x, .obj (instO Cc dx sl)) ∈ S' ∧ (dx, .ns l) ∈ S' ∧ Q (.ref x) S'
  have called : wpAny (model C.prog C.w) A (do let v ← call (.ref f) [.ref x]; Pure.pure (some v)) P E s :=
    wpAny_bind (wpAny_mono (h.1 s G) (fun v s' ⟨S', G', e, h1, h2, q⟩ => wpAny_pure ⟨congrArg some e, S', G', h1, h2, q⟩) fun _ _ z => z)
  have step : ∀ refuse : Sem Value, wpAny (model C.prog C.w) A (callSpecialIfBoundUnlessNone? (.ref x) "__iter__" refuse) P E s := fun refuse => by
    have tail : wpAny (model C.prog C.w) A (if (Value.ref f == Value.none) = true then (do let v ← refuse; Pure.pure (some v)) else (do let v ← call (.ref f) [.ref x]; Pure.pure (some v))) P E s := by
      rw [if_neg (by simp)]; exact called
    simp only [callSpecialIfBoundUnlessNone?, bindSpecialIfBound?]
    refine wpAny_holding (wpAny_bind (wpAny_bind (wpAny_bind (I.type.here ((looks_findIn X' hi).here (wpAny_bind (wpAny_askSetting (wpAny_ite ?_))))))))
    split
    · exact wpAny_bind ((bind_fn X' _ ht).here (wpAny_pure tail))
    · exact wpAny_tryCatch (wpAny_bind ((bind_fn X' _ ht).here (wpAny_pure tail)))
  unfold pyIter
  refine wpAny_bind (wpAny_bind (I.type.here ((looks_findIn X' hi).here ?_)))
  refine wpAny_bind (wpAny_mono (step _) (fun r s' ⟨e, S', G', h1, h2, q⟩ => ?_) fun _ _ z => z)
  subst e
  obtain ⟨od', I'⟩ := G'.inst h1 h2
  exact wpAny_bind (wpAny_bind (I'.type.here ((looks_findIn (X.keeps G'.keep) hn).here (wpAny_pure ⟨S', G', q⟩))))
/-- next(object) by the own __next__ of its class -/
theorem W.pyNextInst {f : Addr} {Q : Option Value → St → Prop} {T : St → Prop} (X : K.In C.base) (hm : (x, .obj (instO Cc dx sl)) ∈ S) (hd : (dx, .ns l) ∈ S) (hf : findIn K (.ref Cc) "__next__" = some (some (.ref f))) (ht : typeIn K (.ref f) = some (.type "function"))
    (h : W C A S (call (.ref f) [.ref x]) (fun v S' => Q (some v) S') (Stops C A T)) (hT : ∀ S', T S' → Q none S') : W C A S (pyNext (.ref x)) Q E := .intro fun s G => by
  obtain ⟨od, I⟩ := G.inst hm hd
  have X' := X.keeps G.keep
  unfold pyNext
  refine wpAny_bind (wpAny_attempt (special_fn X' I hf ht (wpAny_mono (h.1 s G) (fun v s' ⟨S', G', q⟩ => wpAny_pure ⟨S', G', q⟩) fun v s' hs => ?_)))
  obtain ⟨e, S', rfl, hT', G', hty⟩ := hs.good
  refine wpAny_bind (wpAny_isInstance (T := "StopIteration") (b := true) hty isSubtype_stop ?_)
  exact wpAny_pure ⟨S', G', hT S' hT'⟩
end
end Mine
-- part B18
namespace Mine
open PySem PySem.Calls PySem.W PyProof.Rows
def lamEnv (fd : FuncData) (L f : Addr) : Env := newEnv fd.scope L fd.globals fd.closure (fd.qualname ++ ".<locals>.") (some f) fd.code none fd.builtins
section
variable {C : Cx} {A : Around} {S : St} {E : Value → Shared → Prop} {env : Env} {s : Shared} {K : Frag} {x dx Cc p : Addr} {sl : List (Option Value)} {name : Str} {i : Nat} {v : Value} {l : List (Str × Option Value)}
/-- a lambda that is known is called -/
theorem W.callLam {f : Addr} {fd : FuncData} {n : Nat} {body : Expr} {vals : List Value} {binds : List (Str × Value)} {Q : Value → St → Prop} (names : List Str) (hm : (f, .fn fd) ∈ S) (hlim : C.base.NoLimit) (R : Room A (n + 1)) (hbody : fd.body = .expr body)
    (hbind : bindArgs fd ⟨vals, []⟩ = Pure.pure binds) (hcell : ∀ x ∈ fd.scope.names, x.2 ≠ .cell) (hloc : ∀ x ∈ names, fd.scope.names.lookup x = some .local) (hnd : names.Nodup)
    (h : ∀ L, Room (A.deeper (lamEnv fd L f)) n → W C (A.deeper (lamEnv fd L f)) ((L, .ns (locals0 binds [])) :: S) (eval body (lamEnv fd L f)) (fun v S' => ∃ S'', S''.Sublist S' ∧ Q v S'') NoE)
    (hco : fd.scope.isCoroutine = false) (hgen : fd.scope.isGenerator = false) (hk : fd.scope.kind = .function) (hnm : binds.map (·.1) = names) : W C A S (call (.ref f) vals) Q E := .intro fun s G => by
  subst hnm
  obtain ⟨ho, hc⟩ := (G.sat _ hm).2.2
  have hA : ∃ fr, A.frames = some fr := let ⟨fr, e, _⟩ := G.frames; ⟨fr, e⟩
  refine wpAny_call (kla_callFunE (by have := R.depth; omega) ho rfl hco hgen hbody hc.rec ?_)
  rw [hbind]
  refine wpAny_pure (wpAny_newFunctionEnv hcell (fun x hx => hloc _ (List.mem_map.mpr ⟨x, hx, rfl⟩)) (fun h' hn hs => ?_) hk)
  have kk : ∀ b o, s.heap.get? b = some o → h'.get? b = some o := fun b o e => hs.extBut b o (Nat.ne_of_lt (Heap.lt_size e)) (Heap.get?_push_of_some _ e)
  have G1 : Good C A ((s.heap.objs.size, .ns (locals0 binds [])) :: S) { s with heap := h', toks := s.toks + binds.length } :=
    G.new (s' := { s with heap := h', toks := s.toks + binds.length }) (c := .ns (locals0 binds [])) kk (fresh_none _) ⟨by rw [mapOf_locals0 _ _ (by simpa using hnd)]; exact hn, by rw [locals0_keys]; simpa using hnd⟩ rfl G.gens
  refine ⟨hlim.keeps G1.keep, kla_codeExpr ?_⟩
  refine wpAny_mono ((h _ R.deeper).1 _ (Good.enter (c := .cell none) G (env := lamEnv fd s.heap.objs.size f) rfl (by show fd.scope.kind ≠ _; rw [hk]; decide) G1 ⟨_, .head _⟩)) (fun v s' ⟨S', G', S'', hs, q⟩ => ?_) (fun _ _ x => x.elim)
  exact ⟨S'', (G'.leave hA).weaken hs, q⟩
/-- the arguments of a function that is known -/
theorem W.withLam {f : Addr} {fd : FuncData} {pos : Pos} {first : List Value} {e : Expr} {rest : List Expr} {Q : Value → St → Prop}
    (h : W C A S (spliced (backTo pos (starEach (e :: rest) env))) (fun vs S₁ => (f, .fn fd) ∈ S₁ ∧ W C A S₁ (call (.ref f) (first ++ vs)) Q E) E)
    (he : starEach (e :: rest) env = (false, eval e env) :: starEach rest env := by rfl) : W C A S (callWith pos (.ref f) first (backTo pos (starEach (e :: rest) env)) []) Q E := .intro fun s G => by
  refine callWith_function (o := fnObj fd) (fd := fd) ?_
  rw [show backTo pos (starEach (e :: rest) env) = (false, eval e env) :: backTo pos (starEach rest env) from by rw [he]; rfl]
  refine evalArgs_plain ?_
  rw [show (false, eval e env) :: backTo pos (starEach rest env) = backTo pos (starEach (e :: rest) env) from by rw [he]; rfl]
  exact wpAny_mono (h.1 s G) (fun vs s' ⟨S', G', hm, q⟩ => ⟨⟨(G'.sat _ hm).2.2.1, rfl⟩, q.1 s' G'⟩) fun _ _ x => x
theorem W.withCls {pos : Pos} {first : List Value} {e : Expr} {rest : List Expr} {Q : Value → St → Prop} (X : K.In C.base) (hk : keepIn K (.ref Cc) = true)
    (h : W C A S (spliced (backTo pos (starEach (e :: rest) env))) (fun vs S₁ => W C A S₁ (call (.ref Cc) (first ++ vs)) Q E) E)
    (he : starEach (e :: rest) env = (false, eval e env) :: starEach rest env := by rfl) (hplain : (backTo pos (starEach rest env)).any (·.1) = false := by rfl) : W C A S (callWith pos (.ref Cc) first (backTo pos (starEach (e :: rest) env)) []) Q E := .intro fun s G =>
  callWith_K (h₀ := C.base) X hk (wpAny_mono (h.1 s G) (fun vs s' ⟨S', G', q⟩ => ⟨X.keeps G'.keep, q.1 s' G'⟩) fun _ _ x => x) he hplain
/-- self.slot(args), the slot holds a function -/
theorem W.callSlot {o : Expr} {apos pos : Pos} {args : List Expr} {Q : Value → St → Prop} (X : K.In C.base)
    (h : W C A S (eval o env) (fun ov S₁ => ov = .ref x ∧ (x, .obj (instO Cc dx sl)) ∈ S₁ ∧ (dx, .ns l) ∈ S₁ ∧ W C A S₁ (callWith pos v [] (backTo pos (starEach args env)) []) Q E) E)
    (hv : sl[i]? = some (some v)) (hh : handedIn v = true)
    (hg : plainGet K Cc name = true) (hc : isClsIn K Cc = true) (ha : findIn K (.ref Cc) name = some (some (.ref p))) (hn : specialIn K (.ref p) "__get__" = some (some (.builtin "member_descriptor.__get__"))) (ht : takesIn K (.ref p) = some true) (hp : slotIn K p Cc = some i)
    (hty : typeIn K (.ref p) = some (.type "member_descriptor"))
    {pl : Sem Bool} (he : eval (.Call (.Attribute o name apos) args [] pos) env = (do
      let ov ← eval o env
      standAt apos.atName
      let (f, first) ← holding [ov] (getMethod ov name pl)
      callWith pos f first (backTo pos (starEach args env)) []) := by rfl) : W C A S (eval (.Call (.Attribute o name apos) args [] pos) env) Q E := .intro fun s G => by
  refine MethodCall_ (pl := pl) (wpAny_mono (h.1 s G) (fun ov s₁ ⟨S₁, G₁, e1, hm, hd, q⟩ => ?_) fun _ _ x => x) he
  subst e1
  obtain ⟨od, I⟩ := G₁.inst hm hd
  have X' := X.keeps G₁.keep
  have hcan := PySem.F.canon_object_ga
  unfold getMethod specialOf
  refine wpAny_bind (wpAny_bind (I.type.here ((looks_findIn X' (plainGet_of hg).1).here ?_)))
  dsimp only
  rw [hcan, if_neg (by decide)]
  refine wpAny_bind (wpAny_bind (I.type.here ((looks_findIn X' (plainGet_of hg).2).here ?_)))
  refine wpAny_bind (wpAny_bind (I.type.here ((looks_findIn X' ha).here (wpAny_bind ((looks_typeIn X' hty).here ?_)))))
  rw [if_pos (by decide +kernel)]
  exact wpAny_bind (wpAny_mono ((W.getSlot (E := E) (Q := fun r S' => r = v ∧ S' = S₁) X hm hd hv hh ⟨rfl, rfl⟩ hg hc ha hn ht hp).1 s₁ G₁) (fun r s' ⟨S', G', e1, e2⟩ => by subst e1 e2; exact wpAny_pure (q.1 s' G')) fun _ _ x => x)
-- is, ==
theorem W.isNone {v : Value} {Q : Value → St → Prop} (h : Q (.bool (v == .none)) S) : W C A S (compareOp .Is v .none) Q E := .intro fun s G => is_none ⟨S, G, h⟩
theorem W.isBool {a b : Bool} {Q : Value → St → Prop} (h : Q (.bool (decide (a = b))) S) : W C A S (compareOp .Is (.bool a) (.bool b)) Q E := .intro fun s G =>
  wpAny_is_plain (by rfl) ⟨S, G, by
    have : (Value.bool a == Value.bool b) = decide (a = b) := by cases a <;> cases b <;> rfl
    rw [this]; exact h⟩
theorem W.isNotRef {a : Addr} {Q : Value → St → Prop} (h : Q (.bool false) S) : W C A S (compareOp .IsNot (.ref a) (.ref a)) Q E := .intro fun s G => wpAny_isNot_ref_self ⟨S, G, h⟩
theorem W.neI {a b : Int} {t u : Tok} {Q : Value → St → Prop} (h : Q (.bool (decide (a ≠ b))) S) : W C A S (compareOp .NotEq (.int a t) (.int b u)) Q E := .intro fun s G => PySem.P.ne_int ⟨S, G, by
  rw [show (a != b) = decide (a ≠ b) from by rw [Bool.eq_iff_iff]; simp]; exact h⟩
theorem W.iterB {a : Addr} {vs : List Value} {Q : Value → St → Prop} (hm : (a, .list vs) ∈ S) (h : ∀ it, Q (.ref it) ((it, liCell a 0) :: S)) : W C A S (call (.builtin "iter") [.ref a]) Q E := .intro fun s G => by
  refine Calls.call_function_entry (by decide +kernel) (by decide +kernel) kdk_entry_iter (kdk_args_iter _) ?_
  unfold Builtin.«iter»
  refine wpAny_bind (m := someArgs "iter" 1 2 _) (wpAny_of_eq (a := [Value.ref a]) (by first | rfl | kernel_rfl!) ?_)
  show wpAny _ _ (pyIter (.ref a) >>= _) _ _ _
  refine wpAny_bind (wpAny_mono ((W.iterL (A := A.in1) (E := E) (Q := fun v S' => ∃ it, v = .ref it ∧ S' = (it, liCell a 0) :: S) hm (fun it => ⟨it, rfl, rfl⟩)).1 s (G.around rfl)) (fun v s' ⟨S', G', it, e1, e2⟩ => ?_) fun _ _ x => x)
  subst e1 e2
  exact wpAny_pure ⟨_, rfl, _, G'.around rfl, h it⟩
theorem W.typeInst {Q : Value → St → Prop} (hm : (x, .obj (instO Cc dx sl)) ∈ S) (hd : (dx, .ns l) ∈ S) (h : Q (.ref Cc) S) : W C A S (call (.type "type") [.ref x]) Q E := .intro fun s G => by
  obtain ⟨od, I⟩ := G.inst hm hd
  exact kto_own I ⟨S, G, h⟩
theorem W.eqBool {a b : Bool} {Q : Value → St → Prop} (h : Q (.bool (decide (a = b))) S) : W C A S (compareOp .Eq (.bool a) (.bool b)) Q E := .intro fun s G => PyProof.Rows.eq_bool ⟨S, G, by
  have : (a == b) = decide (a = b) := by cases a <;> cases b <;> rfl
  rw [this]; exact h⟩
end
end Mine
-- part B19
namespace Mine
open PySem PySem.Calls PySem.W PyProof.Rows
/-- an iterator whose objects stay known at the end -/
structure IterE (C : Cx) (A : Around) (it : Value) (n : Nat) (K : Nat → St → Prop) (D : St → Prop) (P : Nat → Value → Prop) (Ke : St → Prop) : Prop where
  item : ∀ i, i < n → ∀ X S, K i X → D S → W C A (X ++ S) (pyNext it) (fun r S' => ∃ v X', r = some v ∧ P i v ∧ K (i + 1) X' ∧ S' = X' ++ S) NoE
  stop : ∀ X S, K n X → D S → W C A (X ++ S) (pyNext it) (fun r S' => r = none ∧ ∃ X', Ke X' ∧ S' = X' ++ S) NoE
section
variable {C : Cx} {A : Around} {S S₀ X : St} {E : Value → Shared → Prop} {env : Env} {s : Shared} {K : Frag} {q dq Cc : Addr} {sl : List (Option Value)} {l : List (Str × Option Value)}
theorem pullIter {it : Value} {ac : Addr} {n : Nat} {Kk : Nat → St → Prop} {D : St → Prop} {P : Nat → Value → Prop} {Ke : St → Prop} (I : IterE C A.in1 it n Kk D P Ke) (hD : ∀ p, D (p :: S₀)) :
    Pull C A it ac n (fun acc i s => ∃ X, Kk i X ∧ Good C A (X ++ (ac, .list acc) :: S₀) s) P (fun acc s => ∃ X, Ke X ∧ Good C A (X ++ (ac, .list acc) :: S₀) s) where
  item := fun acc i s hi ⟨X, hK, G⟩ => wpAny_mono ((I.item i hi X _ hK (hD _)).1 s (G.around rfl)) (fun r s' ⟨S', G', v, X', e1, hP, hK', e2⟩ => ⟨v, e1, hP, X', hK', e2 ▸ G'.around rfl⟩) fun _ _ x => x
  stop := fun acc s ⟨X, hK, G⟩ => wpAny_mono ((I.stop X _ hK (hD _)).1 s (G.around rfl)) (fun r s' ⟨S', G', e1, X', hK', e2⟩ => ⟨e1, X', hK', e2 ▸ G'.around rfl⟩) fun _ _ x => x
  push := fun acc i s v ⟨X, hK, G⟩ => by
    have hm : (ac, Cell.list acc) ∈ X ++ (ac, .list acc) :: S₀ := List.mem_append_right _ (.head _)
    obtain ⟨k, hl⟩ := (G.sat _ hm).2.2
    refine ⟨k, hl, X, hK, ?_⟩
    have hu : Upd ac (.list acc) (.list (acc ++ [v])) (X ++ (ac, .list acc) :: S₀) (X ++ (ac, .list (acc ++ [v])) :: S₀) := by
      clear hK G hm
      induction X with
      | nil => exact .here
      | cons p X ih => exact .there ih
    refine G.change hu (Heap.SameBut.update ..) ⟨k + 1, ?_⟩ trivial (fun x => absurd x ((G.sat _ hm).2.2.notDict trivial)) rfl G.gens
    refine (Heap.get?_update_self (Obj.mapSeq fun xs => xs.push v) hl rfl).trans ?_
    simp [Obj.mapSeq]
/-- list(it) of an iterator of the program's own, whose __iter__ gives itself -/
theorem W.listInst {n : Nat} {Kk : Nat → St → Prop} {D : St → Prop} {P : Nat → Value → Prop} {Ke : St → Prop} {Q : Value → St → Prop} (XK : K.In C.base) (hm : (q, .obj (instO Cc dq sl)) ∈ X) (hd : (dq, .ns l) ∈ X)
    (hlen : findIn K (.ref Cc) "__len__" = some none) (hhint : findIn K (.ref Cc) "__length_hint__" = some none)
    (hit : ∀ ac, W C A.in1.in1 (X ++ (ac, .list []) :: S₀) (pyIter (.ref q)) (fun I S' => I = .ref q ∧ S' = X ++ (ac, .list []) :: S₀) NoE)
    (I : IterE C A.in1.in1 (.ref q) n Kk D P Ke) (hD : ∀ p, D (p :: S₀)) (hK : Kk 0 X) (hn : n ≤ 1000)
    (h : ∀ ac acc X', Ke X' → acc.length = n → (∀ j v, acc[j]? = some v → P j v) → Q (.ref ac) (X' ++ (ac, .list acc) :: S₀)) : W C A (X ++ S₀) (call (.type "list") [.ref q]) Q NoE := .intro fun s G => by
  refine callType_codes (Q₁ := fun obj s₁ => obj = .ref s.heap.objs.size ∧ s₁ = { s with heap := s.heap.push { cls := .type "list", data := .seq #[] } }) PySem.F.called_list (PySem.F.typeCall_list_1 _) PySem.F.entry_list_init
    (code_list_new _ ⟨rfl, rfl⟩) fun obj s₁ h₁ => ?_
  obtain ⟨rfl, rfl⟩ := h₁
  have hS : IsL (s.heap.push { cls := .type "list", data := .seq #[] }) s.heap.objs.size #[] 0 := Heap.get?_push_size _ rfl
  refine ⟨⟨_, hS, rfl⟩, PySem.F.args_list_init_2 _ _, ?_⟩
  have G0 : Good C A ((s.heap.objs.size, .list []) :: (X ++ S₀)) { s with heap := s.heap.push { cls := .type "list", data := .seq #[] } } :=
    G.new (c := .list []) (fun b o e => Heap.get?_push_of_some _ e) (fresh_none _) ⟨0, hS⟩ rfl G.gens
  have G1 : Good C A (X ++ (s.heap.objs.size, .list []) :: S₀) { s with heap := s.heap.push { cls := .type "list", data := .seq #[] } } := G0.perm (List.perm_append_comm_assoc [_] X S₀)
  have qlt : q < s.heap.objs.size := (G.sat _ (List.mem_append_left _ hm)).2.2.lt
  generalize hac : s.heap.objs.size = ac at *
  show wpAny _ A.in1.in1 (do let old ← Builtin.List.listItems (.ref ac); Builtin.List.listUpdate (.ref ac) (fun _ => #[]); PySem.letGo old.toList.reverse; Builtin.List.listExtendWith (.ref ac) (.ref q) .none) _ _ _
  refine wpAny_bind ?_
  unfold Builtin.List.listItems
  refine wpAny_bind (wpAny_seqItems hS rfl (wpAny_pure ?_))
  show wpAny _ A.in1.in1 (updateSeq ac (fun _ => #[]) >>= fun _ => PySem.letGo (#[] : Array Value).toList.reverse >>= fun _ => Builtin.List.listExtendWith (.ref ac) (.ref q) .none) _ _ _
  refine wpAny_bind (wpAny_updateSeq hS rfl ?_)
  refine wpAny_bind (wpAny_letGo ?_)
  have hu : ∀ {X : St}, Upd ac (.list []) (.list []) (X ++ (ac, .list []) :: S₀) (X ++ (ac, .list []) :: S₀) := by
    intro X
    induction X with
    | nil => exact .here
    | cons p X ih => exact .there ih
  have acm : ∀ {X : St}, (ac, Cell.list []) ∈ X ++ (ac, .list []) :: S₀ := List.mem_append_right _ (.head _)
  have S2 := Heap.get?_update_self (Obj.mapSeq (fun _ => (#[] : Array Value))) hS rfl
  have G2 : Good C A (X ++ (ac, .list []) :: S₀) { s with heap := (s.heap.push { cls := .type "list", data := .seq #[] }).update ac (Obj.mapSeq (fun _ => #[])) } :=
    G1.change hu (Heap.SameBut.update ..) ⟨_, S2⟩ trivial (fun x => absurd x ((G1.sat _ acm).2.2.notDict trivial)) rfl G.gens
  have qm : ∀ {s' : Shared} {A' : Around}, Good C A' (X ++ (ac, .list []) :: S₀) s' → ∃ od, InstAt s'.heap q (instO Cc dq sl) Cc (some od) := fun G => G.inst (List.mem_append_left _ hm) (List.mem_append_left _ hd)
  refine extendWith_raw (A := A.in1) (T := .ref Cc) (k := 0) (fun {Q E} hq => let ⟨od, I⟩ := qm G2; I.type.here hq) rfl rfl (by
    simp [Builtin.List.listSameRef]; exact fun e => absurd (e ▸ qlt) (Nat.lt_irrefl _)) ?_
  refine wpAny_mono ((hit ac).1 _ (G2.around rfl)) (fun it s₁ ⟨S', G3, e1, e2⟩ => ?_) fun _ _ x => x
  subst e1 e2
  obtain ⟨od, I3⟩ := qm G3
  have X3 := XK.keeps G3.keep
  unfold Builtin.List.listLengthHint specialOf
  refine wpAny_bind (wpAny_bind (I3.type.here ((looks_findIn X3 hlen).here ?_)))
  show wpAny _ _ ((do let t ← typeOf (.ref q); typeLookup t (Str.ofString "__length_hint__")) >>= _) _ _ _
  refine wpAny_bind (wpAny_bind (I3.type.here ((looks_findIn X3 hhint).here ?_)))
  refine wpAny_pure ?_
  have G4 : Good C A.in1 (X ++ (ac, .list []) :: S₀) s₁ := G3.around rfl
  obtain ⟨k, hl⟩ := (G4.sat _ acm).2.2
  refine ⟨k, n, _, P, _, hl, pullIter (A := A.in1) I hD, hn, ⟨X, hK, G4⟩, ⟨X, hK, ?_⟩, fun acc s' h1 h2 ⟨X', hKe, G'⟩ => ⟨rfl, _, G'.around rfl, h ac acc X' hKe h1 h2⟩⟩
  have e1 := Heap.get?_update_self (Obj.mapSeq (·.push Value.none)) hl rfl
  have e2 := Heap.get?_update_self (Obj.mapSeq (·.pop)) e1 rfl
  exact G4.change hu ((Heap.SameBut.update ..).trans (Heap.SameBut.update ..)) ⟨_, e2⟩ trivial (fun x => absurd x ((G4.sat _ acm).2.2.notDict trivial)) rfl G4.gens
end
end Mine
-- part P0
namespace Mine
def cp : List Nat → List Nat → List Nat
  | a :: as, b :: bs => if a = b then a :: cp as bs else []
  | _, _ => []
theorem cp_nil_right (a : List Nat) : cp a [] = [] := by cases a <;> rfl
theorem cp_at : ∀ (i : Nat) (x y : List Nat) {a b : Nat}, x.take i = y.take i → x[i]? = some a → y[i]? = some b → a ≠ b → cp x y = x.take i
  | 0, [], _, _, _, _, h, _, _ => by cases h
  | 0, _ :: _, [], _, _, _, _, h, _ => by cases h
  | 0, p :: x, q :: y, a, b, _, h1, h2, hne => by
    simp only [List.getElem?_cons_zero, Option.some.injEq] at h1 h2
    subst h1 h2
    simp [cp, hne]
  | i + 1, [], _, _, _, _, h, _, _ => by simp at h
  | i + 1, _ :: _, [], _, _, _, _, h, _ => by simp at h
  | i + 1, p :: x, q :: y, a, b, h, h1, h2, hne => by
    simp only [List.take_succ_cons, List.cons.injEq] at h
    obtain ⟨rfl, h⟩ := h
    simp only [cp, if_true, List.take_succ_cons]
    rw [cp_at i x y h (by simpa using h1) (by simpa using h2) hne]
theorem cp_all : ∀ (x y : List Nat), x = y.take x.length → cp x y = x
  | [], y, _ => by cases y <;> rfl
  | p :: x, [], h => by simp at h
  | p :: x, q :: y, h => by
    simp only [List.length_cons, List.take_succ_cons, List.cons.injEq] at h
    obtain ⟨rfl, h⟩ := h
    simp [cp, cp_all x y h]
theorem lt_idx : ∀ (i : Nat) (x y : List Nat), ¬ y < x → x.take i = y.take i → i < x.length → i < y.length
  | _, [], _, _, _, h => by cases h
  | 0, p :: x, [], hn, _, _ => absurd (by simp) hn
  | 0, p :: x, q :: y, _, _, _ => by simp
  | i + 1, p :: x, [], hn, _, _ => absurd (by simp) hn
  | i + 1, p :: x, q :: y, hn, h, hl => by
    simp only [List.take_succ_cons, List.cons.injEq] at h
    obtain ⟨rfl, h⟩ := h
    have := lt_idx i x y (fun h' => hn (by simp [List.cons_lt_cons_iff, h'])) h (by simpa using hl)
    simpa using this
end Mine
namespace Mine
open PySem PySem.W PyProof.Rows
set_option maxRecDepth 100000 in
set_option maxHeartbeats 8000000 in
open_top hd for PySem.Challenge.rw_af5022_01
end Mine
-- part C0
namespace Mine
open PySem PySem.Calls PySem.W PyProof.Rows
abbrev FnX (a : Addr) : Type := { f : FuncData // ∀ P, (hd.heap_39 P).lookup a = some (fnObj f) }
noncomputable def xCommon : FnX 50 := ⟨_, fun P => rfl⟩
noncomputable def xCharset : FnX 57 := ⟨_, fun P => rfl⟩
noncomputable def xPull : FnX 64 := ⟨_, fun P => rfl⟩
noncomputable def xSame : FnX 71 := ⟨_, fun P => rfl⟩
noncomputable def xEscape : FnX 174 := ⟨_, fun P => rfl⟩
noncomputable def xInner : FnX 179 := ⟨_, fun P => rfl⟩
noncomputable def xOpt : FnX 187 := ⟨_, fun P => rfl⟩
noncomputable def xParsed : FnX 195 := ⟨_, fun P => rfl⟩
noncomputable def xWays : FnX 202 := ⟨_, fun P => rfl⟩
structure Base (C : Cx) : Prop where
  frag : (hd.heap_39 C.w.params).In C.base
  g : ∃ mg, C.base.Ns mainGlobals mg
  b : ∃ mb, C.base.Ns builtinsNs mb ∧ ∀ x : Str, x ≠ "__name__" → mb x = bootBuiltins x
  nolimit : C.base.NoLimit
theorem Base.glob {C : Cx} (B : Base C) {x : Str} {v : Value} (e : ∀ P, nsIn (hd.heap_39 P) mainGlobals x = some (some v)) : GlobalIs C x v :=
  let ⟨mg, hg⟩ := B.g; let ⟨mb, hb, _⟩ := B.b; ⟨mg, mb, hg, hb, .inl (mg_of B.frag hg (e _))⟩
theorem Base.bi {C : Cx} (B : Base C) {x : Str} {v : Value} (e : ∀ P, nsIn (hd.heap_39 P) mainGlobals x = some none) (hv : bootBuiltins x = some v) (hn : x ≠ "__name__") : GlobalIs C x v :=
  let ⟨mg, hg⟩ := B.g; let ⟨mb, hb, hm⟩ := B.b; ⟨mg, mb, hg, hb, .inr ⟨mg_none_of B.frag hg (e _), (hm x hn).trans hv⟩⟩
theorem Base.fn {C : Cx} (B : Base C) {a : Addr} (f : FnX a) (hc : ∀ P, ∃ c o vs t, f.1.code = .ref c ∧ (hd.heap_39 P).lookup c = some o ∧ o.data = .fields vs ∧ vs[1]? = some (.str f.1.qualname t)) : FnIs C a f.1 where
  at_ := ⟨_, B.frag _ _ (f.2 _), rfl⟩
  code := let ⟨c, o, vs, t, e1, e2, e3, e4⟩ := hc C.w.params; ⟨c, o, vs, t, e1, B.frag _ _ e2, e3, e4⟩
  nolimit := B.nolimit
theorem gCommon {C} (B : Base C) : GlobalIs C (Str.ofString "commonprefix") (.ref 50) := B.glob (by intro P; kernel_rfl)
theorem bMin {C} (B : Base C) : GlobalIs C (Str.ofString "min") (.builtin "min") := B.bi (by intro P; kernel_rfl) (by kernel_rfl) (by decide)
theorem fCommon {C} (B : Base C) : FnIs C 50 xCommon.1 := B.fn xCommon fun P => ⟨_, _, _, _, rfl, rfl, rfl, rfl⟩
end Mine
-- part C1
namespace Mine
open PySem PySem.Calls PySem.W PyProof.Rows
local macro_rules | `(tactic| walk_at "m") => `(tactic| first | exact List.Mem.head _ | exact List.Mem.tail _ (List.Mem.head _) | exact List.Mem.tail _ (List.Mem.tail _ (List.Mem.head _)) | exact List.Mem.tail _ (List.Mem.tail _ (List.Mem.tail _ (List.Mem.head _))) | exact List.Mem.tail _ (List.Mem.tail _ (List.Mem.tail _ (List.Mem.tail _ (List.Mem.head _)))) | exact List.Mem.tail _ (List.Mem.tail _ (List.Mem.tail _ (List.Mem.tail _ (List.Mem.tail _ (List.Mem.head _))))) | exact List.Mem.tail _ (List.Mem.tail _ (List.Mem.tail _ (List.Mem.tail _ (List.Mem.tail _ (List.Mem.tail _ (List.Mem.head _)))))) | exact List.Mem.tail _ (List.Mem.tail _ (List.Mem.tail _ (List.Mem.tail _ (List.Mem.tail _ (List.Mem.tail _ (List.Mem.tail _ (List.Mem.head _))))))) | exact List.Mem.tail _ (List.Mem.tail _ (List.Mem.tail _ (List.Mem.tail _ (List.Mem.tail _ (List.Mem.tail _ (List.Mem.tail _ (List.Mem.tail _ (List.Mem.head _)))))))) | exact List.Mem.tail _ (List.Mem.tail _ (List.Mem.tail _ (List.Mem.tail _ (List.Mem.tail _ (List.Mem.tail _ (List.Mem.tail _ (List.Mem.tail _ (List.Mem.tail _ (List.Mem.head _))))))))) | exact List.Mem.tail _ (List.Mem.tail _ (List.Mem.tail _ (List.Mem.tail _ (List.Mem.tail _ (List.Mem.tail _ (List.Mem.tail _ (List.Mem.tail _ (List.Mem.tail _ (List.Mem.tail _ (List.Mem.head _)))))))))) | exact List.Mem.tail _ (List.Mem.tail _ (List.Mem.tail _ (List.Mem.tail _ (List.Mem.tail _ (List.Mem.tail _ (List.Mem.tail _ (List.Mem.tail _ (List.Mem.tail _ (List.Mem.tail _ (List.Mem.tail _ (List.Mem.head _))))))))))) | exact List.Mem.tail _ (List.Mem.tail _ (List.Mem.tail _ (List.Mem.tail _ (List.Mem.tail _ (List.Mem.tail _ (List.Mem.tail _ (List.Mem.tail _ (List.Mem.tail _ (List.Mem.tail _ (List.Mem.tail _ (List.Mem.tail _ (List.Mem.head _)))))))))))) | exact List.Mem.tail _ (List.Mem.tail _ (List.Mem.tail _ (List.Mem.tail _ (List.Mem.tail _ (List.Mem.tail _ (List.Mem.tail _ (List.Mem.tail _ (List.Mem.tail _ (List.Mem.tail _ (List.Mem.tail _ (List.Mem.tail _ (List.Mem.tail _ (List.Mem.head _))))))))))))) | exact List.Mem.tail _ (List.Mem.tail _ (List.Mem.tail _ (List.Mem.tail _ (List.Mem.tail _ (List.Mem.tail _ (List.Mem.tail _ (List.Mem.tail _ (List.Mem.tail _ (List.Mem.tail _ (List.Mem.tail _ (List.Mem.tail _ (List.Mem.tail _ (List.Mem.tail _ (List.Mem.head _)))))))))))))) | exact List.Mem.tail _ (List.Mem.tail _ (List.Mem.tail _ (List.Mem.tail _ (List.Mem.tail _ (List.Mem.tail _ (List.Mem.tail _ (List.Mem.tail _ (List.Mem.tail _ (List.Mem.tail _ (List.Mem.tail _ (List.Mem.tail _ (List.Mem.tail _ (List.Mem.tail _ (List.Mem.tail _ (List.Mem.head _))))))))))))))) | exact List.Mem.tail _ (List.Mem.tail _ (List.Mem.tail _ (List.Mem.tail _ (List.Mem.tail _ (List.Mem.tail _ (List.Mem.tail _ (List.Mem.tail _ (List.Mem.tail _ (List.Mem.tail _ (List.Mem.tail _ (List.Mem.tail _ (List.Mem.tail _ (List.Mem.tail _ (List.Mem.tail _ (List.Mem.tail _ (List.Mem.head _)))))))))))))))) | exact List.Mem.tail _ (List.Mem.tail _ (List.Mem.tail _ (List.Mem.tail _ (List.Mem.tail _ (List.Mem.tail _ (List.Mem.tail _ (List.Mem.tail _ (List.Mem.tail _ (List.Mem.tail _ (List.Mem.tail _ (List.Mem.tail _ (List.Mem.tail _ (List.Mem.tail _ (List.Mem.tail _ (List.Mem.tail _ (List.Mem.tail _ (List.Mem.head _))))))))))))))))) | exact List.Mem.tail _ (List.Mem.tail _ (List.Mem.tail _ (List.Mem.tail _ (List.Mem.tail _ (List.Mem.tail _ (List.Mem.tail _ (List.Mem.tail _ (List.Mem.tail _ (List.Mem.tail _ (List.Mem.tail _ (List.Mem.tail _ (List.Mem.tail _ (List.Mem.tail _ (List.Mem.tail _ (List.Mem.tail _ (List.Mem.tail _ (List.Mem.tail _ (List.Mem.head _)))))))))))))))))) | exact List.Mem.tail _ (List.Mem.tail _ (List.Mem.tail _ (List.Mem.tail _ (List.Mem.tail _ (List.Mem.tail _ (List.Mem.tail _ (List.Mem.tail _ (List.Mem.tail _ (List.Mem.tail _ (List.Mem.tail _ (List.Mem.tail _ (List.Mem.tail _ (List.Mem.tail _ (List.Mem.tail _ (List.Mem.tail _ (List.Mem.tail _ (List.Mem.tail _ (List.Mem.tail _ (List.Mem.head _))))))))))))))))))) | exact List.Mem.tail _ (List.Mem.tail _ (List.Mem.tail _ (List.Mem.tail _ (List.Mem.tail _ (List.Mem.tail _ (List.Mem.tail _ (List.Mem.tail _ (List.Mem.tail _ (List.Mem.tail _ (List.Mem.tail _ (List.Mem.tail _ (List.Mem.tail _ (List.Mem.tail _ (List.Mem.tail _ (List.Mem.tail _ (List.Mem.tail _ (List.Mem.tail _ (List.Mem.tail _ (List.Mem.tail _ (List.Mem.head _)))))))))))))))))))) | exact List.Mem.tail _ (List.Mem.tail _ (List.Mem.tail _ (List.Mem.tail _ (List.Mem.tail _ (List.Mem.tail _ (List.Mem.tail _ (List.Mem.tail _ (List.Mem.tail _ (List.Mem.tail _ (List.Mem.tail _ (List.Mem.tail _ (List.Mem.tail _ (List.Mem.tail _ (List.Mem.tail _ (List.Mem.tail _ (List.Mem.tail _ (List.Mem.tail _ (List.Mem.tail _ (List.Mem.tail _ (List.Mem.tail _ (List.Mem.head _))))))))))))))))))))) | exact List.Mem.tail _ (List.Mem.tail _ (List.Mem.tail _ (List.Mem.tail _ (List.Mem.tail _ (List.Mem.tail _ (List.Mem.tail _ (List.Mem.tail _ (List.Mem.tail _ (List.Mem.tail _ (List.Mem.tail _ (List.Mem.tail _ (List.Mem.tail _ (List.Mem.tail _ (List.Mem.tail _ (List.Mem.tail _ (List.Mem.tail _ (List.Mem.tail _ (List.Mem.tail _ (List.Mem.tail _ (List.Mem.tail _ (List.Mem.tail _ (List.Mem.head _)))))))))))))))))))))) | exact List.Mem.tail _ (List.Mem.tail _ (List.Mem.tail _ (List.Mem.tail _ (List.Mem.tail _ (List.Mem.tail _ (List.Mem.tail _ (List.Mem.tail _ (List.Mem.tail _ (List.Mem.tail _ (List.Mem.tail _ (List.Mem.tail _ (List.Mem.tail _ (List.Mem.tail _ (List.Mem.tail _ (List.Mem.tail _ (List.Mem.tail _ (List.Mem.tail _ (List.Mem.tail _ (List.Mem.tail _ (List.Mem.tail _ (List.Mem.tail _ (List.Mem.tail _ (List.Mem.head _))))))))))))))))))))))))
local macro_rules | `(tactic| walk_at "u") => `(tactic| first | exact Upd.here | exact Upd.there (Upd.here) | exact Upd.there (Upd.there (Upd.here)) | exact Upd.there (Upd.there (Upd.there (Upd.here))) | exact Upd.there (Upd.there (Upd.there (Upd.there (Upd.here)))) | exact Upd.there (Upd.there (Upd.there (Upd.there (Upd.there (Upd.here))))) | exact Upd.there (Upd.there (Upd.there (Upd.there (Upd.there (Upd.there (Upd.here)))))) | exact Upd.there (Upd.there (Upd.there (Upd.there (Upd.there (Upd.there (Upd.there (Upd.here))))))) | exact Upd.there (Upd.there (Upd.there (Upd.there (Upd.there (Upd.there (Upd.there (Upd.there (Upd.here)))))))) | exact Upd.there (Upd.there (Upd.there (Upd.there (Upd.there (Upd.there (Upd.there (Upd.there (Upd.there (Upd.here))))))))) | exact Upd.there (Upd.there (Upd.there (Upd.there (Upd.there (Upd.there (Upd.there (Upd.there (Upd.there (Upd.there (Upd.here)))))))))) | exact Upd.there (Upd.there (Upd.there (Upd.there (Upd.there (Upd.there (Upd.there (Upd.there (Upd.there (Upd.there (Upd.there (Upd.here))))))))))) | exact Upd.there (Upd.there (Upd.there (Upd.there (Upd.there (Upd.there (Upd.there (Upd.there (Upd.there (Upd.there (Upd.there (Upd.there (Upd.here)))))))))))) | exact Upd.there (Upd.there (Upd.there (Upd.there (Upd.there (Upd.there (Upd.there (Upd.there (Upd.there (Upd.there (Upd.there (Upd.there (Upd.there (Upd.here))))))))))))) | exact Upd.there (Upd.there (Upd.there (Upd.there (Upd.there (Upd.there (Upd.there (Upd.there (Upd.there (Upd.there (Upd.there (Upd.there (Upd.there (Upd.there (Upd.here)))))))))))))) | exact Upd.there (Upd.there (Upd.there (Upd.there (Upd.there (Upd.there (Upd.there (Upd.there (Upd.there (Upd.there (Upd.there (Upd.there (Upd.there (Upd.there (Upd.there (Upd.here))))))))))))))) | exact Upd.there (Upd.there (Upd.there (Upd.there (Upd.there (Upd.there (Upd.there (Upd.there (Upd.there (Upd.there (Upd.there (Upd.there (Upd.there (Upd.there (Upd.there (Upd.there (Upd.here)))))))))))))))) | exact Upd.there (Upd.there (Upd.there (Upd.there (Upd.there (Upd.there (Upd.there (Upd.there (Upd.there (Upd.there (Upd.there (Upd.there (Upd.there (Upd.there (Upd.there (Upd.there (Upd.there (Upd.here))))))))))))))))) | exact Upd.there (Upd.there (Upd.there (Upd.there (Upd.there (Upd.there (Upd.there (Upd.there (Upd.there (Upd.there (Upd.there (Upd.there (Upd.there (Upd.there (Upd.there (Upd.there (Upd.there (Upd.there (Upd.here)))))))))))))))))) | exact Upd.there (Upd.there (Upd.there (Upd.there (Upd.there (Upd.there (Upd.there (Upd.there (Upd.there (Upd.there (Upd.there (Upd.there (Upd.there (Upd.there (Upd.there (Upd.there (Upd.there (Upd.there (Upd.there (Upd.here))))))))))))))))))) | exact Upd.there (Upd.there (Upd.there (Upd.there (Upd.there (Upd.there (Upd.there (Upd.there (Upd.there (Upd.there (Upd.there (Upd.there (Upd.there (Upd.there (Upd.there (Upd.there (Upd.there (Upd.there (Upd.there (Upd.there (Upd.here)))))))))))))))))))) | exact Upd.there (Upd.there (Upd.there (Upd.there (Upd.there (Upd.there (Upd.there (Upd.there (Upd.there (Upd.there (Upd.there (Upd.there (Upd.there (Upd.there (Upd.there (Upd.there (Upd.there (Upd.there (Upd.there (Upd.there (Upd.there (Upd.here))))))))))))))))))))) | exact Upd.there (Upd.there (Upd.there (Upd.there (Upd.there (Upd.there (Upd.there (Upd.there (Upd.there (Upd.there (Upd.there (Upd.there (Upd.there (Upd.there (Upd.there (Upd.there (Upd.there (Upd.there (Upd.there (Upd.there (Upd.there (Upd.there (Upd.here)))))))))))))))))))))) | exact Upd.there (Upd.there (Upd.there (Upd.there (Upd.there (Upd.there (Upd.there (Upd.there (Upd.there (Upd.there (Upd.there (Upd.there (Upd.there (Upd.there (Upd.there (Upd.there (Upd.there (Upd.there (Upd.there (Upd.there (Upd.there (Upd.there (Upd.there (Upd.here))))))))))))))))))))))))
local macro_rules | `(tactic| walk_at "ul") => `(tactic| first | exact UpdL.here | exact UpdL.there (UpdL.here) | exact UpdL.there (UpdL.there (UpdL.here)) | exact UpdL.there (UpdL.there (UpdL.there (UpdL.here))) | exact UpdL.there (UpdL.there (UpdL.there (UpdL.there (UpdL.here)))) | exact UpdL.there (UpdL.there (UpdL.there (UpdL.there (UpdL.there (UpdL.here))))) | exact UpdL.there (UpdL.there (UpdL.there (UpdL.there (UpdL.there (UpdL.there (UpdL.here)))))) | exact UpdL.there (UpdL.there (UpdL.there (UpdL.there (UpdL.there (UpdL.there (UpdL.there (UpdL.here))))))) | exact UpdL.there (UpdL.there (UpdL.there (UpdL.there (UpdL.there (UpdL.there (UpdL.there (UpdL.there (UpdL.here)))))))) | exact UpdL.there (UpdL.there (UpdL.there (UpdL.there (UpdL.there (UpdL.there (UpdL.there (UpdL.there (UpdL.there (UpdL.here))))))))) | exact UpdL.there (UpdL.there (UpdL.there (UpdL.there (UpdL.there (UpdL.there (UpdL.there (UpdL.there (UpdL.there (UpdL.there (UpdL.here)))))))))) | exact UpdL.there (UpdL.there (UpdL.there (UpdL.there (UpdL.there (UpdL.there (UpdL.there (UpdL.there (UpdL.there (UpdL.there (UpdL.there (UpdL.here))))))))))) | exact UpdL.there (UpdL.there (UpdL.there (UpdL.there (UpdL.there (UpdL.there (UpdL.there (UpdL.there (UpdL.there (UpdL.there (UpdL.there (UpdL.there (UpdL.here)))))))))))) | exact UpdL.there (UpdL.there (UpdL.there (UpdL.there (UpdL.there (UpdL.there (UpdL.there (UpdL.there (UpdL.there (UpdL.there (UpdL.there (UpdL.there (UpdL.there (UpdL.here))))))))))))))
local macro_rules | `(tactic| walk_at "d") => `(tactic| first | exact Del.here | exact Del.there (Del.here) | exact Del.there (Del.there (Del.here)) | exact Del.there (Del.there (Del.there (Del.here))) | exact Del.there (Del.there (Del.there (Del.there (Del.here)))) | exact Del.there (Del.there (Del.there (Del.there (Del.there (Del.here))))) | exact Del.there (Del.there (Del.there (Del.there (Del.there (Del.there (Del.here)))))) | exact Del.there (Del.there (Del.there (Del.there (Del.there (Del.there (Del.there (Del.here))))))) | exact Del.there (Del.there (Del.there (Del.there (Del.there (Del.there (Del.there (Del.there (Del.here)))))))) | exact Del.there (Del.there (Del.there (Del.there (Del.there (Del.there (Del.there (Del.there (Del.there (Del.here))))))))) | exact Del.there (Del.there (Del.there (Del.there (Del.there (Del.there (Del.there (Del.there (Del.there (Del.there (Del.here)))))))))) | exact Del.there (Del.there (Del.there (Del.there (Del.there (Del.there (Del.there (Del.there (Del.there (Del.there (Del.there (Del.here))))))))))) | exact Del.there (Del.there (Del.there (Del.there (Del.there (Del.there (Del.there (Del.there (Del.there (Del.there (Del.there (Del.there (Del.here)))))))))))) | exact Del.there (Del.there (Del.there (Del.there (Del.there (Del.there (Del.there (Del.there (Del.there (Del.there (Del.there (Del.there (Del.there (Del.here))))))))))))) | exact Del.there (Del.there (Del.there (Del.there (Del.there (Del.there (Del.there (Del.there (Del.there (Del.there (Del.there (Del.there (Del.there (Del.there (Del.here)))))))))))))) | exact Del.there (Del.there (Del.there (Del.there (Del.there (Del.there (Del.there (Del.there (Del.there (Del.there (Del.there (Del.there (Del.there (Del.there (Del.there (Del.here))))))))))))))) | exact Del.there (Del.there (Del.there (Del.there (Del.there (Del.there (Del.there (Del.there (Del.there (Del.there (Del.there (Del.there (Del.there (Del.there (Del.there (Del.there (Del.here)))))))))))))))) | exact Del.there (Del.there (Del.there (Del.there (Del.there (Del.there (Del.there (Del.there (Del.there (Del.there (Del.there (Del.there (Del.there (Del.there (Del.there (Del.there (Del.there (Del.here))))))))))))))))) | exact Del.there (Del.there (Del.there (Del.there (Del.there (Del.there (Del.there (Del.there (Del.there (Del.there (Del.there (Del.there (Del.there (Del.there (Del.there (Del.there (Del.there (Del.there (Del.here)))))))))))))))))) | exact Del.there (Del.there (Del.there (Del.there (Del.there (Del.there (Del.there (Del.there (Del.there (Del.there (Del.there (Del.there (Del.there (Del.there (Del.there (Del.there (Del.there (Del.there (Del.there (Del.here))))))))))))))))))) | exact Del.there (Del.there (Del.there (Del.there (Del.there (Del.there (Del.there (Del.there (Del.there (Del.there (Del.there (Del.there (Del.there (Del.there (Del.there (Del.there (Del.there (Del.there (Del.there (Del.there (Del.here)))))))))))))))))))) | exact Del.there (Del.there (Del.there (Del.there (Del.there (Del.there (Del.there (Del.there (Del.there (Del.there (Del.there (Del.there (Del.there (Del.there (Del.there (Del.there (Del.there (Del.there (Del.there (Del.there (Del.there (Del.here))))))))))))))))))))) | exact Del.there (Del.there (Del.there (Del.there (Del.there (Del.there (Del.there (Del.there (Del.there (Del.there (Del.there (Del.there (Del.there (Del.there (Del.there (Del.there (Del.there (Del.there (Del.there (Del.there (Del.there (Del.there (Del.here)))))))))))))))))))))) | exact Del.there (Del.there (Del.there (Del.there (Del.there (Del.there (Del.there (Del.there (Del.there (Del.there (Del.there (Del.there (Del.there (Del.there (Del.there (Del.there (Del.there (Del.there (Del.there (Del.there (Del.there (Del.there (Del.there (Del.here))))))))))))))))))))))))
local macro_rules | `(tactic| walk_at "s") => `(tactic| repeat (first | exact List.Sublist.refl _ | exact List.nil_sublist _ | refine List.Sublist.cons_cons _ ?_ | refine List.Sublist.cons _ ?_))
theorem gMin {C} (B : Base C) : GlobalIs C (Str.ofString "min") (.builtin "min") := B.bi (by intro P; kernel_rfl) (by kernel_rfl) (by decide)
theorem gMax {C} (B : Base C) : GlobalIs C (Str.ofString "max") (.builtin "max") := B.bi (by intro P; kernel_rfl) (by kernel_rfl) (by decide)
theorem gEnum {C} (B : Base C) : GlobalIs C (Str.ofString "enumerate") (.type "enumerate") := B.bi (by intro P; kernel_rfl) (by kernel_rfl) (by decide)
theorem W.common {C : Cx} {A : Around} {S : St} {m : Addr} {vs : List Value} {ls : List (List Nat)} {Q : Value → St → Prop} (B : Base C) (R : Room A 1) (hm : (m, .list vs) ∈ S) (hi : SL vs ls)
    (hlen : ls.length ≤ 100) (hsz : ∀ l ∈ ls, l.length ≤ 100)
    (h : ∀ r t, (ls = [] → r = []) → (ls ≠ [] → ∃ x ∈ ls, ∃ y ∈ ls, (∀ w ∈ ls, ¬ w < x) ∧ (∀ w ∈ ls, ¬ y < w) ∧ r = cp x y) → Q (.str (mk r) t) S) :
    W C A S (call (.ref 50) [.ref m]) Q NoE := by
  refine .callDef (n := 0) (binds := [(Str.ofString "m", .ref m)]) [Str.ofString "m"] [Str.ofString "s1", Str.ofString "s2", Str.ofString "i", Str.ofString "c"] (fCommon B) R rfl (fun s G => .of_eq rfl) (by decide) (by decide) (by decide) ?_
  intro L R1
  have hl := hi.len
  refine .sCons (.sIf (.tnot (.tval (.name (.head _) (.head _) (.truL (.tail _ hm) ?_ (by omega))))))
  cases vs with
  | nil =>
    have : ls = [] := by cases ls <;> simp_all
    subst this
    refine .sCons (.sRet (.cStr fun t => ⟨S, List.sublist_cons_self _ _, h [] t (fun _ => rfl) (fun h => absurd rfl h)⟩))
  | cons v vs =>
  have hne : ls ≠ [] := by rintro rfl; simp at hl
  simp only [List.isEmpty_cons, Bool.not_false, Bool.not_true, Bool.false_eq_true, if_false]
  refine .sNil ?_
  refine .sCons (.sAssign (.callName (.glob (gMin B) (.withB (.itemsCons (.name (.head _) (.head _) (.itemsNil (.minM R1.handled (.tail _ hm) hi hne fun x t1 hx hxm => ?_))))))))
  refine .stl .here (by walk_at "ul") ?_
  refine .sCons (.sAssign (.callName (.glob (gMax B) (.withB (.itemsCons (.name (.head _) (.head _) (.itemsNil (.maxM R1.handled (.tail _ hm) hi hne fun y t2 hy hym => ?_))))))))
  refine .stl .here (by walk_at "ul") ?_
  have hx100 := hsz x hx
  refine .sCons (.sFor (.callName (.glob (gEnum B) (.withT (.itemsCons (.name (.head _) (by walk_at "m") (.itemsNil (.enumS fun e it => .iterEnum (.head _) ?_))))))))
  refine ⟨x.length, _, _, _, _, _, fun i S' => x.take i = y.take i ∧ ∃ vi vc, S' = (L, .ns [(Str.ofString "m", some (.ref m)), (Str.ofString "s1", some (.str (mk x) t1)), (Str.ofString "s2", some (.str (mk y) t2)), (Str.ofString "i", vi), (Str.ofString "c", vc)]) :: S, Iter.enumS (x := mk x) R1.handled, ?_, ⟨.none, rfl⟩, .refl _, rfl, _, _, rfl⟩
  constructor
  · intros; trivial
  · rintro i hin v Y S' ⟨a, c, u, u', old, hc, rfl, rfl⟩ ⟨hxy, vi, vc, rfl⟩
    refine .goEnum (.there .here) ?_
    refine .asTuple (.unpT R1.handled (.head _) rfl ?_)
    refine .aioCons (.asName (.stl (by walk_at "u") (by walk_at "ul") ?_))
    refine .aioCons (.asName (.stl (by walk_at "u") (by walk_at "ul") ?_))
    refine .aioNil ?_
    have hin : i < x.length := hin
    have hiy := lt_idx i x y (hym x hx) hxy hin
    have hcx : x[i]? = some c := by rw [← mk_get]; exact hc
    have hcy : y[i]? = some y[i] := List.getElem?_eq_getElem hiy
    refine .sCons (.sIf (.tcmp (.name (by walk_at "m") (by walk_at "m") (.sub (.name (by walk_at "m") (by walk_at "m") (.name (by walk_at "m") (by walk_at "m") ?_))))))
    refine .itemM (by omega) (by omega) (by rw [Int.toNat_natCast]; exact hcy) fun t3 => .neM (x := [c]) ⟨_, rfl, ?_⟩
    by_cases hcc : c = y[i]
    · rw [if_neg (by simp [hcc])]
      refine .sNil (.sNil ⟨_, _, ⟨_, rfl⟩, .cons _ (.refl _), ?_, _, _, rfl⟩)
      rw [List.take_add_one, List.take_add_one, hxy, hcx, hcy, hcc]
    · rw [if_pos (by simp [hcc])]
      refine .sCons (.sRet (.sub (.name (by walk_at "m") (by walk_at "m") (.eSlice (.partN (.partS (.name (by walk_at "m") (by walk_at "m") (.partN fun a2 => ?_)))))))) 
      refine .slTo (.head _) (by omega) fun t4 => ⟨S, by walk_at "s", h _ t4 (fun h => absurd h hne) fun _ => ⟨x, hx, y, hy, hxm, hym, (cp_at i x y hxy hcx hcy hcc).symm⟩⟩
  · rintro S' ⟨hxy, vi, vc, rfl⟩
    refine .sCons (.sRet (.name (by walk_at "m") (by walk_at "m") ⟨S, List.sublist_cons_self _ _, h x t1 (fun h => absurd h hne) fun _ => ⟨x, hx, y, hy, hxm, hym, ?_⟩⟩))
    exact (cp_all x y (by rw [← hxy, List.take_length])).symm
end Mine
-- part C2
namespace Mine
open PySem PySem.Calls PySem.W PyProof.Rows
local macro_rules | `(tactic| walk_at "m") => `(tactic| first | exact List.Mem.head _ | exact List.Mem.tail _ (List.Mem.head _) | exact List.Mem.tail _ (List.Mem.tail _ (List.Mem.head _)) | exact List.Mem.tail _ (List.Mem.tail _ (List.Mem.tail _ (List.Mem.head _))) | exact List.Mem.tail _ (List.Mem.tail _ (List.Mem.tail _ (List.Mem.tail _ (List.Mem.head _)))) | exact List.Mem.tail _ (List.Mem.tail _ (List.Mem.tail _ (List.Mem.tail _ (List.Mem.tail _ (List.Mem.head _))))) | exact List.Mem.tail _ (List.Mem.tail _ (List.Mem.tail _ (List.Mem.tail _ (List.Mem.tail _ (List.Mem.tail _ (List.Mem.head _)))))) | exact List.Mem.tail _ (List.Mem.tail _ (List.Mem.tail _ (List.Mem.tail _ (List.Mem.tail _ (List.Mem.tail _ (List.Mem.tail _ (List.Mem.head _))))))) | exact List.Mem.tail _ (List.Mem.tail _ (List.Mem.tail _ (List.Mem.tail _ (List.Mem.tail _ (List.Mem.tail _ (List.Mem.tail _ (List.Mem.tail _ (List.Mem.head _)))))))) | exact List.Mem.tail _ (List.Mem.tail _ (List.Mem.tail _ (List.Mem.tail _ (List.Mem.tail _ (List.Mem.tail _ (List.Mem.tail _ (List.Mem.tail _ (List.Mem.tail _ (List.Mem.head _))))))))) | exact List.Mem.tail _ (List.Mem.tail _ (List.Mem.tail _ (List.Mem.tail _ (List.Mem.tail _ (List.Mem.tail _ (List.Mem.tail _ (List.Mem.tail _ (List.Mem.tail _ (List.Mem.tail _ (List.Mem.head _)))))))))) | exact List.Mem.tail _ (List.Mem.tail _ (List.Mem.tail _ (List.Mem.tail _ (List.Mem.tail _ (List.Mem.tail _ (List.Mem.tail _ (List.Mem.tail _ (List.Mem.tail _ (List.Mem.tail _ (List.Mem.tail _ (List.Mem.head _))))))))))) | exact List.Mem.tail _ (List.Mem.tail _ (List.Mem.tail _ (List.Mem.tail _ (List.Mem.tail _ (List.Mem.tail _ (List.Mem.tail _ (List.Mem.tail _ (List.Mem.tail _ (List.Mem.tail _ (List.Mem.tail _ (List.Mem.tail _ (List.Mem.head _)))))))))))) | exact List.Mem.tail _ (List.Mem.tail _ (List.Mem.tail _ (List.Mem.tail _ (List.Mem.tail _ (List.Mem.tail _ (List.Mem.tail _ (List.Mem.tail _ (List.Mem.tail _ (List.Mem.tail _ (List.Mem.tail _ (List.Mem.tail _ (List.Mem.tail _ (List.Mem.head _))))))))))))) | exact List.Mem.tail _ (List.Mem.tail _ (List.Mem.tail _ (List.Mem.tail _ (List.Mem.tail _ (List.Mem.tail _ (List.Mem.tail _ (List.Mem.tail _ (List.Mem.tail _ (List.Mem.tail _ (List.Mem.tail _ (List.Mem.tail _ (List.Mem.tail _ (List.Mem.tail _ (List.Mem.head _)))))))))))))) | exact List.Mem.tail _ (List.Mem.tail _ (List.Mem.tail _ (List.Mem.tail _ (List.Mem.tail _ (List.Mem.tail _ (List.Mem.tail _ (List.Mem.tail _ (List.Mem.tail _ (List.Mem.tail _ (List.Mem.tail _ (List.Mem.tail _ (List.Mem.tail _ (List.Mem.tail _ (List.Mem.tail _ (List.Mem.head _))))))))))))))) | exact List.Mem.tail _ (List.Mem.tail _ (List.Mem.tail _ (List.Mem.tail _ (List.Mem.tail _ (List.Mem.tail _ (List.Mem.tail _ (List.Mem.tail _ (List.Mem.tail _ (List.Mem.tail _ (List.Mem.tail _ (List.Mem.tail _ (List.Mem.tail _ (List.Mem.tail _ (List.Mem.tail _ (List.Mem.tail _ (List.Mem.head _)))))))))))))))) | exact List.Mem.tail _ (List.Mem.tail _ (List.Mem.tail _ (List.Mem.tail _ (List.Mem.tail _ (List.Mem.tail _ (List.Mem.tail _ (List.Mem.tail _ (List.Mem.tail _ (List.Mem.tail _ (List.Mem.tail _ (List.Mem.tail _ (List.Mem.tail _ (List.Mem.tail _ (List.Mem.tail _ (List.Mem.tail _ (List.Mem.tail _ (List.Mem.head _))))))))))))))))) | exact List.Mem.tail _ (List.Mem.tail _ (List.Mem.tail _ (List.Mem.tail _ (List.Mem.tail _ (List.Mem.tail _ (List.Mem.tail _ (List.Mem.tail _ (List.Mem.tail _ (List.Mem.tail _ (List.Mem.tail _ (List.Mem.tail _ (List.Mem.tail _ (List.Mem.tail _ (List.Mem.tail _ (List.Mem.tail _ (List.Mem.tail _ (List.Mem.tail _ (List.Mem.head _)))))))))))))))))) | exact List.Mem.tail _ (List.Mem.tail _ (List.Mem.tail _ (List.Mem.tail _ (List.Mem.tail _ (List.Mem.tail _ (List.Mem.tail _ (List.Mem.tail _ (List.Mem.tail _ (List.Mem.tail _ (List.Mem.tail _ (List.Mem.tail _ (List.Mem.tail _ (List.Mem.tail _ (List.Mem.tail _ (List.Mem.tail _ (List.Mem.tail _ (List.Mem.tail _ (List.Mem.tail _ (List.Mem.head _))))))))))))))))))) | exact List.Mem.tail _ (List.Mem.tail _ (List.Mem.tail _ (List.Mem.tail _ (List.Mem.tail _ (List.Mem.tail _ (List.Mem.tail _ (List.Mem.tail _ (List.Mem.tail _ (List.Mem.tail _ (List.Mem.tail _ (List.Mem.tail _ (List.Mem.tail _ (List.Mem.tail _ (List.Mem.tail _ (List.Mem.tail _ (List.Mem.tail _ (List.Mem.tail _ (List.Mem.tail _ (List.Mem.tail _ (List.Mem.head _)))))))))))))))))))) | exact List.Mem.tail _ (List.Mem.tail _ (List.Mem.tail _ (List.Mem.tail _ (List.Mem.tail _ (List.Mem.tail _ (List.Mem.tail _ (List.Mem.tail _ (List.Mem.tail _ (List.Mem.tail _ (List.Mem.tail _ (List.Mem.tail _ (List.Mem.tail _ (List.Mem.tail _ (List.Mem.tail _ (List.Mem.tail _ (List.Mem.tail _ (List.Mem.tail _ (List.Mem.tail _ (List.Mem.tail _ (List.Mem.tail _ (List.Mem.head _))))))))))))))))))))) | exact List.Mem.tail _ (List.Mem.tail _ (List.Mem.tail _ (List.Mem.tail _ (List.Mem.tail _ (List.Mem.tail _ (List.Mem.tail _ (List.Mem.tail _ (List.Mem.tail _ (List.Mem.tail _ (List.Mem.tail _ (List.Mem.tail _ (List.Mem.tail _ (List.Mem.tail _ (List.Mem.tail _ (List.Mem.tail _ (List.Mem.tail _ (List.Mem.tail _ (List.Mem.tail _ (List.Mem.tail _ (List.Mem.tail _ (List.Mem.tail _ (List.Mem.head _)))))))))))))))))))))) | exact List.Mem.tail _ (List.Mem.tail _ (List.Mem.tail _ (List.Mem.tail _ (List.Mem.tail _ (List.Mem.tail _ (List.Mem.tail _ (List.Mem.tail _ (List.Mem.tail _ (List.Mem.tail _ (List.Mem.tail _ (List.Mem.tail _ (List.Mem.tail _ (List.Mem.tail _ (List.Mem.tail _ (List.Mem.tail _ (List.Mem.tail _ (List.Mem.tail _ (List.Mem.tail _ (List.Mem.tail _ (List.Mem.tail _ (List.Mem.tail _ (List.Mem.tail _ (List.Mem.head _))))))))))))))))))))))))
local macro_rules | `(tactic| walk_at "u") => `(tactic| first | exact Upd.here | exact Upd.there (Upd.here) | exact Upd.there (Upd.there (Upd.here)) | exact Upd.there (Upd.there (Upd.there (Upd.here))) | exact Upd.there (Upd.there (Upd.there (Upd.there (Upd.here)))) | exact Upd.there (Upd.there (Upd.there (Upd.there (Upd.there (Upd.here))))) | exact Upd.there (Upd.there (Upd.there (Upd.there (Upd.there (Upd.there (Upd.here)))))) | exact Upd.there (Upd.there (Upd.there (Upd.there (Upd.there (Upd.there (Upd.there (Upd.here))))))) | exact Upd.there (Upd.there (Upd.there (Upd.there (Upd.there (Upd.there (Upd.there (Upd.there (Upd.here)))))))) | exact Upd.there (Upd.there (Upd.there (Upd.there (Upd.there (Upd.there (Upd.there (Upd.there (Upd.there (Upd.here))))))))) | exact Upd.there (Upd.there (Upd.there (Upd.there (Upd.there (Upd.there (Upd.there (Upd.there (Upd.there (Upd.there (Upd.here)))))))))) | exact Upd.there (Upd.there (Upd.there (Upd.there (Upd.there (Upd.there (Upd.there (Upd.there (Upd.there (Upd.there (Upd.there (Upd.here))))))))))) | exact Upd.there (Upd.there (Upd.there (Upd.there (Upd.there (Upd.there (Upd.there (Upd.there (Upd.there (Upd.there (Upd.there (Upd.there (Upd.here)))))))))))) | exact Upd.there (Upd.there (Upd.there (Upd.there (Upd.there (Upd.there (Upd.there (Upd.there (Upd.there (Upd.there (Upd.there (Upd.there (Upd.there (Upd.here))))))))))))) | exact Upd.there (Upd.there (Upd.there (Upd.there (Upd.there (Upd.there (Upd.there (Upd.there (Upd.there (Upd.there (Upd.there (Upd.there (Upd.there (Upd.there (Upd.here)))))))))))))) | exact Upd.there (Upd.there (Upd.there (Upd.there (Upd.there (Upd.there (Upd.there (Upd.there (Upd.there (Upd.there (Upd.there (Upd.there (Upd.there (Upd.there (Upd.there (Upd.here))))))))))))))) | exact Upd.there (Upd.there (Upd.there (Upd.there (Upd.there (Upd.there (Upd.there (Upd.there (Upd.there (Upd.there (Upd.there (Upd.there (Upd.there (Upd.there (Upd.there (Upd.there (Upd.here)))))))))))))))) | exact Upd.there (Upd.there (Upd.there (Upd.there (Upd.there (Upd.there (Upd.there (Upd.there (Upd.there (Upd.there (Upd.there (Upd.there (Upd.there (Upd.there (Upd.there (Upd.there (Upd.there (Upd.here))))))))))))))))) | exact Upd.there (Upd.there (Upd.there (Upd.there (Upd.there (Upd.there (Upd.there (Upd.there (Upd.there (Upd.there (Upd.there (Upd.there (Upd.there (Upd.there (Upd.there (Upd.there (Upd.there (Upd.there (Upd.here)))))))))))))))))) | exact Upd.there (Upd.there (Upd.there (Upd.there (Upd.there (Upd.there (Upd.there (Upd.there (Upd.there (Upd.there (Upd.there (Upd.there (Upd.there (Upd.there (Upd.there (Upd.there (Upd.there (Upd.there (Upd.there (Upd.here))))))))))))))))))) | exact Upd.there (Upd.there (Upd.there (Upd.there (Upd.there (Upd.there (Upd.there (Upd.there (Upd.there (Upd.there (Upd.there (Upd.there (Upd.there (Upd.there (Upd.there (Upd.there (Upd.there (Upd.there (Upd.there (Upd.there (Upd.here)))))))))))))))))))) | exact Upd.there (Upd.there (Upd.there (Upd.there (Upd.there (Upd.there (Upd.there (Upd.there (Upd.there (Upd.there (Upd.there (Upd.there (Upd.there (Upd.there (Upd.there (Upd.there (Upd.there (Upd.there (Upd.there (Upd.there (Upd.there (Upd.here))))))))))))))))))))) | exact Upd.there (Upd.there (Upd.there (Upd.there (Upd.there (Upd.there (Upd.there (Upd.there (Upd.there (Upd.there (Upd.there (Upd.there (Upd.there (Upd.there (Upd.there (Upd.there (Upd.there (Upd.there (Upd.there (Upd.there (Upd.there (Upd.there (Upd.here)))))))))))))))))))))) | exact Upd.there (Upd.there (Upd.there (Upd.there (Upd.there (Upd.there (Upd.there (Upd.there (Upd.there (Upd.there (Upd.there (Upd.there (Upd.there (Upd.there (Upd.there (Upd.there (Upd.there (Upd.there (Upd.there (Upd.there (Upd.there (Upd.there (Upd.there (Upd.here))))))))))))))))))))))))
local macro_rules | `(tactic| walk_at "ul") => `(tactic| first | exact UpdL.here | exact UpdL.there (UpdL.here) | exact UpdL.there (UpdL.there (UpdL.here)) | exact UpdL.there (UpdL.there (UpdL.there (UpdL.here))) | exact UpdL.there (UpdL.there (UpdL.there (UpdL.there (UpdL.here)))) | exact UpdL.there (UpdL.there (UpdL.there (UpdL.there (UpdL.there (UpdL.here))))) | exact UpdL.there (UpdL.there (UpdL.there (UpdL.there (UpdL.there (UpdL.there (UpdL.here)))))) | exact UpdL.there (UpdL.there (UpdL.there (UpdL.there (UpdL.there (UpdL.there (UpdL.there (UpdL.here))))))) | exact UpdL.there (UpdL.there (UpdL.there (UpdL.there (UpdL.there (UpdL.there (UpdL.there (UpdL.there (UpdL.here)))))))) | exact UpdL.there (UpdL.there (UpdL.there (UpdL.there (UpdL.there (UpdL.there (UpdL.there (UpdL.there (UpdL.there (UpdL.here))))))))) | exact UpdL.there (UpdL.there (UpdL.there (UpdL.there (UpdL.there (UpdL.there (UpdL.there (UpdL.there (UpdL.there (UpdL.there (UpdL.here)))))))))) | exact UpdL.there (UpdL.there (UpdL.there (UpdL.there (UpdL.there (UpdL.there (UpdL.there (UpdL.there (UpdL.there (UpdL.there (UpdL.there (UpdL.here))))))))))) | exact UpdL.there (UpdL.there (UpdL.there (UpdL.there (UpdL.there (UpdL.there (UpdL.there (UpdL.there (UpdL.there (UpdL.there (UpdL.there (UpdL.there (UpdL.here)))))))))))) | exact UpdL.there (UpdL.there (UpdL.there (UpdL.there (UpdL.there (UpdL.there (UpdL.there (UpdL.there (UpdL.there (UpdL.there (UpdL.there (UpdL.there (UpdL.there (UpdL.here))))))))))))))
local macro_rules | `(tactic| walk_at "d") => `(tactic| first | exact Del.here | exact Del.there (Del.here) | exact Del.there (Del.there (Del.here)) | exact Del.there (Del.there (Del.there (Del.here))) | exact Del.there (Del.there (Del.there (Del.there (Del.here)))) | exact Del.there (Del.there (Del.there (Del.there (Del.there (Del.here))))) | exact Del.there (Del.there (Del.there (Del.there (Del.there (Del.there (Del.here)))))) | exact Del.there (Del.there (Del.there (Del.there (Del.there (Del.there (Del.there (Del.here))))))) | exact Del.there (Del.there (Del.there (Del.there (Del.there (Del.there (Del.there (Del.there (Del.here)))))))) | exact Del.there (Del.there (Del.there (Del.there (Del.there (Del.there (Del.there (Del.there (Del.there (Del.here))))))))) | exact Del.there (Del.there (Del.there (Del.there (Del.there (Del.there (Del.there (Del.there (Del.there (Del.there (Del.here)))))))))) | exact Del.there (Del.there (Del.there (Del.there (Del.there (Del.there (Del.there (Del.there (Del.there (Del.there (Del.there (Del.here))))))))))) | exact Del.there (Del.there (Del.there (Del.there (Del.there (Del.there (Del.there (Del.there (Del.there (Del.there (Del.there (Del.there (Del.here)))))))))))) | exact Del.there (Del.there (Del.there (Del.there (Del.there (Del.there (Del.there (Del.there (Del.there (Del.there (Del.there (Del.there (Del.there (Del.here))))))))))))) | exact Del.there (Del.there (Del.there (Del.there (Del.there (Del.there (Del.there (Del.there (Del.there (Del.there (Del.there (Del.there (Del.there (Del.there (Del.here)))))))))))))) | exact Del.there (Del.there (Del.there (Del.there (Del.there (Del.there (Del.there (Del.there (Del.there (Del.there (Del.there (Del.there (Del.there (Del.there (Del.there (Del.here))))))))))))))) | exact Del.there (Del.there (Del.there (Del.there (Del.there (Del.there (Del.there (Del.there (Del.there (Del.there (Del.there (Del.there (Del.there (Del.there (Del.there (Del.there (Del.here)))))))))))))))) | exact Del.there (Del.there (Del.there (Del.there (Del.there (Del.there (Del.there (Del.there (Del.there (Del.there (Del.there (Del.there (Del.there (Del.there (Del.there (Del.there (Del.there (Del.here))))))))))))))))) | exact Del.there (Del.there (Del.there (Del.there (Del.there (Del.there (Del.there (Del.there (Del.there (Del.there (Del.there (Del.there (Del.there (Del.there (Del.there (Del.there (Del.there (Del.there (Del.here)))))))))))))))))) | exact Del.there (Del.there (Del.there (Del.there (Del.there (Del.there (Del.there (Del.there (Del.there (Del.there (Del.there (Del.there (Del.there (Del.there (Del.there (Del.there (Del.there (Del.there (Del.there (Del.here))))))))))))))))))) | exact Del.there (Del.there (Del.there (Del.there (Del.there (Del.there (Del.there (Del.there (Del.there (Del.there (Del.there (Del.there (Del.there (Del.there (Del.there (Del.there (Del.there (Del.there (Del.there (Del.there (Del.here)))))))))))))))))))) | exact Del.there (Del.there (Del.there (Del.there (Del.there (Del.there (Del.there (Del.there (Del.there (Del.there (Del.there (Del.there (Del.there (Del.there (Del.there (Del.there (Del.there (Del.there (Del.there (Del.there (Del.there (Del.here))))))))))))))))))))) | exact Del.there (Del.there (Del.there (Del.there (Del.there (Del.there (Del.there (Del.there (Del.there (Del.there (Del.there (Del.there (Del.there (Del.there (Del.there (Del.there (Del.there (Del.there (Del.there (Del.there (Del.there (Del.there (Del.here)))))))))))))))))))))) | exact Del.there (Del.there (Del.there (Del.there (Del.there (Del.there (Del.there (Del.there (Del.there (Del.there (Del.there (Del.there (Del.there (Del.there (Del.there (Del.there (Del.there (Del.there (Del.there (Del.there (Del.there (Del.there (Del.there (Del.here))))))))))))))))))))))))
local macro_rules | `(tactic| walk_at "s") => `(tactic| repeat (first | exact List.Sublist.refl _ | exact List.nil_sublist _ | refine List.Sublist.cons_cons _ ?_ | refine List.Sublist.cons _ ?_))
noncomputable def xGInit : FnX 87 := ⟨_, fun P => rfl⟩
noncomputable def xGIter : FnX 94 := ⟨_, fun P => rfl⟩
noncomputable def xGStep : FnX 101 := ⟨_, fun P => rfl⟩
noncomputable def xGNext : FnX 108 := ⟨_, fun P => rfl⟩
noncomputable def xQInit : FnX 139 := ⟨_, fun P => rfl⟩
noncomputable def xQIter : FnX 146 := ⟨_, fun P => rfl⟩
noncomputable def xQNext : FnX 153 := ⟨_, fun P => rfl⟩
theorem fPull {C} (B : Base C) : FnIs C 64 xPull.1 := B.fn xPull fun P => ⟨_, _, _, _, rfl, rfl, rfl, rfl⟩
theorem fSame {C} (B : Base C) : FnIs C 71 xSame.1 := B.fn xSame fun P => ⟨_, _, _, _, rfl, rfl, rfl, rfl⟩
theorem fGInit {C} (B : Base C) : FnIs C 87 xGInit.1 := B.fn xGInit fun P => ⟨_, _, _, _, rfl, rfl, rfl, rfl⟩
theorem fGIter {C} (B : Base C) : FnIs C 94 xGIter.1 := B.fn xGIter fun P => ⟨_, _, _, _, rfl, rfl, rfl, rfl⟩
theorem fGStep {C} (B : Base C) : FnIs C 101 xGStep.1 := B.fn xGStep fun P => ⟨_, _, _, _, rfl, rfl, rfl, rfl⟩
theorem fGNext {C} (B : Base C) : FnIs C 108 xGNext.1 := B.fn xGNext fun P => ⟨_, _, _, _, rfl, rfl, rfl, rfl⟩
theorem fQInit {C} (B : Base C) : FnIs C 139 xQInit.1 := B.fn xQInit fun P => ⟨_, _, _, _, rfl, rfl, rfl, rfl⟩
theorem fQIter {C} (B : Base C) : FnIs C 146 xQIter.1 := B.fn xQIter fun P => ⟨_, _, _, _, rfl, rfl, rfl, rfl⟩
theorem fQNext {C} (B : Base C) : FnIs C 153 xQNext.1 := B.fn xQNext fun P => ⟨_, _, _, _, rfl, rfl, rfl, rfl⟩
theorem gStop {C} (B : Base C) : GlobalIs C (Str.ofString "StopIteration") (.type "StopIteration") := B.bi (by intro P; kernel_rfl) (by kernel_rfl) (by decide)
theorem gNext {C} (B : Base C) : GlobalIs C (Str.ofString "next") (.builtin "next") := B.bi (by intro P; kernel_rfl) (by kernel_rfl) (by decide)
theorem gIter {C} (B : Base C) : GlobalIs C (Str.ofString "iter") (.builtin "iter") := B.bi (by intro P; kernel_rfl) (by kernel_rfl) (by decide)
theorem gType {C} (B : Base C) : GlobalIs C (Str.ofString "type") (.type "type") := B.bi (by intro P; kernel_rfl) (by kernel_rfl) (by decide)
theorem gPull {C} (B : Base C) : GlobalIs C (Str.ofString "_pull") (.ref 64) := B.glob (by intro P; kernel_rfl)
theorem gSame {C} (B : Base C) : GlobalIs C (Str.ofString "_same") (.ref 71) := B.glob (by intro P; kernel_rfl)
theorem gGroupby {C} (B : Base C) : GlobalIs C (Str.ofString "groupby") (.ref 112) := B.glob (by intro P; kernel_rfl)
theorem gGrouper {C} (B : Base C) : GlobalIs C (Str.ofString "_grouper") (.ref 157) := B.glob (by intro P; kernel_rfl)
structure SlotAt (name : Str) (p Cc : Addr) (i : Nat) : Prop where
  get : ∀ P, plainGet (hd.heap_39 P) Cc name = true
  cls : ∀ P, isClsIn (hd.heap_39 P) Cc = true
  at_ : ∀ P, findIn (hd.heap_39 P) (.ref Cc) name = some (some (.ref p))
  getter : ∀ P, specialIn (hd.heap_39 P) (.ref p) "__get__" = some (some (.builtin "member_descriptor.__get__"))
  takes : ∀ P, takesIn (hd.heap_39 P) (.ref p) = some true
  slot : ∀ P, slotIn (hd.heap_39 P) p Cc = some i
  setter : ∀ P, findIn (hd.heap_39 P) (.ref Cc) "__setattr__" = some (some (.builtin "object.__setattr__"))
  over : ∀ P, plainOver (hd.heap_39 P) Cc = true
  taker : ∀ P, takerIn (hd.heap_39 P) Cc name = some (some (.ref p))
  typ : ∀ P, typeIn (hd.heap_39 P) (.ref p) = some (.type "member_descriptor")
  small : i < 1000
theorem sCg : SlotAt (Str.ofString "_currgrouper") 113 112 0 := by constructor <;> first | (intro P; kernel_rfl) | decide
theorem sCk : SlotAt (Str.ofString "_currkey") 114 112 1 := by constructor <;> first | (intro P; kernel_rfl) | decide
theorem sCv : SlotAt (Str.ofString "_currvalue") 115 112 2 := by constructor <;> first | (intro P; kernel_rfl) | decide
theorem sHk : SlotAt (Str.ofString "_has_currkey") 116 112 3 := by constructor <;> first | (intro P; kernel_rfl) | decide
theorem sHv : SlotAt (Str.ofString "_has_currvalue") 117 112 4 := by constructor <;> first | (intro P; kernel_rfl) | decide
theorem sHt : SlotAt (Str.ofString "_has_tgtkey") 118 112 5 := by constructor <;> first | (intro P; kernel_rfl) | decide
theorem sIt : SlotAt (Str.ofString "_it") 119 112 6 := by constructor <;> first | (intro P; kernel_rfl) | decide
theorem sKf : SlotAt (Str.ofString "_keyfunc") 120 112 7 := by constructor <;> first | (intro P; kernel_rfl) | decide
theorem sSer : SlotAt (Str.ofString "_serial") 121 112 8 := by constructor <;> first | (intro P; kernel_rfl) | decide
theorem sTk : SlotAt (Str.ofString "_tgtkey") 122 112 9 := by constructor <;> first | (intro P; kernel_rfl) | decide
theorem qNum : SlotAt (Str.ofString "_number") 158 157 0 := by constructor <;> first | (intro P; kernel_rfl) | decide
theorem qPar : SlotAt (Str.ofString "_parent") 159 157 1 := by constructor <;> first | (intro P; kernel_rfl) | decide
theorem qTk : SlotAt (Str.ofString "_tgtkey") 160 157 2 := by constructor <;> first | (intro P; kernel_rfl) | decide
section
variable {C : Cx} {A : Around} {S : St} {E : Value → Shared → Prop} {env : Env} {x dx Cc p : Addr} {sl : List (Option Value)} {name : Str} {i : Nat} {v : Value} {l : List (Str × Option Value)}
theorem W.gs {Q : Value → St → Prop} {expr : Bool} (B : Base C) (F : SlotAt name p Cc i) (hm : (x, .obj (instO Cc dx sl)) ∈ S) (hd : (dx, .ns l) ∈ S) (hv : sl[i]? = some (some v)) (h : Q v S) (hh : handedIn v = true := by rfl) : W C A S (getAttr (.ref x) name expr) Q E :=
  .getSlot B.frag hm hd hv hh h (F.get _) (F.cls _) (F.at_ _) (F.getter _) (F.takes _) (F.slot _)
theorem W.ss {Q : Unit → St → Prop} {S'} (B : Base C) (F : SlotAt name p Cc i) (hm : Upd x (.obj (instO Cc dx sl)) (.obj (instO Cc dx (putSlot sl i v))) S S') (hd : (dx, .ns l) ∈ S) (h : Q () S') : W C A S (setAttr (.ref x) name v) Q E :=
  .setSlot B.frag hm hd h (F.setter _) (F.over _) (F.taker _) (F.typ _) (F.slot _) F.small
end
end Mine
-- part C3
set_option profiler true
set_option profiler.threshold 300
namespace Mine
open PySem PySem.Calls PySem.W PyProof.Rows
local macro_rules | `(tactic| walk_at "m") => `(tactic| first | exact List.Mem.head _ | exact List.Mem.tail _ (List.Mem.head _) | exact List.Mem.tail _ (List.Mem.tail _ (List.Mem.head _)) | exact List.Mem.tail _ (List.Mem.tail _ (List.Mem.tail _ (List.Mem.head _))) | exact List.Mem.tail _ (List.Mem.tail _ (List.Mem.tail _ (List.Mem.tail _ (List.Mem.head _)))) | exact List.Mem.tail _ (List.Mem.tail _ (List.Mem.tail _ (List.Mem.tail _ (List.Mem.tail _ (List.Mem.head _))))) | exact List.Mem.tail _ (List.Mem.tail _ (List.Mem.tail _ (List.Mem.tail _ (List.Mem.tail _ (List.Mem.tail _ (List.Mem.head _)))))) | exact List.Mem.tail _ (List.Mem.tail _ (List.Mem.tail _ (List.Mem.tail _ (List.Mem.tail _ (List.Mem.tail _ (List.Mem.tail _ (List.Mem.head _))))))) | exact List.Mem.tail _ (List.Mem.tail _ (List.Mem.tail _ (List.Mem.tail _ (List.Mem.tail _ (List.Mem.tail _ (List.Mem.tail _ (List.Mem.tail _ (List.Mem.head _)))))))) | exact List.Mem.tail _ (List.Mem.tail _ (List.Mem.tail _ (List.Mem.tail _ (List.Mem.tail _ (List.Mem.tail _ (List.Mem.tail _ (List.Mem.tail _ (List.Mem.tail _ (List.Mem.head _))))))))) | exact List.Mem.tail _ (List.Mem.tail _ (List.Mem.tail _ (List.Mem.tail _ (List.Mem.tail _ (List.Mem.tail _ (List.Mem.tail _ (List.Mem.tail _ (List.Mem.tail _ (List.Mem.tail _ (List.Mem.head _)))))))))) | exact List.Mem.tail _ (List.Mem.tail _ (List.Mem.tail _ (List.Mem.tail _ (List.Mem.tail _ (List.Mem.tail _ (List.Mem.tail _ (List.Mem.tail _ (List.Mem.tail _ (List.Mem.tail _ (List.Mem.tail _ (List.Mem.head _))))))))))) | exact List.Mem.tail _ (List.Mem.tail _ (List.Mem.tail _ (List.Mem.tail _ (List.Mem.tail _ (List.Mem.tail _ (List.Mem.tail _ (List.Mem.tail _ (List.Mem.tail _ (List.Mem.tail _ (List.Mem.tail _ (List.Mem.tail _ (List.Mem.head _)))))))))))) | exact List.Mem.tail _ (List.Mem.tail _ (List.Mem.tail _ (List.Mem.tail _ (List.Mem.tail _ (List.Mem.tail _ (List.Mem.tail _ (List.Mem.tail _ (List.Mem.tail _ (List.Mem.tail _ (List.Mem.tail _ (List.Mem.tail _ (List.Mem.tail _ (List.Mem.head _))))))))))))) | exact List.Mem.tail _ (List.Mem.tail _ (List.Mem.tail _ (List.Mem.tail _ (List.Mem.tail _ (List.Mem.tail _ (List.Mem.tail _ (List.Mem.tail _ (List.Mem.tail _ (List.Mem.tail _ (List.Mem.tail _ (List.Mem.tail _ (List.Mem.tail _ (List.Mem.tail _ (List.Mem.head _)))))))))))))) | exact List.Mem.tail _ (List.Mem.tail _ (List.Mem.tail _ (List.Mem.tail _ (List.Mem.tail _ (List.Mem.tail _ (List.Mem.tail _ (List.Mem.tail _ (List.Mem.tail _ (List.Mem.tail _ (List.Mem.tail _ (List.Mem.tail _ (List.Mem.tail _ (List.Mem.tail _ (List.Mem.tail _ (List.Mem.head _))))))))))))))) | exact List.Mem.tail _ (List.Mem.tail _ (List.Mem.tail _ (List.Mem.tail _ (List.Mem.tail _ (List.Mem.tail _ (List.Mem.tail _ (List.Mem.tail _ (List.Mem.tail _ (List.Mem.tail _ (List.Mem.tail _ (List.Mem.tail _ (List.Mem.tail _ (List.Mem.tail _ (List.Mem.tail _ (List.Mem.tail _ (List.Mem.head _)))))))))))))))) | exact List.Mem.tail _ (List.Mem.tail _ (List.Mem.tail _ (List.Mem.tail _ (List.Mem.tail _ (List.Mem.tail _ (List.Mem.tail _ (List.Mem.tail _ (List.Mem.tail _ (List.Mem.tail _ (List.Mem.tail _ (List.Mem.tail _ (List.Mem.tail _ (List.Mem.tail _ (List.Mem.tail _ (List.Mem.tail _ (List.Mem.tail _ (List.Mem.head _))))))))))))))))) | exact List.Mem.tail _ (List.Mem.tail _ (List.Mem.tail _ (List.Mem.tail _ (List.Mem.tail _ (List.Mem.tail _ (List.Mem.tail _ (List.Mem.tail _ (List.Mem.tail _ (List.Mem.tail _ (List.Mem.tail _ (List.Mem.tail _ (List.Mem.tail _ (List.Mem.tail _ (List.Mem.tail _ (List.Mem.tail _ (List.Mem.tail _ (List.Mem.tail _ (List.Mem.head _)))))))))))))))))) | exact List.Mem.tail _ (List.Mem.tail _ (List.Mem.tail _ (List.Mem.tail _ (List.Mem.tail _ (List.Mem.tail _ (List.Mem.tail _ (List.Mem.tail _ (List.Mem.tail _ (List.Mem.tail _ (List.Mem.tail _ (List.Mem.tail _ (List.Mem.tail _ (List.Mem.tail _ (List.Mem.tail _ (List.Mem.tail _ (List.Mem.tail _ (List.Mem.tail _ (List.Mem.tail _ (List.Mem.head _))))))))))))))))))) | exact List.Mem.tail _ (List.Mem.tail _ (List.Mem.tail _ (List.Mem.tail _ (List.Mem.tail _ (List.Mem.tail _ (List.Mem.tail _ (List.Mem.tail _ (List.Mem.tail _ (List.Mem.tail _ (List.Mem.tail _ (List.Mem.tail _ (List.Mem.tail _ (List.Mem.tail _ (List.Mem.tail _ (List.Mem.tail _ (List.Mem.tail _ (List.Mem.tail _ (List.Mem.tail _ (List.Mem.tail _ (List.Mem.head _)))))))))))))))))))) | exact List.Mem.tail _ (List.Mem.tail _ (List.Mem.tail _ (List.Mem.tail _ (List.Mem.tail _ (List.Mem.tail _ (List.Mem.tail _ (List.Mem.tail _ (List.Mem.tail _ (List.Mem.tail _ (List.Mem.tail _ (List.Mem.tail _ (List.Mem.tail _ (List.Mem.tail _ (List.Mem.tail _ (List.Mem.tail _ (List.Mem.tail _ (List.Mem.tail _ (List.Mem.tail _ (List.Mem.tail _ (List.Mem.tail _ (List.Mem.head _))))))))))))))))))))) | exact List.Mem.tail _ (List.Mem.tail _ (List.Mem.tail _ (List.Mem.tail _ (List.Mem.tail _ (List.Mem.tail _ (List.Mem.tail _ (List.Mem.tail _ (List.Mem.tail _ (List.Mem.tail _ (List.Mem.tail _ (List.Mem.tail _ (List.Mem.tail _ (List.Mem.tail _ (List.Mem.tail _ (List.Mem.tail _ (List.Mem.tail _ (List.Mem.tail _ (List.Mem.tail _ (List.Mem.tail _ (List.Mem.tail _ (List.Mem.tail _ (List.Mem.head _)))))))))))))))))))))) | exact List.Mem.tail _ (List.Mem.tail _ (List.Mem.tail _ (List.Mem.tail _ (List.Mem.tail _ (List.Mem.tail _ (List.Mem.tail _ (List.Mem.tail _ (List.Mem.tail _ (List.Mem.tail _ (List.Mem.tail _ (List.Mem.tail _ (List.Mem.tail _ (List.Mem.tail _ (List.Mem.tail _ (List.Mem.tail _ (List.Mem.tail _ (List.Mem.tail _ (List.Mem.tail _ (List.Mem.tail _ (List.Mem.tail _ (List.Mem.tail _ (List.Mem.tail _ (List.Mem.head _))))))))))))))))))))))))
local macro_rules | `(tactic| walk_at "u") => `(tactic| first | exact Upd.here | exact Upd.there (Upd.here) | exact Upd.there (Upd.there (Upd.here)) | exact Upd.there (Upd.there (Upd.there (Upd.here))) | exact Upd.there (Upd.there (Upd.there (Upd.there (Upd.here)))) | exact Upd.there (Upd.there (Upd.there (Upd.there (Upd.there (Upd.here))))) | exact Upd.there (Upd.there (Upd.there (Upd.there (Upd.there (Upd.there (Upd.here)))))) | exact Upd.there (Upd.there (Upd.there (Upd.there (Upd.there (Upd.there (Upd.there (Upd.here))))))) | exact Upd.there (Upd.there (Upd.there (Upd.there (Upd.there (Upd.there (Upd.there (Upd.there (Upd.here)))))))) | exact Upd.there (Upd.there (Upd.there (Upd.there (Upd.there (Upd.there (Upd.there (Upd.there (Upd.there (Upd.here))))))))) | exact Upd.there (Upd.there (Upd.there (Upd.there (Upd.there (Upd.there (Upd.there (Upd.there (Upd.there (Upd.there (Upd.here)))))))))) | exact Upd.there (Upd.there (Upd.there (Upd.there (Upd.there (Upd.there (Upd.there (Upd.there (Upd.there (Upd.there (Upd.there (Upd.here))))))))))) | exact Upd.there (Upd.there (Upd.there (Upd.there (Upd.there (Upd.there (Upd.there (Upd.there (Upd.there (Upd.there (Upd.there (Upd.there (Upd.here)))))))))))) | exact Upd.there (Upd.there (Upd.there (Upd.there (Upd.there (Upd.there (Upd.there (Upd.there (Upd.there (Upd.there (Upd.there (Upd.there (Upd.there (Upd.here))))))))))))) | exact Upd.there (Upd.there (Upd.there (Upd.there (Upd.there (Upd.there (Upd.there (Upd.there (Upd.there (Upd.there (Upd.there (Upd.there (Upd.there (Upd.there (Upd.here)))))))))))))) | exact Upd.there (Upd.there (Upd.there (Upd.there (Upd.there (Upd.there (Upd.there (Upd.there (Upd.there (Upd.there (Upd.there (Upd.there (Upd.there (Upd.there (Upd.there (Upd.here))))))))))))))) | exact Upd.there (Upd.there (Upd.there (Upd.there (Upd.there (Upd.there (Upd.there (Upd.there (Upd.there (Upd.there (Upd.there (Upd.there (Upd.there (Upd.there (Upd.there (Upd.there (Upd.here)))))))))))))))) | exact Upd.there (Upd.there (Upd.there (Upd.there (Upd.there (Upd.there (Upd.there (Upd.there (Upd.there (Upd.there (Upd.there (Upd.there (Upd.there (Upd.there (Upd.there (Upd.there (Upd.there (Upd.here))))))))))))))))) | exact Upd.there (Upd.there (Upd.there (Upd.there (Upd.there (Upd.there (Upd.there (Upd.there (Upd.there (Upd.there (Upd.there (Upd.there (Upd.there (Upd.there (Upd.there (Upd.there (Upd.there (Upd.there (Upd.here)))))))))))))))))) | exact Upd.there (Upd.there (Upd.there (Upd.there (Upd.there (Upd.there (Upd.there (Upd.there (Upd.there (Upd.there (Upd.there (Upd.there (Upd.there (Upd.there (Upd.there (Upd.there (Upd.there (Upd.there (Upd.there (Upd.here))))))))))))))))))) | exact Upd.there (Upd.there (Upd.there (Upd.there (Upd.there (Upd.there (Upd.there (Upd.there (Upd.there (Upd.there (Upd.there (Upd.there (Upd.there (Upd.there (Upd.there (Upd.there (Upd.there (Upd.there (Upd.there (Upd.there (Upd.here)))))))))))))))))))) | exact Upd.there (Upd.there (Upd.there (Upd.there (Upd.there (Upd.there (Upd.there (Upd.there (Upd.there (Upd.there (Upd.there (Upd.there (Upd.there (Upd.there (Upd.there (Upd.there (Upd.there (Upd.there (Upd.there (Upd.there (Upd.there (Upd.here))))))))))))))))))))) | exact Upd.there (Upd.there (Upd.there (Upd.there (Upd.there (Upd.there (Upd.there (Upd.there (Upd.there (Upd.there (Upd.there (Upd.there (Upd.there (Upd.there (Upd.there (Upd.there (Upd.there (Upd.there (Upd.there (Upd.there (Upd.there (Upd.there (Upd.here)))))))))))))))))))))) | exact Upd.there (Upd.there (Upd.there (Upd.there (Upd.there (Upd.there (Upd.there (Upd.there (Upd.there (Upd.there (Upd.there (Upd.there (Upd.there (Upd.there (Upd.there (Upd.there (Upd.there (Upd.there (Upd.there (Upd.there (Upd.there (Upd.there (Upd.there (Upd.here))))))))))))))))))))))))
local macro_rules | `(tactic| walk_at "ul") => `(tactic| first | exact UpdL.here | exact UpdL.there (UpdL.here) | exact UpdL.there (UpdL.there (UpdL.here)) | exact UpdL.there (UpdL.there (UpdL.there (UpdL.here))) | exact UpdL.there (UpdL.there (UpdL.there (UpdL.there (UpdL.here)))) | exact UpdL.there (UpdL.there (UpdL.there (UpdL.there (UpdL.there (UpdL.here))))) | exact UpdL.there (UpdL.there (UpdL.there (UpdL.there (UpdL.there (UpdL.there (UpdL.here)))))) | exact UpdL.there (UpdL.there (UpdL.there (UpdL.there (UpdL.there (UpdL.there (UpdL.there (UpdL.here))))))) | exact UpdL.there (UpdL.there (UpdL.there (UpdL.there (UpdL.there (UpdL.there (UpdL.there (UpdL.there (UpdL.here)))))))) | exact UpdL.there (UpdL.there (UpdL.there (UpdL.there (UpdL.there (UpdL.there (UpdL.there (UpdL.there (UpdL.there (UpdL.here))))))))) | exact UpdL.there (UpdL.there (UpdL.there (UpdL.there (UpdL.there (UpdL.there (UpdL.there (UpdL.there (UpdL.there (UpdL.there (UpdL.here)))))))))) | exact UpdL.there (UpdL.there (UpdL.there (UpdL.there (UpdL.there (UpdL.there (UpdL.there (UpdL.there (UpdL.there (UpdL.there (UpdL.there (UpdL.here))))))))))) | exact UpdL.there (UpdL.there (UpdL.there (UpdL.there (UpdL.there (UpdL.there (UpdL.there (UpdL.there (UpdL.there (UpdL.there (UpdL.there (UpdL.there (UpdL.here)))))))))))) | exact UpdL.there (UpdL.there (UpdL.there (UpdL.there (UpdL.there (UpdL.there (UpdL.there (UpdL.there (UpdL.there (UpdL.there (UpdL.there (UpdL.there (UpdL.there (UpdL.here))))))))))))))
local macro_rules | `(tactic| walk_at "d") => `(tactic| first | exact Del.here | exact Del.there (Del.here) | exact Del.there (Del.there (Del.here)) | exact Del.there (Del.there (Del.there (Del.here))) | exact Del.there (Del.there (Del.there (Del.there (Del.here)))) | exact Del.there (Del.there (Del.there (Del.there (Del.there (Del.here))))) | exact Del.there (Del.there (Del.there (Del.there (Del.there (Del.there (Del.here)))))) | exact Del.there (Del.there (Del.there (Del.there (Del.there (Del.there (Del.there (Del.here))))))) | exact Del.there (Del.there (Del.there (Del.there (Del.there (Del.there (Del.there (Del.there (Del.here)))))))) | exact Del.there (Del.there (Del.there (Del.there (Del.there (Del.there (Del.there (Del.there (Del.there (Del.here))))))))) | exact Del.there (Del.there (Del.there (Del.there (Del.there (Del.there (Del.there (Del.there (Del.there (Del.there (Del.here)))))))))) | exact Del.there (Del.there (Del.there (Del.there (Del.there (Del.there (Del.there (Del.there (Del.there (Del.there (Del.there (Del.here))))))))))) | exact Del.there (Del.there (Del.there (Del.there (Del.there (Del.there (Del.there (Del.there (Del.there (Del.there (Del.there (Del.there (Del.here)))))))))))) | exact Del.there (Del.there (Del.there (Del.there (Del.there (Del.there (Del.there (Del.there (Del.there (Del.there (Del.there (Del.there (Del.there (Del.here))))))))))))) | exact Del.there (Del.there (Del.there (Del.there (Del.there (Del.there (Del.there (Del.there (Del.there (Del.there (Del.there (Del.there (Del.there (Del.there (Del.here)))))))))))))) | exact Del.there (Del.there (Del.there (Del.there (Del.there (Del.there (Del.there (Del.there (Del.there (Del.there (Del.there (Del.there (Del.there (Del.there (Del.there (Del.here))))))))))))))) | exact Del.there (Del.there (Del.there (Del.there (Del.there (Del.there (Del.there (Del.there (Del.there (Del.there (Del.there (Del.there (Del.there (Del.there (Del.there (Del.there (Del.here)))))))))))))))) | exact Del.there (Del.there (Del.there (Del.there (Del.there (Del.there (Del.there (Del.there (Del.there (Del.there (Del.there (Del.there (Del.there (Del.there (Del.there (Del.there (Del.there (Del.here))))))))))))))))) | exact Del.there (Del.there (Del.there (Del.there (Del.there (Del.there (Del.there (Del.there (Del.there (Del.there (Del.there (Del.there (Del.there (Del.there (Del.there (Del.there (Del.there (Del.there (Del.here)))))))))))))))))) | exact Del.there (Del.there (Del.there (Del.there (Del.there (Del.there (Del.there (Del.there (Del.there (Del.there (Del.there (Del.there (Del.there (Del.there (Del.there (Del.there (Del.there (Del.there (Del.there (Del.here))))))))))))))))))) | exact Del.there (Del.there (Del.there (Del.there (Del.there (Del.there (Del.there (Del.there (Del.there (Del.there (Del.there (Del.there (Del.there (Del.there (Del.there (Del.there (Del.there (Del.there (Del.there (Del.there (Del.here)))))))))))))))))))) | exact Del.there (Del.there (Del.there (Del.there (Del.there (Del.there (Del.there (Del.there (Del.there (Del.there (Del.there (Del.there (Del.there (Del.there (Del.there (Del.there (Del.there (Del.there (Del.there (Del.there (Del.there (Del.here))))))))))))))))))))) | exact Del.there (Del.there (Del.there (Del.there (Del.there (Del.there (Del.there (Del.there (Del.there (Del.there (Del.there (Del.there (Del.there (Del.there (Del.there (Del.there (Del.there (Del.there (Del.there (Del.there (Del.there (Del.there (Del.here)))))))))))))))))))))) | exact Del.there (Del.there (Del.there (Del.there (Del.there (Del.there (Del.there (Del.there (Del.there (Del.there (Del.there (Del.there (Del.there (Del.there (Del.there (Del.there (Del.there (Del.there (Del.there (Del.there (Del.there (Del.there (Del.there (Del.here))))))))))))))))))))))))
local macro_rules | `(tactic| walk_at "s") => `(tactic| repeat (first | exact List.Sublist.refl _ | exact List.nil_sublist _ | refine List.Sublist.cons_cons _ ?_ | refine List.Sublist.cons _ ?_))
/-- _same of two truth values -/
theorem W.same {C : Cx} {A : Around} {S : St} {E : Value → Shared → Prop} {a b : Bool} {Q : Value → St → Prop} (B : Base C) (R : Room A 1) (h : Q (.bool (decide (a = b))) S) : W C A S (call (.ref 71) [.bool a, .bool b]) Q E := by
  refine .callDef (n := 0) (binds := [(Str.ofString "a", .bool a), (Str.ofString "b", .bool b)]) [Str.ofString "a", Str.ofString "b"] [] (fSame B) R rfl (fun s G => .of_eq rfl) (by decide) (by decide) (by decide) ?_
  intro L R1
  refine .sCons (.sIf (.tcmp (.name (.head _) (by walk_at "m") (.name (.head _) (by walk_at "m") (.isBool ⟨_, rfl, ?_⟩)))))
  by_cases hab : a = b
  · rw [if_pos (by simp [hab])]
    refine .sCons (.sRet (.cBool ⟨S, .cons _ (.refl _), ?_⟩))
    have h9 := h
    simp [hab] at h9
    exact h9
  · rw [if_neg (by simp [hab])]
    refine .sNil (.sCons (.sIf (.tcmp (.name (.head _) (by walk_at "m") (.name (.head _) (by walk_at "m") (.eqBool ⟨_, rfl, ?_⟩))))))
    rw [if_neg (by simp [hab])]
    refine .sNil (.sCons (.sRet (.cBool ⟨S, .cons _ (.refl _), ?_⟩)))
    have h9 := h
    simp [hab] at h9
    exact h9
/-- _pull -/
theorem W.pullItem {C : Cx} {A : Around} {S S' : St} {E : Value → Shared → Prop} {it l : Addr} {i : Nat} {vs : List Value} {v : Value} {Q : Value → St → Prop} (B : Base C) (R : Room A 1) (hu : Upd it (liCell l i) (liCell l (i + 1)) S S') (hl : (l, .list vs) ∈ S) (hv : vs[i]? = some v)
    (h : ∀ t, Q (.ref t) ((t, .obj (tupObj [.bool true, v])) :: S')) : W C A S (call (.ref 64) [.ref it]) Q E := by
  refine .callDef (n := 0) (binds := [(Str.ofString "it", .ref it)]) [Str.ofString "it"] [] (fPull B) R rfl (fun s G => .of_eq rfl) (by decide) (by decide) (by decide) ?_
  intro L R1
  refine .sCons (.tryStop A L (fun _ => False) (gStop B) ?_ (fun _ _ h => h.elim))
  refine .sCons (.sRet (.mkTuple (.itemsCons (.cBool (.itemsCons (.callName (.glob (gNext B) (.withB (.itemsCons (.name (.head _) (.head _) (.itemsNil (.nextL (.there hu) (.tail _ hl) hv (.itemsNil ⟨by rw [sizeLine_eq]; simp, fun t => ⟨(by intro h; cases h), ?_⟩⟩)))))))))))))
  exact ⟨_, by walk_at "s", h t⟩
theorem W.pullEnd {C : Cx} {A : Around} {S S' : St} {E : Value → Shared → Prop} {it l : Addr} {vs : List Value} {Q : Value → St → Prop} (B : Base C) (R : Room A 1) (hu : Upd it (liCell l vs.length) (deadCell vs.length) S S') (hl : (l, .list vs) ∈ S)
    (h : ∀ t, Q (.ref t) ((t, .obj (tupObj [.bool false, .none])) :: S')) : W C A S (call (.ref 64) [.ref it]) Q E := by
  refine .callDef (n := 0) (binds := [(Str.ofString "it", .ref it)]) [Str.ofString "it"] [] (fPull B) R rfl (fun s G => .of_eq rfl) (by decide) (by decide) (by decide) ?_
  intro L R1
  refine .sCons (.tryStop A L (fun S₁ => S₁ = (L, .ns (locals0 [(Str.ofString "it", .ref it)] [])) :: S') (gStop B) ?_ ?_)
  · refine .sCons (.sRet (.mkTuple (.itemsCons (.cBool (.itemsCons (.callName (.glob (gNext B) (.withB (.itemsCons (.name (.head _) (.head _) (.itemsNil (.nextEnd R1.handled (.there hu) (.tail _ hl) fun v s h => h))))))))))))
  · rintro S₁ e rfl
    refine .sCons (.sRet (.mkTuple (.itemsCons (.cBool (.itemsCons (.cNone (.itemsNil ⟨by rw [sizeLine_eq]; simp, fun t => ⟨_, ?_, h t⟩⟩)))))))
    walk_at "s"
theorem W.pullDead {C : Cx} {A : Around} {S : St} {E : Value → Shared → Prop} {it : Addr} {i : Nat} {Q : Value → St → Prop} (B : Base C) (R : Room A 1) (hm : (it, deadCell i) ∈ S)
    (h : ∀ t, Q (.ref t) ((t, .obj (tupObj [.bool false, .none])) :: S)) : W C A S (call (.ref 64) [.ref it]) Q E := by
  refine .callDef (n := 0) (binds := [(Str.ofString "it", .ref it)]) [Str.ofString "it"] [] (fPull B) R rfl (fun s G => .of_eq rfl) (by decide) (by decide) (by decide) ?_
  intro L R1
  refine .sCons (.tryStop A L (fun S₁ => S₁ = (L, .ns (locals0 [(Str.ofString "it", .ref it)] [])) :: S) (gStop B) ?_ ?_)
  · refine .sCons (.sRet (.mkTuple (.itemsCons (.cBool (.itemsCons (.callName (.glob (gNext B) (.withB (.itemsCons (.name (.head _) (.head _) (.itemsNil (.nextDead R1.handled (.tail _ hm) fun v s h => h))))))))))))
  · rintro S₁ e rfl
    refine .sCons (.sRet (.mkTuple (.itemsCons (.cBool (.itemsCons (.cNone (.itemsNil ⟨by rw [sizeLine_eq]; simp, fun t => ⟨_, ?_, h t⟩⟩)))))))
    walk_at "s"
end Mine
-- part C4
namespace Mine
open PySem PySem.Calls PySem.W PyProof.Rows
local macro_rules | `(tactic| walk_at "m") => `(tactic| first | exact List.Mem.head _ | exact List.Mem.tail _ (List.Mem.head _) | exact List.Mem.tail _ (List.Mem.tail _ (List.Mem.head _)) | exact List.Mem.tail _ (List.Mem.tail _ (List.Mem.tail _ (List.Mem.head _))) | exact List.Mem.tail _ (List.Mem.tail _ (List.Mem.tail _ (List.Mem.tail _ (List.Mem.head _)))) | exact List.Mem.tail _ (List.Mem.tail _ (List.Mem.tail _ (List.Mem.tail _ (List.Mem.tail _ (List.Mem.head _))))) | exact List.Mem.tail _ (List.Mem.tail _ (List.Mem.tail _ (List.Mem.tail _ (List.Mem.tail _ (List.Mem.tail _ (List.Mem.head _)))))) | exact List.Mem.tail _ (List.Mem.tail _ (List.Mem.tail _ (List.Mem.tail _ (List.Mem.tail _ (List.Mem.tail _ (List.Mem.tail _ (List.Mem.head _))))))) | exact List.Mem.tail _ (List.Mem.tail _ (List.Mem.tail _ (List.Mem.tail _ (List.Mem.tail _ (List.Mem.tail _ (List.Mem.tail _ (List.Mem.tail _ (List.Mem.head _)))))))) | exact List.Mem.tail _ (List.Mem.tail _ (List.Mem.tail _ (List.Mem.tail _ (List.Mem.tail _ (List.Mem.tail _ (List.Mem.tail _ (List.Mem.tail _ (List.Mem.tail _ (List.Mem.head _))))))))) | exact List.Mem.tail _ (List.Mem.tail _ (List.Mem.tail _ (List.Mem.tail _ (List.Mem.tail _ (List.Mem.tail _ (List.Mem.tail _ (List.Mem.tail _ (List.Mem.tail _ (List.Mem.tail _ (List.Mem.head _)))))))))) | exact List.Mem.tail _ (List.Mem.tail _ (List.Mem.tail _ (List.Mem.tail _ (List.Mem.tail _ (List.Mem.tail _ (List.Mem.tail _ (List.Mem.tail _ (List.Mem.tail _ (List.Mem.tail _ (List.Mem.tail _ (List.Mem.head _))))))))))) | exact List.Mem.tail _ (List.Mem.tail _ (List.Mem.tail _ (List.Mem.tail _ (List.Mem.tail _ (List.Mem.tail _ (List.Mem.tail _ (List.Mem.tail _ (List.Mem.tail _ (List.Mem.tail _ (List.Mem.tail _ (List.Mem.tail _ (List.Mem.head _)))))))))))) | exact List.Mem.tail _ (List.Mem.tail _ (List.Mem.tail _ (List.Mem.tail _ (List.Mem.tail _ (List.Mem.tail _ (List.Mem.tail _ (List.Mem.tail _ (List.Mem.tail _ (List.Mem.tail _ (List.Mem.tail _ (List.Mem.tail _ (List.Mem.tail _ (List.Mem.head _))))))))))))) | exact List.Mem.tail _ (List.Mem.tail _ (List.Mem.tail _ (List.Mem.tail _ (List.Mem.tail _ (List.Mem.tail _ (List.Mem.tail _ (List.Mem.tail _ (List.Mem.tail _ (List.Mem.tail _ (List.Mem.tail _ (List.Mem.tail _ (List.Mem.tail _ (List.Mem.tail _ (List.Mem.head _)))))))))))))) | exact List.Mem.tail _ (List.Mem.tail _ (List.Mem.tail _ (List.Mem.tail _ (List.Mem.tail _ (List.Mem.tail _ (List.Mem.tail _ (List.Mem.tail _ (List.Mem.tail _ (List.Mem.tail _ (List.Mem.tail _ (List.Mem.tail _ (List.Mem.tail _ (List.Mem.tail _ (List.Mem.tail _ (List.Mem.head _))))))))))))))) | exact List.Mem.tail _ (List.Mem.tail _ (List.Mem.tail _ (List.Mem.tail _ (List.Mem.tail _ (List.Mem.tail _ (List.Mem.tail _ (List.Mem.tail _ (List.Mem.tail _ (List.Mem.tail _ (List.Mem.tail _ (List.Mem.tail _ (List.Mem.tail _ (List.Mem.tail _ (List.Mem.tail _ (List.Mem.tail _ (List.Mem.head _)))))))))))))))) | exact List.Mem.tail _ (List.Mem.tail _ (List.Mem.tail _ (List.Mem.tail _ (List.Mem.tail _ (List.Mem.tail _ (List.Mem.tail _ (List.Mem.tail _ (List.Mem.tail _ (List.Mem.tail _ (List.Mem.tail _ (List.Mem.tail _ (List.Mem.tail _ (List.Mem.tail _ (List.Mem.tail _ (List.Mem.tail _ (List.Mem.tail _ (List.Mem.head _))))))))))))))))) | exact List.Mem.tail _ (List.Mem.tail _ (List.Mem.tail _ (List.Mem.tail _ (List.Mem.tail _ (List.Mem.tail _ (List.Mem.tail _ (List.Mem.tail _ (List.Mem.tail _ (List.Mem.tail _ (List.Mem.tail _ (List.Mem.tail _ (List.Mem.tail _ (List.Mem.tail _ (List.Mem.tail _ (List.Mem.tail _ (List.Mem.tail _ (List.Mem.tail _ (List.Mem.head _)))))))))))))))))) | exact List.Mem.tail _ (List.Mem.tail _ (List.Mem.tail _ (List.Mem.tail _ (List.Mem.tail _ (List.Mem.tail _ (List.Mem.tail _ (List.Mem.tail _ (List.Mem.tail _ (List.Mem.tail _ (List.Mem.tail _ (List.Mem.tail _ (List.Mem.tail _ (List.Mem.tail _ (List.Mem.tail _ (List.Mem.tail _ (List.Mem.tail _ (List.Mem.tail _ (List.Mem.tail _ (List.Mem.head _))))))))))))))))))) | exact List.Mem.tail _ (List.Mem.tail _ (List.Mem.tail _ (List.Mem.tail _ (List.Mem.tail _ (List.Mem.tail _ (List.Mem.tail _ (List.Mem.tail _ (List.Mem.tail _ (List.Mem.tail _ (List.Mem.tail _ (List.Mem.tail _ (List.Mem.tail _ (List.Mem.tail _ (List.Mem.tail _ (List.Mem.tail _ (List.Mem.tail _ (List.Mem.tail _ (List.Mem.tail _ (List.Mem.tail _ (List.Mem.head _)))))))))))))))))))) | exact List.Mem.tail _ (List.Mem.tail _ (List.Mem.tail _ (List.Mem.tail _ (List.Mem.tail _ (List.Mem.tail _ (List.Mem.tail _ (List.Mem.tail _ (List.Mem.tail _ (List.Mem.tail _ (List.Mem.tail _ (List.Mem.tail _ (List.Mem.tail _ (List.Mem.tail _ (List.Mem.tail _ (List.Mem.tail _ (List.Mem.tail _ (List.Mem.tail _ (List.Mem.tail _ (List.Mem.tail _ (List.Mem.tail _ (List.Mem.head _))))))))))))))))))))) | exact List.Mem.tail _ (List.Mem.tail _ (List.Mem.tail _ (List.Mem.tail _ (List.Mem.tail _ (List.Mem.tail _ (List.Mem.tail _ (List.Mem.tail _ (List.Mem.tail _ (List.Mem.tail _ (List.Mem.tail _ (List.Mem.tail _ (List.Mem.tail _ (List.Mem.tail _ (List.Mem.tail _ (List.Mem.tail _ (List.Mem.tail _ (List.Mem.tail _ (List.Mem.tail _ (List.Mem.tail _ (List.Mem.tail _ (List.Mem.tail _ (List.Mem.head _)))))))))))))))))))))) | exact List.Mem.tail _ (List.Mem.tail _ (List.Mem.tail _ (List.Mem.tail _ (List.Mem.tail _ (List.Mem.tail _ (List.Mem.tail _ (List.Mem.tail _ (List.Mem.tail _ (List.Mem.tail _ (List.Mem.tail _ (List.Mem.tail _ (List.Mem.tail _ (List.Mem.tail _ (List.Mem.tail _ (List.Mem.tail _ (List.Mem.tail _ (List.Mem.tail _ (List.Mem.tail _ (List.Mem.tail _ (List.Mem.tail _ (List.Mem.tail _ (List.Mem.tail _ (List.Mem.head _))))))))))))))))))))))))
local macro_rules | `(tactic| walk_at "u") => `(tactic| first | exact Upd.here | exact Upd.there (Upd.here) | exact Upd.there (Upd.there (Upd.here)) | exact Upd.there (Upd.there (Upd.there (Upd.here))) | exact Upd.there (Upd.there (Upd.there (Upd.there (Upd.here)))) | exact Upd.there (Upd.there (Upd.there (Upd.there (Upd.there (Upd.here))))) | exact Upd.there (Upd.there (Upd.there (Upd.there (Upd.there (Upd.there (Upd.here)))))) | exact Upd.there (Upd.there (Upd.there (Upd.there (Upd.there (Upd.there (Upd.there (Upd.here))))))) | exact Upd.there (Upd.there (Upd.there (Upd.there (Upd.there (Upd.there (Upd.there (Upd.there (Upd.here)))))))) | exact Upd.there (Upd.there (Upd.there (Upd.there (Upd.there (Upd.there (Upd.there (Upd.there (Upd.there (Upd.here))))))))) | exact Upd.there (Upd.there (Upd.there (Upd.there (Upd.there (Upd.there (Upd.there (Upd.there (Upd.there (Upd.there (Upd.here)))))))))) | exact Upd.there (Upd.there (Upd.there (Upd.there (Upd.there (Upd.there (Upd.there (Upd.there (Upd.there (Upd.there (Upd.there (Upd.here))))))))))) | exact Upd.there (Upd.there (Upd.there (Upd.there (Upd.there (Upd.there (Upd.there (Upd.there (Upd.there (Upd.there (Upd.there (Upd.there (Upd.here)))))))))))) | exact Upd.there (Upd.there (Upd.there (Upd.there (Upd.there (Upd.there (Upd.there (Upd.there (Upd.there (Upd.there (Upd.there (Upd.there (Upd.there (Upd.here))))))))))))) | exact Upd.there (Upd.there (Upd.there (Upd.there (Upd.there (Upd.there (Upd.there (Upd.there (Upd.there (Upd.there (Upd.there (Upd.there (Upd.there (Upd.there (Upd.here)))))))))))))) | exact Upd.there (Upd.there (Upd.there (Upd.there (Upd.there (Upd.there (Upd.there (Upd.there (Upd.there (Upd.there (Upd.there (Upd.there (Upd.there (Upd.there (Upd.there (Upd.here))))))))))))))) | exact Upd.there (Upd.there (Upd.there (Upd.there (Upd.there (Upd.there (Upd.there (Upd.there (Upd.there (Upd.there (Upd.there (Upd.there (Upd.there (Upd.there (Upd.there (Upd.there (Upd.here)))))))))))))))) | exact Upd.there (Upd.there (Upd.there (Upd.there (Upd.there (Upd.there (Upd.there (Upd.there (Upd.there (Upd.there (Upd.there (Upd.there (Upd.there (Upd.there (Upd.there (Upd.there (Upd.there (Upd.here))))))))))))))))) | exact Upd.there (Upd.there (Upd.there (Upd.there (Upd.there (Upd.there (Upd.there (Upd.there (Upd.there (Upd.there (Upd.there (Upd.there (Upd.there (Upd.there (Upd.there (Upd.there (Upd.there (Upd.there (Upd.here)))))))))))))))))) | exact Upd.there (Upd.there (Upd.there (Upd.there (Upd.there (Upd.there (Upd.there (Upd.there (Upd.there (Upd.there (Upd.there (Upd.there (Upd.there (Upd.there (Upd.there (Upd.there (Upd.there (Upd.there (Upd.there (Upd.here))))))))))))))))))) | exact Upd.there (Upd.there (Upd.there (Upd.there (Upd.there (Upd.there (Upd.there (Upd.there (Upd.there (Upd.there (Upd.there (Upd.there (Upd.there (Upd.there (Upd.there (Upd.there (Upd.there (Upd.there (Upd.there (Upd.there (Upd.here)))))))))))))))))))) | exact Upd.there (Upd.there (Upd.there (Upd.there (Upd.there (Upd.there (Upd.there (Upd.there (Upd.there (Upd.there (Upd.there (Upd.there (Upd.there (Upd.there (Upd.there (Upd.there (Upd.there (Upd.there (Upd.there (Upd.there (Upd.there (Upd.here))))))))))))))))))))) | exact Upd.there (Upd.there (Upd.there (Upd.there (Upd.there (Upd.there (Upd.there (Upd.there (Upd.there (Upd.there (Upd.there (Upd.there (Upd.there (Upd.there (Upd.there (Upd.there (Upd.there (Upd.there (Upd.there (Upd.there (Upd.there (Upd.there (Upd.here)))))))))))))))))))))) | exact Upd.there (Upd.there (Upd.there (Upd.there (Upd.there (Upd.there (Upd.there (Upd.there (Upd.there (Upd.there (Upd.there (Upd.there (Upd.there (Upd.there (Upd.there (Upd.there (Upd.there (Upd.there (Upd.there (Upd.there (Upd.there (Upd.there (Upd.there (Upd.here))))))))))))))))))))))))
local macro_rules | `(tactic| walk_at "ul") => `(tactic| first | exact UpdL.here | exact UpdL.there (UpdL.here) | exact UpdL.there (UpdL.there (UpdL.here)) | exact UpdL.there (UpdL.there (UpdL.there (UpdL.here))) | exact UpdL.there (UpdL.there (UpdL.there (UpdL.there (UpdL.here)))) | exact UpdL.there (UpdL.there (UpdL.there (UpdL.there (UpdL.there (UpdL.here))))) | exact UpdL.there (UpdL.there (UpdL.there (UpdL.there (UpdL.there (UpdL.there (UpdL.here)))))) | exact UpdL.there (UpdL.there (UpdL.there (UpdL.there (UpdL.there (UpdL.there (UpdL.there (UpdL.here))))))) | exact UpdL.there (UpdL.there (UpdL.there (UpdL.there (UpdL.there (UpdL.there (UpdL.there (UpdL.there (UpdL.here)))))))) | exact UpdL.there (UpdL.there (UpdL.there (UpdL.there (UpdL.there (UpdL.there (UpdL.there (UpdL.there (UpdL.there (UpdL.here))))))))) | exact UpdL.there (UpdL.there (UpdL.there (UpdL.there (UpdL.there (UpdL.there (UpdL.there (UpdL.there (UpdL.there (UpdL.there (UpdL.here)))))))))) | exact UpdL.there (UpdL.there (UpdL.there (UpdL.there (UpdL.there (UpdL.there (UpdL.there (UpdL.there (UpdL.there (UpdL.there (UpdL.there (UpdL.here))))))))))) | exact UpdL.there (UpdL.there (UpdL.there (UpdL.there (UpdL.there (UpdL.there (UpdL.there (UpdL.there (UpdL.there (UpdL.there (UpdL.there (UpdL.there (UpdL.here)))))))))))) | exact UpdL.there (UpdL.there (UpdL.there (UpdL.there (UpdL.there (UpdL.there (UpdL.there (UpdL.there (UpdL.there (UpdL.there (UpdL.there (UpdL.there (UpdL.there (UpdL.here))))))))))))))
local macro_rules | `(tactic| walk_at "d") => `(tactic| first | exact Del.here | exact Del.there (Del.here) | exact Del.there (Del.there (Del.here)) | exact Del.there (Del.there (Del.there (Del.here))) | exact Del.there (Del.there (Del.there (Del.there (Del.here)))) | exact Del.there (Del.there (Del.there (Del.there (Del.there (Del.here))))) | exact Del.there (Del.there (Del.there (Del.there (Del.there (Del.there (Del.here)))))) | exact Del.there (Del.there (Del.there (Del.there (Del.there (Del.there (Del.there (Del.here))))))) | exact Del.there (Del.there (Del.there (Del.there (Del.there (Del.there (Del.there (Del.there (Del.here)))))))) | exact Del.there (Del.there (Del.there (Del.there (Del.there (Del.there (Del.there (Del.there (Del.there (Del.here))))))))) | exact Del.there (Del.there (Del.there (Del.there (Del.there (Del.there (Del.there (Del.there (Del.there (Del.there (Del.here)))))))))) | exact Del.there (Del.there (Del.there (Del.there (Del.there (Del.there (Del.there (Del.there (Del.there (Del.there (Del.there (Del.here))))))))))) | exact Del.there (Del.there (Del.there (Del.there (Del.there (Del.there (Del.there (Del.there (Del.there (Del.there (Del.there (Del.there (Del.here)))))))))))) | exact Del.there (Del.there (Del.there (Del.there (Del.there (Del.there (Del.there (Del.there (Del.there (Del.there (Del.there (Del.there (Del.there (Del.here))))))))))))) | exact Del.there (Del.there (Del.there (Del.there (Del.there (Del.there (Del.there (Del.there (Del.there (Del.there (Del.there (Del.there (Del.there (Del.there (Del.here)))))))))))))) | exact Del.there (Del.there (Del.there (Del.there (Del.there (Del.there (Del.there (Del.there (Del.there (Del.there (Del.there (Del.there (Del.there (Del.there (Del.there (Del.here))))))))))))))) | exact Del.there (Del.there (Del.there (Del.there (Del.there (Del.there (Del.there (Del.there (Del.there (Del.there (Del.there (Del.there (Del.there (Del.there (Del.there (Del.there (Del.here)))))))))))))))) | exact Del.there (Del.there (Del.there (Del.there (Del.there (Del.there (Del.there (Del.there (Del.there (Del.there (Del.there (Del.there (Del.there (Del.there (Del.there (Del.there (Del.there (Del.here))))))))))))))))) | exact Del.there (Del.there (Del.there (Del.there (Del.there (Del.there (Del.there (Del.there (Del.there (Del.there (Del.there (Del.there (Del.there (Del.there (Del.there (Del.there (Del.there (Del.there (Del.here)))))))))))))))))) | exact Del.there (Del.there (Del.there (Del.there (Del.there (Del.there (Del.there (Del.there (Del.there (Del.there (Del.there (Del.there (Del.there (Del.there (Del.there (Del.there (Del.there (Del.there (Del.there (Del.here))))))))))))))))))) | exact Del.there (Del.there (Del.there (Del.there (Del.there (Del.there (Del.there (Del.there (Del.there (Del.there (Del.there (Del.there (Del.there (Del.there (Del.there (Del.there (Del.there (Del.there (Del.there (Del.there (Del.here)))))))))))))))))))) | exact Del.there (Del.there (Del.there (Del.there (Del.there (Del.there (Del.there (Del.there (Del.there (Del.there (Del.there (Del.there (Del.there (Del.there (Del.there (Del.there (Del.there (Del.there (Del.there (Del.there (Del.there (Del.here))))))))))))))))))))) | exact Del.there (Del.there (Del.there (Del.there (Del.there (Del.there (Del.there (Del.there (Del.there (Del.there (Del.there (Del.there (Del.there (Del.there (Del.there (Del.there (Del.there (Del.there (Del.there (Del.there (Del.there (Del.there (Del.here)))))))))))))))))))))) | exact Del.there (Del.there (Del.there (Del.there (Del.there (Del.there (Del.there (Del.there (Del.there (Del.there (Del.there (Del.there (Del.there (Del.there (Del.there (Del.there (Del.there (Del.there (Del.there (Del.there (Del.there (Del.there (Del.there (Del.here))))))))))))))))))))))))
local macro_rules | `(tactic| walk_at "s") => `(tactic| repeat (first | exact List.Sublist.refl _ | exact List.nil_sublist _ | refine List.Sublist.cons_cons _ ?_ | refine List.Sublist.cons _ ?_))
theorem W.front {α : Type} {C : Cx} {A : Around} {E : Value → Shared → Prop} {t : Sem α} {Q : α → St → Prop} (Z X : St) {S₀ : St} (h : W C A (X ++ (Z ++ S₀)) t Q E) : W C A (Z ++ (X ++ S₀)) t Q E :=
  .intro fun s G => h.1 s (G.perm (List.perm_append_comm_assoc Z X S₀))
def gbS (cg ck cv : Value) (hk hv ht : Bool) (it kf ser tk : Value) : List (Option Value) := [some cg, some ck, some cv, some (.bool hk), some (.bool hv), some (.bool ht), some it, some kf, some ser, some tk]
def gbX (x dx it : Addr) (sl : List (Option Value)) (c : Cell) : St := [(x, .obj (instO 112 dx sl)), (dx, .ns []), (it, c)]
/-- the key of a value, whatever stands around -/
def KeyAt (C : Cx) (S₀ : St) (f : Addr) (v : Value) (k : Bool) : Prop := ∀ A' Z, Room A' 1 → W C A' (Z ++ S₀) (call (.ref f) [v]) (fun r S'' => r = .bool k ∧ S'' = Z ++ S₀) NoE
section
variable {C : Cx} {A : Around} {S S₀ : St} {E : Value → Shared → Prop} {x dx it l f : Addr} {i : Nat} {vs : List Value} {v cg ck cv ser tk : Value} {hk hvv ht k : Bool} {Q : Value → St → Prop}
theorem W.noE {α : Type} {t : Sem α} {Q : α → St → Prop} (h : W C A S t Q NoE) : W C A S t Q E := .intro fun s G => wpAny_mono (h.1 s G) (fun _ _ q => q) fun _ _ x => x.elim
theorem W.gStepItem {fd : FuncData} (B : Base C) (R : Room A 3) (hfd : (f, .fn fd) ∈ S₀) (hl : (l, .list vs) ∈ S₀) (hv : vs[i]? = some v) (hkey : KeyAt C S₀ f v k)
    (h : Q .none (gbX x dx it (gbS cg (.bool k) v true true ht (.ref it) (.ref f) ser tk) (liCell l (i + 1)) ++ S₀)) :
    W C A (gbX x dx it (gbS cg ck cv hk hvv ht (.ref it) (.ref f) ser tk) (liCell l i) ++ S₀) (call (.ref 101) [.ref x]) Q NoE := by
  refine .callDef (n := 2) (binds := [(Str.ofString "self", .ref x)]) [Str.ofString "self"] [Str.ofString "more", Str.ofString "newvalue", Str.ofString "newkey"] (fGStep B) R rfl (fun s G => .of_eq rfl) (by decide) (by decide) (by decide) ?_
  intro L R1
  refine .sCons (.sAsTuple (.callName (.glob (gPull B) (.withFn (fPull B) ?_))))
  refine .itemsCons (.attr (.name (.head _) (.head _) ?_))
  refine .gs B sIt (by walk_at "m") (by walk_at "m") rfl ?_
  refine .itemsNil ?_
  refine .pullItem B (R1.mono (by decide)) (i := i) (l := l) (vs := vs) (v := v) (by walk_at "u") (.tail _ (.tail _ (.tail _ (.tail _ hl)))) hv fun t => ?_
  refine .asTuple (.unpT R1.handled (.head _) rfl ?_)
  refine .aioCons (.asName (.stl (by walk_at "u") (by walk_at "ul") ?_))
  refine .aioCons (.asName (.stl (by walk_at "u") (by walk_at "ul") ?_))
  refine .aioNil ?_
  refine .sCons (.sIf (.tnot (.tval (.name (by walk_at "m") (by walk_at "m") (.truthyB ?_)))))
  rw [if_neg (by decide)]
  refine .sNil ?_
  refine .sCons (.sIf (.tcmp (.attr (.name (by walk_at "m") (by walk_at "m") ?_))))
  refine .gs B sKf (by walk_at "m") (by walk_at "m") rfl ?_
  refine .cNone (.isNone ⟨_, rfl, ?_⟩)
  refine ite_neg (by intro h; cases h) ?_
  refine .sCons (.sAssign ?_)
  refine .callSlot (x := x) (Cc := 112) (dx := dx) (v := .ref f) B.frag (.name (by walk_at "m") (by walk_at "m") ⟨rfl, by walk_at "m", by walk_at "m", ?_⟩) rfl rfl (sKf.get _) (sKf.cls _) (sKf.at_ _) (sKf.getter _) (sKf.takes _) (sKf.slot _) (sKf.typ _)
  refine .withLam (fd := fd) (.itemsCons (.name (by walk_at "m") (by walk_at "m") (.itemsNil ⟨.tail _ (.tail _ (.tail _ (.tail _ (.tail _ hfd)))), ?_⟩)))
  refine (hkey _ [_, _, _, _, _] (R1.mono (by decide))).mono ?_
  rintro r S₁ ⟨rfl, rfl⟩
  refine .stl (by walk_at "u") (by walk_at "ul") ?_
  refine .sNil ?_
  refine .sCons (.sSetAttr (.name (by walk_at "m") (by walk_at "m") (.name (by walk_at "m") (by walk_at "m") (.ss B sCv (by walk_at "u") (by walk_at "m") ?_))))
  refine .sCons (.sSetAttr (.cBool (.name (by walk_at "m") (by walk_at "m") (.ss B sHv (by walk_at "u") (by walk_at "m") ?_))))
  refine .sCons (.sSetAttr (.name (by walk_at "m") (by walk_at "m") (.name (by walk_at "m") (by walk_at "m") (.ss B sCk (by walk_at "u") (by walk_at "m") ?_))))
  refine .sCons (.sSetAttr (.cBool (.name (by walk_at "m") (by walk_at "m") (.ss B sHk (by walk_at "u") (by walk_at "m") ?_))))
  refine .sNil ⟨_, ?_, h⟩
  walk_at "s"
theorem W.gStepEnd {sl : List (Option Value)} (B : Base C) (R : Room A 3) (hsl : sl[6]? = some (some (.ref it))) (hl : (l, .list vs) ∈ S₀) {T : St → Prop} (hT : T (gbX x dx it sl (deadCell vs.length) ++ S₀)) :
    W C A (gbX x dx it sl (liCell l vs.length) ++ S₀) (call (.ref 101) [.ref x]) Q (Stops C A T) := by
  refine .callDefE (n := 2) (binds := [(Str.ofString "self", .ref x)]) [Str.ofString "self"] [Str.ofString "more", Str.ofString "newvalue", Str.ofString "newkey"] (fGStep B) R rfl (fun s G => .of_eq rfl) (by decide) (by decide) (by decide) ?_
  intro L R1
  refine .sCons (.sAsTuple (.callName (.glob (gPull B) (.withFn (fPull B) ?_))))
  refine .itemsCons (.attr (.name (.head _) (.head _) ?_))
  refine .gs B sIt (by walk_at "m") (by walk_at "m") hsl ?_
  refine .itemsNil ?_
  refine .pullEnd B (R1.mono (by decide)) (l := l) (vs := vs) (by walk_at "u") (.tail _ (.tail _ (.tail _ (.tail _ hl)))) fun t => ?_
  refine .asTuple (.unpT R1.handled (.head _) rfl ?_)
  refine .aioCons (.asName (.stl (by walk_at "u") (by walk_at "ul") ?_))
  refine .aioCons (.asName (.stl (by walk_at "u") (by walk_at "ul") ?_))
  refine .aioNil ?_
  refine .sCons (.sIf (.tnot (.tval (.name (by walk_at "m") (by walk_at "m") (.truthyB ?_)))))
  refine ite_pos rfl ?_
  refine .sCons (.raiseStop (T := fun S' => S' = _) R1.handled (gStop B) rfl fun v s h => h.lv rfl ?_)
  rintro S' rfl
  exact ⟨_, by walk_at "s", hT⟩
theorem W.gStepDead {sl : List (Option Value)} {n : Nat} (B : Base C) (R : Room A 3) (hsl : sl[6]? = some (some (.ref it))) {T : St → Prop} (hT : T (gbX x dx it sl (deadCell n) ++ S₀)) :
    W C A (gbX x dx it sl (deadCell n) ++ S₀) (call (.ref 101) [.ref x]) Q (Stops C A T) := by
  refine .callDefE (n := 2) (binds := [(Str.ofString "self", .ref x)]) [Str.ofString "self"] [Str.ofString "more", Str.ofString "newvalue", Str.ofString "newkey"] (fGStep B) R rfl (fun s G => .of_eq rfl) (by decide) (by decide) (by decide) ?_
  intro L R1
  refine .sCons (.sAsTuple (.callName (.glob (gPull B) (.withFn (fPull B) ?_))))
  refine .itemsCons (.attr (.name (.head _) (.head _) ?_))
  refine .gs B sIt (by walk_at "m") (by walk_at "m") hsl ?_
  refine .itemsNil ?_
  refine .pullDead B (R1.mono (by decide)) (i := n) (by walk_at "m") fun t => ?_
  refine .asTuple (.unpT R1.handled (.head _) rfl ?_)
  refine .aioCons (.asName (.stl (by walk_at "u") (by walk_at "ul") ?_))
  refine .aioCons (.asName (.stl (by walk_at "u") (by walk_at "ul") ?_))
  refine .aioNil ?_
  refine .sCons (.sIf (.tnot (.tval (.name (by walk_at "m") (by walk_at "m") (.truthyB ?_)))))
  refine ite_pos rfl ?_
  refine .sCons (.raiseStop (T := fun S' => S' = _) R1.handled (gStop B) rfl fun v s h => h.lv rfl ?_)
  rintro S' rfl
  exact ⟨_, by walk_at "s", hT⟩
/-- a grouper -/
def quX (q dq : Addr) (num : Int) (tn : Tok) (x : Addr) (k : Bool) : St := [(q, .obj (instO 157 dq [some (.int num tn), some (.ref x), some (.bool k)])), (dq, .ns [])]
theorem W.newQu {c : Cell} {kf : Value} {n : Int} {tn : Tok} (B : Base C) (R : Room A 3)
    (h : ∀ q dq t, Q (.ref q) (quX q dq (n + 1) t x k ++ (gbX x dx it (gbS (.int (n + 1) t) ck cv hk hvv ht (.ref it) kf (.int (n + 1) t) tk) c ++ S₀))) :
    W C A (gbX x dx it (gbS cg ck cv hk hvv ht (.ref it) kf (.int n tn) tk) c ++ S₀) (call (.ref 157) [.ref x, .bool k]) Q E := by
  refine .makeInst (fI := 139) B.frag (by kernel_rfl) (by kernel_rfl) (by kernel_rfl) fun q dq A' hf hh hdp hun s G => ?_
  have R' : Room A' 1 := ⟨hh.trans R.handled, by have := R.depth; rw [hdp]; omega, by have := R.units; omega⟩
  refine codeDef (n := 0) (binds := [(Str.ofString "self", .ref q), (Str.ofString "parent", .ref x), (Str.ofString "tgtkey", .bool k)]) (Q := fun v S' => v = .none ∧ Q (.ref q) S') [Str.ofString "self", Str.ofString "parent", Str.ofString "tgtkey"] [] (fQInit B) R' rfl (fun s G => .of_eq rfl) (by decide) (by decide) (by decide) ?_ rfl rfl rfl rfl s G
  intro L R1
  refine .sCons (.sIf (.tcmp (.callName (.glob (gType B) (.withT (.itemsCons (.name (.head _) (by walk_at "m") (.itemsNil (.typeInst (Cc := 112) (dx := dx) (by walk_at "m") (by walk_at "m") ?_)))))))))
  refine .glob (gGroupby B) (.isNotRef ⟨_, rfl, ?_⟩)
  refine ite_neg (by intro h; cases h) ?_
  refine .sNil ?_
  refine .sCons (.sSetAttr (.name (by walk_at "m") (by walk_at "m") (.name (by walk_at "m") (by walk_at "m") (.ss B qPar (by walk_at "u") (by walk_at "m") ?_))))
  refine .sCons (.sSetAttr (.name (by walk_at "m") (by walk_at "m") (.name (by walk_at "m") (by walk_at "m") (.ss B qTk (by walk_at "u") (by walk_at "m") ?_))))
  refine .sCons (.sAugAttr (.name (by walk_at "m") (by walk_at "m") (.gs B sSer (by walk_at "m") (by walk_at "m") rfl (.cInt fun t1 => .iaddI fun t => ?_))))
  refine .ss B sSer (by walk_at "u") (by walk_at "m") ?_
  refine .sCons (.sSetAttr (.attr (.name (by walk_at "m") (by walk_at "m") (.gs B sSer (by walk_at "m") (by walk_at "m") rfl (.name (by walk_at "m") (by walk_at "m") ?_)))))
  refine .ss B qNum (by walk_at "u") (by walk_at "m") ?_
  refine .sCons (.sSetAttr (.attr (.name (by walk_at "m") (by walk_at "m") (.gs B sSer (by walk_at "m") (by walk_at "m") rfl (.name (by walk_at "m") (by walk_at "m") ?_)))))
  refine .ss B sCg (by walk_at "u") (by walk_at "m") ?_
  refine .sNil ⟨_, ?_, rfl, h q dq t⟩
  walk_at "s"
end
end Mine
-- part C5
namespace Mine
open PySem PySem.Calls PySem.W PyProof.Rows
local macro_rules | `(tactic| walk_at "m") => `(tactic| first | exact List.Mem.head _ | exact List.Mem.tail _ (List.Mem.head _) | exact List.Mem.tail _ (List.Mem.tail _ (List.Mem.head _)) | exact List.Mem.tail _ (List.Mem.tail _ (List.Mem.tail _ (List.Mem.head _))) | exact List.Mem.tail _ (List.Mem.tail _ (List.Mem.tail _ (List.Mem.tail _ (List.Mem.head _)))) | exact List.Mem.tail _ (List.Mem.tail _ (List.Mem.tail _ (List.Mem.tail _ (List.Mem.tail _ (List.Mem.head _))))) | exact List.Mem.tail _ (List.Mem.tail _ (List.Mem.tail _ (List.Mem.tail _ (List.Mem.tail _ (List.Mem.tail _ (List.Mem.head _)))))) | exact List.Mem.tail _ (List.Mem.tail _ (List.Mem.tail _ (List.Mem.tail _ (List.Mem.tail _ (List.Mem.tail _ (List.Mem.tail _ (List.Mem.head _))))))) | exact List.Mem.tail _ (List.Mem.tail _ (List.Mem.tail _ (List.Mem.tail _ (List.Mem.tail _ (List.Mem.tail _ (List.Mem.tail _ (List.Mem.tail _ (List.Mem.head _)))))))) | exact List.Mem.tail _ (List.Mem.tail _ (List.Mem.tail _ (List.Mem.tail _ (List.Mem.tail _ (List.Mem.tail _ (List.Mem.tail _ (List.Mem.tail _ (List.Mem.tail _ (List.Mem.head _))))))))) | exact List.Mem.tail _ (List.Mem.tail _ (List.Mem.tail _ (List.Mem.tail _ (List.Mem.tail _ (List.Mem.tail _ (List.Mem.tail _ (List.Mem.tail _ (List.Mem.tail _ (List.Mem.tail _ (List.Mem.head _)))))))))) | exact List.Mem.tail _ (List.Mem.tail _ (List.Mem.tail _ (List.Mem.tail _ (List.Mem.tail _ (List.Mem.tail _ (List.Mem.tail _ (List.Mem.tail _ (List.Mem.tail _ (List.Mem.tail _ (List.Mem.tail _ (List.Mem.head _))))))))))) | exact List.Mem.tail _ (List.Mem.tail _ (List.Mem.tail _ (List.Mem.tail _ (List.Mem.tail _ (List.Mem.tail _ (List.Mem.tail _ (List.Mem.tail _ (List.Mem.tail _ (List.Mem.tail _ (List.Mem.tail _ (List.Mem.tail _ (List.Mem.head _)))))))))))) | exact List.Mem.tail _ (List.Mem.tail _ (List.Mem.tail _ (List.Mem.tail _ (List.Mem.tail _ (List.Mem.tail _ (List.Mem.tail _ (List.Mem.tail _ (List.Mem.tail _ (List.Mem.tail _ (List.Mem.tail _ (List.Mem.tail _ (List.Mem.tail _ (List.Mem.head _))))))))))))) | exact List.Mem.tail _ (List.Mem.tail _ (List.Mem.tail _ (List.Mem.tail _ (List.Mem.tail _ (List.Mem.tail _ (List.Mem.tail _ (List.Mem.tail _ (List.Mem.tail _ (List.Mem.tail _ (List.Mem.tail _ (List.Mem.tail _ (List.Mem.tail _ (List.Mem.tail _ (List.Mem.head _)))))))))))))) | exact List.Mem.tail _ (List.Mem.tail _ (List.Mem.tail _ (List.Mem.tail _ (List.Mem.tail _ (List.Mem.tail _ (List.Mem.tail _ (List.Mem.tail _ (List.Mem.tail _ (List.Mem.tail _ (List.Mem.tail _ (List.Mem.tail _ (List.Mem.tail _ (List.Mem.tail _ (List.Mem.tail _ (List.Mem.head _))))))))))))))) | exact List.Mem.tail _ (List.Mem.tail _ (List.Mem.tail _ (List.Mem.tail _ (List.Mem.tail _ (List.Mem.tail _ (List.Mem.tail _ (List.Mem.tail _ (List.Mem.tail _ (List.Mem.tail _ (List.Mem.tail _ (List.Mem.tail _ (List.Mem.tail _ (List.Mem.tail _ (List.Mem.tail _ (List.Mem.tail _ (List.Mem.head _)))))))))))))))) | exact List.Mem.tail _ (List.Mem.tail _ (List.Mem.tail _ (List.Mem.tail _ (List.Mem.tail _ (List.Mem.tail _ (List.Mem.tail _ (List.Mem.tail _ (List.Mem.tail _ (List.Mem.tail _ (List.Mem.tail _ (List.Mem.tail _ (List.Mem.tail _ (List.Mem.tail _ (List.Mem.tail _ (List.Mem.tail _ (List.Mem.tail _ (List.Mem.head _))))))))))))))))) | exact List.Mem.tail _ (List.Mem.tail _ (List.Mem.tail _ (List.Mem.tail _ (List.Mem.tail _ (List.Mem.tail _ (List.Mem.tail _ (List.Mem.tail _ (List.Mem.tail _ (List.Mem.tail _ (List.Mem.tail _ (List.Mem.tail _ (List.Mem.tail _ (List.Mem.tail _ (List.Mem.tail _ (List.Mem.tail _ (List.Mem.tail _ (List.Mem.tail _ (List.Mem.head _)))))))))))))))))) | exact List.Mem.tail _ (List.Mem.tail _ (List.Mem.tail _ (List.Mem.tail _ (List.Mem.tail _ (List.Mem.tail _ (List.Mem.tail _ (List.Mem.tail _ (List.Mem.tail _ (List.Mem.tail _ (List.Mem.tail _ (List.Mem.tail _ (List.Mem.tail _ (List.Mem.tail _ (List.Mem.tail _ (List.Mem.tail _ (List.Mem.tail _ (List.Mem.tail _ (List.Mem.tail _ (List.Mem.head _))))))))))))))))))) | exact List.Mem.tail _ (List.Mem.tail _ (List.Mem.tail _ (List.Mem.tail _ (List.Mem.tail _ (List.Mem.tail _ (List.Mem.tail _ (List.Mem.tail _ (List.Mem.tail _ (List.Mem.tail _ (List.Mem.tail _ (List.Mem.tail _ (List.Mem.tail _ (List.Mem.tail _ (List.Mem.tail _ (List.Mem.tail _ (List.Mem.tail _ (List.Mem.tail _ (List.Mem.tail _ (List.Mem.tail _ (List.Mem.head _)))))))))))))))))))) | exact List.Mem.tail _ (List.Mem.tail _ (List.Mem.tail _ (List.Mem.tail _ (List.Mem.tail _ (List.Mem.tail _ (List.Mem.tail _ (List.Mem.tail _ (List.Mem.tail _ (List.Mem.tail _ (List.Mem.tail _ (List.Mem.tail _ (List.Mem.tail _ (List.Mem.tail _ (List.Mem.tail _ (List.Mem.tail _ (List.Mem.tail _ (List.Mem.tail _ (List.Mem.tail _ (List.Mem.tail _ (List.Mem.tail _ (List.Mem.head _))))))))))))))))))))) | exact List.Mem.tail _ (List.Mem.tail _ (List.Mem.tail _ (List.Mem.tail _ (List.Mem.tail _ (List.Mem.tail _ (List.Mem.tail _ (List.Mem.tail _ (List.Mem.tail _ (List.Mem.tail _ (List.Mem.tail _ (List.Mem.tail _ (List.Mem.tail _ (List.Mem.tail _ (List.Mem.tail _ (List.Mem.tail _ (List.Mem.tail _ (List.Mem.tail _ (List.Mem.tail _ (List.Mem.tail _ (List.Mem.tail _ (List.Mem.tail _ (List.Mem.head _)))))))))))))))))))))) | exact List.Mem.tail _ (List.Mem.tail _ (List.Mem.tail _ (List.Mem.tail _ (List.Mem.tail _ (List.Mem.tail _ (List.Mem.tail _ (List.Mem.tail _ (List.Mem.tail _ (List.Mem.tail _ (List.Mem.tail _ (List.Mem.tail _ (List.Mem.tail _ (List.Mem.tail _ (List.Mem.tail _ (List.Mem.tail _ (List.Mem.tail _ (List.Mem.tail _ (List.Mem.tail _ (List.Mem.tail _ (List.Mem.tail _ (List.Mem.tail _ (List.Mem.tail _ (List.Mem.head _))))))))))))))))))))))))
local macro_rules | `(tactic| walk_at "u") => `(tactic| first | exact Upd.here | exact Upd.there (Upd.here) | exact Upd.there (Upd.there (Upd.here)) | exact Upd.there (Upd.there (Upd.there (Upd.here))) | exact Upd.there (Upd.there (Upd.there (Upd.there (Upd.here)))) | exact Upd.there (Upd.there (Upd.there (Upd.there (Upd.there (Upd.here))))) | exact Upd.there (Upd.there (Upd.there (Upd.there (Upd.there (Upd.there (Upd.here)))))) | exact Upd.there (Upd.there (Upd.there (Upd.there (Upd.there (Upd.there (Upd.there (Upd.here))))))) | exact Upd.there (Upd.there (Upd.there (Upd.there (Upd.there (Upd.there (Upd.there (Upd.there (Upd.here)))))))) | exact Upd.there (Upd.there (Upd.there (Upd.there (Upd.there (Upd.there (Upd.there (Upd.there (Upd.there (Upd.here))))))))) | exact Upd.there (Upd.there (Upd.there (Upd.there (Upd.there (Upd.there (Upd.there (Upd.there (Upd.there (Upd.there (Upd.here)))))))))) | exact Upd.there (Upd.there (Upd.there (Upd.there (Upd.there (Upd.there (Upd.there (Upd.there (Upd.there (Upd.there (Upd.there (Upd.here))))))))))) | exact Upd.there (Upd.there (Upd.there (Upd.there (Upd.there (Upd.there (Upd.there (Upd.there (Upd.there (Upd.there (Upd.there (Upd.there (Upd.here)))))))))))) | exact Upd.there (Upd.there (Upd.there (Upd.there (Upd.there (Upd.there (Upd.there (Upd.there (Upd.there (Upd.there (Upd.there (Upd.there (Upd.there (Upd.here))))))))))))) | exact Upd.there (Upd.there (Upd.there (Upd.there (Upd.there (Upd.there (Upd.there (Upd.there (Upd.there (Upd.there (Upd.there (Upd.there (Upd.there (Upd.there (Upd.here)))))))))))))) | exact Upd.there (Upd.there (Upd.there (Upd.there (Upd.there (Upd.there (Upd.there (Upd.there (Upd.there (Upd.there (Upd.there (Upd.there (Upd.there (Upd.there (Upd.there (Upd.here))))))))))))))) | exact Upd.there (Upd.there (Upd.there (Upd.there (Upd.there (Upd.there (Upd.there (Upd.there (Upd.there (Upd.there (Upd.there (Upd.there (Upd.there (Upd.there (Upd.there (Upd.there (Upd.here)))))))))))))))) | exact Upd.there (Upd.there (Upd.there (Upd.there (Upd.there (Upd.there (Upd.there (Upd.there (Upd.there (Upd.there (Upd.there (Upd.there (Upd.there (Upd.there (Upd.there (Upd.there (Upd.there (Upd.here))))))))))))))))) | exact Upd.there (Upd.there (Upd.there (Upd.there (Upd.there (Upd.there (Upd.there (Upd.there (Upd.there (Upd.there (Upd.there (Upd.there (Upd.there (Upd.there (Upd.there (Upd.there (Upd.there (Upd.there (Upd.here)))))))))))))))))) | exact Upd.there (Upd.there (Upd.there (Upd.there (Upd.there (Upd.there (Upd.there (Upd.there (Upd.there (Upd.there (Upd.there (Upd.there (Upd.there (Upd.there (Upd.there (Upd.there (Upd.there (Upd.there (Upd.there (Upd.here))))))))))))))))))) | exact Upd.there (Upd.there (Upd.there (Upd.there (Upd.there (Upd.there (Upd.there (Upd.there (Upd.there (Upd.there (Upd.there (Upd.there (Upd.there (Upd.there (Upd.there (Upd.there (Upd.there (Upd.there (Upd.there (Upd.there (Upd.here)))))))))))))))))))) | exact Upd.there (Upd.there (Upd.there (Upd.there (Upd.there (Upd.there (Upd.there (Upd.there (Upd.there (Upd.there (Upd.there (Upd.there (Upd.there (Upd.there (Upd.there (Upd.there (Upd.there (Upd.there (Upd.there (Upd.there (Upd.there (Upd.here))))))))))))))))))))) | exact Upd.there (Upd.there (Upd.there (Upd.there (Upd.there (Upd.there (Upd.there (Upd.there (Upd.there (Upd.there (Upd.there (Upd.there (Upd.there (Upd.there (Upd.there (Upd.there (Upd.there (Upd.there (Upd.there (Upd.there (Upd.there (Upd.there (Upd.here)))))))))))))))))))))) | exact Upd.there (Upd.there (Upd.there (Upd.there (Upd.there (Upd.there (Upd.there (Upd.there (Upd.there (Upd.there (Upd.there (Upd.there (Upd.there (Upd.there (Upd.there (Upd.there (Upd.there (Upd.there (Upd.there (Upd.there (Upd.there (Upd.there (Upd.there (Upd.here))))))))))))))))))))))))
local macro_rules | `(tactic| walk_at "ul") => `(tactic| first | exact UpdL.here | exact UpdL.there (UpdL.here) | exact UpdL.there (UpdL.there (UpdL.here)) | exact UpdL.there (UpdL.there (UpdL.there (UpdL.here))) | exact UpdL.there (UpdL.there (UpdL.there (UpdL.there (UpdL.here)))) | exact UpdL.there (UpdL.there (UpdL.there (UpdL.there (UpdL.there (UpdL.here))))) | exact UpdL.there (UpdL.there (UpdL.there (UpdL.there (UpdL.there (UpdL.there (UpdL.here)))))) | exact UpdL.there (UpdL.there (UpdL.there (UpdL.there (UpdL.there (UpdL.there (UpdL.there (UpdL.here))))))) | exact UpdL.there (UpdL.there (UpdL.there (UpdL.there (UpdL.there (UpdL.there (UpdL.there (UpdL.there (UpdL.here)))))))) | exact UpdL.there (UpdL.there (UpdL.there (UpdL.there (UpdL.there (UpdL.there (UpdL.there (UpdL.there (UpdL.there (UpdL.here))))))))) | exact UpdL.there (UpdL.there (UpdL.there (UpdL.there (UpdL.there (UpdL.there (UpdL.there (UpdL.there (UpdL.there (UpdL.there (UpdL.here)))))))))) | exact UpdL.there (UpdL.there (UpdL.there (UpdL.there (UpdL.there (UpdL.there (UpdL.there (UpdL.there (UpdL.there (UpdL.there (UpdL.there (UpdL.here))))))))))) | exact UpdL.there (UpdL.there (UpdL.there (UpdL.there (UpdL.there (UpdL.there (UpdL.there (UpdL.there (UpdL.there (UpdL.there (UpdL.there (UpdL.there (UpdL.here)))))))))))) | exact UpdL.there (UpdL.there (UpdL.there (UpdL.there (UpdL.there (UpdL.there (UpdL.there (UpdL.there (UpdL.there (UpdL.there (UpdL.there (UpdL.there (UpdL.there (UpdL.here))))))))))))))
local macro_rules | `(tactic| walk_at "d") => `(tactic| first | exact Del.here | exact Del.there (Del.here) | exact Del.there (Del.there (Del.here)) | exact Del.there (Del.there (Del.there (Del.here))) | exact Del.there (Del.there (Del.there (Del.there (Del.here)))) | exact Del.there (Del.there (Del.there (Del.there (Del.there (Del.here))))) | exact Del.there (Del.there (Del.there (Del.there (Del.there (Del.there (Del.here)))))) | exact Del.there (Del.there (Del.there (Del.there (Del.there (Del.there (Del.there (Del.here))))))) | exact Del.there (Del.there (Del.there (Del.there (Del.there (Del.there (Del.there (Del.there (Del.here)))))))) | exact Del.there (Del.there (Del.there (Del.there (Del.there (Del.there (Del.there (Del.there (Del.there (Del.here))))))))) | exact Del.there (Del.there (Del.there (Del.there (Del.there (Del.there (Del.there (Del.there (Del.there (Del.there (Del.here)))))))))) | exact Del.there (Del.there (Del.there (Del.there (Del.there (Del.there (Del.there (Del.there (Del.there (Del.there (Del.there (Del.here))))))))))) | exact Del.there (Del.there (Del.there (Del.there (Del.there (Del.there (Del.there (Del.there (Del.there (Del.there (Del.there (Del.there (Del.here)))))))))))) | exact Del.there (Del.there (Del.there (Del.there (Del.there (Del.there (Del.there (Del.there (Del.there (Del.there (Del.there (Del.there (Del.there (Del.here))))))))))))) | exact Del.there (Del.there (Del.there (Del.there (Del.there (Del.there (Del.there (Del.there (Del.there (Del.there (Del.there (Del.there (Del.there (Del.there (Del.here)))))))))))))) | exact Del.there (Del.there (Del.there (Del.there (Del.there (Del.there (Del.there (Del.there (Del.there (Del.there (Del.there (Del.there (Del.there (Del.there (Del.there (Del.here))))))))))))))) | exact Del.there (Del.there (Del.there (Del.there (Del.there (Del.there (Del.there (Del.there (Del.there (Del.there (Del.there (Del.there (Del.there (Del.there (Del.there (Del.there (Del.here)))))))))))))))) | exact Del.there (Del.there (Del.there (Del.there (Del.there (Del.there (Del.there (Del.there (Del.there (Del.there (Del.there (Del.there (Del.there (Del.there (Del.there (Del.there (Del.there (Del.here))))))))))))))))) | exact Del.there (Del.there (Del.there (Del.there (Del.there (Del.there (Del.there (Del.there (Del.there (Del.there (Del.there (Del.there (Del.there (Del.there (Del.there (Del.there (Del.there (Del.there (Del.here)))))))))))))))))) | exact Del.there (Del.there (Del.there (Del.there (Del.there (Del.there (Del.there (Del.there (Del.there (Del.there (Del.there (Del.there (Del.there (Del.there (Del.there (Del.there (Del.there (Del.there (Del.there (Del.here))))))))))))))))))) | exact Del.there (Del.there (Del.there (Del.there (Del.there (Del.there (Del.there (Del.there (Del.there (Del.there (Del.there (Del.there (Del.there (Del.there (Del.there (Del.there (Del.there (Del.there (Del.there (Del.there (Del.here)))))))))))))))))))) | exact Del.there (Del.there (Del.there (Del.there (Del.there (Del.there (Del.there (Del.there (Del.there (Del.there (Del.there (Del.there (Del.there (Del.there (Del.there (Del.there (Del.there (Del.there (Del.there (Del.there (Del.there (Del.here))))))))))))))))))))) | exact Del.there (Del.there (Del.there (Del.there (Del.there (Del.there (Del.there (Del.there (Del.there (Del.there (Del.there (Del.there (Del.there (Del.there (Del.there (Del.there (Del.there (Del.there (Del.there (Del.there (Del.there (Del.there (Del.here)))))))))))))))))))))) | exact Del.there (Del.there (Del.there (Del.there (Del.there (Del.there (Del.there (Del.there (Del.there (Del.there (Del.there (Del.there (Del.there (Del.there (Del.there (Del.there (Del.there (Del.there (Del.there (Del.there (Del.there (Del.there (Del.there (Del.here))))))))))))))))))))))))
local macro_rules | `(tactic| walk_at "s") => `(tactic| repeat (first | exact List.Sublist.refl _ | exact List.nil_sublist _ | refine List.Sublist.cons_cons _ ?_ | refine List.Sublist.cons _ ?_))
section
variable {C : Cx} {A : Around} {S S₀ : St} {E : Value → Shared → Prop} {x dx it l f : Addr} {i : Nat} {vs : List Value} {v cg ck cv ser tk : Value} {hk hvv ht k k' : Bool} {Q : Value → St → Prop}
theorem gStepFacts (P) : findIn (hd.heap_39 P) (.ref 112) "_step" = some (some (.ref 101)) := by kernel_rfl
theorem gGa (P) : findIn (hd.heap_39 P) (.ref 112) "__getattribute__" = some (some (.builtin "object.__getattribute__")) := by kernel_rfl
theorem gGn (P) : findIn (hd.heap_39 P) (.ref 112) "__getattr__" = some none := by kernel_rfl
theorem gStepTy (P) : typeIn (hd.heap_39 P) (.ref 101) = some (.type "function") := by kernel_rfl
theorem gStepK (P) : keepIn (hd.heap_39 P) (.ref 101) = true := by kernel_rfl
theorem gGrK (P) : keepIn (hd.heap_39 P) (.ref 157) = true := by kernel_rfl
/-- groupby.__next__: a value waits, or the first one is drawn; it opens a group -/
theorem W.gNextGo {n : Int} {tn : Tok} {c c₀ : Cell} {kf ck₀ cv₀ : Value} {hk₀ hv₀ : Bool} (B : Base C) (R : Room A 5) (hgo : ht = false ∨ ∃ k', tk = .bool k' ∧ k' ≠ k)
    (hc : (ck₀ = .bool k ∧ cv₀ = cv ∧ hk₀ = true ∧ hv₀ = hvv ∧ c₀ = c) ∨ (hk₀ = false ∧ ht = false ∧ hvv = true ∧ ∃ l vs i fd f, c₀ = liCell l i ∧ c = liCell l (i + 1) ∧ (l, .list vs) ∈ S₀ ∧ vs[i]? = some cv ∧ kf = .ref f ∧ (f, .fn fd) ∈ S₀ ∧ KeyAt C S₀ f cv k))
    (h : ∀ q dq t r, Q (.ref r) ((r, .obj (tupObj [.bool k, .ref q])) :: (quX q dq (n + 1) t x k ++ (gbX x dx it (gbS (.int (n + 1) t) (.bool k) cv true hvv true (.ref it) kf (.int (n + 1) t) (.bool k)) c ++ S₀)))) :
    W C A (gbX x dx it (gbS cg ck₀ cv₀ hk₀ hv₀ ht (.ref it) kf (.int n tn) tk) c₀ ++ S₀) (call (.ref 108) [.ref x]) Q NoE := by
  refine .callDef (n := 4) (binds := [(Str.ofString "self", .ref x)]) [Str.ofString "self"] [Str.ofString "grouper"] (fGNext B) R rfl (fun s G => .of_eq rfl) (by decide) (by decide) (by decide) ?_
  intro L R1
  refine .sCons (.sSetAttr (.cInt fun t0 => .name (.head _) (.head _) (.ss B sCg (by walk_at "u") (by walk_at "m") ?_)))
  refine .sCons (W.mono (Q := fun f S' => f = .next ∧ S' = (L, .ns (locals0 [(Str.ofString "self", .ref x)] [Str.ofString "grouper"])) :: (gbX x dx it (gbS (.int 0 t0) (.bool k) cv true hvv ht (.ref it) kf (.int n tn) tk) c ++ S₀))
    (.sWhile (fun m S => (m = 0 ∧ S = (L, .ns (locals0 [(Str.ofString "self", .ref x)] [Str.ofString "grouper"])) :: (gbX x dx it (gbS (.int 0 t0) (.bool k) cv true hvv ht (.ref it) kf (.int n tn) tk) c ++ S₀)) ∨
      (m = 1 ∧ hk₀ = false ∧ S = (L, .ns (locals0 [(Str.ofString "self", .ref x)] [Str.ofString "grouper"])) :: (gbX x dx it (gbS (.int 0 t0) ck₀ cv₀ hk₀ hv₀ ht (.ref it) kf (.int n tn) tk) c₀ ++ S₀))) (if hk₀ then 0 else 1) ?_ PassesOwn.noE ?_) ?_)
  · rcases hc with ⟨rfl, rfl, rfl, rfl, rfl⟩ | ⟨rfl, _⟩
    · exact .inl ⟨rfl, rfl⟩
    · exact .inr ⟨rfl, rfl, rfl⟩
  · rintro m S (⟨rfl, rfl⟩ | ⟨rfl, hkf, rfl⟩)
    · refine .tval (.cBool (.truthyB ?_))
      refine ite_pos rfl ?_
      refine .sCons (.sIf (.tval (.attr (.name (.head _) (.head _) (.gs B sHk (by walk_at "m") (by walk_at "m") rfl (.truthyB ?_))))))
      refine ite_pos rfl ?_
      refine .sCons (.sIf (.tnot (.tval (.attr (.name (.head _) (.head _) (.gs B sHt (by walk_at "m") (by walk_at "m") rfl (.truthyB ?_)))))))
      cases ht with
      | false =>
        refine ite_pos rfl ?_
        exact .sCons (.sBrk ⟨rfl, rfl⟩)
      | true =>
        rcases hgo with h | ⟨k', rfl, hkk⟩
        · cases h
        refine ite_neg (by intro h; cases h) ?_
        refine .sNil ?_
        refine .sCons (.sIf (.tnot (.tval (.callName (.glob (gSame B) (.withFn (fSame B) ?_))))))
        refine .itemsCons (.attr (.name (.head _) (.head _) (.gs B sTk (by walk_at "m") (by walk_at "m") rfl ?_)))
        refine .itemsCons (.attr (.name (.head _) (.head _) (.gs B sCk (by walk_at "m") (by walk_at "m") rfl ?_)))
        refine .itemsNil (.same B (R1.mono (by decide)) (.truthyB ?_))
        refine ite_pos (by simp [hkk]) ?_
        exact .sCons (.sBrk ⟨rfl, rfl⟩)
    · rcases hc with ⟨_, _, h3, _⟩ | ⟨_, rfl, rfl, l, vs, i, fd, f, rfl, rfl, hl, hv, rfl, hfd, hkey⟩
      · rw [h3] at hkf; cases hkf
      subst hkf
      refine .tval (.cBool (.truthyB ?_))
      refine ite_pos rfl ?_
      refine .sCons (.sIf (.tval (.attr (.name (.head _) (.head _) (.gs B sHk (by walk_at "m") (by walk_at "m") rfl (.truthyB ?_))))))
      refine ite_neg (by intro h; cases h) ?_
      refine .sNil ?_
      refine .sCons (.sExpr (.callOwn0 (x := x) (Cc := 112) (dx := dx) (f := 101) B.frag (.name (.head _) (.head _) ⟨rfl, by walk_at "m", by walk_at "m", ?_⟩) (gGa _) (gGn _) (gStepFacts _) (gStepTy _) (gStepK _)))
      refine .front [_] (gbX x dx it (gbS (.int 0 t0) ck₀ cv₀ false hv₀ false (.ref it) (.ref f) (.int n tn) tk) (liCell l i)) ?_
      refine .gStepItem (k := k) B (R1.mono (by decide)) (.tail _ hfd) (.tail _ hl) hv (fun A' Z R => ?_) ?_
      · have := hkey A' (Z ++ [(L, .ns (locals0 [(Str.ofString "self", .ref x)] [Str.ofString "grouper"]))]) R
        simp only [List.append_assoc, List.cons_append, List.nil_append] at this ⊢
        exact this
      · refine ⟨(by intro a h; cases h), .front (gbX x dx it (gbS (.int 0 t0) (.bool k) cv true true false (.ref it) (.ref f) (.int n tn) tk) (liCell l (i + 1))) [_] (.sNil ?_)⟩
        exact ⟨0, _, by decide, .refl _, .inl ⟨rfl, rfl⟩⟩
  · rintro f S' ⟨rfl, rfl⟩
    refine .sCons (.sSetAttr (.attr (.name (.head _) (.head _) (.gs B sCk (by walk_at "m") (by walk_at "m") rfl (.name (by walk_at "m") (by walk_at "m") (.ss B sTk (by walk_at "u") (by walk_at "m") ?_))))))
    refine .sCons (.sSetAttr (.cBool (.name (by walk_at "m") (by walk_at "m") (.ss B sHt (by walk_at "u") (by walk_at "m") ?_))))
    refine .sCons (.sAssign (.callName (.glob (gGrouper B) (.withCls B.frag (gGrK _) ?_))))
    refine .itemsCons (.name (.head _) (.head _) ?_)
    refine .itemsCons (.attr (.name (.head _) (.head _) (.gs B sTk (by walk_at "m") (by walk_at "m") rfl ?_)))
    refine .itemsNil ?_
    refine .front [_] (gbX x dx it (gbS (.int 0 t0) (.bool k) cv true hvv true (.ref it) kf (.int n tn) (.bool k)) c) ?_
    refine .newQu B (R1.mono (by decide)) fun q dq t => ?_
    refine .stl (by walk_at "u") (by walk_at "ul") ?_
    refine .sCons (.sRet (.mkTuple ?_))
    refine .itemsCons (.attr (.name (by walk_at "m") (by walk_at "m") (.gs B sCk (by walk_at "m") (by walk_at "m") rfl ?_)))
    refine .itemsCons (.name (by walk_at "m") (by walk_at "m") (.itemsNil ⟨by rw [sizeLine_eq]; simp, fun r => ⟨_, ?_, h q dq t r⟩⟩))
    walk_at "s"
theorem W.monoE {α : Type} {t : Sem α} {Q : α → St → Prop} {E E' : Value → Shared → Prop} (h : W C A S t Q E') (hE : ∀ v s, E' v s → E v s) : W C A S t Q E := .intro fun s G => wpAny_mono (h.1 s G) (fun _ _ q => q) hE
theorem Stops.perm {v : Value} {s : Shared} {X Y : St} (h : Stops C A (fun S => S = X) v s) (p : X.Perm Y) : Stops C A (fun S => S = Y) v s := by
  obtain ⟨e, S, rfl, rfl, h⟩ := h
  refine ⟨e, Y, rfl, rfl, ?_⟩
  rcases h with ⟨h₀, G, N⟩ | ⟨h₀, hid, a0, fr, hf, G, hh, F, u⟩
  · exact .inl ⟨h₀, G.perm p, N⟩
  · exact .inr ⟨h₀, hid, a0, fr, hf, G.perm p, hh, F, u⟩
/-- groupby.__next__ at the end -/
theorem W.gNextEnd {n : Nat} {kf : Value} (B : Base C) (R : Room A 5) {T : St → Prop} (hT : ∀ t, T (gbX x dx it (gbS (.int 0 t) ck cv false hvv ht (.ref it) kf ser tk) (deadCell n) ++ S₀)) :
    W C A (gbX x dx it (gbS cg ck cv false hvv ht (.ref it) kf ser tk) (deadCell n) ++ S₀) (call (.ref 108) [.ref x]) Q (Stops C A T) := by
  refine .callDefE (n := 4) (binds := [(Str.ofString "self", .ref x)]) [Str.ofString "self"] [Str.ofString "grouper"] (fGNext B) R rfl (fun s G => .of_eq rfl) (by decide) (by decide) (by decide) ?_
  intro L R1
  refine .sCons (.sSetAttr (.cInt fun t0 => .name (.head _) (.head _) (.ss B sCg (by walk_at "u") (by walk_at "m") ?_)))
  refine .sCons ?_
  refine .sWhile (fun m S => S = (L, .ns (locals0 [(Str.ofString "self", .ref x)] [Str.ofString "grouper"])) :: (gbX x dx it (gbS (.int 0 t0) ck cv false hvv ht (.ref it) kf ser tk) (deadCell n) ++ S₀)) 0 rfl PassesOwn.lv ?_
  rintro m S rfl
  refine .tval (.cBool (.truthyB ?_))
  refine ite_pos rfl ?_
  refine .sCons (.sIf (.tval (.attr (.name (.head _) (.head _) (.gs B sHk (by walk_at "m") (by walk_at "m") rfl (.truthyB ?_))))))
  refine ite_neg (by intro h; cases h) ?_
  refine .sNil ?_
  refine .sCons (.sExpr (.callOwn0 (x := x) (Cc := 112) (dx := dx) (f := 101) B.frag (.name (.head _) (.head _) ⟨rfl, by walk_at "m", by walk_at "m", ?_⟩) (gGa _) (gGn _) (gStepFacts _) (gStepTy _) (gStepK _)))
  refine .front [_] (gbX x dx it (gbS (.int 0 t0) ck cv false hvv ht (.ref it) kf ser tk) (deadCell n)) ?_
  refine .monoE (.gStepDead B (R1.mono (by decide)) rfl (T := fun S' => S' = _) rfl) fun v s h => h.lv rfl ?_
  rintro S' rfl
  refine ⟨_, ?_, hT t0⟩
  exact (List.sublist_cons_self _ _).append_left _
/-- _grouper.__next__ : the value that waits, or the next one, is of the group -/
theorem W.qNextGo {q dq : Addr} {n : Int} {tn : Tok} {c c₀ : Cell} {kf ck₀ cv₀ : Value} {hk₀ hv₀ : Bool} (B : Base C) (R : Room A 5)
    (hc : (ck₀ = .bool k ∧ cv₀ = v ∧ hk₀ = true ∧ hv₀ = true ∧ c₀ = c) ∨ (hk₀ = false ∧ hv₀ = false ∧ ∃ l vs i fd f, c₀ = liCell l i ∧ c = liCell l (i + 1) ∧ (l, .list vs) ∈ S₀ ∧ vs[i]? = some v ∧ kf = .ref f ∧ (f, .fn fd) ∈ S₀ ∧ KeyAt C S₀ f v k))
    (hv : handedIn v = true) (h : Q v (quX q dq n tn x k ++ (gbX x dx it (gbS (.int n tn) .none .none false false ht (.ref it) kf ser tk) c ++ S₀))) :
    W C A (quX q dq n tn x k ++ (gbX x dx it (gbS (.int n tn) ck₀ cv₀ hk₀ hv₀ ht (.ref it) kf ser tk) c₀ ++ S₀)) (call (.ref 153) [.ref q]) Q NoE := by
  refine .callDef (n := 4) (binds := [(Str.ofString "self", .ref q)]) [Str.ofString "self"] [Str.ofString "gbo", Str.ofString "r"] (fQNext B) R rfl (fun s G => .of_eq rfl) (by decide) (by decide) (by decide) ?_
  intro L R1
  refine .sCons (.sAssign (.attr (.name (.head _) (.head _) (.gs B qPar (by walk_at "m") (by walk_at "m") rfl (.stl (by walk_at "u") (by walk_at "ul") ?_)))))
  refine .sCons (.sIf (.tcmp (.attr (.name (.head _) (by walk_at "m") (.gs B sCg (by walk_at "m") (by walk_at "m") rfl ?_)))))
  refine .attr (.name (.head _) (.head _) (.gs B qNum (by walk_at "m") (by walk_at "m") rfl (.neI ⟨_, rfl, ?_⟩)))
  refine ite_neg (by simp) ?_
  refine .sNil ?_
  refine .sCons (W.mono (Q := fun f S' => f = .next ∧ S' = (L, .ns [(Str.ofString "self", some (.ref q)), (Str.ofString "gbo", some (.ref x)), (Str.ofString "r", none)]) :: (quX q dq n tn x k ++ (gbX x dx it (gbS (.int n tn) (.bool k) v true true ht (.ref it) kf ser tk) c ++ S₀))) (.sIf (.tnot (.tval (.attr (.name (.head _) (by walk_at "m") (.gs B sHv (by walk_at "m") (by walk_at "m") rfl (.truthyB ?_))))))) ?_)
  · rcases hc with ⟨rfl, rfl, rfl, rfl, rfl⟩ | ⟨rfl, rfl, l, vs, i, fd, f, rfl, rfl, hl, hv, rfl, hfd, hkey⟩
    · refine ite_neg (by intro h; cases h) ?_
      exact .sNil ⟨rfl, rfl⟩
    · refine ite_pos rfl ?_
      refine .sCons (.sExpr (.callOwn0 (x := x) (Cc := 112) (dx := dx) (f := 101) B.frag (.name (.head _) (by walk_at "m") ⟨rfl, by walk_at "m", by walk_at "m", ?_⟩) (gGa _) (gGn _) (gStepFacts _) (gStepTy _) (gStepK _)))
      refine .front [_, _, _] (gbX x dx it (gbS (.int n tn) ck₀ cv₀ false false ht (.ref it) (.ref f) ser tk) (liCell l i)) ?_
      refine .gStepItem (k := k) B (R1.mono (by decide)) (.tail _ (.tail _ (.tail _ hfd))) (.tail _ (.tail _ (.tail _ hl))) hv (fun A' Z R => ?_) ?_
      · have := hkey A' (Z ++ [(L, .ns [(Str.ofString "self", some (.ref q)), (Str.ofString "gbo", some (.ref x)), (Str.ofString "r", none)]), (q, .obj (instO 157 dq [some (.int n tn), some (.ref x), some (.bool k)])), (dq, .ns [])]) R
        simp only [List.append_assoc, List.cons_append, List.nil_append] at this ⊢
        exact this
      · exact ⟨(by intro a h; cases h), .front (gbX x dx it (gbS (.int n tn) (.bool k) v true true ht (.ref it) (.ref f) ser tk) (liCell l (i + 1))) [_, _, _] (.sNil ⟨rfl, rfl⟩)⟩
  · rintro f S' ⟨rfl, rfl⟩
    refine .sCons (.sIf (.tnot (.tval (.callName (.glob (gSame B) (.withFn (fSame B) ?_))))))
    refine .itemsCons (.attr (.name (.head _) (.head _) (.gs B qTk (by walk_at "m") (by walk_at "m") rfl ?_)))
    refine .itemsCons (.attr (.name (.head _) (by walk_at "m") (.gs B sCk (by walk_at "m") (by walk_at "m") rfl ?_)))
    refine .itemsNil (.same B (R1.mono (by decide)) (.truthyB ?_))
    refine ite_neg (by simp) ?_
    refine .sNil ?_
    refine .sCons (.sAssign (.attr (.name (.head _) (by walk_at "m") (.gs B sCv (by walk_at "m") (by walk_at "m") rfl (.stl (by walk_at "u") (by walk_at "ul") ?_) hv))))
    refine .sCons (.sSetAttr (.cNone (.name (.head _) (by walk_at "m") (.ss B sCv (by walk_at "u") (by walk_at "m") ?_))))
    refine .sCons (.sSetAttr (.cBool (.name (.head _) (by walk_at "m") (.ss B sHv (by walk_at "u") (by walk_at "m") ?_))))
    refine .sCons (.sSetAttr (.cNone (.name (.head _) (by walk_at "m") (.ss B sCk (by walk_at "u") (by walk_at "m") ?_))))
    refine .sCons (.sSetAttr (.cBool (.name (.head _) (by walk_at "m") (.ss B sHk (by walk_at "u") (by walk_at "m") ?_))))
    refine .sCons (.sRet (.name (.head _) (by walk_at "m") ⟨_, ?_, h⟩))
    walk_at "s"
/-- _grouper.__next__ : the value that waits, or the next one, is of another group -/
theorem W.qNextOther {q dq : Addr} {n : Int} {tn : Tok} {c c₀ : Cell} {kf ck₀ cv₀ : Value} {hk₀ hv₀ : Bool} (B : Base C) (R : Room A 5) (hkk : k' ≠ k)
    (hc : (ck₀ = .bool k ∧ cv₀ = v ∧ hk₀ = true ∧ hv₀ = true ∧ c₀ = c) ∨ (hk₀ = false ∧ hv₀ = false ∧ ∃ l vs i fd f, c₀ = liCell l i ∧ c = liCell l (i + 1) ∧ (l, .list vs) ∈ S₀ ∧ vs[i]? = some v ∧ kf = .ref f ∧ (f, .fn fd) ∈ S₀ ∧ KeyAt C S₀ f v k))
    {T : St → Prop} (hT : T (quX q dq n tn x k' ++ (gbX x dx it (gbS (.int n tn) (.bool k) v true true ht (.ref it) kf ser tk) c ++ S₀))) :
    W C A (quX q dq n tn x k' ++ (gbX x dx it (gbS (.int n tn) ck₀ cv₀ hk₀ hv₀ ht (.ref it) kf ser tk) c₀ ++ S₀)) (call (.ref 153) [.ref q]) Q (Stops C A T) := by
  refine .callDefE (n := 4) (binds := [(Str.ofString "self", .ref q)]) [Str.ofString "self"] [Str.ofString "gbo", Str.ofString "r"] (fQNext B) R rfl (fun s G => .of_eq rfl) (by decide) (by decide) (by decide) ?_
  intro L R1
  refine .sCons (.sAssign (.attr (.name (.head _) (.head _) (.gs B qPar (by walk_at "m") (by walk_at "m") rfl (.stl (by walk_at "u") (by walk_at "ul") ?_)))))
  refine .sCons (.sIf (.tcmp (.attr (.name (.head _) (by walk_at "m") (.gs B sCg (by walk_at "m") (by walk_at "m") rfl ?_)))))
  refine .attr (.name (.head _) (.head _) (.gs B qNum (by walk_at "m") (by walk_at "m") rfl (.neI ⟨_, rfl, ?_⟩)))
  refine ite_neg (by simp) ?_
  refine .sNil ?_
  refine .sCons (W.mono (Q := fun f S' => f = .next ∧ S' = (L, .ns [(Str.ofString "self", some (.ref q)), (Str.ofString "gbo", some (.ref x)), (Str.ofString "r", none)]) :: (quX q dq n tn x k' ++ (gbX x dx it (gbS (.int n tn) (.bool k) v true true ht (.ref it) kf ser tk) c ++ S₀))) (.sIf (.tnot (.tval (.attr (.name (.head _) (by walk_at "m") (.gs B sHv (by walk_at "m") (by walk_at "m") rfl (.truthyB ?_))))))) ?_)
  · rcases hc with ⟨rfl, rfl, rfl, rfl, rfl⟩ | ⟨rfl, rfl, l, vs, i, fd, f, rfl, rfl, hl, hv, rfl, hfd, hkey⟩
    · refine ite_neg (by intro h; cases h) ?_
      exact .sNil ⟨rfl, rfl⟩
    · refine ite_pos rfl ?_
      refine .noE ?_
      refine .sCons (.sExpr (.callOwn0 (x := x) (Cc := 112) (dx := dx) (f := 101) B.frag (.name (.head _) (by walk_at "m") ⟨rfl, by walk_at "m", by walk_at "m", ?_⟩) (gGa _) (gGn _) (gStepFacts _) (gStepTy _) (gStepK _)))
      refine .front [_, _, _] (gbX x dx it (gbS (.int n tn) ck₀ cv₀ false false ht (.ref it) (.ref f) ser tk) (liCell l i)) ?_
      refine .gStepItem (k := k) B (R1.mono (by decide)) (.tail _ (.tail _ (.tail _ hfd))) (.tail _ (.tail _ (.tail _ hl))) hv (fun A' Z R => ?_) ?_
      · have := hkey A' (Z ++ [(L, .ns [(Str.ofString "self", some (.ref q)), (Str.ofString "gbo", some (.ref x)), (Str.ofString "r", none)]), (q, .obj (instO 157 dq [some (.int n tn), some (.ref x), some (.bool k')])), (dq, .ns [])]) R
        simp only [List.append_assoc, List.cons_append, List.nil_append] at this ⊢
        exact this
      · exact ⟨(by intro a h; cases h), .front (gbX x dx it (gbS (.int n tn) (.bool k) v true true ht (.ref it) (.ref f) ser tk) (liCell l (i + 1))) [_, _, _] (.sNil ⟨rfl, rfl⟩)⟩
  · rintro f S' ⟨rfl, rfl⟩
    refine .sCons (.sIf (.tnot (.tval (.callName (.glob (gSame B) (.withFn (fSame B) ?_))))))
    refine .itemsCons (.attr (.name (.head _) (.head _) (.gs B qTk (by walk_at "m") (by walk_at "m") rfl ?_)))
    refine .itemsCons (.attr (.name (.head _) (by walk_at "m") (.gs B sCk (by walk_at "m") (by walk_at "m") rfl ?_)))
    refine .itemsNil (.same B (R1.mono (by decide)) (.truthyB ?_))
    refine ite_pos (by simp [hkk]) ?_
    refine .sCons (.raiseStop (T := fun S' => S' = _) R1.handled (gStop B) rfl fun v s h => h.lv rfl ?_)
    rintro S' rfl
    exact ⟨_, by walk_at "s", hT⟩
/-- _grouper.__next__ : nothing is left -/
theorem W.qNextEnd {q dq : Addr} {n : Int} {tn : Tok} {kf : Value} (B : Base C) (R : Room A 5) (hl : (l, .list vs) ∈ S₀)
    {T : St → Prop} (hT : T (quX q dq n tn x k' ++ (gbX x dx it (gbS (.int n tn) ck cv hk false ht (.ref it) kf ser tk) (deadCell vs.length) ++ S₀))) :
    W C A (quX q dq n tn x k' ++ (gbX x dx it (gbS (.int n tn) ck cv hk false ht (.ref it) kf ser tk) (liCell l vs.length) ++ S₀)) (call (.ref 153) [.ref q]) Q (Stops C A T) := by
  refine .callDefE (n := 4) (binds := [(Str.ofString "self", .ref q)]) [Str.ofString "self"] [Str.ofString "gbo", Str.ofString "r"] (fQNext B) R rfl (fun s G => .of_eq rfl) (by decide) (by decide) (by decide) ?_
  intro L R1
  refine .sCons (.sAssign (.attr (.name (.head _) (.head _) (.gs B qPar (by walk_at "m") (by walk_at "m") rfl (.stl (by walk_at "u") (by walk_at "ul") ?_)))))
  refine .sCons (.sIf (.tcmp (.attr (.name (.head _) (by walk_at "m") (.gs B sCg (by walk_at "m") (by walk_at "m") rfl ?_)))))
  refine .attr (.name (.head _) (.head _) (.gs B qNum (by walk_at "m") (by walk_at "m") rfl (.neI ⟨_, rfl, ?_⟩)))
  refine ite_neg (by simp) ?_
  refine .sNil ?_
  refine .sCons (.sIf (.tnot (.tval (.attr (.name (.head _) (by walk_at "m") (.gs B sHv (by walk_at "m") (by walk_at "m") rfl (.truthyB ?_)))))))
  refine ite_pos rfl ?_
  refine .sCons (.sExpr (.callOwn0 (x := x) (Cc := 112) (dx := dx) (f := 101) B.frag (.name (.head _) (by walk_at "m") ⟨rfl, by walk_at "m", by walk_at "m", ?_⟩) (gGa _) (gGn _) (gStepFacts _) (gStepTy _) (gStepK _)))
  refine .front [_, _, _] (gbX x dx it (gbS (.int n tn) ck cv hk false ht (.ref it) kf ser tk) (liCell l vs.length)) ?_
  refine .monoE (.gStepEnd B (R1.mono (by decide)) rfl (.tail _ (.tail _ (.tail _ hl))) (T := fun S' => S' = _) rfl) fun v s h => (h.perm (List.perm_append_comm_assoc (gbX x dx it (gbS (.int n tn) ck cv hk false ht (.ref it) kf ser tk) (deadCell vs.length)) [_, _, _] S₀)).lv rfl ?_
  rintro S' rfl
  exact ⟨_, List.sublist_cons_self _ _, hT⟩
end
end Mine
-- part C6
namespace Mine
open PySem PySem.Calls PySem.W PyProof.Rows
local macro_rules | `(tactic| walk_at "m") => `(tactic| first | exact List.Mem.head _ | exact List.Mem.tail _ (List.Mem.head _) | exact List.Mem.tail _ (List.Mem.tail _ (List.Mem.head _)) | exact List.Mem.tail _ (List.Mem.tail _ (List.Mem.tail _ (List.Mem.head _))) | exact List.Mem.tail _ (List.Mem.tail _ (List.Mem.tail _ (List.Mem.tail _ (List.Mem.head _)))) | exact List.Mem.tail _ (List.Mem.tail _ (List.Mem.tail _ (List.Mem.tail _ (List.Mem.tail _ (List.Mem.head _))))) | exact List.Mem.tail _ (List.Mem.tail _ (List.Mem.tail _ (List.Mem.tail _ (List.Mem.tail _ (List.Mem.tail _ (List.Mem.head _)))))) | exact List.Mem.tail _ (List.Mem.tail _ (List.Mem.tail _ (List.Mem.tail _ (List.Mem.tail _ (List.Mem.tail _ (List.Mem.tail _ (List.Mem.head _))))))) | exact List.Mem.tail _ (List.Mem.tail _ (List.Mem.tail _ (List.Mem.tail _ (List.Mem.tail _ (List.Mem.tail _ (List.Mem.tail _ (List.Mem.tail _ (List.Mem.head _)))))))) | exact List.Mem.tail _ (List.Mem.tail _ (List.Mem.tail _ (List.Mem.tail _ (List.Mem.tail _ (List.Mem.tail _ (List.Mem.tail _ (List.Mem.tail _ (List.Mem.tail _ (List.Mem.head _))))))))) | exact List.Mem.tail _ (List.Mem.tail _ (List.Mem.tail _ (List.Mem.tail _ (List.Mem.tail _ (List.Mem.tail _ (List.Mem.tail _ (List.Mem.tail _ (List.Mem.tail _ (List.Mem.tail _ (List.Mem.head _)))))))))) | exact List.Mem.tail _ (List.Mem.tail _ (List.Mem.tail _ (List.Mem.tail _ (List.Mem.tail _ (List.Mem.tail _ (List.Mem.tail _ (List.Mem.tail _ (List.Mem.tail _ (List.Mem.tail _ (List.Mem.tail _ (List.Mem.head _))))))))))) | exact List.Mem.tail _ (List.Mem.tail _ (List.Mem.tail _ (List.Mem.tail _ (List.Mem.tail _ (List.Mem.tail _ (List.Mem.tail _ (List.Mem.tail _ (List.Mem.tail _ (List.Mem.tail _ (List.Mem.tail _ (List.Mem.tail _ (List.Mem.head _)))))))))))) | exact List.Mem.tail _ (List.Mem.tail _ (List.Mem.tail _ (List.Mem.tail _ (List.Mem.tail _ (List.Mem.tail _ (List.Mem.tail _ (List.Mem.tail _ (List.Mem.tail _ (List.Mem.tail _ (List.Mem.tail _ (List.Mem.tail _ (List.Mem.tail _ (List.Mem.head _))))))))))))) | exact List.Mem.tail _ (List.Mem.tail _ (List.Mem.tail _ (List.Mem.tail _ (List.Mem.tail _ (List.Mem.tail _ (List.Mem.tail _ (List.Mem.tail _ (List.Mem.tail _ (List.Mem.tail _ (List.Mem.tail _ (List.Mem.tail _ (List.Mem.tail _ (List.Mem.tail _ (List.Mem.head _)))))))))))))) | exact List.Mem.tail _ (List.Mem.tail _ (List.Mem.tail _ (List.Mem.tail _ (List.Mem.tail _ (List.Mem.tail _ (List.Mem.tail _ (List.Mem.tail _ (List.Mem.tail _ (List.Mem.tail _ (List.Mem.tail _ (List.Mem.tail _ (List.Mem.tail _ (List.Mem.tail _ (List.Mem.tail _ (List.Mem.head _))))))))))))))) | exact List.Mem.tail _ (List.Mem.tail _ (List.Mem.tail _ (List.Mem.tail _ (List.Mem.tail _ (List.Mem.tail _ (List.Mem.tail _ (List.Mem.tail _ (List.Mem.tail _ (List.Mem.tail _ (List.Mem.tail _ (List.Mem.tail _ (List.Mem.tail _ (List.Mem.tail _ (List.Mem.tail _ (List.Mem.tail _ (List.Mem.head _)))))))))))))))) | exact List.Mem.tail _ (List.Mem.tail _ (List.Mem.tail _ (List.Mem.tail _ (List.Mem.tail _ (List.Mem.tail _ (List.Mem.tail _ (List.Mem.tail _ (List.Mem.tail _ (List.Mem.tail _ (List.Mem.tail _ (List.Mem.tail _ (List.Mem.tail _ (List.Mem.tail _ (List.Mem.tail _ (List.Mem.tail _ (List.Mem.tail _ (List.Mem.head _))))))))))))))))) | exact List.Mem.tail _ (List.Mem.tail _ (List.Mem.tail _ (List.Mem.tail _ (List.Mem.tail _ (List.Mem.tail _ (List.Mem.tail _ (List.Mem.tail _ (List.Mem.tail _ (List.Mem.tail _ (List.Mem.tail _ (List.Mem.tail _ (List.Mem.tail _ (List.Mem.tail _ (List.Mem.tail _ (List.Mem.tail _ (List.Mem.tail _ (List.Mem.tail _ (List.Mem.head _)))))))))))))))))) | exact List.Mem.tail _ (List.Mem.tail _ (List.Mem.tail _ (List.Mem.tail _ (List.Mem.tail _ (List.Mem.tail _ (List.Mem.tail _ (List.Mem.tail _ (List.Mem.tail _ (List.Mem.tail _ (List.Mem.tail _ (List.Mem.tail _ (List.Mem.tail _ (List.Mem.tail _ (List.Mem.tail _ (List.Mem.tail _ (List.Mem.tail _ (List.Mem.tail _ (List.Mem.tail _ (List.Mem.head _))))))))))))))))))) | exact List.Mem.tail _ (List.Mem.tail _ (List.Mem.tail _ (List.Mem.tail _ (List.Mem.tail _ (List.Mem.tail _ (List.Mem.tail _ (List.Mem.tail _ (List.Mem.tail _ (List.Mem.tail _ (List.Mem.tail _ (List.Mem.tail _ (List.Mem.tail _ (List.Mem.tail _ (List.Mem.tail _ (List.Mem.tail _ (List.Mem.tail _ (List.Mem.tail _ (List.Mem.tail _ (List.Mem.tail _ (List.Mem.head _)))))))))))))))))))) | exact List.Mem.tail _ (List.Mem.tail _ (List.Mem.tail _ (List.Mem.tail _ (List.Mem.tail _ (List.Mem.tail _ (List.Mem.tail _ (List.Mem.tail _ (List.Mem.tail _ (List.Mem.tail _ (List.Mem.tail _ (List.Mem.tail _ (List.Mem.tail _ (List.Mem.tail _ (List.Mem.tail _ (List.Mem.tail _ (List.Mem.tail _ (List.Mem.tail _ (List.Mem.tail _ (List.Mem.tail _ (List.Mem.tail _ (List.Mem.head _))))))))))))))))))))) | exact List.Mem.tail _ (List.Mem.tail _ (List.Mem.tail _ (List.Mem.tail _ (List.Mem.tail _ (List.Mem.tail _ (List.Mem.tail _ (List.Mem.tail _ (List.Mem.tail _ (List.Mem.tail _ (List.Mem.tail _ (List.Mem.tail _ (List.Mem.tail _ (List.Mem.tail _ (List.Mem.tail _ (List.Mem.tail _ (List.Mem.tail _ (List.Mem.tail _ (List.Mem.tail _ (List.Mem.tail _ (List.Mem.tail _ (List.Mem.tail _ (List.Mem.head _)))))))))))))))))))))) | exact List.Mem.tail _ (List.Mem.tail _ (List.Mem.tail _ (List.Mem.tail _ (List.Mem.tail _ (List.Mem.tail _ (List.Mem.tail _ (List.Mem.tail _ (List.Mem.tail _ (List.Mem.tail _ (List.Mem.tail _ (List.Mem.tail _ (List.Mem.tail _ (List.Mem.tail _ (List.Mem.tail _ (List.Mem.tail _ (List.Mem.tail _ (List.Mem.tail _ (List.Mem.tail _ (List.Mem.tail _ (List.Mem.tail _ (List.Mem.tail _ (List.Mem.tail _ (List.Mem.head _))))))))))))))))))))))))
local macro_rules | `(tactic| walk_at "u") => `(tactic| first | exact Upd.here | exact Upd.there (Upd.here) | exact Upd.there (Upd.there (Upd.here)) | exact Upd.there (Upd.there (Upd.there (Upd.here))) | exact Upd.there (Upd.there (Upd.there (Upd.there (Upd.here)))) | exact Upd.there (Upd.there (Upd.there (Upd.there (Upd.there (Upd.here))))) | exact Upd.there (Upd.there (Upd.there (Upd.there (Upd.there (Upd.there (Upd.here)))))) | exact Upd.there (Upd.there (Upd.there (Upd.there (Upd.there (Upd.there (Upd.there (Upd.here))))))) | exact Upd.there (Upd.there (Upd.there (Upd.there (Upd.there (Upd.there (Upd.there (Upd.there (Upd.here)))))))) | exact Upd.there (Upd.there (Upd.there (Upd.there (Upd.there (Upd.there (Upd.there (Upd.there (Upd.there (Upd.here))))))))) | exact Upd.there (Upd.there (Upd.there (Upd.there (Upd.there (Upd.there (Upd.there (Upd.there (Upd.there (Upd.there (Upd.here)))))))))) | exact Upd.there (Upd.there (Upd.there (Upd.there (Upd.there (Upd.there (Upd.there (Upd.there (Upd.there (Upd.there (Upd.there (Upd.here))))))))))) | exact Upd.there (Upd.there (Upd.there (Upd.there (Upd.there (Upd.there (Upd.there (Upd.there (Upd.there (Upd.there (Upd.there (Upd.there (Upd.here)))))))))))) | exact Upd.there (Upd.there (Upd.there (Upd.there (Upd.there (Upd.there (Upd.there (Upd.there (Upd.there (Upd.there (Upd.there (Upd.there (Upd.there (Upd.here))))))))))))) | exact Upd.there (Upd.there (Upd.there (Upd.there (Upd.there (Upd.there (Upd.there (Upd.there (Upd.there (Upd.there (Upd.there (Upd.there (Upd.there (Upd.there (Upd.here)))))))))))))) | exact Upd.there (Upd.there (Upd.there (Upd.there (Upd.there (Upd.there (Upd.there (Upd.there (Upd.there (Upd.there (Upd.there (Upd.there (Upd.there (Upd.there (Upd.there (Upd.here))))))))))))))) | exact Upd.there (Upd.there (Upd.there (Upd.there (Upd.there (Upd.there (Upd.there (Upd.there (Upd.there (Upd.there (Upd.there (Upd.there (Upd.there (Upd.there (Upd.there (Upd.there (Upd.here)))))))))))))))) | exact Upd.there (Upd.there (Upd.there (Upd.there (Upd.there (Upd.there (Upd.there (Upd.there (Upd.there (Upd.there (Upd.there (Upd.there (Upd.there (Upd.there (Upd.there (Upd.there (Upd.there (Upd.here))))))))))))))))) | exact Upd.there (Upd.there (Upd.there (Upd.there (Upd.there (Upd.there (Upd.there (Upd.there (Upd.there (Upd.there (Upd.there (Upd.there (Upd.there (Upd.there (Upd.there (Upd.there (Upd.there (Upd.there (Upd.here)))))))))))))))))) | exact Upd.there (Upd.there (Upd.there (Upd.there (Upd.there (Upd.there (Upd.there (Upd.there (Upd.there (Upd.there (Upd.there (Upd.there (Upd.there (Upd.there (Upd.there (Upd.there (Upd.there (Upd.there (Upd.there (Upd.here))))))))))))))))))) | exact Upd.there (Upd.there (Upd.there (Upd.there (Upd.there (Upd.there (Upd.there (Upd.there (Upd.there (Upd.there (Upd.there (Upd.there (Upd.there (Upd.there (Upd.there (Upd.there (Upd.there (Upd.there (Upd.there (Upd.there (Upd.here)))))))))))))))))))) | exact Upd.there (Upd.there (Upd.there (Upd.there (Upd.there (Upd.there (Upd.there (Upd.there (Upd.there (Upd.there (Upd.there (Upd.there (Upd.there (Upd.there (Upd.there (Upd.there (Upd.there (Upd.there (Upd.there (Upd.there (Upd.there (Upd.here))))))))))))))))))))) | exact Upd.there (Upd.there (Upd.there (Upd.there (Upd.there (Upd.there (Upd.there (Upd.there (Upd.there (Upd.there (Upd.there (Upd.there (Upd.there (Upd.there (Upd.there (Upd.there (Upd.there (Upd.there (Upd.there (Upd.there (Upd.there (Upd.there (Upd.here)))))))))))))))))))))) | exact Upd.there (Upd.there (Upd.there (Upd.there (Upd.there (Upd.there (Upd.there (Upd.there (Upd.there (Upd.there (Upd.there (Upd.there (Upd.there (Upd.there (Upd.there (Upd.there (Upd.there (Upd.there (Upd.there (Upd.there (Upd.there (Upd.there (Upd.there (Upd.here))))))))))))))))))))))))
local macro_rules | `(tactic| walk_at "ul") => `(tactic| first | exact UpdL.here | exact UpdL.there (UpdL.here) | exact UpdL.there (UpdL.there (UpdL.here)) | exact UpdL.there (UpdL.there (UpdL.there (UpdL.here))) | exact UpdL.there (UpdL.there (UpdL.there (UpdL.there (UpdL.here)))) | exact UpdL.there (UpdL.there (UpdL.there (UpdL.there (UpdL.there (UpdL.here))))) | exact UpdL.there (UpdL.there (UpdL.there (UpdL.there (UpdL.there (UpdL.there (UpdL.here)))))) | exact UpdL.there (UpdL.there (UpdL.there (UpdL.there (UpdL.there (UpdL.there (UpdL.there (UpdL.here))))))) | exact UpdL.there (UpdL.there (UpdL.there (UpdL.there (UpdL.there (UpdL.there (UpdL.there (UpdL.there (UpdL.here)))))))) | exact UpdL.there (UpdL.there (UpdL.there (UpdL.there (UpdL.there (UpdL.there (UpdL.there (UpdL.there (UpdL.there (UpdL.here))))))))) | exact UpdL.there (UpdL.there (UpdL.there (UpdL.there (UpdL.there (UpdL.there (UpdL.there (UpdL.there (UpdL.there (UpdL.there (UpdL.here)))))))))) | exact UpdL.there (UpdL.there (UpdL.there (UpdL.there (UpdL.there (UpdL.there (UpdL.there (UpdL.there (UpdL.there (UpdL.there (UpdL.there (UpdL.here))))))))))) | exact UpdL.there (UpdL.there (UpdL.there (UpdL.there (UpdL.there (UpdL.there (UpdL.there (UpdL.there (UpdL.there (UpdL.there (UpdL.there (UpdL.there (UpdL.here)))))))))))) | exact UpdL.there (UpdL.there (UpdL.there (UpdL.there (UpdL.there (UpdL.there (UpdL.there (UpdL.there (UpdL.there (UpdL.there (UpdL.there (UpdL.there (UpdL.there (UpdL.here))))))))))))))
local macro_rules | `(tactic| walk_at "d") => `(tactic| first | exact Del.here | exact Del.there (Del.here) | exact Del.there (Del.there (Del.here)) | exact Del.there (Del.there (Del.there (Del.here))) | exact Del.there (Del.there (Del.there (Del.there (Del.here)))) | exact Del.there (Del.there (Del.there (Del.there (Del.there (Del.here))))) | exact Del.there (Del.there (Del.there (Del.there (Del.there (Del.there (Del.here)))))) | exact Del.there (Del.there (Del.there (Del.there (Del.there (Del.there (Del.there (Del.here))))))) | exact Del.there (Del.there (Del.there (Del.there (Del.there (Del.there (Del.there (Del.there (Del.here)))))))) | exact Del.there (Del.there (Del.there (Del.there (Del.there (Del.there (Del.there (Del.there (Del.there (Del.here))))))))) | exact Del.there (Del.there (Del.there (Del.there (Del.there (Del.there (Del.there (Del.there (Del.there (Del.there (Del.here)))))))))) | exact Del.there (Del.there (Del.there (Del.there (Del.there (Del.there (Del.there (Del.there (Del.there (Del.there (Del.there (Del.here))))))))))) | exact Del.there (Del.there (Del.there (Del.there (Del.there (Del.there (Del.there (Del.there (Del.there (Del.there (Del.there (Del.there (Del.here)))))))))))) | exact Del.there (Del.there (Del.there (Del.there (Del.there (Del.there (Del.there (Del.there (Del.there (Del.there (Del.there (Del.there (Del.there (Del.here))))))))))))) | exact Del.there (Del.there (Del.there (Del.there (Del.there (Del.there (Del.there (Del.there (Del.there (Del.there (Del.there (Del.there (Del.there (Del.there (Del.here)))))))))))))) | exact Del.there (Del.there (Del.there (Del.there (Del.there (Del.there (Del.there (Del.there (Del.there (Del.there (Del.there (Del.there (Del.there (Del.there (Del.there (Del.here))))))))))))))) | exact Del.there (Del.there (Del.there (Del.there (Del.there (Del.there (Del.there (Del.there (Del.there (Del.there (Del.there (Del.there (Del.there (Del.there (Del.there (Del.there (Del.here)))))))))))))))) | exact Del.there (Del.there (Del.there (Del.there (Del.there (Del.there (Del.there (Del.there (Del.there (Del.there (Del.there (Del.there (Del.there (Del.there (Del.there (Del.there (Del.there (Del.here))))))))))))))))) | exact Del.there (Del.there (Del.there (Del.there (Del.there (Del.there (Del.there (Del.there (Del.there (Del.there (Del.there (Del.there (Del.there (Del.there (Del.there (Del.there (Del.there (Del.there (Del.here)))))))))))))))))) | exact Del.there (Del.there (Del.there (Del.there (Del.there (Del.there (Del.there (Del.there (Del.there (Del.there (Del.there (Del.there (Del.there (Del.there (Del.there (Del.there (Del.there (Del.there (Del.there (Del.here))))))))))))))))))) | exact Del.there (Del.there (Del.there (Del.there (Del.there (Del.there (Del.there (Del.there (Del.there (Del.there (Del.there (Del.there (Del.there (Del.there (Del.there (Del.there (Del.there (Del.there (Del.there (Del.there (Del.here)))))))))))))))))))) | exact Del.there (Del.there (Del.there (Del.there (Del.there (Del.there (Del.there (Del.there (Del.there (Del.there (Del.there (Del.there (Del.there (Del.there (Del.there (Del.there (Del.there (Del.there (Del.there (Del.there (Del.there (Del.here))))))))))))))))))))) | exact Del.there (Del.there (Del.there (Del.there (Del.there (Del.there (Del.there (Del.there (Del.there (Del.there (Del.there (Del.there (Del.there (Del.there (Del.there (Del.there (Del.there (Del.there (Del.there (Del.there (Del.there (Del.there (Del.here)))))))))))))))))))))) | exact Del.there (Del.there (Del.there (Del.there (Del.there (Del.there (Del.there (Del.there (Del.there (Del.there (Del.there (Del.there (Del.there (Del.there (Del.there (Del.there (Del.there (Del.there (Del.there (Del.there (Del.there (Del.there (Del.there (Del.here))))))))))))))))))))))))
local macro_rules | `(tactic| walk_at "s") => `(tactic| repeat (first | exact List.Sublist.refl _ | exact List.nil_sublist _ | refine List.Sublist.cons_cons _ ?_ | refine List.Sublist.cons _ ?_))
section
variable {C : Cx} {A : Around} {S S₀ : St} {E : Value → Shared → Prop} {x dx it l f q dq : Addr} {i : Nat} {vs : List Value} {v cg ck cv ser tk : Value} {hk hvv ht k' : Bool} {Q : Value → St → Prop} {fd : FuncData}
theorem KeyAt.cons {k : Bool} (h : KeyAt C S₀ f v k) (p : Addr × Cell) : KeyAt C (p :: S₀) f v k := fun A' Z R => by
  have := h A' (Z ++ [p]) R
  simp only [List.append_assoc, List.cons_append, List.nil_append] at this
  exact this
/-- groupby(list, key) -/
theorem W.newGb (B : Base C) (R : Room A 3) (hl : (l, .list vs) ∈ S)
    (h : ∀ x dx it t t', Q (.ref x) (gbX x dx it (gbS (.int 0 t) .none .none false false false (.ref it) (.ref f) (.int 0 t') .none) (liCell l 0) ++ S)) : W C A S (call (.ref 112) [.ref l, .ref f]) Q NoE := by
  refine .makeInst (fI := 87) B.frag (by kernel_rfl) (by kernel_rfl) (by kernel_rfl) fun q dq A' hf hh hdp hun s G => ?_
  have R' : Room A' 1 := ⟨hh.trans R.handled, by have := R.depth; rw [hdp]; omega, by have := R.units; omega⟩
  refine codeDef (n := 0) (binds := [(Str.ofString "self", .ref q), (Str.ofString "iterable", .ref l), (Str.ofString "key", .ref f)]) (Q := fun v S' => v = .none ∧ Q (.ref q) S') [Str.ofString "self", Str.ofString "iterable", Str.ofString "key"] [] (fGInit B) R' rfl (fun s G => ?_) (by decide) (by decide) (by decide) ?_ rfl rfl rfl rfl s G
  · exact .of_defaults (T := 80) (o := { cls := .type "tuple", data := .seq #[.none] }) (items := #[.none]) (n := 0) rfl (G.keep _ _ (B.frag 80 _ (by kernel_rfl))) rfl rfl rfl
  intro L R1
  refine .sCons (.sSetAttr (.name (.head _) (by walk_at "m") (.name (.head _) (by walk_at "m") (.ss B sKf (by walk_at "u") (by walk_at "m") ?_))))
  refine .sCons (.sSetAttr (.callName (.glob (gIter B) (.withB (.itemsCons (.name (.head _) (by walk_at "m") (.itemsNil (.iterB (.tail _ (.tail _ (.tail _ hl))) fun it => ?_))))))))
  refine .name (by walk_at "m") (by walk_at "m") (.ss B sIt (by walk_at "u") (by walk_at "m") ?_)
  refine .sCons (.sSetAttr (.cBool (.name (by walk_at "m") (by walk_at "m") (.ss B sHt (by walk_at "u") (by walk_at "m") ?_))))
  refine .sCons (.sSetAttr (.cNone (.name (by walk_at "m") (by walk_at "m") (.ss B sTk (by walk_at "u") (by walk_at "m") ?_))))
  refine .sCons (.sSetAttr (.cBool (.name (by walk_at "m") (by walk_at "m") (.ss B sHk (by walk_at "u") (by walk_at "m") ?_))))
  refine .sCons (.sSetAttr (.cNone (.name (by walk_at "m") (by walk_at "m") (.ss B sCk (by walk_at "u") (by walk_at "m") ?_))))
  refine .sCons (.sSetAttr (.cBool (.name (by walk_at "m") (by walk_at "m") (.ss B sHv (by walk_at "u") (by walk_at "m") ?_))))
  refine .sCons (.sSetAttr (.cNone (.name (by walk_at "m") (by walk_at "m") (.ss B sCv (by walk_at "u") (by walk_at "m") ?_))))
  refine .sCons (.sSetAttr (.cInt fun t => .name (by walk_at "m") (by walk_at "m") (.ss B sCg (by walk_at "u") (by walk_at "m") ?_)))
  refine .sCons (.sSetAttr (.cInt fun t' => .name (by walk_at "m") (by walk_at "m") (.ss B sSer (by walk_at "u") (by walk_at "m") ?_)))
  refine .front [_, _] [_, _] (.sNil ⟨_, ?_, rfl, h q dq it t t'⟩)
  walk_at "s"
/-- what stands around the groups -/
structure Grp (C : Cx) (l f : Addr) (fd : FuncData) (vs : List Value) (k : Nat → Bool) (S : St) : Prop where
  list : (l, .list vs) ∈ S
  fn : (f, .fn fd) ∈ S
  key : ∀ j v, vs[j]? = some v → KeyAt C S f v (k j)
theorem Grp.cons {k : Nat → Bool} (h : Grp C l f fd vs k S) (p : Addr × Cell) : Grp C l f fd vs k (p :: S) := ⟨.tail _ h.list, .tail _ h.fn, fun j v hv => (h.key j v hv).cons p⟩
theorem Grp.app {k : Nat → Bool} (h : Grp C l f fd vs k S) : ∀ Z, Grp C l f fd vs k (Z ++ S)
  | [] => h
  | p :: Z => (Grp.app h Z).cons p
/-- the state of the groups before the i-th item of the group that begins at a -/
def grpK (x dx it f q dq : Addr) (l : Addr) (vs : List Value) (κ ht : Bool) (n : Int) (tn : Tok) (ser tk : Value) (a i : Nat) : St :=
  quX q dq n tn x κ ++ gbX x dx it (if i = 0 then gbS (.int n tn) (.bool κ) (vs.getD a .none) true true ht (.ref it) (.ref f) ser tk else gbS (.int n tn) .none .none false false ht (.ref it) (.ref f) ser tk) (if i = 0 then liCell l (a + 1) else liCell l (a + i))
theorem grpIter {k : Nat → Bool} {κ : Bool} {n : Int} {tn : Tok} {a b : Nat} {A : Around} (B : Base C) (R : Room A 6) (hab : a < b) (hb : b ≤ vs.length) (hin : ∀ j, a ≤ j → j < b → k j = κ) (hout : b < vs.length → k b ≠ κ) (hhi : ∀ v ∈ vs, handedIn v = true) :
    IterE C A (.ref q) (b - a) (fun i X => X = grpK x dx it f q dq l vs κ ht n tn ser tk a i) (Grp C l f fd vs k) (fun i v => vs[a + i]? = some v)
      (fun X => X = quX q dq n tn x κ ++ (if b < vs.length then gbX x dx it (gbS (.int n tn) (.bool (k b)) (vs.getD b .none) true true ht (.ref it) (.ref f) ser tk) (liCell l (b + 1)) else gbX x dx it (gbS (.int n tn) .none .none false false ht (.ref it) (.ref f) ser tk) (deadCell vs.length))) where
  item := fun i hi X S hX hD => by
    subst hX
    have hai : a + i < vs.length := by omega
    have hv : vs[a + i]? = some vs[a + i] := List.getElem?_eq_getElem hai
    have hk : k (a + i) = κ := hin _ (by omega) (by omega)
    have hnx := fun (P : Params) => show findIn (hd.heap_39 P) (.ref 157) "__next__" = some (some (.ref 153)) by kernel_rfl
    have hty := fun (P : Params) => show typeIn (hd.heap_39 P) (.ref 153) = some (.type "function") by kernel_rfl
    have post : ∀ {Q : Option Value → St → Prop}, Q (some vs[a + i]) (grpK x dx it f q dq l vs κ ht n tn ser tk a (i + 1) ++ S) → W C A (grpK x dx it f q dq l vs κ ht n tn ser tk a i ++ S) (pyNext (.ref q)) Q NoE := by
      intro Q hQ
      refine .pyNextInst (x := q) (Cc := 157) (dx := dq) (f := 153) (T := fun _ => False) B.frag (.head _) (.tail _ (.head _)) (hnx _) (hty _) (.noE ?_) (fun _ h => h.elim)
      unfold grpK at hQ ⊢
      rw [if_neg (by omega), if_neg (by omega)] at hQ
      rw [List.append_assoc] at hQ ⊢
      by_cases h0 : i = 0
      · subst h0
        rw [if_pos rfl, if_pos rfl]
        have e : vs.getD a .none = vs[a] := by rw [List.getD_eq_getElem?_getD, List.getElem?_eq_getElem (by omega)]; rfl
        exact .qNextGo (k := κ) (v := vs.getD a .none) B (R.mono (by decide)) (.inl ⟨rfl, rfl, rfl, rfl, rfl⟩) (by rw [e]; exact hhi _ (List.getElem_mem _)) (by rw [e]; exact hQ)
      · rw [if_neg h0, if_neg h0]
        exact .qNextGo (k := κ) (v := vs[a + i]) B (R.mono (by decide)) (.inr ⟨rfl, rfl, l, vs, a + i, fd, f, rfl, rfl, hD.list, hv, rfl, hD.fn, hk ▸ hD.key _ _ hv⟩) (hhi _ (List.getElem_mem _)) hQ
    exact post ⟨vs[a + i], _, rfl, hv, rfl, rfl⟩
  stop := fun X S hX hD => by
    subst hX
    have hnx := fun (P : Params) => show findIn (hd.heap_39 P) (.ref 157) "__next__" = some (some (.ref 153)) by kernel_rfl
    have hty := fun (P : Params) => show typeIn (hd.heap_39 P) (.ref 153) = some (.type "function") by kernel_rfl
    unfold grpK
    rw [if_neg (by omega), if_neg (by omega), List.append_assoc]
    have hab' : a + (b - a) = b := by omega
    rw [hab']
    by_cases hlt : b < vs.length
    · have hv : vs[b]? = some vs[b] := List.getElem?_eq_getElem hlt
      have e : vs.getD b .none = vs[b] := by rw [List.getD_eq_getElem?_getD, hv]; rfl
      refine .pyNextInst (x := q) (Cc := 157) (dx := dq) (f := 153) (T := fun S' => S' = quX q dq n tn x κ ++ (gbX x dx it (gbS (.int n tn) (.bool (k b)) (vs.getD b .none) true true ht (.ref it) (.ref f) ser tk) (liCell l (b + 1)) ++ S)) B.frag (.head _) (.tail _ (.head _)) (hnx _) (hty _) ?_ ?_
      · exact .qNextOther (k := k b) (v := vs.getD b .none) B (R.mono (by decide)) (Ne.symm (hout hlt)) (.inr ⟨rfl, rfl, l, vs, b, fd, f, rfl, rfl, hD.list, by rw [e]; exact hv, rfl, hD.fn, by rw [e]; exact hD.key _ _ hv⟩) rfl
      · rintro S' rfl
        exact ⟨rfl, _, rfl, by rw [if_pos hlt, List.append_assoc]⟩
    · have hbe : b = vs.length := by omega
      refine .pyNextInst (x := q) (Cc := 157) (dx := dq) (f := 153) (T := fun S' => S' = quX q dq n tn x κ ++ (gbX x dx it (gbS (.int n tn) .none .none false false ht (.ref it) (.ref f) ser tk) (deadCell vs.length) ++ S)) B.frag (.head _) (.tail _ (.head _)) (hnx _) (hty _) ?_ ?_
      · rw [hbe]
        exact .qNextEnd B (R.mono (by decide)) hD.list rfl
      · rintro S' rfl
        exact ⟨rfl, _, rfl, by rw [if_neg hlt, List.append_assoc]⟩
theorem W.iterQu {sl : List (Option Value)} {Q : Value → St → Prop} (B : Base C) (R : Room A 1) (hm : (q, .obj (instO 157 dq sl)) ∈ S) (hd : (dq, .ns []) ∈ S) (h : Q (.ref q) S) : W C A S (pyIter (.ref q)) Q E := by
  refine .iterInst (f := 146) (g := .ref 153) (l := []) B.frag hm hd (by kernel_rfl) (by kernel_rfl) (by kernel_rfl) ?_
  refine .callDef (n := 0) (binds := [(Str.ofString "self", .ref q)]) [Str.ofString "self"] [] (fQIter B) R rfl (fun s G => .of_eq rfl) (by decide) (by decide) (by decide) ?_
  intro L R1
  exact .sCons (.sRet (.name (.head _) (.head _) ⟨S, List.sublist_cons_self _ _, rfl, hm, hd, h⟩))
theorem W.iterGb {sl : List (Option Value)} {Q : Value → St → Prop} (B : Base C) (R : Room A 1) (hm : (x, .obj (instO 112 dx sl)) ∈ S) (hd : (dx, .ns []) ∈ S) (h : Q (.ref x) S) : W C A S (pyIter (.ref x)) Q E := by
  refine .iterInst (f := 94) (g := .ref 108) (l := []) B.frag hm hd (by kernel_rfl) (by kernel_rfl) (by kernel_rfl) ?_
  refine .callDef (n := 0) (binds := [(Str.ofString "self", .ref x)]) [Str.ofString "self"] [] (fGIter B) R rfl (fun s G => .of_eq rfl) (by decide) (by decide) (by decide) ?_
  intro L R1
  exact .sCons (.sRet (.name (.head _) (.head _) ⟨S, List.sublist_cons_self _ _, rfl, hm, hd, h⟩))
/-- list(group) -/
theorem W.listQu {k : Nat → Bool} {κ : Bool} {n : Int} {tn : Tok} {a b : Nat} {Q : Value → St → Prop} (B : Base C) (R : Room A 8) (hab : a < b) (hb : b ≤ vs.length) (hlen : vs.length ≤ 1000) (hin : ∀ j, a ≤ j → j < b → k j = κ) (hout : b < vs.length → k b ≠ κ) (hhi : ∀ v ∈ vs, handedIn v = true) (hD : Grp C l f fd vs k S)
    (h : ∀ ac, Q (.ref ac) (quX q dq n tn x κ ++ (if b < vs.length then gbX x dx it (gbS (.int n tn) (.bool (k b)) (vs.getD b .none) true true ht (.ref it) (.ref f) ser tk) (liCell l (b + 1)) else gbX x dx it (gbS (.int n tn) .none .none false false ht (.ref it) (.ref f) ser tk) (deadCell vs.length)) ++ (ac, .list ((vs.drop a).take (b - a))) :: S)) :
    W C A (grpK x dx it f q dq l vs κ ht n tn ser tk a 0 ++ S) (call (.type "list") [.ref q]) Q NoE := by
  refine .listInst (Cc := 157) (dq := dq) (l := []) (sl := [some (.int n tn), some (.ref x), some (.bool κ)]) (n := b - a) (Kk := fun i X => X = grpK x dx it f q dq l vs κ ht n tn ser tk a i) (D := Grp C l f fd vs k) (P := fun i v => vs[a + i]? = some v) B.frag (.head _) (.tail _ (.head _)) (by kernel_rfl) (by kernel_rfl) ?_
    (grpIter B R.in1.in1 hab hb hin hout hhi) (fun p => hD.cons p) rfl (by omega) ?_
  · intro ac
    exact .iterQu B (R.in1.in1.mono (by decide)) (.head _) (.tail _ (.head _)) ⟨rfl, rfl⟩
  · rintro ac acc X' rfl hl hP
    have : acc = (vs.drop a).take (b - a) := by
      refine List.ext_getElem? fun j => ?_
      by_cases hj : j < b - a
      · have h1 : acc[j]? = some acc[j] := List.getElem?_eq_getElem (by omega)
        have h2 := hP j _ h1
        rw [h1, List.getElem?_take_of_lt hj, List.getElem?_drop, h2]
      · rw [List.getElem?_eq_none (by omega), List.getElem?_eq_none (by simp; omega)]
    rw [this]
    exact h ac
theorem W.drop {α : Type} {t : Sem α} {Q : α → St → Prop} (h : W C A S t (fun a S' => ∃ S'', S''.Sublist S' ∧ Q a S'') E) : W C A S t Q E := .intro fun s G => wpAny_mono (h.1 s G) (fun a s' ⟨S', G', S'', hs, q⟩ => ⟨S'', G'.weaken hs, q⟩) fun _ _ x => x
def gbK (x dx it f l : Addr) (vs : List Value) (k : Nat → Bool) (m : Nat) (i : Nat) (X : St) : Prop := match i with
  | 0 => ∃ t t', X = gbX x dx it (gbS (.int 0 t) .none .none false false false (.ref it) (.ref f) (.int 0 t') .none) (liCell l 0)
  | 1 => ∃ cg n t, X = gbX x dx it (gbS cg (.bool (k m)) (vs.getD m .none) true true true (.ref it) (.ref f) (.int n t) (.bool (k 0))) (liCell l (m + 1))
  | _ => ∃ cg ck cv hv ser tk, X = gbX x dx it (gbS cg ck cv false hv true (.ref it) (.ref f) ser tk) (deadCell vs.length)
def gbStart (m i : Nat) : Nat := match i with | 0 => 0 | _ => m
def gbV (x dx it f l : Addr) (vs : List Value) (k : Nat → Bool) (m : Nat) (i : Nat) (v : Value) (Y : St) : Prop :=
  ∃ r q dq n t, v = .ref r ∧ Y = (r, .obj (tupObj [.bool (k (gbStart m i)), .ref q])) :: grpK x dx it f q dq l vs (k (gbStart m i)) true n t (.int n t) (.bool (k (gbStart m i))) (gbStart m i) 0
theorem grpK_zero {κ : Bool} {n : Int} {tn : Tok} {a : Nat} : grpK x dx it f q dq l vs κ ht n tn ser tk a 0 = quX q dq n tn x κ ++ gbX x dx it (gbS (.int n tn) (.bool κ) (vs.getD a .none) true true ht (.ref it) (.ref f) ser tk) (liCell l (a + 1)) := rfl
theorem gbNextFacts (P : Params) : findIn (hd.heap_39 P) (.ref 112) "__next__" = some (some (.ref 108)) ∧ typeIn (hd.heap_39 P) (.ref 108) = some (.type "function") := ⟨by kernel_rfl, by kernel_rfl⟩
theorem gbItem0 {k : Nat → Bool} {m : Nat} {t t' : Tok} {Q : Option Value → St → Prop} (B : Base C) (R : Room A 6) (hml : 0 < vs.length) (hD : Grp C l f fd vs k S)
    (h : ∀ v Y, gbV x dx it f l vs k m 0 v Y → Q (some v) (Y ++ S)) : W C A (gbX x dx it (gbS (.int 0 t) .none .none false false false (.ref it) (.ref f) (.int 0 t') .none) (liCell l 0) ++ S) (pyNext (.ref x)) Q E := by
  have hv : vs[0]? = some vs[0] := List.getElem?_eq_getElem (by omega)
  have e : vs.getD 0 .none = vs[0] := by rw [List.getD_eq_getElem?_getD, hv]; rfl
  refine .pyNextInst (x := x) (Cc := 112) (dx := dx) (f := 108) (T := fun _ => False) B.frag (.head _) (.tail _ (.head _)) (gbNextFacts _).1 (gbNextFacts _).2 (.noE ?_) (fun _ h => h.elim)
  refine .gNextGo (k := k 0) (cv := vs.getD 0 .none) (hvv := true) (c := liCell l 1) B (R.mono (by decide)) (.inl rfl) (.inr ⟨rfl, rfl, rfl, l, vs, 0, fd, f, rfl, rfl, hD.list, by rw [e]; exact hv, rfl, hD.fn, by rw [e]; exact hD.key _ _ hv⟩) fun q dq t r => ?_
  have := h (.ref r) ((r, .obj (tupObj [.bool (k 0), .ref q])) :: grpK x dx it f q dq l vs (k 0) true (0 + 1) t (.int (0 + 1) t) (.bool (k 0)) 0 0) ⟨r, q, dq, _, _, rfl, rfl⟩
  rw [grpK_zero, List.cons_append, List.append_assoc] at this
  exact this
theorem gbItem1 {k : Nat → Bool} {m : Nat} {n : Int} {t : Tok} {Q : Option Value → St → Prop} (B : Base C) (R : Room A 6) (h12 : k m ≠ k 0)
    (h : ∀ v Y, gbV x dx it f l vs k m 1 v Y → Q (some v) (Y ++ S)) : W C A (gbX x dx it (gbS cg (.bool (k m)) (vs.getD m .none) true true true (.ref it) (.ref f) (.int n t) (.bool (k 0))) (liCell l (m + 1)) ++ S) (pyNext (.ref x)) Q E := by
  refine .pyNextInst (x := x) (Cc := 112) (dx := dx) (f := 108) (T := fun _ => False) B.frag (.head _) (.tail _ (.head _)) (gbNextFacts _).1 (gbNextFacts _).2 (.noE ?_) (fun _ h => h.elim)
  refine .gNextGo (k := k m) (cv := vs.getD m .none) (hvv := true) (c := liCell l (m + 1)) B (R.mono (by decide)) (.inr ⟨k 0, rfl, Ne.symm h12⟩) (.inl ⟨rfl, rfl, rfl, rfl, rfl⟩) fun q dq t' r => ?_
  have := h (.ref r) ((r, .obj (tupObj [.bool (k m), .ref q])) :: grpK x dx it f q dq l vs (k m) true (n + 1) t' (.int (n + 1) t') (.bool (k m)) m 0) ⟨r, q, dq, _, _, rfl, rfl⟩
  rw [grpK_zero, List.cons_append, List.append_assoc] at this
  exact this
theorem gbStop {hv : Bool} {Q : Option Value → St → Prop} {n : Nat} {kf : Value} (B : Base C) (R : Room A 6) (h : Q none S) : W C A (gbX x dx it (gbS cg ck cv false hv ht (.ref it) kf ser tk) (deadCell n) ++ S) (pyNext (.ref x)) Q E := by
  refine .drop (.pyNextInst (x := x) (Cc := 112) (dx := dx) (f := 108) (T := fun S' => ∃ X' : St, S' = X' ++ S) B.frag (.head _) (.tail _ (.head _)) (gbNextFacts _).1 (gbNextFacts _).2 (.gNextEnd B (R.mono (by decide)) fun t => ⟨_, rfl⟩) ?_)
  rintro S' ⟨X', rfl⟩
  exact ⟨S, List.sublist_append_right _ _, h⟩
theorem gbItem {k : Nat → Bool} {m i : Nat} {X : St} {Q : Option Value → St → Prop} (B : Base C) (R : Room A 6) (hml : m < vs.length) (h12 : k m ≠ k 0) (hi : i < 2) (hX : gbK x dx it f l vs k m i X) (hD : Grp C l f fd vs k S)
    (h : ∀ v Y, gbV x dx it f l vs k m i v Y → Q (some v) (Y ++ S)) : W C A (X ++ S) (pyNext (.ref x)) Q E := by
  rcases i with _ | _ | i
  · obtain ⟨t, t', e⟩ := hX
    rw [e]
    exact gbItem0 B R (by omega) hD h
  · obtain ⟨cg, n, t, e⟩ := hX
    rw [e]
    exact gbItem1 B R h12 h
  · omega
/-- the groups, when there are two -/
theorem gbIter {k : Nat → Bool} {m : Nat} {A : Around} (B : Base C) (R : Room A 6) (hml : m < vs.length) (h12 : k m ≠ k 0) :
    Iter C A (.ref x) 2 (gbK x dx it f l vs k m) (Grp C l f fd vs k) (gbV x dx it f l vs k m) where
  item := fun i hi X S E hX hD => gbItem B R hml h12 hi hX hD fun v Y hV => ⟨v, Y, rfl, hV, rfl⟩
  stop := fun X S E hX hD => by
    obtain ⟨cg, ck, cv, hv, ser, tk, e⟩ := hX
    rw [e]
    exact gbStop B R ⟨rfl, rfl⟩
end
end Mine
-- part C7
namespace Mine
open PySem PySem.Calls PySem.W PyProof.Rows
local macro_rules | `(tactic| walk_at "m") => `(tactic| first | exact List.Mem.head _ | exact List.Mem.tail _ (List.Mem.head _) | exact List.Mem.tail _ (List.Mem.tail _ (List.Mem.head _)) | exact List.Mem.tail _ (List.Mem.tail _ (List.Mem.tail _ (List.Mem.head _))) | exact List.Mem.tail _ (List.Mem.tail _ (List.Mem.tail _ (List.Mem.tail _ (List.Mem.head _)))) | exact List.Mem.tail _ (List.Mem.tail _ (List.Mem.tail _ (List.Mem.tail _ (List.Mem.tail _ (List.Mem.head _))))) | exact List.Mem.tail _ (List.Mem.tail _ (List.Mem.tail _ (List.Mem.tail _ (List.Mem.tail _ (List.Mem.tail _ (List.Mem.head _)))))) | exact List.Mem.tail _ (List.Mem.tail _ (List.Mem.tail _ (List.Mem.tail _ (List.Mem.tail _ (List.Mem.tail _ (List.Mem.tail _ (List.Mem.head _))))))) | exact List.Mem.tail _ (List.Mem.tail _ (List.Mem.tail _ (List.Mem.tail _ (List.Mem.tail _ (List.Mem.tail _ (List.Mem.tail _ (List.Mem.tail _ (List.Mem.head _)))))))) | exact List.Mem.tail _ (List.Mem.tail _ (List.Mem.tail _ (List.Mem.tail _ (List.Mem.tail _ (List.Mem.tail _ (List.Mem.tail _ (List.Mem.tail _ (List.Mem.tail _ (List.Mem.head _))))))))) | exact List.Mem.tail _ (List.Mem.tail _ (List.Mem.tail _ (List.Mem.tail _ (List.Mem.tail _ (List.Mem.tail _ (List.Mem.tail _ (List.Mem.tail _ (List.Mem.tail _ (List.Mem.tail _ (List.Mem.head _)))))))))) | exact List.Mem.tail _ (List.Mem.tail _ (List.Mem.tail _ (List.Mem.tail _ (List.Mem.tail _ (List.Mem.tail _ (List.Mem.tail _ (List.Mem.tail _ (List.Mem.tail _ (List.Mem.tail _ (List.Mem.tail _ (List.Mem.head _))))))))))) | exact List.Mem.tail _ (List.Mem.tail _ (List.Mem.tail _ (List.Mem.tail _ (List.Mem.tail _ (List.Mem.tail _ (List.Mem.tail _ (List.Mem.tail _ (List.Mem.tail _ (List.Mem.tail _ (List.Mem.tail _ (List.Mem.tail _ (List.Mem.head _)))))))))))) | exact List.Mem.tail _ (List.Mem.tail _ (List.Mem.tail _ (List.Mem.tail _ (List.Mem.tail _ (List.Mem.tail _ (List.Mem.tail _ (List.Mem.tail _ (List.Mem.tail _ (List.Mem.tail _ (List.Mem.tail _ (List.Mem.tail _ (List.Mem.tail _ (List.Mem.head _))))))))))))) | exact List.Mem.tail _ (List.Mem.tail _ (List.Mem.tail _ (List.Mem.tail _ (List.Mem.tail _ (List.Mem.tail _ (List.Mem.tail _ (List.Mem.tail _ (List.Mem.tail _ (List.Mem.tail _ (List.Mem.tail _ (List.Mem.tail _ (List.Mem.tail _ (List.Mem.tail _ (List.Mem.head _)))))))))))))) | exact List.Mem.tail _ (List.Mem.tail _ (List.Mem.tail _ (List.Mem.tail _ (List.Mem.tail _ (List.Mem.tail _ (List.Mem.tail _ (List.Mem.tail _ (List.Mem.tail _ (List.Mem.tail _ (List.Mem.tail _ (List.Mem.tail _ (List.Mem.tail _ (List.Mem.tail _ (List.Mem.tail _ (List.Mem.head _))))))))))))))) | exact List.Mem.tail _ (List.Mem.tail _ (List.Mem.tail _ (List.Mem.tail _ (List.Mem.tail _ (List.Mem.tail _ (List.Mem.tail _ (List.Mem.tail _ (List.Mem.tail _ (List.Mem.tail _ (List.Mem.tail _ (List.Mem.tail _ (List.Mem.tail _ (List.Mem.tail _ (List.Mem.tail _ (List.Mem.tail _ (List.Mem.head _)))))))))))))))) | exact List.Mem.tail _ (List.Mem.tail _ (List.Mem.tail _ (List.Mem.tail _ (List.Mem.tail _ (List.Mem.tail _ (List.Mem.tail _ (List.Mem.tail _ (List.Mem.tail _ (List.Mem.tail _ (List.Mem.tail _ (List.Mem.tail _ (List.Mem.tail _ (List.Mem.tail _ (List.Mem.tail _ (List.Mem.tail _ (List.Mem.tail _ (List.Mem.head _))))))))))))))))) | exact List.Mem.tail _ (List.Mem.tail _ (List.Mem.tail _ (List.Mem.tail _ (List.Mem.tail _ (List.Mem.tail _ (List.Mem.tail _ (List.Mem.tail _ (List.Mem.tail _ (List.Mem.tail _ (List.Mem.tail _ (List.Mem.tail _ (List.Mem.tail _ (List.Mem.tail _ (List.Mem.tail _ (List.Mem.tail _ (List.Mem.tail _ (List.Mem.tail _ (List.Mem.head _)))))))))))))))))) | exact List.Mem.tail _ (List.Mem.tail _ (List.Mem.tail _ (List.Mem.tail _ (List.Mem.tail _ (List.Mem.tail _ (List.Mem.tail _ (List.Mem.tail _ (List.Mem.tail _ (List.Mem.tail _ (List.Mem.tail _ (List.Mem.tail _ (List.Mem.tail _ (List.Mem.tail _ (List.Mem.tail _ (List.Mem.tail _ (List.Mem.tail _ (List.Mem.tail _ (List.Mem.tail _ (List.Mem.head _))))))))))))))))))) | exact List.Mem.tail _ (List.Mem.tail _ (List.Mem.tail _ (List.Mem.tail _ (List.Mem.tail _ (List.Mem.tail _ (List.Mem.tail _ (List.Mem.tail _ (List.Mem.tail _ (List.Mem.tail _ (List.Mem.tail _ (List.Mem.tail _ (List.Mem.tail _ (List.Mem.tail _ (List.Mem.tail _ (List.Mem.tail _ (List.Mem.tail _ (List.Mem.tail _ (List.Mem.tail _ (List.Mem.tail _ (List.Mem.head _)))))))))))))))))))) | exact List.Mem.tail _ (List.Mem.tail _ (List.Mem.tail _ (List.Mem.tail _ (List.Mem.tail _ (List.Mem.tail _ (List.Mem.tail _ (List.Mem.tail _ (List.Mem.tail _ (List.Mem.tail _ (List.Mem.tail _ (List.Mem.tail _ (List.Mem.tail _ (List.Mem.tail _ (List.Mem.tail _ (List.Mem.tail _ (List.Mem.tail _ (List.Mem.tail _ (List.Mem.tail _ (List.Mem.tail _ (List.Mem.tail _ (List.Mem.head _))))))))))))))))))))) | exact List.Mem.tail _ (List.Mem.tail _ (List.Mem.tail _ (List.Mem.tail _ (List.Mem.tail _ (List.Mem.tail _ (List.Mem.tail _ (List.Mem.tail _ (List.Mem.tail _ (List.Mem.tail _ (List.Mem.tail _ (List.Mem.tail _ (List.Mem.tail _ (List.Mem.tail _ (List.Mem.tail _ (List.Mem.tail _ (List.Mem.tail _ (List.Mem.tail _ (List.Mem.tail _ (List.Mem.tail _ (List.Mem.tail _ (List.Mem.tail _ (List.Mem.head _)))))))))))))))))))))) | exact List.Mem.tail _ (List.Mem.tail _ (List.Mem.tail _ (List.Mem.tail _ (List.Mem.tail _ (List.Mem.tail _ (List.Mem.tail _ (List.Mem.tail _ (List.Mem.tail _ (List.Mem.tail _ (List.Mem.tail _ (List.Mem.tail _ (List.Mem.tail _ (List.Mem.tail _ (List.Mem.tail _ (List.Mem.tail _ (List.Mem.tail _ (List.Mem.tail _ (List.Mem.tail _ (List.Mem.tail _ (List.Mem.tail _ (List.Mem.tail _ (List.Mem.tail _ (List.Mem.head _))))))))))))))))))))))))
local macro_rules | `(tactic| walk_at "u") => `(tactic| first | exact Upd.here | exact Upd.there (Upd.here) | exact Upd.there (Upd.there (Upd.here)) | exact Upd.there (Upd.there (Upd.there (Upd.here))) | exact Upd.there (Upd.there (Upd.there (Upd.there (Upd.here)))) | exact Upd.there (Upd.there (Upd.there (Upd.there (Upd.there (Upd.here))))) | exact Upd.there (Upd.there (Upd.there (Upd.there (Upd.there (Upd.there (Upd.here)))))) | exact Upd.there (Upd.there (Upd.there (Upd.there (Upd.there (Upd.there (Upd.there (Upd.here))))))) | exact Upd.there (Upd.there (Upd.there (Upd.there (Upd.there (Upd.there (Upd.there (Upd.there (Upd.here)))))))) | exact Upd.there (Upd.there (Upd.there (Upd.there (Upd.there (Upd.there (Upd.there (Upd.there (Upd.there (Upd.here))))))))) | exact Upd.there (Upd.there (Upd.there (Upd.there (Upd.there (Upd.there (Upd.there (Upd.there (Upd.there (Upd.there (Upd.here)))))))))) | exact Upd.there (Upd.there (Upd.there (Upd.there (Upd.there (Upd.there (Upd.there (Upd.there (Upd.there (Upd.there (Upd.there (Upd.here))))))))))) | exact Upd.there (Upd.there (Upd.there (Upd.there (Upd.there (Upd.there (Upd.there (Upd.there (Upd.there (Upd.there (Upd.there (Upd.there (Upd.here)))))))))))) | exact Upd.there (Upd.there (Upd.there (Upd.there (Upd.there (Upd.there (Upd.there (Upd.there (Upd.there (Upd.there (Upd.there (Upd.there (Upd.there (Upd.here))))))))))))) | exact Upd.there (Upd.there (Upd.there (Upd.there (Upd.there (Upd.there (Upd.there (Upd.there (Upd.there (Upd.there (Upd.there (Upd.there (Upd.there (Upd.there (Upd.here)))))))))))))) | exact Upd.there (Upd.there (Upd.there (Upd.there (Upd.there (Upd.there (Upd.there (Upd.there (Upd.there (Upd.there (Upd.there (Upd.there (Upd.there (Upd.there (Upd.there (Upd.here))))))))))))))) | exact Upd.there (Upd.there (Upd.there (Upd.there (Upd.there (Upd.there (Upd.there (Upd.there (Upd.there (Upd.there (Upd.there (Upd.there (Upd.there (Upd.there (Upd.there (Upd.there (Upd.here)))))))))))))))) | exact Upd.there (Upd.there (Upd.there (Upd.there (Upd.there (Upd.there (Upd.there (Upd.there (Upd.there (Upd.there (Upd.there (Upd.there (Upd.there (Upd.there (Upd.there (Upd.there (Upd.there (Upd.here))))))))))))))))) | exact Upd.there (Upd.there (Upd.there (Upd.there (Upd.there (Upd.there (Upd.there (Upd.there (Upd.there (Upd.there (Upd.there (Upd.there (Upd.there (Upd.there (Upd.there (Upd.there (Upd.there (Upd.there (Upd.here)))))))))))))))))) | exact Upd.there (Upd.there (Upd.there (Upd.there (Upd.there (Upd.there (Upd.there (Upd.there (Upd.there (Upd.there (Upd.there (Upd.there (Upd.there (Upd.there (Upd.there (Upd.there (Upd.there (Upd.there (Upd.there (Upd.here))))))))))))))))))) | exact Upd.there (Upd.there (Upd.there (Upd.there (Upd.there (Upd.there (Upd.there (Upd.there (Upd.there (Upd.there (Upd.there (Upd.there (Upd.there (Upd.there (Upd.there (Upd.there (Upd.there (Upd.there (Upd.there (Upd.there (Upd.here)))))))))))))))))))) | exact Upd.there (Upd.there (Upd.there (Upd.there (Upd.there (Upd.there (Upd.there (Upd.there (Upd.there (Upd.there (Upd.there (Upd.there (Upd.there (Upd.there (Upd.there (Upd.there (Upd.there (Upd.there (Upd.there (Upd.there (Upd.there (Upd.here))))))))))))))))))))) | exact Upd.there (Upd.there (Upd.there (Upd.there (Upd.there (Upd.there (Upd.there (Upd.there (Upd.there (Upd.there (Upd.there (Upd.there (Upd.there (Upd.there (Upd.there (Upd.there (Upd.there (Upd.there (Upd.there (Upd.there (Upd.there (Upd.there (Upd.here)))))))))))))))))))))) | exact Upd.there (Upd.there (Upd.there (Upd.there (Upd.there (Upd.there (Upd.there (Upd.there (Upd.there (Upd.there (Upd.there (Upd.there (Upd.there (Upd.there (Upd.there (Upd.there (Upd.there (Upd.there (Upd.there (Upd.there (Upd.there (Upd.there (Upd.there (Upd.here))))))))))))))))))))))))
local macro_rules | `(tactic| walk_at "ul") => `(tactic| first | exact UpdL.here | exact UpdL.there (UpdL.here) | exact UpdL.there (UpdL.there (UpdL.here)) | exact UpdL.there (UpdL.there (UpdL.there (UpdL.here))) | exact UpdL.there (UpdL.there (UpdL.there (UpdL.there (UpdL.here)))) | exact UpdL.there (UpdL.there (UpdL.there (UpdL.there (UpdL.there (UpdL.here))))) | exact UpdL.there (UpdL.there (UpdL.there (UpdL.there (UpdL.there (UpdL.there (UpdL.here)))))) | exact UpdL.there (UpdL.there (UpdL.there (UpdL.there (UpdL.there (UpdL.there (UpdL.there (UpdL.here))))))) | exact UpdL.there (UpdL.there (UpdL.there (UpdL.there (UpdL.there (UpdL.there (UpdL.there (UpdL.there (UpdL.here)))))))) | exact UpdL.there (UpdL.there (UpdL.there (UpdL.there (UpdL.there (UpdL.there (UpdL.there (UpdL.there (UpdL.there (UpdL.here))))))))) | exact UpdL.there (UpdL.there (UpdL.there (UpdL.there (UpdL.there (UpdL.there (UpdL.there (UpdL.there (UpdL.there (UpdL.there (UpdL.here)))))))))) | exact UpdL.there (UpdL.there (UpdL.there (UpdL.there (UpdL.there (UpdL.there (UpdL.there (UpdL.there (UpdL.there (UpdL.there (UpdL.there (UpdL.here))))))))))) | exact UpdL.there (UpdL.there (UpdL.there (UpdL.there (UpdL.there (UpdL.there (UpdL.there (UpdL.there (UpdL.there (UpdL.there (UpdL.there (UpdL.there (UpdL.here)))))))))))) | exact UpdL.there (UpdL.there (UpdL.there (UpdL.there (UpdL.there (UpdL.there (UpdL.there (UpdL.there (UpdL.there (UpdL.there (UpdL.there (UpdL.there (UpdL.there (UpdL.here))))))))))))))
local macro_rules | `(tactic| walk_at "d") => `(tactic| first | exact Del.here | exact Del.there (Del.here) | exact Del.there (Del.there (Del.here)) | exact Del.there (Del.there (Del.there (Del.here))) | exact Del.there (Del.there (Del.there (Del.there (Del.here)))) | exact Del.there (Del.there (Del.there (Del.there (Del.there (Del.here))))) | exact Del.there (Del.there (Del.there (Del.there (Del.there (Del.there (Del.here)))))) | exact Del.there (Del.there (Del.there (Del.there (Del.there (Del.there (Del.there (Del.here))))))) | exact Del.there (Del.there (Del.there (Del.there (Del.there (Del.there (Del.there (Del.there (Del.here)))))))) | exact Del.there (Del.there (Del.there (Del.there (Del.there (Del.there (Del.there (Del.there (Del.there (Del.here))))))))) | exact Del.there (Del.there (Del.there (Del.there (Del.there (Del.there (Del.there (Del.there (Del.there (Del.there (Del.here)))))))))) | exact Del.there (Del.there (Del.there (Del.there (Del.there (Del.there (Del.there (Del.there (Del.there (Del.there (Del.there (Del.here))))))))))) | exact Del.there (Del.there (Del.there (Del.there (Del.there (Del.there (Del.there (Del.there (Del.there (Del.there (Del.there (Del.there (Del.here)))))))))))) | exact Del.there (Del.there (Del.there (Del.there (Del.there (Del.there (Del.there (Del.there (Del.there (Del.there (Del.there (Del.there (Del.there (Del.here))))))))))))) | exact Del.there (Del.there (Del.there (Del.there (Del.there (Del.there (Del.there (Del.there (Del.there (Del.there (Del.there (Del.there (Del.there (Del.there (Del.here)))))))))))))) | exact Del.there (Del.there (Del.there (Del.there (Del.there (Del.there (Del.there (Del.there (Del.there (Del.there (Del.there (Del.there (Del.there (Del.there (Del.there (Del.here))))))))))))))) | exact Del.there (Del.there (Del.there (Del.there (Del.there (Del.there (Del.there (Del.there (Del.there (Del.there (Del.there (Del.there (Del.there (Del.there (Del.there (Del.there (Del.here)))))))))))))))) | exact Del.there (Del.there (Del.there (Del.there (Del.there (Del.there (Del.there (Del.there (Del.there (Del.there (Del.there (Del.there (Del.there (Del.there (Del.there (Del.there (Del.there (Del.here))))))))))))))))) | exact Del.there (Del.there (Del.there (Del.there (Del.there (Del.there (Del.there (Del.there (Del.there (Del.there (Del.there (Del.there (Del.there (Del.there (Del.there (Del.there (Del.there (Del.there (Del.here)))))))))))))))))) | exact Del.there (Del.there (Del.there (Del.there (Del.there (Del.there (Del.there (Del.there (Del.there (Del.there (Del.there (Del.there (Del.there (Del.there (Del.there (Del.there (Del.there (Del.there (Del.there (Del.here))))))))))))))))))) | exact Del.there (Del.there (Del.there (Del.there (Del.there (Del.there (Del.there (Del.there (Del.there (Del.there (Del.there (Del.there (Del.there (Del.there (Del.there (Del.there (Del.there (Del.there (Del.there (Del.there (Del.here)))))))))))))))))))) | exact Del.there (Del.there (Del.there (Del.there (Del.there (Del.there (Del.there (Del.there (Del.there (Del.there (Del.there (Del.there (Del.there (Del.there (Del.there (Del.there (Del.there (Del.there (Del.there (Del.there (Del.there (Del.here))))))))))))))))))))) | exact Del.there (Del.there (Del.there (Del.there (Del.there (Del.there (Del.there (Del.there (Del.there (Del.there (Del.there (Del.there (Del.there (Del.there (Del.there (Del.there (Del.there (Del.there (Del.there (Del.there (Del.there (Del.there (Del.here)))))))))))))))))))))) | exact Del.there (Del.there (Del.there (Del.there (Del.there (Del.there (Del.there (Del.there (Del.there (Del.there (Del.there (Del.there (Del.there (Del.there (Del.there (Del.there (Del.there (Del.there (Del.there (Del.there (Del.there (Del.there (Del.there (Del.here))))))))))))))))))))))))
local macro_rules | `(tactic| walk_at "s") => `(tactic| repeat (first | exact List.Sublist.refl _ | exact List.nil_sublist _ | refine List.Sublist.cons_cons _ ?_ | refine List.Sublist.cons _ ?_))
/-- the signs that escape writes with a stroke -/
def escd : List Nat := [40, 41, 91, 93, 123, 125, 63, 42, 43, 45, 124, 94, 36, 92, 46, 38, 126, 35, 32, 9, 10, 13, 11, 12]
def esc1 (c : Nat) : List Nat := if escd.contains c then [92, c] else [c]
def escM (l : List Nat) : List Nat := l.flatMap esc1
noncomputable def oTab : { o : Obj // ∀ P, (hd.heap_39 P).lookup 164 = some o } := ⟨_, fun P => rfl⟩
def keyOk (e : DictEntry) : Bool := match e.key with
  | .int i _ => e.hash == hashInt i
  | _ => false
def chk (es : Array DictEntry) (c : Nat) : Bool := match findBy Value.isInt es (c : Int) with
  | some (.str y _) => escd.contains c && y == mk [92, c]
  | some _ => false
  | none => !escd.contains c
theorem oTab_data : ∃ es ep, oTab.1.data = .dict es ep ∧ es.all keyOk = true ∧ (List.range 128).all (chk es) = true := ⟨_, _, rfl, by kernel_rfl, by kernel_rfl⟩
theorem oTab_exact : oTab.1.ExactDict := ⟨rfl, rfl, rfl⟩
section
variable {C : Cx} {A : Around} {S : St} {E : Value → Shared → Prop}
theorem tab_map (B : Base C) {s : Shared} (G : Good C A S s) : ∃ f : Int → Option Value, s.heap.MapOf (intKind C.prog C.w) 164 f ∧ ∀ c : Nat, c < 128 → if escd.contains c then ∃ t, f c = some (.str (mk [92, c]) t) else f c = none := by
  obtain ⟨es, ep, e1, e2, e3⟩ := oTab_data
  refine ⟨_, ⟨oTab.1, es, ep, G.keep _ _ (B.frag _ _ (oTab.2 _)), oTab_exact, e1, ?_, fun k => rfl⟩, fun c hc => ?_⟩
  · intro e he
    have h := Array.all_eq_true_iff_forall_mem.mp e2 e he
    unfold keyOk at h
    split at h
    · rename_i i t hk
      exact ⟨i, by rw [hk]; simp [intKind, Value.isInt], eq_of_beq h⟩
    · cases h
  · have h := List.all_eq_true.mp e3 c (List.mem_range.mpr hc)
    unfold chk at h
    show if _ then ∃ t, findBy Value.isInt es (c : Int) = _ else findBy Value.isInt es (c : Int) = _
    split at h
    · rename_i y t hk
      simp only [Bool.and_eq_true, beq_iff_eq] at h
      rw [if_pos h.1]
      exact ⟨t, by rw [hk, h.2]⟩
    · cases h
    · rename_i hk
      rw [if_neg (by simpa using h)]
      exact hk
theorem keyErr_lookup : isSubtype (.type "KeyError") (.type "LookupError") = pure true := by rw [isSubtype_type]; kernel_rfl
theorem W.tabLook {c : Nat} (B : Base C) (R : Room A 2) (hc : c < 128) {Q : Builtin.Str.Mapped → St → Prop} (h : Q (if escd.contains c then .text (mk [92, c]) else .keep) S) : W C A S (Builtin.Str.tableLookup (.ref 164) c) Q E := .intro fun s G => by
  obtain ⟨f, hm, hf⟩ := tab_map B G
  have hf := hf c hc
  unfold Builtin.Str.tableLookup
  refine wpAny_bind (wpAny_attempt (wpAny_bind (wpAny_mkInt ?_)))
  by_cases he : escd.contains c
  · rw [if_pos he] at hf
    obtain ⟨t, hf⟩ := hf
    refine wpAny_getItem_of (knd := intKind C.prog C.w) (k := (c : Int)) (by simp [intKind, Value.isInt]) (f := f) (s := { s with toks := s.toks + 1 }) hm hf ?_
    rw [if_pos he] at h
    exact wpAny_pure ⟨S, (G.tok _).tok _, h⟩
  · rw [if_neg he] at hf
    refine wpAny_getItem_missing_of (knd := intKind C.prog C.w) (k := (c : Int)) (by simp [intKind, Value.isInt]) (f := f) (s := { s with toks := s.toks + 1 }) (by decide) R.handled hm hf ?_
    intro h' e hN
    rw [if_neg he] at h
    refine wpAny_bind (wpAny_isInstance (T := "KeyError") (b := true) ?_ keyErr_lookup ?_)
    · obtain ⟨ob, t, e1, e2, _⟩ := hN.there
      exact ⟨ob, e1, e2⟩
    · exact wpAny_bind (wpAny_rule (wpAny_pure ⟨S, (G.tok _).grow hN.keeps rfl G.gens, h⟩))
theorem escM_len (x : List Nat) : (escM x).length ≤ 2 * x.length := by
  unfold escM
  induction x with
  | nil => simp
  | cons c x ih =>
    simp only [List.flatMap_cons, List.length_append, List.length_cons]
    have : (esc1 c).length ≤ 2 := by unfold esc1; split <;> simp
    omega
/-- what stands after i signs -/
def TrInv (x : List Nat) (i : Nat) (b : List Str × Nat × Bool × List (Nat × Option Nat) × Bool) : Prop :=
  (b.1.reverse.flatMap fun p => p.cps.toList) = escM (x.take i) ∧ b.2.1 ≤ 2 * i ∧ (∀ c a, b.2.2.2.1.lookup c = some a → a = some c ∧ escd.contains c = false) ∧ b.2.2.2.2 = false
theorem W.translate0 {x : List Nat} {t : Tok} {Q : Fin → St → Prop} (B : Base C) (R : Room A 2) (hx : x ≠ []) (h128 : ∀ c ∈ x, c < 128) (hlen : x.length ≤ 1000) (h : ∀ t', Q (.done (.ret (.str (mk (escM x)) t'))) S) :
    W C A S (Builtin.«str.translate» ⟨[.str (mk x) t, .ref 164], []⟩) Q E := .intro fun s G => by
  unfold Builtin.«str.translate»
  have e : Builtin.Str.strOneArg "translate" ⟨[.str (mk x) t, .ref 164], []⟩ = pure (.str (mk x) t, mk x, .ref 164) := rfl
  rw [e, pure_bind]
  dsimp only
  rw [if_neg (by rw [mk_length]; simpa using hx)]
  have step1 : ∀ {i : Nat} {c : Nat} {rest : List Nat}, x.drop i = c :: rest → x.take (i + 1) = x.take i ++ [c] ∧ c ∈ x ∧ rest = x.drop (i + 1) := by
    intro i c rest hl
    have hi : i < x.length := by
      rcases Nat.lt_or_ge i x.length with h | h
      · exact h
      · rw [List.drop_eq_nil_of_le h] at hl; cases hl
    have h2 := List.drop_eq_getElem_cons hi
    rw [h2] at hl
    injection hl with h3 h4
    exact ⟨by rw [List.take_succ, List.getElem?_eq_getElem hi, h3]; rfl, h3 ▸ List.getElem_mem _, h4.symm⟩
  have keepI : ∀ {i c rest pieces total fast known}, x.drop i = c :: rest → escd.contains c = false → TrInv x i (pieces, total, fast, known, false) → ∀ fast' known', (known' = known ∨ known' = (c, some c) :: known) → TrInv x (i + 1) (⟨#[c]⟩ :: pieces, total + 1, fast', known', false) := by
    rintro i c rest pieces total fast known hl hc ⟨h1, h2, h3, _⟩ fast' known' hk
    obtain ⟨e1, e2, e3⟩ := step1 hl
    refine ⟨?_, by show total + 1 ≤ 2 * (i + 1); have : total ≤ 2 * i := h2; omega, ?_, rfl⟩
    · show (List.reverse (_ :: pieces)).flatMap _ = _
      rw [List.reverse_cons, List.flatMap_append, h1, e1]
      unfold escM
      rw [List.flatMap_append]
      simp only [List.flatMap_cons, List.flatMap_nil, List.append_nil]
      rw [show esc1 c = [c] from if_neg (by rw [hc]; decide)]
    · intro d a hd
      rcases hk with rfl | rfl
      · exact h3 d a hd
      · rw [List.lookup_cons] at hd
        by_cases hdc : d == c
        · rw [hdc] at hd
          have := eq_of_beq hdc
          subst this
          injection hd with hd
          exact ⟨hd.symm, hc⟩
        · rw [Bool.not_eq_true] at hdc
          rw [hdc] at hd
          exact h3 d a hd
  have textI : ∀ {i c rest pieces total fast known}, x.drop i = c :: rest → escd.contains c = true → TrInv x i (pieces, total, fast, known, false) → ∀ fast', TrInv x (i + 1) (mk [92, c] :: pieces, total + (mk [92, c]).length, fast', known, false) := by
    rintro i c rest pieces total fast known hl hc ⟨h1, h2, h3, _⟩ fast'
    obtain ⟨e1, e2, e3⟩ := step1 hl
    refine ⟨?_, by show total + 2 ≤ 2 * (i + 1); have : total ≤ 2 * i := h2; omega, h3, rfl⟩
    show (List.reverse (_ :: pieces)).flatMap _ = _
    rw [List.reverse_cons, List.flatMap_append, h1, e1]
    unfold escM
    rw [List.flatMap_append]
    simp only [List.flatMap_cons, List.flatMap_nil, List.append_nil]
    rw [show esc1 c = [92, c] from if_pos hc]
    rfl
  refine wpAny_bind (wpAny_mono (wpAny_forIn_array' _ (fun l b s' => ∃ i, i ≤ x.length ∧ l = x.drop i ∧ Good C A S s' ∧ TrInv x i b) (fun b s' => Good C A S s' ∧ TrInv x x.length b) ?_ ?_ _ _ ⟨0, Nat.zero_le _, rfl, G, ?_⟩) ?_ fun _ _ x => x)
  · rintro c rest ⟨pieces, total, fast, known, after⟩ s' ⟨i, hile, hl, G', hI⟩
    have hI' := hI
    obtain ⟨h1, h2, h3, ha⟩ := hI'
    have ha : after = false := ha
    subst ha
    have h2 : total ≤ 2 * i := h2
    obtain ⟨e1, e2, e3⟩ := step1 hl.symm
    have hi : i + 1 ≤ x.length := by
      have := congrArg List.length hl
      simp at this; omega
    have slow : ∀ {Q' : ForInStep (List Str × Nat × Bool × List (Nat × Option Nat) × Bool) → Shared → Prop} {fast' s''}, Good C A S s'' → (∀ b s₂, Good C A S s₂ → TrInv x (i + 1) b → Q' (.yield b) s₂) →
        wpAny (model C.prog C.w) A (Builtin.Str.tableLookup (Value.ref 164) c >>= fun r => match r with
          | .keep => pure (ForInStep.yield ({ cps := #[c] } :: pieces, total + 1, fast', known, false))
          | .drop => pure (ForInStep.yield (pieces, total, fast', known, true))
          | .char d => pure (ForInStep.yield ({ cps := #[d] } :: pieces, total + 1, fast', known, false))
          | .text t => pure (ForInStep.yield (t :: pieces, total + t.length, fast', known, false))) Q' E s'' := by
      intro Q' fast' s'' G'' hq
      refine wpAny_bind ((W.tabLook (Q := fun r S' => S' = S ∧ r = if escd.contains c then .text (mk [92, c]) else .keep) B R (h128 c e2) ⟨rfl, rfl⟩).1 s'' G'' |> fun h => wpAny_mono h ?_ fun _ _ x => x)
      rintro r s₂ ⟨S₂, G₂, rfl, rfl⟩
      by_cases he : escd.contains c
      · rw [if_pos he]
        exact wpAny_pure (hq _ _ G₂ (textI hl.symm he hI _))
      · rw [if_neg he]
        exact wpAny_pure (hq _ _ G₂ (keepI hl.symm (by simpa using he) hI _ _ (.inl rfl)))
    dsimp only
    rw [if_neg (by simp [Builtin.Str.tooLong, sizeLine_eq]; omega)]
    cases fast with
    | false => exact slow G' fun b s₂ G₂ hb => ⟨i + 1, hi, e3, G₂, hb⟩
    | true =>
      rw [if_pos rfl]
      cases hk : List.lookup c known with
      | some a =>
        obtain ⟨rfl, he⟩ := h3 c a hk
        exact wpAny_bind (wpAny_pure (wpAny_pure ⟨i + 1, hi, e3, G', keepI hl.symm he hI _ _ (.inl rfl)⟩))
      | none =>
        refine wpAny_bind ((W.tabLook (Q := fun r S' => S' = S ∧ r = if escd.contains c then .text (mk [92, c]) else .keep) B R (h128 c e2) ⟨rfl, rfl⟩).1 s' G' |> fun h => wpAny_mono h ?_ fun _ _ x => x)
        rintro r s₂ ⟨S₂, G₂, rfl, rfl⟩
        by_cases he : escd.contains c
        · rw [if_pos he]
          exact wpAny_bind (wpAny_pure (wpAny_bind (wpAny_rule (slow G₂ fun b s₂ G₂ hb => ⟨i + 1, hi, e3, G₂, hb⟩))))
        · rw [if_neg he]
          exact wpAny_bind (wpAny_pure (wpAny_pure ⟨i + 1, hi, e3, G₂, keepI hl.symm (by simpa using he) hI _ _ (.inr rfl)⟩))
  · rintro b s' ⟨i, hile, hl, G', hI⟩
    have : i = x.length := by
      have := congrArg List.length hl
      simp at this; omega
    exact ⟨G', this ▸ hI⟩
  · exact ⟨rfl, Nat.zero_le _, (fun c a (h : List.lookup c ([] : List (Nat × Option Nat)) = some a) => by cases h), rfl⟩
  · rintro ⟨pieces, total, fast, known, after⟩ s' ⟨G', h1, h2, h3, h4⟩
    have h2 : total ≤ 2 * x.length := h2
    dsimp only
    rw [if_neg (by simp [Builtin.Str.tooLong, sizeLine_eq]; omega)]
    have hfold : ∀ (ps : List Str) (acc : Array Nat), (ps.foldl (fun acc p => acc ++ p.cps) acc) = (acc.toList ++ ps.flatMap fun p => p.cps.toList).toArray := by
      intro ps
      induction ps with
      | nil => intro acc; simp
      | cons p ps ih => intro acc; rw [List.foldl_cons, ih]; simp
    have e9 : (⟨pieces.reverse.foldl (fun acc p => acc ++ p.cps) #[]⟩ : Str) = mk (escM x) := by
      rw [hfold, h1, List.take_length]; simp [mk]
    rw [e9]
    have hlen2 := escM_len x
    unfold retStr
    exact wpAny_bind (wpAny_mkStr (wpAny_pure ⟨S, G'.tok _, h _⟩) (by rw [sizeLine_eq, mk_length]; omega))
theorem W.translate {x : List Nat} {t : Tok} {Q : Value → St → Prop} (B : Base C) (R : Room A 3) (hx : x ≠ []) (h128 : ∀ c ∈ x, c < 128) (hlen : x.length ≤ 1000) (h : ∀ t', Q (.str (mk (escM x)) t') S) :
    W C A S (call (.builtin "str.translate") [.str (mk x) t, .ref 164]) Q E := .intro fun s G => by
  refine wpAny_call (codeAny_call_builtin F.slot_str_translate.plain F.entry_str_translate (F.slot_str_translate.check _ _ _ _ _ _ _ _ (typeIs_str _ _ _) (F.args_str_translate_2 _ _) ?_))
  refine wpAny_mono ((W.translate0 (A := A.in1) (Q := fun r S' => S' = S ∧ ∃ t', r = .done (.ret (.str (mk (escM x)) t'))) B R.in1 hx h128 hlen fun t' => ⟨rfl, t', rfl⟩).1 s { G with frames := G.frames }) ?_ fun _ _ x => x
  rintro r s' ⟨S', G', rfl, t', rfl⟩
  exact ⟨S', { G' with frames := G'.frames }, h t'⟩
theorem fEscape (B : Base C) : FnIs C 174 xEscape.1 := B.fn xEscape fun P => ⟨_, _, _, _, rfl, rfl, rfl, rfl⟩
theorem gIsinst (B : Base C) : GlobalIs C (Str.ofString "isinstance") (.builtin "isinstance") := B.bi (by intro P; kernel_rfl) (by kernel_rfl) (by decide)
theorem gStr (B : Base C) : GlobalIs C (Str.ofString "str") (.type "str") := B.bi (by intro P; kernel_rfl) (by kernel_rfl) (by decide)
theorem gEscape (B : Base C) : GlobalIs C (Str.ofString "escape") (.ref 174) := B.glob (by intro P; kernel_rfl)
theorem gSpecial (B : Base C) : GlobalIs C (Str.ofString "_special_chars_map") (.ref 164) := B.glob (by intro P; kernel_rfl)
theorem W.isiStr {x : Str} {u : Tok} {Q : Value → St → Prop} (h : Q (.bool true) S) : W C A S (call (.builtin "isinstance") [.str x u, .type "str"]) Q E := .intro fun s G => PySem.IsiPair.str_str ⟨S, G, h⟩
/-- escape -/
theorem W.escape {x : List Nat} {t : Tok} {Q : Value → St → Prop} (B : Base C) (R : Room A 4) (hx : x ≠ []) (h128 : ∀ c ∈ x, c < 128) (hlen : x.length ≤ 1000) (h : ∀ t', Q (.str (mk (escM x)) t') S) :
    W C A S (call (.ref 174) [.str (mk x) t]) Q E := by
  refine .callDef (n := 3) (binds := [(Str.ofString "pattern", .str (mk x) t)]) [Str.ofString "pattern"] [] (fEscape B) R rfl (fun s G => .of_eq rfl) (by decide) (by decide) (by decide) ?_
  intro L R1
  refine .sCons (.sIf (.tval (.callName (.glob (gIsinst B) (.withB (.itemsCons (.name (.head _) (by walk_at "m") (.itemsCons (.glob (gStr B) (.itemsNil (.isiStr (.truthyB ?_))))))))))))
  refine ite_pos rfl ?_
  refine .sCons (.sRet (.callMeth F.plainAttrs_str F.slot_str_translate F.type_str_translate (.name (.head _) (by walk_at "m") ⟨fun s G => ⟨typeIs_str _ _ _, fun a e => (by cases e)⟩, .withB (.itemsCons (.glob (gSpecial B) (.itemsNil (.translate B R1 hx h128 hlen fun t' => ⟨S, List.sublist_cons_self _ _, h t'⟩))))⟩)))
end
end Mine
-- part R0
namespace Mine
open PySem PySem.Calls PySem.W PyProof.Rows
theorem slot_sub : Slot "re.Pattern" "sub" "re.Pattern.sub" :=
  .of (owner := "re.Pattern") (n := "sub") (by rw [typeLookup_type, builtinLookup_eq_fast]; kernel_rfl) (by decide +kernel) (by decide +kernel) (by decide +kernel)
    (by first | exact .inl (by decide +kernel) | exact .inr (by decide +kernel)) (by rw [isSubtype_type]; kernel_rfl)
theorem slot_group : Slot "re.Match" "group" "re.Match.group" :=
  .of (owner := "re.Match") (n := "group") (by rw [typeLookup_type, builtinLookup_eq_fast]; kernel_rfl) (by decide +kernel) (by decide +kernel) (by decide +kernel)
    (by first | exact .inl (by decide +kernel) | exact .inr (by decide +kernel)) (by rw [isSubtype_type]; kernel_rfl)
theorem plainAttrs_pat : PlainAttrs "re.Pattern" :=
  ⟨⟨"object.__getattribute__", by rw [typeLookup_type, builtinLookup_eq_fast]; kernel_rfl, by decide +kernel⟩, by rw [typeLookup_type, builtinLookup_eq_fast]; kernel_rfl⟩
theorem plainAttrs_mat : PlainAttrs "re.Match" :=
  ⟨⟨"object.__getattribute__", by rw [typeLookup_type, builtinLookup_eq_fast]; kernel_rfl, by decide +kernel⟩, by rw [typeLookup_type, builtinLookup_eq_fast]; kernel_rfl⟩
theorem type_sub : typeOf (.builtin "re.Pattern.sub") = pure (.type "method_descriptor") := by show builtinType _ = _; rw [builtinType_eq_fast]; kernel_rfl
theorem type_group : typeOf (.builtin "re.Match.group") = pure (.type "method_descriptor") := by show builtinType _ = _; rw [builtinType_eq_fast]; kernel_rfl
theorem entry_sub : entryFor table "re.Pattern.sub" = some Builtin.«re.Pattern.sub» := entryFor_of_tree (by kernel_rfl)
theorem entry_loop : entryFor table "re.Pattern.sub.loop" = some Builtin.«re.Pattern.sub.loop» := entryFor_of_tree (by kernel_rfl)
theorem entry_group : entryFor table "re.Match.group" = some Builtin.«re.Match.group» := entryFor_of_tree (by kernel_rfl)
theorem plain_loop : plainId "re.Pattern.sub.loop" = true := by decide +kernel
theorem args_sub (a b c : Value) : argsOk "re.Pattern.sub" ⟨[a, b, c], []⟩ := by
  unfold argsOk; kernel_rfl
theorem args_group (a : Value) : argsOk "re.Match.group" ⟨[a], []⟩ := by
  unfold argsOk; kernel_rfl
end Mine
-- part C8
namespace Mine
open PySem PySem.Calls PySem.W PyProof.Rows
local macro_rules | `(tactic| walk_at "m") => `(tactic| first | exact List.Mem.head _ | exact List.Mem.tail _ (List.Mem.head _) | exact List.Mem.tail _ (List.Mem.tail _ (List.Mem.head _)) | exact List.Mem.tail _ (List.Mem.tail _ (List.Mem.tail _ (List.Mem.head _))) | exact List.Mem.tail _ (List.Mem.tail _ (List.Mem.tail _ (List.Mem.tail _ (List.Mem.head _)))) | exact List.Mem.tail _ (List.Mem.tail _ (List.Mem.tail _ (List.Mem.tail _ (List.Mem.tail _ (List.Mem.head _))))) | exact List.Mem.tail _ (List.Mem.tail _ (List.Mem.tail _ (List.Mem.tail _ (List.Mem.tail _ (List.Mem.tail _ (List.Mem.head _)))))) | exact List.Mem.tail _ (List.Mem.tail _ (List.Mem.tail _ (List.Mem.tail _ (List.Mem.tail _ (List.Mem.tail _ (List.Mem.tail _ (List.Mem.head _))))))) | exact List.Mem.tail _ (List.Mem.tail _ (List.Mem.tail _ (List.Mem.tail _ (List.Mem.tail _ (List.Mem.tail _ (List.Mem.tail _ (List.Mem.tail _ (List.Mem.head _)))))))) | exact List.Mem.tail _ (List.Mem.tail _ (List.Mem.tail _ (List.Mem.tail _ (List.Mem.tail _ (List.Mem.tail _ (List.Mem.tail _ (List.Mem.tail _ (List.Mem.tail _ (List.Mem.head _))))))))) | exact List.Mem.tail _ (List.Mem.tail _ (List.Mem.tail _ (List.Mem.tail _ (List.Mem.tail _ (List.Mem.tail _ (List.Mem.tail _ (List.Mem.tail _ (List.Mem.tail _ (List.Mem.tail _ (List.Mem.head _)))))))))) | exact List.Mem.tail _ (List.Mem.tail _ (List.Mem.tail _ (List.Mem.tail _ (List.Mem.tail _ (List.Mem.tail _ (List.Mem.tail _ (List.Mem.tail _ (List.Mem.tail _ (List.Mem.tail _ (List.Mem.tail _ (List.Mem.head _))))))))))) | exact List.Mem.tail _ (List.Mem.tail _ (List.Mem.tail _ (List.Mem.tail _ (List.Mem.tail _ (List.Mem.tail _ (List.Mem.tail _ (List.Mem.tail _ (List.Mem.tail _ (List.Mem.tail _ (List.Mem.tail _ (List.Mem.tail _ (List.Mem.head _)))))))))))) | exact List.Mem.tail _ (List.Mem.tail _ (List.Mem.tail _ (List.Mem.tail _ (List.Mem.tail _ (List.Mem.tail _ (List.Mem.tail _ (List.Mem.tail _ (List.Mem.tail _ (List.Mem.tail _ (List.Mem.tail _ (List.Mem.tail _ (List.Mem.tail _ (List.Mem.head _))))))))))))) | exact List.Mem.tail _ (List.Mem.tail _ (List.Mem.tail _ (List.Mem.tail _ (List.Mem.tail _ (List.Mem.tail _ (List.Mem.tail _ (List.Mem.tail _ (List.Mem.tail _ (List.Mem.tail _ (List.Mem.tail _ (List.Mem.tail _ (List.Mem.tail _ (List.Mem.tail _ (List.Mem.head _)))))))))))))) | exact List.Mem.tail _ (List.Mem.tail _ (List.Mem.tail _ (List.Mem.tail _ (List.Mem.tail _ (List.Mem.tail _ (List.Mem.tail _ (List.Mem.tail _ (List.Mem.tail _ (List.Mem.tail _ (List.Mem.tail _ (List.Mem.tail _ (List.Mem.tail _ (List.Mem.tail _ (List.Mem.tail _ (List.Mem.head _))))))))))))))) | exact List.Mem.tail _ (List.Mem.tail _ (List.Mem.tail _ (List.Mem.tail _ (List.Mem.tail _ (List.Mem.tail _ (List.Mem.tail _ (List.Mem.tail _ (List.Mem.tail _ (List.Mem.tail _ (List.Mem.tail _ (List.Mem.tail _ (List.Mem.tail _ (List.Mem.tail _ (List.Mem.tail _ (List.Mem.tail _ (List.Mem.head _)))))))))))))))) | exact List.Mem.tail _ (List.Mem.tail _ (List.Mem.tail _ (List.Mem.tail _ (List.Mem.tail _ (List.Mem.tail _ (List.Mem.tail _ (List.Mem.tail _ (List.Mem.tail _ (List.Mem.tail _ (List.Mem.tail _ (List.Mem.tail _ (List.Mem.tail _ (List.Mem.tail _ (List.Mem.tail _ (List.Mem.tail _ (List.Mem.tail _ (List.Mem.head _))))))))))))))))) | exact List.Mem.tail _ (List.Mem.tail _ (List.Mem.tail _ (List.Mem.tail _ (List.Mem.tail _ (List.Mem.tail _ (List.Mem.tail _ (List.Mem.tail _ (List.Mem.tail _ (List.Mem.tail _ (List.Mem.tail _ (List.Mem.tail _ (List.Mem.tail _ (List.Mem.tail _ (List.Mem.tail _ (List.Mem.tail _ (List.Mem.tail _ (List.Mem.tail _ (List.Mem.head _)))))))))))))))))) | exact List.Mem.tail _ (List.Mem.tail _ (List.Mem.tail _ (List.Mem.tail _ (List.Mem.tail _ (List.Mem.tail _ (List.Mem.tail _ (List.Mem.tail _ (List.Mem.tail _ (List.Mem.tail _ (List.Mem.tail _ (List.Mem.tail _ (List.Mem.tail _ (List.Mem.tail _ (List.Mem.tail _ (List.Mem.tail _ (List.Mem.tail _ (List.Mem.tail _ (List.Mem.tail _ (List.Mem.head _))))))))))))))))))) | exact List.Mem.tail _ (List.Mem.tail _ (List.Mem.tail _ (List.Mem.tail _ (List.Mem.tail _ (List.Mem.tail _ (List.Mem.tail _ (List.Mem.tail _ (List.Mem.tail _ (List.Mem.tail _ (List.Mem.tail _ (List.Mem.tail _ (List.Mem.tail _ (List.Mem.tail _ (List.Mem.tail _ (List.Mem.tail _ (List.Mem.tail _ (List.Mem.tail _ (List.Mem.tail _ (List.Mem.tail _ (List.Mem.head _)))))))))))))))))))) | exact List.Mem.tail _ (List.Mem.tail _ (List.Mem.tail _ (List.Mem.tail _ (List.Mem.tail _ (List.Mem.tail _ (List.Mem.tail _ (List.Mem.tail _ (List.Mem.tail _ (List.Mem.tail _ (List.Mem.tail _ (List.Mem.tail _ (List.Mem.tail _ (List.Mem.tail _ (List.Mem.tail _ (List.Mem.tail _ (List.Mem.tail _ (List.Mem.tail _ (List.Mem.tail _ (List.Mem.tail _ (List.Mem.tail _ (List.Mem.head _))))))))))))))))))))) | exact List.Mem.tail _ (List.Mem.tail _ (List.Mem.tail _ (List.Mem.tail _ (List.Mem.tail _ (List.Mem.tail _ (List.Mem.tail _ (List.Mem.tail _ (List.Mem.tail _ (List.Mem.tail _ (List.Mem.tail _ (List.Mem.tail _ (List.Mem.tail _ (List.Mem.tail _ (List.Mem.tail _ (List.Mem.tail _ (List.Mem.tail _ (List.Mem.tail _ (List.Mem.tail _ (List.Mem.tail _ (List.Mem.tail _ (List.Mem.tail _ (List.Mem.head _)))))))))))))))))))))) | exact List.Mem.tail _ (List.Mem.tail _ (List.Mem.tail _ (List.Mem.tail _ (List.Mem.tail _ (List.Mem.tail _ (List.Mem.tail _ (List.Mem.tail _ (List.Mem.tail _ (List.Mem.tail _ (List.Mem.tail _ (List.Mem.tail _ (List.Mem.tail _ (List.Mem.tail _ (List.Mem.tail _ (List.Mem.tail _ (List.Mem.tail _ (List.Mem.tail _ (List.Mem.tail _ (List.Mem.tail _ (List.Mem.tail _ (List.Mem.tail _ (List.Mem.tail _ (List.Mem.head _))))))))))))))))))))))))
local macro_rules | `(tactic| walk_at "u") => `(tactic| first | exact Upd.here | exact Upd.there (Upd.here) | exact Upd.there (Upd.there (Upd.here)) | exact Upd.there (Upd.there (Upd.there (Upd.here))) | exact Upd.there (Upd.there (Upd.there (Upd.there (Upd.here)))) | exact Upd.there (Upd.there (Upd.there (Upd.there (Upd.there (Upd.here))))) | exact Upd.there (Upd.there (Upd.there (Upd.there (Upd.there (Upd.there (Upd.here)))))) | exact Upd.there (Upd.there (Upd.there (Upd.there (Upd.there (Upd.there (Upd.there (Upd.here))))))) | exact Upd.there (Upd.there (Upd.there (Upd.there (Upd.there (Upd.there (Upd.there (Upd.there (Upd.here)))))))) | exact Upd.there (Upd.there (Upd.there (Upd.there (Upd.there (Upd.there (Upd.there (Upd.there (Upd.there (Upd.here))))))))) | exact Upd.there (Upd.there (Upd.there (Upd.there (Upd.there (Upd.there (Upd.there (Upd.there (Upd.there (Upd.there (Upd.here)))))))))) | exact Upd.there (Upd.there (Upd.there (Upd.there (Upd.there (Upd.there (Upd.there (Upd.there (Upd.there (Upd.there (Upd.there (Upd.here))))))))))) | exact Upd.there (Upd.there (Upd.there (Upd.there (Upd.there (Upd.there (Upd.there (Upd.there (Upd.there (Upd.there (Upd.there (Upd.there (Upd.here)))))))))))) | exact Upd.there (Upd.there (Upd.there (Upd.there (Upd.there (Upd.there (Upd.there (Upd.there (Upd.there (Upd.there (Upd.there (Upd.there (Upd.there (Upd.here))))))))))))) | exact Upd.there (Upd.there (Upd.there (Upd.there (Upd.there (Upd.there (Upd.there (Upd.there (Upd.there (Upd.there (Upd.there (Upd.there (Upd.there (Upd.there (Upd.here)))))))))))))) | exact Upd.there (Upd.there (Upd.there (Upd.there (Upd.there (Upd.there (Upd.there (Upd.there (Upd.there (Upd.there (Upd.there (Upd.there (Upd.there (Upd.there (Upd.there (Upd.here))))))))))))))) | exact Upd.there (Upd.there (Upd.there (Upd.there (Upd.there (Upd.there (Upd.there (Upd.there (Upd.there (Upd.there (Upd.there (Upd.there (Upd.there (Upd.there (Upd.there (Upd.there (Upd.here)))))))))))))))) | exact Upd.there (Upd.there (Upd.there (Upd.there (Upd.there (Upd.there (Upd.there (Upd.there (Upd.there (Upd.there (Upd.there (Upd.there (Upd.there (Upd.there (Upd.there (Upd.there (Upd.there (Upd.here))))))))))))))))) | exact Upd.there (Upd.there (Upd.there (Upd.there (Upd.there (Upd.there (Upd.there (Upd.there (Upd.there (Upd.there (Upd.there (Upd.there (Upd.there (Upd.there (Upd.there (Upd.there (Upd.there (Upd.there (Upd.here)))))))))))))))))) | exact Upd.there (Upd.there (Upd.there (Upd.there (Upd.there (Upd.there (Upd.there (Upd.there (Upd.there (Upd.there (Upd.there (Upd.there (Upd.there (Upd.there (Upd.there (Upd.there (Upd.there (Upd.there (Upd.there (Upd.here))))))))))))))))))) | exact Upd.there (Upd.there (Upd.there (Upd.there (Upd.there (Upd.there (Upd.there (Upd.there (Upd.there (Upd.there (Upd.there (Upd.there (Upd.there (Upd.there (Upd.there (Upd.there (Upd.there (Upd.there (Upd.there (Upd.there (Upd.here)))))))))))))))))))) | exact Upd.there (Upd.there (Upd.there (Upd.there (Upd.there (Upd.there (Upd.there (Upd.there (Upd.there (Upd.there (Upd.there (Upd.there (Upd.there (Upd.there (Upd.there (Upd.there (Upd.there (Upd.there (Upd.there (Upd.there (Upd.there (Upd.here))))))))))))))))))))) | exact Upd.there (Upd.there (Upd.there (Upd.there (Upd.there (Upd.there (Upd.there (Upd.there (Upd.there (Upd.there (Upd.there (Upd.there (Upd.there (Upd.there (Upd.there (Upd.there (Upd.there (Upd.there (Upd.there (Upd.there (Upd.there (Upd.there (Upd.here)))))))))))))))))))))) | exact Upd.there (Upd.there (Upd.there (Upd.there (Upd.there (Upd.there (Upd.there (Upd.there (Upd.there (Upd.there (Upd.there (Upd.there (Upd.there (Upd.there (Upd.there (Upd.there (Upd.there (Upd.there (Upd.there (Upd.there (Upd.there (Upd.there (Upd.there (Upd.here))))))))))))))))))))))))
local macro_rules | `(tactic| walk_at "ul") => `(tactic| first | exact UpdL.here | exact UpdL.there (UpdL.here) | exact UpdL.there (UpdL.there (UpdL.here)) | exact UpdL.there (UpdL.there (UpdL.there (UpdL.here))) | exact UpdL.there (UpdL.there (UpdL.there (UpdL.there (UpdL.here)))) | exact UpdL.there (UpdL.there (UpdL.there (UpdL.there (UpdL.there (UpdL.here))))) | exact UpdL.there (UpdL.there (UpdL.there (UpdL.there (UpdL.there (UpdL.there (UpdL.here)))))) | exact UpdL.there (UpdL.there (UpdL.there (UpdL.there (UpdL.there (UpdL.there (UpdL.there (UpdL.here))))))) | exact UpdL.there (UpdL.there (UpdL.there (UpdL.there (UpdL.there (UpdL.there (UpdL.there (UpdL.there (UpdL.here)))))))) | exact UpdL.there (UpdL.there (UpdL.there (UpdL.there (UpdL.there (UpdL.there (UpdL.there (UpdL.there (UpdL.there (UpdL.here))))))))) | exact UpdL.there (UpdL.there (UpdL.there (UpdL.there (UpdL.there (UpdL.there (UpdL.there (UpdL.there (UpdL.there (UpdL.there (UpdL.here)))))))))) | exact UpdL.there (UpdL.there (UpdL.there (UpdL.there (UpdL.there (UpdL.there (UpdL.there (UpdL.there (UpdL.there (UpdL.there (UpdL.there (UpdL.here))))))))))) | exact UpdL.there (UpdL.there (UpdL.there (UpdL.there (UpdL.there (UpdL.there (UpdL.there (UpdL.there (UpdL.there (UpdL.there (UpdL.there (UpdL.there (UpdL.here)))))))))))) | exact UpdL.there (UpdL.there (UpdL.there (UpdL.there (UpdL.there (UpdL.there (UpdL.there (UpdL.there (UpdL.there (UpdL.there (UpdL.there (UpdL.there (UpdL.there (UpdL.here))))))))))))))
local macro_rules | `(tactic| walk_at "d") => `(tactic| first | exact Del.here | exact Del.there (Del.here) | exact Del.there (Del.there (Del.here)) | exact Del.there (Del.there (Del.there (Del.here))) | exact Del.there (Del.there (Del.there (Del.there (Del.here)))) | exact Del.there (Del.there (Del.there (Del.there (Del.there (Del.here))))) | exact Del.there (Del.there (Del.there (Del.there (Del.there (Del.there (Del.here)))))) | exact Del.there (Del.there (Del.there (Del.there (Del.there (Del.there (Del.there (Del.here))))))) | exact Del.there (Del.there (Del.there (Del.there (Del.there (Del.there (Del.there (Del.there (Del.here)))))))) | exact Del.there (Del.there (Del.there (Del.there (Del.there (Del.there (Del.there (Del.there (Del.there (Del.here))))))))) | exact Del.there (Del.there (Del.there (Del.there (Del.there (Del.there (Del.there (Del.there (Del.there (Del.there (Del.here)))))))))) | exact Del.there (Del.there (Del.there (Del.there (Del.there (Del.there (Del.there (Del.there (Del.there (Del.there (Del.there (Del.here))))))))))) | exact Del.there (Del.there (Del.there (Del.there (Del.there (Del.there (Del.there (Del.there (Del.there (Del.there (Del.there (Del.there (Del.here)))))))))))) | exact Del.there (Del.there (Del.there (Del.there (Del.there (Del.there (Del.there (Del.there (Del.there (Del.there (Del.there (Del.there (Del.there (Del.here))))))))))))) | exact Del.there (Del.there (Del.there (Del.there (Del.there (Del.there (Del.there (Del.there (Del.there (Del.there (Del.there (Del.there (Del.there (Del.there (Del.here)))))))))))))) | exact Del.there (Del.there (Del.there (Del.there (Del.there (Del.there (Del.there (Del.there (Del.there (Del.there (Del.there (Del.there (Del.there (Del.there (Del.there (Del.here))))))))))))))) | exact Del.there (Del.there (Del.there (Del.there (Del.there (Del.there (Del.there (Del.there (Del.there (Del.there (Del.there (Del.there (Del.there (Del.there (Del.there (Del.there (Del.here)))))))))))))))) | exact Del.there (Del.there (Del.there (Del.there (Del.there (Del.there (Del.there (Del.there (Del.there (Del.there (Del.there (Del.there (Del.there (Del.there (Del.there (Del.there (Del.there (Del.here))))))))))))))))) | exact Del.there (Del.there (Del.there (Del.there (Del.there (Del.there (Del.there (Del.there (Del.there (Del.there (Del.there (Del.there (Del.there (Del.there (Del.there (Del.there (Del.there (Del.there (Del.here)))))))))))))))))) | exact Del.there (Del.there (Del.there (Del.there (Del.there (Del.there (Del.there (Del.there (Del.there (Del.there (Del.there (Del.there (Del.there (Del.there (Del.there (Del.there (Del.there (Del.there (Del.there (Del.here))))))))))))))))))) | exact Del.there (Del.there (Del.there (Del.there (Del.there (Del.there (Del.there (Del.there (Del.there (Del.there (Del.there (Del.there (Del.there (Del.there (Del.there (Del.there (Del.there (Del.there (Del.there (Del.there (Del.here)))))))))))))))))))) | exact Del.there (Del.there (Del.there (Del.there (Del.there (Del.there (Del.there (Del.there (Del.there (Del.there (Del.there (Del.there (Del.there (Del.there (Del.there (Del.there (Del.there (Del.there (Del.there (Del.there (Del.there (Del.here))))))))))))))))))))) | exact Del.there (Del.there (Del.there (Del.there (Del.there (Del.there (Del.there (Del.there (Del.there (Del.there (Del.there (Del.there (Del.there (Del.there (Del.there (Del.there (Del.there (Del.there (Del.there (Del.there (Del.there (Del.there (Del.here)))))))))))))))))))))) | exact Del.there (Del.there (Del.there (Del.there (Del.there (Del.there (Del.there (Del.there (Del.there (Del.there (Del.there (Del.there (Del.there (Del.there (Del.there (Del.there (Del.there (Del.there (Del.there (Del.there (Del.there (Del.there (Del.there (Del.here))))))))))))))))))))))))
local macro_rules | `(tactic| walk_at "s") => `(tactic| repeat (first | exact List.Sublist.refl _ | exact List.nil_sublist _ | refine List.Sublist.cons_cons _ ?_ | refine List.Sublist.cons _ ?_))
noncomputable def oPat : { o : Obj // ∀ P, (hd.heap_39 P).lookup 43 = some o } := ⟨_, fun P => rfl⟩
noncomputable def oCod : { o : Obj // ∀ P, (hd.heap_39 P).lookup 42 = some o } := ⟨_, fun P => rfl⟩
def csCode : Array Nat := #[14, 10, 4, 1, 1, 16, 45, 22, 91, 94, 0, 13, 7, 16, 45, 22, 91, 94, 0, 1]
def pureDrive : Nat → Sre.M → Option Sre.M
  | 0, _ => none
  | k + 1, m => let m := m.runFor 4; if m.outcome.isSome then some m else pureDrive k m
def ended (m : Sre.M) : Option (Option (Nat × Nat)) := match m.outcome with
  | some .matched => some (some (m.start, m.handed))
  | some .failed => some none
  | _ => none
def found (x : List Nat) (start : Nat) (must : Bool) : Option (Option (Nat × Nat)) :=
  match pureDrive 30 (Sre.forSearch csCode x.toArray 0 start x.length must) with
  | some m => ended m
  | none => none
def csTarget (x : List Nat) (t : Tok) : Builtin.Re.ReTarget := { pattern := .ref 43, string := .str (mk x) t, code := csCode, text := x.toArray, kind := 0, groups := 0, pos := 0, lim := x.length }
section
variable {C : Cx} {A : Around} {S : St} {E : Value → Shared → Prop} {s : Shared}
theorem drive_ok {M : Model} {Q : Sre.M → Shared → Prop} : ∀ (k n : Nat) (m m' : Sre.M), pureDrive k m = some m' → k ≤ n → Q m' s → wpAny M A (Builtin.Re.reDrive n m) Q E s
  | 0, n, m, m', h, _, _ => by cases h
  | k + 1, 0, m, m', h, hn, _ => absurd hn (by omega)
  | k + 1, n + 1, m, m', h, hn, q => by
    unfold pureDrive at h
    unfold Builtin.Re.reDrive
    show wpAny M A (if ((m.runFor 4).outcome.isSome) = true then _ else _) Q E s
    by_cases ho : (m.runFor 4).outcome.isSome
    · dsimp only at h
      rw [if_pos ho] at h ⊢
      injection h with h
      exact wpAny_pure (h ▸ q)
    · dsimp only at h
      rw [if_neg ho] at h ⊢
      exact wpAny_bind (wpAny_rule (drive_ok k n _ m' h (by omega) q))
theorem runToEnd_ok {M : Model} {Q : Option Sre.M → Shared → Prop} {m m' : Sre.M} {r : Option (Nat × Nat)} (h : pureDrive 30 m = some m') (he : ended m' = some r) (q : Q (r.map fun _ => m') s) : wpAny M A (Builtin.Re.reRunToEnd m) Q E s := by
  unfold Builtin.Re.reRunToEnd
  refine wpAny_bind (drive_ok 30 (2 ^ 64) m m' h (by decide) ?_)
  refine wpAny_bind (wpAny_mono (wpAny_forIn_list _ (fun _ _ s' => s' = s) (fun _ s' => s' = s) (fun i rest b s' hs => ?_) (fun b s' hs => hs) _ _ rfl) (fun b s' hs => ?_) fun _ _ x => x)
  · split
    · exact wpAny_bind (wpAny_rule (wpAny_pure hs))
    · exact wpAny_pure hs
  · subst hs
    unfold ended at he
    split at he
    · rename_i e; rw [e]; cases he; exact wpAny_pure q
    · rename_i e; rw [e]; cases he; exact wpAny_pure q
    · cases he
theorem oCod_data : ∃ xs, oCod.1.data = .seq xs 0 ∧ (xs.map Builtin.Re.reRawOf).map Int.toNat = csCode := ⟨_, rfl, by kernel_rfl⟩
theorem W.target {x : List Nat} {t : Tok} {Q : Builtin.Re.ReTarget → St → Prop} (B : Base C) (h : Q (csTarget x t) S) : W C A S (Builtin.Re.reWholeTarget (.ref 43) (.str (mk x) t)) Q E := .intro fun s G => by
  have e1 := G.keep _ _ (B.frag _ _ (oPat.2 _))
  have e2 := G.keep _ _ (B.frag _ _ (oCod.2 _))
  unfold Builtin.Re.reWholeTarget
  refine wpAny_bind (wpAny_fieldsOf e1 rfl ?_)
  refine wpAny_bind (m := Builtin.Re.reTextOf _) (wpAny_bind (m := asStr? _) (wpAny_pure (wpAny_pure ?_)))
  dsimp only
  rw [if_neg (by decide), if_neg (by decide)]
  refine wpAny_bind (m := Builtin.Re.reNoCollectionInside _ _) (wpAny_pure ?_)
  refine wpAny_bind (m := Builtin.Re.reRawItems _) ?_
  show wpAny _ A (seqItems? (.ref 42) >>= fun r => pure ((r.getD #[]).map Builtin.Re.reRawOf)) _ _ _
  obtain ⟨xs, e3, e4⟩ := oCod_data
  refine wpAny_bind (wpAny_seqItems e2 e3 (wpAny_pure ?_))
  refine wpAny_pure ⟨S, G, ?_⟩
  rw [show (((some xs).getD #[]).map Builtin.Re.reRawOf).map (fun x => x.toNat) = csCode from e4]
  exact h
theorem W.push {a : Addr} {vs : List Value} {x : Value} {S'} {Q : Unit → St → Prop} (hu : Upd a (.list vs) (.list (vs ++ [x])) S S') (h : Q () S') (hsz : vs.length ≤ 1000) : W C A S (updateSeq a (·.push x)) Q E := .intro fun s G => by
  obtain ⟨n, hl⟩ := (G.sat _ hu.mem).2.2
  have hl2 := Heap.get?_update_self (Obj.mapSeq (·.push x)) hl rfl
  refine wpAny_updateSeq hl rfl ⟨S', G.change hu (Heap.SameBut.update ..) ⟨?_, ?_⟩ trivial (fun q => absurd q ((G.sat _ hu.mem).2.2.notDict trivial)) rfl G.gens, h⟩ (by rw [sizeLine_eq]; simp; omega) (by rw [sizeLine_eq]; simp; omega)
  · exact n + 1
  · refine hl2.trans ?_
    simp [Obj.mapSeq]
def csSl (x : List Nat) (a b : Nat) : List Nat := (x.toArray.extract a b).toList
theorem W.slice {x : List Nat} {a b : Nat} {Q : Value → St → Prop} (hx : x.length ≤ 1000) (h : ∀ t, Q (.str (mk (csSl x a b)) t) S) : W C A S (Builtin.Re.reSlice x.toArray 0 a b) Q E := .intro fun s G => by
  unfold Builtin.Re.reSlice
  rw [if_pos (by decide)]
  have e : (⟨x.toArray.extract a b⟩ : Str) = mk (csSl x a b) := by simp [mk, csSl]
  rw [e]
  refine wpAny_mkStr ⟨S, G.tok _, h _⟩ ?_
  rw [sizeLine_eq, mk_length]
  simp [csSl]; omega
def matchObj (x : List Nat) (t : Tok) (li : Int) (tp : Addr) : Obj := { cls := .type "re.Match", data := .fields #[.str (mk x) t, .ref 43, rawInt 0, rawInt (x.length : Nat), rawInt li, .ref tp] }
theorem W.newMatch {x : List Nat} {t : Tok} {m : Sre.M} {Q : Value → St → Prop} (h : ∀ mo tp, Q (.ref mo) ((mo, .obj (matchObj x t m.lastindex tp)) :: (tp, .obj (tupObj [rawInt m.start, rawInt m.handed])) :: S)) : W C A S (Builtin.Re.reNewMatch (.ref 43) (.str (mk x) t) 0 0 x.length m) Q E := .intro fun s G => by
  unfold Builtin.Re.reNewMatch
  dsimp only
  rw [if_neg (by simp)]
  show wpAny _ A (newTuple [rawInt m.start, rawInt m.handed] >>= fun tp => newFields "re.Match" [.str (mk x) t, .ref 43, rawInt 0, rawInt (x.length : Nat), rawInt m.lastindex, tp]) _ _ _
  refine wpAny_bind (m := newTuple _) (wpAny_newObj_type ?_ (by size_fits))
  have G1 : Good C A ((s.heap.objs.size, .obj (tupObj [rawInt m.start, rawInt m.handed])) :: S) { s with heap := s.heap.push (tupObj [rawInt m.start, rawInt m.handed]) } :=
    G.new (c := .obj _) (fun b o e => Heap.get?_push_of_some _ e) (fresh_none _) (Heap.get?_push_size _ rfl) rfl G.gens
  exact wpAny_newObj_type ⟨_, G1.new (c := .obj (matchObj x t m.lastindex s.heap.objs.size)) (fun b o e => Heap.get?_push_of_some _ e) (fresh_none _) (Heap.get?_push_size _ rfl) rfl G.gens, h _ _⟩ (by size_fits)
/-- m.group() -/
theorem W.group {mo tp : Addr} {x : List Nat} {t : Tok} {li : Int} {a b : Nat} {Q : Value → St → Prop} (hm : (mo, .obj (matchObj x t li tp)) ∈ S) (ht : (tp, .obj (tupObj [rawInt a, rawInt b])) ∈ S) (hx : x.length ≤ 1000) (h : ∀ t', Q (.str (mk (csSl x a b)) t') S) : W C A S (call (.builtin "re.Match.group") [.ref mo]) Q E := .intro fun s G => by
  have e1 : s.heap.get? mo = some (matchObj x t li tp) := (G.sat _ hm).2.2
  have e2 : s.heap.get? tp = some (tupObj [rawInt a, rawInt b]) := (G.sat _ ht).2.2
  refine wpAny_call (codeAny_call_builtin slot_group.plain entry_group (slot_group.check _ _ _ _ _ _ _ _ ⟨_, e1, rfl⟩ (args_group _) ?_))
  show wpAny _ A.in1 (Builtin.Re.reFound (.ref mo) >>= fun y => Builtin.Re.reGroupText y 0 .none >>= fun v => ret v) _ _ s
  unfold Builtin.Re.reFound
  refine wpAny_bind (wpAny_bind (wpAny_fieldsOf e1 rfl ?_))
  refine wpAny_bind (m := Builtin.Re.reRawItems _) ?_
  show wpAny _ A.in1 (seqItems? (.ref tp) >>= fun r => pure ((r.getD #[]).map Builtin.Re.reRawOf)) _ _ _
  refine wpAny_bind (wpAny_seqItems e2 rfl (wpAny_pure (wpAny_pure ?_)))
  unfold Builtin.Re.reGroupText
  dsimp only
  rw [show Array.map Builtin.Re.reRawOf ((some #[rawInt (a : Nat), rawInt (b : Nat)]).getD #[]) = #[(a : Int), (b : Int)] from by simp [rawInt, Builtin.Re.reRawOf]]
  show wpAny _ _ ((if (decide ((a : Int) < 0) || decide ((b : Int) < 0)) = true then pure .none else Builtin.Re.reSlice x.toArray 0 a b) >>= fun v => ret v) _ _ s
  rw [if_neg (by simp)]
  refine wpAny_bind (wpAny_mono ((W.slice (Q := fun v S' => S' = S ∧ ∃ t', v = .str (mk (csSl x a b)) t') hx fun t' => ⟨rfl, t', rfl⟩).1 s (G.around rfl)) ?_ fun _ _ x => x)
  rintro v s' ⟨S', G', rfl, t', rfl⟩
  exact wpAny_pure ⟨S', G'.around rfl, h t'⟩
/-- the pieces of the text, the signs of the set with a stroke -/
def csRun : Nat → List Nat → Nat → Nat → Bool → List (List Nat) → Option (List (List Nat))
  | 0, _, _, _, _, _ => none
  | k + 1, x, done, start, must, acc => match found x start must with
    | some (some (a, b)) => csRun k x b b (b == a) ((if done < a then acc ++ [csSl x done a] else acc) ++ [92 :: csSl x a b])
    | some none => some (if done < x.length then acc ++ [csSl x done x.length] else acc)
    | none => none
theorem joinM_nil (ls : List (List Nat)) : joinM [] ls = ls.flatten := by
  fun_induction joinM [] ls with
  | case1 => rfl
  | case2 x => simp
  | case3 x y r ih => rw [ih]; simp
theorem W.hold {α : Type} {vs : List Value} {m : Sem α} {Q : α → St → Prop} (h : W C A S m Q E) : W C A S (holding vs m) Q E := .intro fun s G => wpAny_holding (h.1 s G)
def csTail (x : List Nat) (ac : Addr) (n : Int) : Sem Fin := do
  let joiner ← Builtin.Re.reSlice x.toArray 0 0 0
  let text ← if ((← seqItems? (.ref ac)).getD #[]).isEmpty then pure joiner
    else call (.builtin (if 0 == 0 then "str.join" else "bytes.join")) [joiner, .ref ac]
  if false then ret (← holding [text] do newTuple [text, ← mkInt n]) else ret text
theorem W.csTail {x : List Nat} {ac : Addr} {n : Int} {vs : List Value} {out : List (List Nat)} {Q : Fin → St → Prop} (hx : x.length ≤ 50) (hS : SL vs out) (hlen : vs.length ≤ 1000) (hout : (out.map List.length).sum ≤ 1000) (hm : (ac, .list vs) ∈ S) (h : ∀ t', Q (.done (.ret (.str (mk out.flatten) t'))) S) : W C A S (csTail x ac n) Q E := by
  unfold Mine.csTail
  refine .bind (.slice (by omega) fun t1 => .bind (.intro fun s G => ?_))
  obtain ⟨k, hl⟩ := (G.sat _ hm).2.2
  refine wpAny_seqItems hl rfl ⟨S, G, ?_⟩
  have e0 : csSl x 0 0 = [] := by simp [csSl]
  rw [e0]
  cases vs with
  | nil =>
    have : out = [] := by
      cases out with
      | nil => rfl
      | cons o r => cases hS
    subst this
    rw [if_pos (by simp)]
    refine .bind (.pur ?_)
    dsimp only
    rw [if_neg (by simp)]
    exact .pur (h _)
  | cons v vs =>
    rw [if_neg (by simp)]
    refine .bind (.joinL hm hS (by simp; omega) fun t2 => ?_)
    dsimp only
    rw [if_neg (by simp), joinM_nil]
    exact .pur (h _)
def csAgain (x : List Nat) (t : Tok) (lam ac : Addr) (n : Int) (b : Nat) (must : Bool) : Code := .builtin "re.Pattern.sub.loop" ⟨[.ref 43, .str (mk x) t, .ref lam, rawInt 1, rawInt 0, rawInt (n + 1), rawInt b, rawInt b, .bool must, .ref ac, .bool false], []⟩
def csItem (x : List Nat) (t : Tok) (m : Sre.M) (lam ac : Addr) (n : Int) : Sem Fin := do
  let item ← if 1 == 0 then pure (.ref lam) else do
    let found ← Builtin.Re.reNewMatch (.ref 43) (.str (mk x) t) 0 0 x.length m
    holding [found] (if 1 == 1 then call (.ref lam) [found] else do Builtin.Re.reExpand (.ref lam) (← Builtin.Re.reFound found))
  if item != .none then updateSeq ac (·.push item)
  again (csAgain x t lam ac n m.handed (m.handed == m.start))
theorem W.csItem {x : List Nat} {t : Tok} {m : Sre.M} {lam ac : Addr} {n : Int} {vs : List Value} {Q : Fin → St → Prop} (hlen : vs.length ≤ 1000)
    (hlam : ∀ mo tp, W C A ((mo, .obj (matchObj x t m.lastindex tp)) :: (tp, .obj (tupObj [rawInt m.start, rawInt m.handed])) :: (ac, .list vs) :: S) (call (.ref lam) [.ref mo]) (fun v S' => (∃ t', v = .str (mk (92 :: csSl x m.start m.handed)) t') ∧ S' = (mo, .obj (matchObj x t m.lastindex tp)) :: (tp, .obj (tupObj [rawInt m.start, rawInt m.handed])) :: (ac, .list vs) :: S) E)
    (h : ∀ mo tp t', Q (.again (csAgain x t lam ac n m.handed (m.handed == m.start))) ((mo, .obj (matchObj x t m.lastindex tp)) :: (tp, .obj (tupObj [rawInt m.start, rawInt m.handed])) :: (ac, .list (vs ++ [.str (mk (92 :: csSl x m.start m.handed)) t'])) :: S)) : W C A ((ac, .list vs) :: S) (csItem x t m lam ac n) Q E := by
  unfold Mine.csItem
  rw [if_neg (by decide)]
  refine .bind (.newMatch fun mo tp => ?_)
  rw [if_pos (by decide)]
  refine .bind (.hold ((hlam mo tp).mono ?_))
  rintro v S' ⟨⟨t', rfl⟩, rfl⟩
  dsimp only
  rw [if_pos (by rfl)]
  exact .bind (.push (.there (.there .here)) (.pur (h mo tp t')) hlen)
theorem csLoop {R : Result → Shared → Prop} {x : List Nat} {t : Tok} {ac lam : Addr} {out : List (List Nat)} (B : Base C) (hx : x.length ≤ 50)
    (hlam : ∀ mo tp li a b X, (mo, .obj (matchObj x t li tp)) ∈ X ++ S → (tp, .obj (tupObj [rawInt (a : Nat), rawInt (b : Nat)])) ∈ X ++ S → ∀ {Q : Value → St → Prop} {E : Value → Shared → Prop}, (∀ t', Q (.str (mk (92 :: csSl x a b)) t') (X ++ S)) → W C A.in1 (X ++ S) (call (.ref lam) [.ref mo]) Q E)
    (hout : (out.map List.length).sum ≤ 1000) (hR : ∀ s' t', Good C A S s' → R (.ok (.ret (.str (mk out.flatten) t'))) s') :
    ∀ (k : Nat) (done start : Nat) (must : Bool) (acc : List (List Nat)) (vs : List Value) (n : Int) (s : Shared), csRun k x done start must acc = some out → SL vs acc → acc.length + 2 * k ≤ 200 → Good C A ((ac, .list vs) :: S) s →
      codeAny (model C.prog C.w) A (.builtin "re.Pattern.sub.loop" ⟨[.ref 43, .str (mk x) t, .ref lam, rawInt 1, rawInt 0, rawInt n, rawInt done, rawInt start, .bool must, .ref ac, .bool false], []⟩) R s := by
  intro k
  induction k with
  | zero => intro done start must acc vs n s h; cases h
  | succ k ih =>
    intro done start must acc vs n s h hS hk G
    refine codeAny_builtin entry_loop ?_
    rw [Around.under_plainId plain_loop _]
    have G' : Good C A.in1 ((ac, .list vs) :: S) s := G.around rfl
    have key : W C A.in1 ((ac, .list vs) :: S) (Builtin.«re.Pattern.sub.loop» ⟨[.ref 43, .str (mk x) t, .ref lam, rawInt 1, rawInt 0, rawInt n, rawInt done, rawInt start, .bool must, .ref ac, .bool false], []⟩)
        (fun fin S' => match fin with | .done f => ∀ s', Good C A.in1 S' s' → R (.ok f) s' | .again c => c.quiet = true ∧ ∀ s', Good C A.in1 S' s' → codeAny (model C.prog C.w) A c R s') NoE := by
      show W C A.in1 _ (Builtin.Re.reWholeTarget (.ref 43) (.str (mk x) t) >>= _) _ _
      refine .bind (.target B ?_)
      dsimp only [csTarget]
      rw [if_neg (by decide)]
      show W C A.in1 _ ((if ((0 : Int) != 0 && _) = true then pure none else Builtin.Re.reNextFound (csTarget x t) start must) >>= _) _ _
      rw [if_neg (by simp)]
      unfold csRun at h
      have hf : ∀ r, found x start must = some r → ∃ m m', m = Sre.forSearch csCode x.toArray 0 start x.length must ∧ pureDrive 30 m = some m' ∧ ended m' = some r := by
        intro r hr
        unfold found at hr
        cases hp : pureDrive 30 (Sre.forSearch csCode x.toArray 0 start x.length must) with
        | none => rw [hp] at hr; cases hr
        | some m' => rw [hp] at hr; exact ⟨_, m', rfl, hp, hr⟩
      cases hfd : found x start must with
      | none => rw [hfd] at h; cases h
      | some r =>
        rw [hfd] at h
        obtain ⟨m, m', rfl, h1, h2⟩ := hf _ hfd
        refine .bind (W.intro fun s₁ G₁ => runToEnd_ok h1 h2 ⟨_, G₁, ?_⟩)
        have hal : vs.length ≤ 200 := by have := hS.len; omega
        cases r with
        | none =>
          simp only [Option.map]
          injection h with h
          have fin : ∀ us, SL us out → us.length ≤ 1000 → W C A.in1 ((ac, .list us) :: S) (Mine.csTail x ac n) (fun fin S' => match fin with | .done f => ∀ s', Good C A.in1 S' s' → R (.ok f) s' | .again c => c.quiet = true ∧ ∀ s', Good C A.in1 S' s' → codeAny (model C.prog C.w) A c R s') NoE := fun us hu hl =>
            .csTail hx hu hl hout (.head _) fun t' s' G' => hR s' t' ((G'.weaken (List.sublist_cons_self _ _)).around rfl)
          by_cases hd : done < x.length
          · rw [if_pos hd] at h
            rw [if_pos (by simpa using hd)]
            exact .bind (.slice (by omega) fun t1 => .bind (.push .here (fin _ (h ▸ hS.snoc _ _) (by simp; omega)) (by omega)))
          · rw [if_neg hd] at h
            rw [if_neg (by simpa using hd)]
            exact fin _ (h ▸ hS) (by omega)
        | some ab =>
          simp only [Option.map]
          obtain ⟨a, b⟩ := ab
          dsimp only at h
          have hab : a = m'.start ∧ b = m'.handed := by
            unfold ended at h2
            split at h2
            · injection h2 with h2; injection h2 with h2; injection h2 with h2 h3; exact ⟨h2.symm, h3.symm⟩
            · cases h2
            · cases h2
          obtain ⟨rfl, rfl⟩ := hab
          have go : ∀ us us', SL us us' → us'.length ≤ acc.length + 1 → csRun k x m'.handed m'.handed (m'.handed == m'.start) (us' ++ [92 :: csSl x m'.start m'.handed]) = some out → W C A.in1 ((ac, .list us) :: S) (Mine.csItem x t m' lam ac n) (fun fin S' => match fin with | .done f => ∀ s', Good C A.in1 S' s' → R (.ok f) s' | .again c => c.quiet = true ∧ ∀ s', Good C A.in1 S' s' → codeAny (model C.prog C.w) A c R s') NoE := fun us us' hu hl hrun =>
            .csItem (by have := hu.len; omega) (fun mo tp => hlam mo tp _ _ _ [_, _, _] (.head _) (.tail _ (.head _)) fun t' => ⟨⟨t', rfl⟩, rfl⟩)
              fun mo tp t' => ⟨plainId_quiet plain_loop _, fun s' G' => ih _ _ _ _ _ (n + 1) s' hrun (hu.snoc _ _) (by simp; omega) ((G'.weaken (.cons _ (.cons _ (.refl _)))).around rfl)⟩
          by_cases hd : done < m'.start
          · rw [if_pos hd] at h
            rw [if_pos (by simpa using hd)]
            exact .bind (.slice (by omega) fun t1 => .bind (.push .here (go _ _ (hS.snoc _ _) (by simp) h) (by omega)))
          · rw [if_neg hd] at h
            rw [if_neg (by simpa using hd)]
            exact go _ _ hS (by omega) h
    refine wpAny_mono (key.1 s G') (fun fin s' ⟨S', G₂, q⟩ => ?_) fun _ _ x => x.elim
    cases fin with
    | done f => exact q s' G₂
    | again c => exact ⟨q.1, q.2 s' G₂⟩
end
end Mine
-- part C9
namespace Mine
open PySem PySem.Calls PySem.W PyProof.Rows
local macro_rules | `(tactic| walk_at "m") => `(tactic| first | exact List.Mem.head _ | exact List.Mem.tail _ (List.Mem.head _) | exact List.Mem.tail _ (List.Mem.tail _ (List.Mem.head _)) | exact List.Mem.tail _ (List.Mem.tail _ (List.Mem.tail _ (List.Mem.head _))) | exact List.Mem.tail _ (List.Mem.tail _ (List.Mem.tail _ (List.Mem.tail _ (List.Mem.head _)))) | exact List.Mem.tail _ (List.Mem.tail _ (List.Mem.tail _ (List.Mem.tail _ (List.Mem.tail _ (List.Mem.head _))))) | exact List.Mem.tail _ (List.Mem.tail _ (List.Mem.tail _ (List.Mem.tail _ (List.Mem.tail _ (List.Mem.tail _ (List.Mem.head _)))))) | exact List.Mem.tail _ (List.Mem.tail _ (List.Mem.tail _ (List.Mem.tail _ (List.Mem.tail _ (List.Mem.tail _ (List.Mem.tail _ (List.Mem.head _))))))) | exact List.Mem.tail _ (List.Mem.tail _ (List.Mem.tail _ (List.Mem.tail _ (List.Mem.tail _ (List.Mem.tail _ (List.Mem.tail _ (List.Mem.tail _ (List.Mem.head _)))))))) | exact List.Mem.tail _ (List.Mem.tail _ (List.Mem.tail _ (List.Mem.tail _ (List.Mem.tail _ (List.Mem.tail _ (List.Mem.tail _ (List.Mem.tail _ (List.Mem.tail _ (List.Mem.head _))))))))) | exact List.Mem.tail _ (List.Mem.tail _ (List.Mem.tail _ (List.Mem.tail _ (List.Mem.tail _ (List.Mem.tail _ (List.Mem.tail _ (List.Mem.tail _ (List.Mem.tail _ (List.Mem.tail _ (List.Mem.head _)))))))))) | exact List.Mem.tail _ (List.Mem.tail _ (List.Mem.tail _ (List.Mem.tail _ (List.Mem.tail _ (List.Mem.tail _ (List.Mem.tail _ (List.Mem.tail _ (List.Mem.tail _ (List.Mem.tail _ (List.Mem.tail _ (List.Mem.head _))))))))))) | exact List.Mem.tail _ (List.Mem.tail _ (List.Mem.tail _ (List.Mem.tail _ (List.Mem.tail _ (List.Mem.tail _ (List.Mem.tail _ (List.Mem.tail _ (List.Mem.tail _ (List.Mem.tail _ (List.Mem.tail _ (List.Mem.tail _ (List.Mem.head _)))))))))))) | exact List.Mem.tail _ (List.Mem.tail _ (List.Mem.tail _ (List.Mem.tail _ (List.Mem.tail _ (List.Mem.tail _ (List.Mem.tail _ (List.Mem.tail _ (List.Mem.tail _ (List.Mem.tail _ (List.Mem.tail _ (List.Mem.tail _ (List.Mem.tail _ (List.Mem.head _))))))))))))) | exact List.Mem.tail _ (List.Mem.tail _ (List.Mem.tail _ (List.Mem.tail _ (List.Mem.tail _ (List.Mem.tail _ (List.Mem.tail _ (List.Mem.tail _ (List.Mem.tail _ (List.Mem.tail _ (List.Mem.tail _ (List.Mem.tail _ (List.Mem.tail _ (List.Mem.tail _ (List.Mem.head _)))))))))))))) | exact List.Mem.tail _ (List.Mem.tail _ (List.Mem.tail _ (List.Mem.tail _ (List.Mem.tail _ (List.Mem.tail _ (List.Mem.tail _ (List.Mem.tail _ (List.Mem.tail _ (List.Mem.tail _ (List.Mem.tail _ (List.Mem.tail _ (List.Mem.tail _ (List.Mem.tail _ (List.Mem.tail _ (List.Mem.head _))))))))))))))) | exact List.Mem.tail _ (List.Mem.tail _ (List.Mem.tail _ (List.Mem.tail _ (List.Mem.tail _ (List.Mem.tail _ (List.Mem.tail _ (List.Mem.tail _ (List.Mem.tail _ (List.Mem.tail _ (List.Mem.tail _ (List.Mem.tail _ (List.Mem.tail _ (List.Mem.tail _ (List.Mem.tail _ (List.Mem.tail _ (List.Mem.head _)))))))))))))))) | exact List.Mem.tail _ (List.Mem.tail _ (List.Mem.tail _ (List.Mem.tail _ (List.Mem.tail _ (List.Mem.tail _ (List.Mem.tail _ (List.Mem.tail _ (List.Mem.tail _ (List.Mem.tail _ (List.Mem.tail _ (List.Mem.tail _ (List.Mem.tail _ (List.Mem.tail _ (List.Mem.tail _ (List.Mem.tail _ (List.Mem.tail _ (List.Mem.head _))))))))))))))))) | exact List.Mem.tail _ (List.Mem.tail _ (List.Mem.tail _ (List.Mem.tail _ (List.Mem.tail _ (List.Mem.tail _ (List.Mem.tail _ (List.Mem.tail _ (List.Mem.tail _ (List.Mem.tail _ (List.Mem.tail _ (List.Mem.tail _ (List.Mem.tail _ (List.Mem.tail _ (List.Mem.tail _ (List.Mem.tail _ (List.Mem.tail _ (List.Mem.tail _ (List.Mem.head _)))))))))))))))))) | exact List.Mem.tail _ (List.Mem.tail _ (List.Mem.tail _ (List.Mem.tail _ (List.Mem.tail _ (List.Mem.tail _ (List.Mem.tail _ (List.Mem.tail _ (List.Mem.tail _ (List.Mem.tail _ (List.Mem.tail _ (List.Mem.tail _ (List.Mem.tail _ (List.Mem.tail _ (List.Mem.tail _ (List.Mem.tail _ (List.Mem.tail _ (List.Mem.tail _ (List.Mem.tail _ (List.Mem.head _))))))))))))))))))) | exact List.Mem.tail _ (List.Mem.tail _ (List.Mem.tail _ (List.Mem.tail _ (List.Mem.tail _ (List.Mem.tail _ (List.Mem.tail _ (List.Mem.tail _ (List.Mem.tail _ (List.Mem.tail _ (List.Mem.tail _ (List.Mem.tail _ (List.Mem.tail _ (List.Mem.tail _ (List.Mem.tail _ (List.Mem.tail _ (List.Mem.tail _ (List.Mem.tail _ (List.Mem.tail _ (List.Mem.tail _ (List.Mem.head _)))))))))))))))))))) | exact List.Mem.tail _ (List.Mem.tail _ (List.Mem.tail _ (List.Mem.tail _ (List.Mem.tail _ (List.Mem.tail _ (List.Mem.tail _ (List.Mem.tail _ (List.Mem.tail _ (List.Mem.tail _ (List.Mem.tail _ (List.Mem.tail _ (List.Mem.tail _ (List.Mem.tail _ (List.Mem.tail _ (List.Mem.tail _ (List.Mem.tail _ (List.Mem.tail _ (List.Mem.tail _ (List.Mem.tail _ (List.Mem.tail _ (List.Mem.head _))))))))))))))))))))) | exact List.Mem.tail _ (List.Mem.tail _ (List.Mem.tail _ (List.Mem.tail _ (List.Mem.tail _ (List.Mem.tail _ (List.Mem.tail _ (List.Mem.tail _ (List.Mem.tail _ (List.Mem.tail _ (List.Mem.tail _ (List.Mem.tail _ (List.Mem.tail _ (List.Mem.tail _ (List.Mem.tail _ (List.Mem.tail _ (List.Mem.tail _ (List.Mem.tail _ (List.Mem.tail _ (List.Mem.tail _ (List.Mem.tail _ (List.Mem.tail _ (List.Mem.head _)))))))))))))))))))))) | exact List.Mem.tail _ (List.Mem.tail _ (List.Mem.tail _ (List.Mem.tail _ (List.Mem.tail _ (List.Mem.tail _ (List.Mem.tail _ (List.Mem.tail _ (List.Mem.tail _ (List.Mem.tail _ (List.Mem.tail _ (List.Mem.tail _ (List.Mem.tail _ (List.Mem.tail _ (List.Mem.tail _ (List.Mem.tail _ (List.Mem.tail _ (List.Mem.tail _ (List.Mem.tail _ (List.Mem.tail _ (List.Mem.tail _ (List.Mem.tail _ (List.Mem.tail _ (List.Mem.head _))))))))))))))))))))))))
local macro_rules | `(tactic| walk_at "u") => `(tactic| first | exact Upd.here | exact Upd.there (Upd.here) | exact Upd.there (Upd.there (Upd.here)) | exact Upd.there (Upd.there (Upd.there (Upd.here))) | exact Upd.there (Upd.there (Upd.there (Upd.there (Upd.here)))) | exact Upd.there (Upd.there (Upd.there (Upd.there (Upd.there (Upd.here))))) | exact Upd.there (Upd.there (Upd.there (Upd.there (Upd.there (Upd.there (Upd.here)))))) | exact Upd.there (Upd.there (Upd.there (Upd.there (Upd.there (Upd.there (Upd.there (Upd.here))))))) | exact Upd.there (Upd.there (Upd.there (Upd.there (Upd.there (Upd.there (Upd.there (Upd.there (Upd.here)))))))) | exact Upd.there (Upd.there (Upd.there (Upd.there (Upd.there (Upd.there (Upd.there (Upd.there (Upd.there (Upd.here))))))))) | exact Upd.there (Upd.there (Upd.there (Upd.there (Upd.there (Upd.there (Upd.there (Upd.there (Upd.there (Upd.there (Upd.here)))))))))) | exact Upd.there (Upd.there (Upd.there (Upd.there (Upd.there (Upd.there (Upd.there (Upd.there (Upd.there (Upd.there (Upd.there (Upd.here))))))))))) | exact Upd.there (Upd.there (Upd.there (Upd.there (Upd.there (Upd.there (Upd.there (Upd.there (Upd.there (Upd.there (Upd.there (Upd.there (Upd.here)))))))))))) | exact Upd.there (Upd.there (Upd.there (Upd.there (Upd.there (Upd.there (Upd.there (Upd.there (Upd.there (Upd.there (Upd.there (Upd.there (Upd.there (Upd.here))))))))))))) | exact Upd.there (Upd.there (Upd.there (Upd.there (Upd.there (Upd.there (Upd.there (Upd.there (Upd.there (Upd.there (Upd.there (Upd.there (Upd.there (Upd.there (Upd.here)))))))))))))) | exact Upd.there (Upd.there (Upd.there (Upd.there (Upd.there (Upd.there (Upd.there (Upd.there (Upd.there (Upd.there (Upd.there (Upd.there (Upd.there (Upd.there (Upd.there (Upd.here))))))))))))))) | exact Upd.there (Upd.there (Upd.there (Upd.there (Upd.there (Upd.there (Upd.there (Upd.there (Upd.there (Upd.there (Upd.there (Upd.there (Upd.there (Upd.there (Upd.there (Upd.there (Upd.here)))))))))))))))) | exact Upd.there (Upd.there (Upd.there (Upd.there (Upd.there (Upd.there (Upd.there (Upd.there (Upd.there (Upd.there (Upd.there (Upd.there (Upd.there (Upd.there (Upd.there (Upd.there (Upd.there (Upd.here))))))))))))))))) | exact Upd.there (Upd.there (Upd.there (Upd.there (Upd.there (Upd.there (Upd.there (Upd.there (Upd.there (Upd.there (Upd.there (Upd.there (Upd.there (Upd.there (Upd.there (Upd.there (Upd.there (Upd.there (Upd.here)))))))))))))))))) | exact Upd.there (Upd.there (Upd.there (Upd.there (Upd.there (Upd.there (Upd.there (Upd.there (Upd.there (Upd.there (Upd.there (Upd.there (Upd.there (Upd.there (Upd.there (Upd.there (Upd.there (Upd.there (Upd.there (Upd.here))))))))))))))))))) | exact Upd.there (Upd.there (Upd.there (Upd.there (Upd.there (Upd.there (Upd.there (Upd.there (Upd.there (Upd.there (Upd.there (Upd.there (Upd.there (Upd.there (Upd.there (Upd.there (Upd.there (Upd.there (Upd.there (Upd.there (Upd.here)))))))))))))))))))) | exact Upd.there (Upd.there (Upd.there (Upd.there (Upd.there (Upd.there (Upd.there (Upd.there (Upd.there (Upd.there (Upd.there (Upd.there (Upd.there (Upd.there (Upd.there (Upd.there (Upd.there (Upd.there (Upd.there (Upd.there (Upd.there (Upd.here))))))))))))))))))))) | exact Upd.there (Upd.there (Upd.there (Upd.there (Upd.there (Upd.there (Upd.there (Upd.there (Upd.there (Upd.there (Upd.there (Upd.there (Upd.there (Upd.there (Upd.there (Upd.there (Upd.there (Upd.there (Upd.there (Upd.there (Upd.there (Upd.there (Upd.here)))))))))))))))))))))) | exact Upd.there (Upd.there (Upd.there (Upd.there (Upd.there (Upd.there (Upd.there (Upd.there (Upd.there (Upd.there (Upd.there (Upd.there (Upd.there (Upd.there (Upd.there (Upd.there (Upd.there (Upd.there (Upd.there (Upd.there (Upd.there (Upd.there (Upd.there (Upd.here))))))))))))))))))))))))
local macro_rules | `(tactic| walk_at "ul") => `(tactic| first | exact UpdL.here | exact UpdL.there (UpdL.here) | exact UpdL.there (UpdL.there (UpdL.here)) | exact UpdL.there (UpdL.there (UpdL.there (UpdL.here))) | exact UpdL.there (UpdL.there (UpdL.there (UpdL.there (UpdL.here)))) | exact UpdL.there (UpdL.there (UpdL.there (UpdL.there (UpdL.there (UpdL.here))))) | exact UpdL.there (UpdL.there (UpdL.there (UpdL.there (UpdL.there (UpdL.there (UpdL.here)))))) | exact UpdL.there (UpdL.there (UpdL.there (UpdL.there (UpdL.there (UpdL.there (UpdL.there (UpdL.here))))))) | exact UpdL.there (UpdL.there (UpdL.there (UpdL.there (UpdL.there (UpdL.there (UpdL.there (UpdL.there (UpdL.here)))))))) | exact UpdL.there (UpdL.there (UpdL.there (UpdL.there (UpdL.there (UpdL.there (UpdL.there (UpdL.there (UpdL.there (UpdL.here))))))))) | exact UpdL.there (UpdL.there (UpdL.there (UpdL.there (UpdL.there (UpdL.there (UpdL.there (UpdL.there (UpdL.there (UpdL.there (UpdL.here)))))))))) | exact UpdL.there (UpdL.there (UpdL.there (UpdL.there (UpdL.there (UpdL.there (UpdL.there (UpdL.there (UpdL.there (UpdL.there (UpdL.there (UpdL.here))))))))))) | exact UpdL.there (UpdL.there (UpdL.there (UpdL.there (UpdL.there (UpdL.there (UpdL.there (UpdL.there (UpdL.there (UpdL.there (UpdL.there (UpdL.there (UpdL.here)))))))))))) | exact UpdL.there (UpdL.there (UpdL.there (UpdL.there (UpdL.there (UpdL.there (UpdL.there (UpdL.there (UpdL.there (UpdL.there (UpdL.there (UpdL.there (UpdL.there (UpdL.here))))))))))))))
local macro_rules | `(tactic| walk_at "d") => `(tactic| first | exact Del.here | exact Del.there (Del.here) | exact Del.there (Del.there (Del.here)) | exact Del.there (Del.there (Del.there (Del.here))) | exact Del.there (Del.there (Del.there (Del.there (Del.here)))) | exact Del.there (Del.there (Del.there (Del.there (Del.there (Del.here))))) | exact Del.there (Del.there (Del.there (Del.there (Del.there (Del.there (Del.here)))))) | exact Del.there (Del.there (Del.there (Del.there (Del.there (Del.there (Del.there (Del.here))))))) | exact Del.there (Del.there (Del.there (Del.there (Del.there (Del.there (Del.there (Del.there (Del.here)))))))) | exact Del.there (Del.there (Del.there (Del.there (Del.there (Del.there (Del.there (Del.there (Del.there (Del.here))))))))) | exact Del.there (Del.there (Del.there (Del.there (Del.there (Del.there (Del.there (Del.there (Del.there (Del.there (Del.here)))))))))) | exact Del.there (Del.there (Del.there (Del.there (Del.there (Del.there (Del.there (Del.there (Del.there (Del.there (Del.there (Del.here))))))))))) | exact Del.there (Del.there (Del.there (Del.there (Del.there (Del.there (Del.there (Del.there (Del.there (Del.there (Del.there (Del.there (Del.here)))))))))))) | exact Del.there (Del.there (Del.there (Del.there (Del.there (Del.there (Del.there (Del.there (Del.there (Del.there (Del.there (Del.there (Del.there (Del.here))))))))))))) | exact Del.there (Del.there (Del.there (Del.there (Del.there (Del.there (Del.there (Del.there (Del.there (Del.there (Del.there (Del.there (Del.there (Del.there (Del.here)))))))))))))) | exact Del.there (Del.there (Del.there (Del.there (Del.there (Del.there (Del.there (Del.there (Del.there (Del.there (Del.there (Del.there (Del.there (Del.there (Del.there (Del.here))))))))))))))) | exact Del.there (Del.there (Del.there (Del.there (Del.there (Del.there (Del.there (Del.there (Del.there (Del.there (Del.there (Del.there (Del.there (Del.there (Del.there (Del.there (Del.here)))))))))))))))) | exact Del.there (Del.there (Del.there (Del.there (Del.there (Del.there (Del.there (Del.there (Del.there (Del.there (Del.there (Del.there (Del.there (Del.there (Del.there (Del.there (Del.there (Del.here))))))))))))))))) | exact Del.there (Del.there (Del.there (Del.there (Del.there (Del.there (Del.there (Del.there (Del.there (Del.there (Del.there (Del.there (Del.there (Del.there (Del.there (Del.there (Del.there (Del.there (Del.here)))))))))))))))))) | exact Del.there (Del.there (Del.there (Del.there (Del.there (Del.there (Del.there (Del.there (Del.there (Del.there (Del.there (Del.there (Del.there (Del.there (Del.there (Del.there (Del.there (Del.there (Del.there (Del.here))))))))))))))))))) | exact Del.there (Del.there (Del.there (Del.there (Del.there (Del.there (Del.there (Del.there (Del.there (Del.there (Del.there (Del.there (Del.there (Del.there (Del.there (Del.there (Del.there (Del.there (Del.there (Del.there (Del.here)))))))))))))))))))) | exact Del.there (Del.there (Del.there (Del.there (Del.there (Del.there (Del.there (Del.there (Del.there (Del.there (Del.there (Del.there (Del.there (Del.there (Del.there (Del.there (Del.there (Del.there (Del.there (Del.there (Del.there (Del.here))))))))))))))))))))) | exact Del.there (Del.there (Del.there (Del.there (Del.there (Del.there (Del.there (Del.there (Del.there (Del.there (Del.there (Del.there (Del.there (Del.there (Del.there (Del.there (Del.there (Del.there (Del.there (Del.there (Del.there (Del.there (Del.here)))))))))))))))))))))) | exact Del.there (Del.there (Del.there (Del.there (Del.there (Del.there (Del.there (Del.there (Del.there (Del.there (Del.there (Del.there (Del.there (Del.there (Del.there (Del.there (Del.there (Del.there (Del.there (Del.there (Del.there (Del.there (Del.there (Del.here))))))))))))))))))))))))
local macro_rules | `(tactic| walk_at "s") => `(tactic| repeat (first | exact List.Sublist.refl _ | exact List.nil_sublist _ | refine List.Sublist.cons_cons _ ?_ | refine List.Sublist.cons _ ?_))
section
variable {C : Cx} {A : Around} {S : St} {E : Value → Shared → Prop} {s : Shared}
theorem named_sub (a b : Value) : Builtin.Re.reNamed "re.Pattern.sub" "sub" ["repl", "string", "count"] 2 [a, b] [] = pure [some a, some b, none] := rfl
theorem fn_call : ∃ v, typeLookup (.type "function") "__call__" = pure (some v) := ⟨.builtin "function.__call__", by rw [typeLookup_type, builtinLookup_eq_fast]; kernel_rfl⟩
theorem str_bytearray : isSubtype (.type "str") (.type "bytearray") = pure false := by rw [isSubtype_type]; kernel_rfl
/-- CS_ESCAPE.sub(lambda, text) -/
theorem W.patSub {x : List Nat} {t : Tok} {lam : Addr} {fd : FuncData} {out : List (List Nat)} {k : Nat} {Q : Value → St → Prop} (B : Base C) (hx : x.length ≤ 50) (hlm : (lam, .fn fd) ∈ S)
    (hlam : ∀ mo tp li a b X, (mo, .obj (matchObj x t li tp)) ∈ X ++ S → (tp, .obj (tupObj [rawInt (a : Nat), rawInt (b : Nat)])) ∈ X ++ S → ∀ {Q : Value → St → Prop} {E : Value → Shared → Prop}, (∀ t', Q (.str (mk (92 :: csSl x a b)) t') (X ++ S)) → W C A.in1 (X ++ S) (call (.ref lam) [.ref mo]) Q E)
    (hrun : csRun k x 0 0 false [] = some out) (hk : k ≤ 50) (hout : (out.map List.length).sum ≤ 1000) (h : ∀ t', Q (.str (mk out.flatten) t') S) : W C A S (call (.builtin "re.Pattern.sub") [.ref 43, .ref lam, .str (mk x) t]) Q E := .intro fun s G => by
  have e1 := G.keep _ _ (B.frag _ _ (oPat.2 _))
  refine wpAny_call (codeAny_call_builtin slot_sub.plain entry_sub (slot_sub.check _ _ _ _ _ _ _ _ ⟨_, e1, rfl⟩ (args_sub _ _ _) ?_))
  show wpAny _ A.in1 (Builtin.Re.reSubstitute "re.Pattern.sub" "sub" false _) _ _ s
  unfold Builtin.Re.reSubstitute
  dsimp only
  rw [named_sub]
  refine wpAny_bind (wpAny_pure ?_)
  dsimp only
  refine wpAny_bind (wpAny_pure ?_)
  obtain ⟨cv, hcv⟩ := fn_call
  have e2 := (G.sat _ hlm).2.2.1
  refine wpAny_bind (wpAny_specialOf ⟨_, e2, rfl⟩ hcv ?_)
  rw [if_pos (show (some cv).isSome = true from rfl)]
  refine wpAny_bind (wpAny_pure ?_)
  rw [if_pos (show (some cv).isSome = true from rfl)]
  refine wpAny_bind (wpAny_pure ?_)
  dsimp only
  refine wpAny_bind (wpAny_holding (wpAny_mono ((W.target (A := A.in1) (Q := fun _ S' => S' = S) (E := fun _ _ => False) B rfl).1 s (G.around rfl)) (fun r s' ⟨S', G', hS⟩ => ?_) fun _ _ x => x.elim))
  subst hS
  rw [if_pos (show ((1 : Int) == 1) = true from rfl)]
  unfold Builtin.Re.reNotHeld
  refine wpAny_bind (wpAny_bind (wpAny_isInstance (typeIs_str _ _ _) str_bytearray ?_))
  rw [if_neg (by decide)]
  refine wpAny_pure ?_
  refine wpAny_bind (wpAny_newObj_type ?_ (by size_fits))
  have G1 : Good C A ((s'.heap.objs.size, .list []) :: S') { s' with heap := s'.heap.push { cls := .type "list", data := .seq ([] : List Value).toArray } } :=
    (G'.around rfl : Good C A S' s').new (c := .list []) (fun b o e => Heap.get?_push_of_some _ e) (fresh_none _) ⟨0, Heap.get?_push_size _ rfl⟩ rfl G'.gens
  refine wpAny_pure ⟨plainId_quiet plain_loop _, ?_⟩
  exact csLoop B hx hlam hout (fun s₂ t' G₂ => ⟨S', G₂, h t'⟩) k 0 0 false [] [] 0 _ hrun .nil (by simp; omega) G1
end
end Mine
-- part C10
namespace Mine
open PySem PySem.Calls PySem.W PyProof.Rows
local macro_rules | `(tactic| walk_at "m") => `(tactic| first | exact List.Mem.head _ | exact List.Mem.tail _ (List.Mem.head _) | exact List.Mem.tail _ (List.Mem.tail _ (List.Mem.head _)) | exact List.Mem.tail _ (List.Mem.tail _ (List.Mem.tail _ (List.Mem.head _))) | exact List.Mem.tail _ (List.Mem.tail _ (List.Mem.tail _ (List.Mem.tail _ (List.Mem.head _)))) | exact List.Mem.tail _ (List.Mem.tail _ (List.Mem.tail _ (List.Mem.tail _ (List.Mem.tail _ (List.Mem.head _))))) | exact List.Mem.tail _ (List.Mem.tail _ (List.Mem.tail _ (List.Mem.tail _ (List.Mem.tail _ (List.Mem.tail _ (List.Mem.head _)))))) | exact List.Mem.tail _ (List.Mem.tail _ (List.Mem.tail _ (List.Mem.tail _ (List.Mem.tail _ (List.Mem.tail _ (List.Mem.tail _ (List.Mem.head _))))))) | exact List.Mem.tail _ (List.Mem.tail _ (List.Mem.tail _ (List.Mem.tail _ (List.Mem.tail _ (List.Mem.tail _ (List.Mem.tail _ (List.Mem.tail _ (List.Mem.head _)))))))) | exact List.Mem.tail _ (List.Mem.tail _ (List.Mem.tail _ (List.Mem.tail _ (List.Mem.tail _ (List.Mem.tail _ (List.Mem.tail _ (List.Mem.tail _ (List.Mem.tail _ (List.Mem.head _))))))))) | exact List.Mem.tail _ (List.Mem.tail _ (List.Mem.tail _ (List.Mem.tail _ (List.Mem.tail _ (List.Mem.tail _ (List.Mem.tail _ (List.Mem.tail _ (List.Mem.tail _ (List.Mem.tail _ (List.Mem.head _)))))))))) | exact List.Mem.tail _ (List.Mem.tail _ (List.Mem.tail _ (List.Mem.tail _ (List.Mem.tail _ (List.Mem.tail _ (List.Mem.tail _ (List.Mem.tail _ (List.Mem.tail _ (List.Mem.tail _ (List.Mem.tail _ (List.Mem.head _))))))))))) | exact List.Mem.tail _ (List.Mem.tail _ (List.Mem.tail _ (List.Mem.tail _ (List.Mem.tail _ (List.Mem.tail _ (List.Mem.tail _ (List.Mem.tail _ (List.Mem.tail _ (List.Mem.tail _ (List.Mem.tail _ (List.Mem.tail _ (List.Mem.head _)))))))))))) | exact List.Mem.tail _ (List.Mem.tail _ (List.Mem.tail _ (List.Mem.tail _ (List.Mem.tail _ (List.Mem.tail _ (List.Mem.tail _ (List.Mem.tail _ (List.Mem.tail _ (List.Mem.tail _ (List.Mem.tail _ (List.Mem.tail _ (List.Mem.tail _ (List.Mem.head _))))))))))))) | exact List.Mem.tail _ (List.Mem.tail _ (List.Mem.tail _ (List.Mem.tail _ (List.Mem.tail _ (List.Mem.tail _ (List.Mem.tail _ (List.Mem.tail _ (List.Mem.tail _ (List.Mem.tail _ (List.Mem.tail _ (List.Mem.tail _ (List.Mem.tail _ (List.Mem.tail _ (List.Mem.head _)))))))))))))) | exact List.Mem.tail _ (List.Mem.tail _ (List.Mem.tail _ (List.Mem.tail _ (List.Mem.tail _ (List.Mem.tail _ (List.Mem.tail _ (List.Mem.tail _ (List.Mem.tail _ (List.Mem.tail _ (List.Mem.tail _ (List.Mem.tail _ (List.Mem.tail _ (List.Mem.tail _ (List.Mem.tail _ (List.Mem.head _))))))))))))))) | exact List.Mem.tail _ (List.Mem.tail _ (List.Mem.tail _ (List.Mem.tail _ (List.Mem.tail _ (List.Mem.tail _ (List.Mem.tail _ (List.Mem.tail _ (List.Mem.tail _ (List.Mem.tail _ (List.Mem.tail _ (List.Mem.tail _ (List.Mem.tail _ (List.Mem.tail _ (List.Mem.tail _ (List.Mem.tail _ (List.Mem.head _)))))))))))))))) | exact List.Mem.tail _ (List.Mem.tail _ (List.Mem.tail _ (List.Mem.tail _ (List.Mem.tail _ (List.Mem.tail _ (List.Mem.tail _ (List.Mem.tail _ (List.Mem.tail _ (List.Mem.tail _ (List.Mem.tail _ (List.Mem.tail _ (List.Mem.tail _ (List.Mem.tail _ (List.Mem.tail _ (List.Mem.tail _ (List.Mem.tail _ (List.Mem.head _))))))))))))))))) | exact List.Mem.tail _ (List.Mem.tail _ (List.Mem.tail _ (List.Mem.tail _ (List.Mem.tail _ (List.Mem.tail _ (List.Mem.tail _ (List.Mem.tail _ (List.Mem.tail _ (List.Mem.tail _ (List.Mem.tail _ (List.Mem.tail _ (List.Mem.tail _ (List.Mem.tail _ (List.Mem.tail _ (List.Mem.tail _ (List.Mem.tail _ (List.Mem.tail _ (List.Mem.head _)))))))))))))))))) | exact List.Mem.tail _ (List.Mem.tail _ (List.Mem.tail _ (List.Mem.tail _ (List.Mem.tail _ (List.Mem.tail _ (List.Mem.tail _ (List.Mem.tail _ (List.Mem.tail _ (List.Mem.tail _ (List.Mem.tail _ (List.Mem.tail _ (List.Mem.tail _ (List.Mem.tail _ (List.Mem.tail _ (List.Mem.tail _ (List.Mem.tail _ (List.Mem.tail _ (List.Mem.tail _ (List.Mem.head _))))))))))))))))))) | exact List.Mem.tail _ (List.Mem.tail _ (List.Mem.tail _ (List.Mem.tail _ (List.Mem.tail _ (List.Mem.tail _ (List.Mem.tail _ (List.Mem.tail _ (List.Mem.tail _ (List.Mem.tail _ (List.Mem.tail _ (List.Mem.tail _ (List.Mem.tail _ (List.Mem.tail _ (List.Mem.tail _ (List.Mem.tail _ (List.Mem.tail _ (List.Mem.tail _ (List.Mem.tail _ (List.Mem.tail _ (List.Mem.head _)))))))))))))))))))) | exact List.Mem.tail _ (List.Mem.tail _ (List.Mem.tail _ (List.Mem.tail _ (List.Mem.tail _ (List.Mem.tail _ (List.Mem.tail _ (List.Mem.tail _ (List.Mem.tail _ (List.Mem.tail _ (List.Mem.tail _ (List.Mem.tail _ (List.Mem.tail _ (List.Mem.tail _ (List.Mem.tail _ (List.Mem.tail _ (List.Mem.tail _ (List.Mem.tail _ (List.Mem.tail _ (List.Mem.tail _ (List.Mem.tail _ (List.Mem.head _))))))))))))))))))))) | exact List.Mem.tail _ (List.Mem.tail _ (List.Mem.tail _ (List.Mem.tail _ (List.Mem.tail _ (List.Mem.tail _ (List.Mem.tail _ (List.Mem.tail _ (List.Mem.tail _ (List.Mem.tail _ (List.Mem.tail _ (List.Mem.tail _ (List.Mem.tail _ (List.Mem.tail _ (List.Mem.tail _ (List.Mem.tail _ (List.Mem.tail _ (List.Mem.tail _ (List.Mem.tail _ (List.Mem.tail _ (List.Mem.tail _ (List.Mem.tail _ (List.Mem.head _)))))))))))))))))))))) | exact List.Mem.tail _ (List.Mem.tail _ (List.Mem.tail _ (List.Mem.tail _ (List.Mem.tail _ (List.Mem.tail _ (List.Mem.tail _ (List.Mem.tail _ (List.Mem.tail _ (List.Mem.tail _ (List.Mem.tail _ (List.Mem.tail _ (List.Mem.tail _ (List.Mem.tail _ (List.Mem.tail _ (List.Mem.tail _ (List.Mem.tail _ (List.Mem.tail _ (List.Mem.tail _ (List.Mem.tail _ (List.Mem.tail _ (List.Mem.tail _ (List.Mem.tail _ (List.Mem.head _))))))))))))))))))))))))
local macro_rules | `(tactic| walk_at "u") => `(tactic| first | exact Upd.here | exact Upd.there (Upd.here) | exact Upd.there (Upd.there (Upd.here)) | exact Upd.there (Upd.there (Upd.there (Upd.here))) | exact Upd.there (Upd.there (Upd.there (Upd.there (Upd.here)))) | exact Upd.there (Upd.there (Upd.there (Upd.there (Upd.there (Upd.here))))) | exact Upd.there (Upd.there (Upd.there (Upd.there (Upd.there (Upd.there (Upd.here)))))) | exact Upd.there (Upd.there (Upd.there (Upd.there (Upd.there (Upd.there (Upd.there (Upd.here))))))) | exact Upd.there (Upd.there (Upd.there (Upd.there (Upd.there (Upd.there (Upd.there (Upd.there (Upd.here)))))))) | exact Upd.there (Upd.there (Upd.there (Upd.there (Upd.there (Upd.there (Upd.there (Upd.there (Upd.there (Upd.here))))))))) | exact Upd.there (Upd.there (Upd.there (Upd.there (Upd.there (Upd.there (Upd.there (Upd.there (Upd.there (Upd.there (Upd.here)))))))))) | exact Upd.there (Upd.there (Upd.there (Upd.there (Upd.there (Upd.there (Upd.there (Upd.there (Upd.there (Upd.there (Upd.there (Upd.here))))))))))) | exact Upd.there (Upd.there (Upd.there (Upd.there (Upd.there (Upd.there (Upd.there (Upd.there (Upd.there (Upd.there (Upd.there (Upd.there (Upd.here)))))))))))) | exact Upd.there (Upd.there (Upd.there (Upd.there (Upd.there (Upd.there (Upd.there (Upd.there (Upd.there (Upd.there (Upd.there (Upd.there (Upd.there (Upd.here))))))))))))) | exact Upd.there (Upd.there (Upd.there (Upd.there (Upd.there (Upd.there (Upd.there (Upd.there (Upd.there (Upd.there (Upd.there (Upd.there (Upd.there (Upd.there (Upd.here)))))))))))))) | exact Upd.there (Upd.there (Upd.there (Upd.there (Upd.there (Upd.there (Upd.there (Upd.there (Upd.there (Upd.there (Upd.there (Upd.there (Upd.there (Upd.there (Upd.there (Upd.here))))))))))))))) | exact Upd.there (Upd.there (Upd.there (Upd.there (Upd.there (Upd.there (Upd.there (Upd.there (Upd.there (Upd.there (Upd.there (Upd.there (Upd.there (Upd.there (Upd.there (Upd.there (Upd.here)))))))))))))))) | exact Upd.there (Upd.there (Upd.there (Upd.there (Upd.there (Upd.there (Upd.there (Upd.there (Upd.there (Upd.there (Upd.there (Upd.there (Upd.there (Upd.there (Upd.there (Upd.there (Upd.there (Upd.here))))))))))))))))) | exact Upd.there (Upd.there (Upd.there (Upd.there (Upd.there (Upd.there (Upd.there (Upd.there (Upd.there (Upd.there (Upd.there (Upd.there (Upd.there (Upd.there (Upd.there (Upd.there (Upd.there (Upd.there (Upd.here)))))))))))))))))) | exact Upd.there (Upd.there (Upd.there (Upd.there (Upd.there (Upd.there (Upd.there (Upd.there (Upd.there (Upd.there (Upd.there (Upd.there (Upd.there (Upd.there (Upd.there (Upd.there (Upd.there (Upd.there (Upd.there (Upd.here))))))))))))))))))) | exact Upd.there (Upd.there (Upd.there (Upd.there (Upd.there (Upd.there (Upd.there (Upd.there (Upd.there (Upd.there (Upd.there (Upd.there (Upd.there (Upd.there (Upd.there (Upd.there (Upd.there (Upd.there (Upd.there (Upd.there (Upd.here)))))))))))))))))))) | exact Upd.there (Upd.there (Upd.there (Upd.there (Upd.there (Upd.there (Upd.there (Upd.there (Upd.there (Upd.there (Upd.there (Upd.there (Upd.there (Upd.there (Upd.there (Upd.there (Upd.there (Upd.there (Upd.there (Upd.there (Upd.there (Upd.here))))))))))))))))))))) | exact Upd.there (Upd.there (Upd.there (Upd.there (Upd.there (Upd.there (Upd.there (Upd.there (Upd.there (Upd.there (Upd.there (Upd.there (Upd.there (Upd.there (Upd.there (Upd.there (Upd.there (Upd.there (Upd.there (Upd.there (Upd.there (Upd.there (Upd.here)))))))))))))))))))))) | exact Upd.there (Upd.there (Upd.there (Upd.there (Upd.there (Upd.there (Upd.there (Upd.there (Upd.there (Upd.there (Upd.there (Upd.there (Upd.there (Upd.there (Upd.there (Upd.there (Upd.there (Upd.there (Upd.there (Upd.there (Upd.there (Upd.there (Upd.there (Upd.here))))))))))))))))))))))))
local macro_rules | `(tactic| walk_at "ul") => `(tactic| first | exact UpdL.here | exact UpdL.there (UpdL.here) | exact UpdL.there (UpdL.there (UpdL.here)) | exact UpdL.there (UpdL.there (UpdL.there (UpdL.here))) | exact UpdL.there (UpdL.there (UpdL.there (UpdL.there (UpdL.here)))) | exact UpdL.there (UpdL.there (UpdL.there (UpdL.there (UpdL.there (UpdL.here))))) | exact UpdL.there (UpdL.there (UpdL.there (UpdL.there (UpdL.there (UpdL.there (UpdL.here)))))) | exact UpdL.there (UpdL.there (UpdL.there (UpdL.there (UpdL.there (UpdL.there (UpdL.there (UpdL.here))))))) | exact UpdL.there (UpdL.there (UpdL.there (UpdL.there (UpdL.there (UpdL.there (UpdL.there (UpdL.there (UpdL.here)))))))) | exact UpdL.there (UpdL.there (UpdL.there (UpdL.there (UpdL.there (UpdL.there (UpdL.there (UpdL.there (UpdL.there (UpdL.here))))))))) | exact UpdL.there (UpdL.there (UpdL.there (UpdL.there (UpdL.there (UpdL.there (UpdL.there (UpdL.there (UpdL.there (UpdL.there (UpdL.here)))))))))) | exact UpdL.there (UpdL.there (UpdL.there (UpdL.there (UpdL.there (UpdL.there (UpdL.there (UpdL.there (UpdL.there (UpdL.there (UpdL.there (UpdL.here))))))))))) | exact UpdL.there (UpdL.there (UpdL.there (UpdL.there (UpdL.there (UpdL.there (UpdL.there (UpdL.there (UpdL.there (UpdL.there (UpdL.there (UpdL.there (UpdL.here)))))))))))) | exact UpdL.there (UpdL.there (UpdL.there (UpdL.there (UpdL.there (UpdL.there (UpdL.there (UpdL.there (UpdL.there (UpdL.there (UpdL.there (UpdL.there (UpdL.there (UpdL.here))))))))))))))
local macro_rules | `(tactic| walk_at "d") => `(tactic| first | exact Del.here | exact Del.there (Del.here) | exact Del.there (Del.there (Del.here)) | exact Del.there (Del.there (Del.there (Del.here))) | exact Del.there (Del.there (Del.there (Del.there (Del.here)))) | exact Del.there (Del.there (Del.there (Del.there (Del.there (Del.here))))) | exact Del.there (Del.there (Del.there (Del.there (Del.there (Del.there (Del.here)))))) | exact Del.there (Del.there (Del.there (Del.there (Del.there (Del.there (Del.there (Del.here))))))) | exact Del.there (Del.there (Del.there (Del.there (Del.there (Del.there (Del.there (Del.there (Del.here)))))))) | exact Del.there (Del.there (Del.there (Del.there (Del.there (Del.there (Del.there (Del.there (Del.there (Del.here))))))))) | exact Del.there (Del.there (Del.there (Del.there (Del.there (Del.there (Del.there (Del.there (Del.there (Del.there (Del.here)))))))))) | exact Del.there (Del.there (Del.there (Del.there (Del.there (Del.there (Del.there (Del.there (Del.there (Del.there (Del.there (Del.here))))))))))) | exact Del.there (Del.there (Del.there (Del.there (Del.there (Del.there (Del.there (Del.there (Del.there (Del.there (Del.there (Del.there (Del.here)))))))))))) | exact Del.there (Del.there (Del.there (Del.there (Del.there (Del.there (Del.there (Del.there (Del.there (Del.there (Del.there (Del.there (Del.there (Del.here))))))))))))) | exact Del.there (Del.there (Del.there (Del.there (Del.there (Del.there (Del.there (Del.there (Del.there (Del.there (Del.there (Del.there (Del.there (Del.there (Del.here)))))))))))))) | exact Del.there (Del.there (Del.there (Del.there (Del.there (Del.there (Del.there (Del.there (Del.there (Del.there (Del.there (Del.there (Del.there (Del.there (Del.there (Del.here))))))))))))))) | exact Del.there (Del.there (Del.there (Del.there (Del.there (Del.there (Del.there (Del.there (Del.there (Del.there (Del.there (Del.there (Del.there (Del.there (Del.there (Del.there (Del.here)))))))))))))))) | exact Del.there (Del.there (Del.there (Del.there (Del.there (Del.there (Del.there (Del.there (Del.there (Del.there (Del.there (Del.there (Del.there (Del.there (Del.there (Del.there (Del.there (Del.here))))))))))))))))) | exact Del.there (Del.there (Del.there (Del.there (Del.there (Del.there (Del.there (Del.there (Del.there (Del.there (Del.there (Del.there (Del.there (Del.there (Del.there (Del.there (Del.there (Del.there (Del.here)))))))))))))))))) | exact Del.there (Del.there (Del.there (Del.there (Del.there (Del.there (Del.there (Del.there (Del.there (Del.there (Del.there (Del.there (Del.there (Del.there (Del.there (Del.there (Del.there (Del.there (Del.there (Del.here))))))))))))))))))) | exact Del.there (Del.there (Del.there (Del.there (Del.there (Del.there (Del.there (Del.there (Del.there (Del.there (Del.there (Del.there (Del.there (Del.there (Del.there (Del.there (Del.there (Del.there (Del.there (Del.there (Del.here)))))))))))))))))))) | exact Del.there (Del.there (Del.there (Del.there (Del.there (Del.there (Del.there (Del.there (Del.there (Del.there (Del.there (Del.there (Del.there (Del.there (Del.there (Del.there (Del.there (Del.there (Del.there (Del.there (Del.there (Del.here))))))))))))))))))))) | exact Del.there (Del.there (Del.there (Del.there (Del.there (Del.there (Del.there (Del.there (Del.there (Del.there (Del.there (Del.there (Del.there (Del.there (Del.there (Del.there (Del.there (Del.there (Del.there (Del.there (Del.there (Del.there (Del.here)))))))))))))))))))))) | exact Del.there (Del.there (Del.there (Del.there (Del.there (Del.there (Del.there (Del.there (Del.there (Del.there (Del.there (Del.there (Del.there (Del.there (Del.there (Del.there (Del.there (Del.there (Del.there (Del.there (Del.there (Del.there (Del.there (Del.here))))))))))))))))))))))))
local macro_rules | `(tactic| walk_at "s") => `(tactic| repeat (first | exact List.Sublist.refl _ | exact List.nil_sublist _ | refine List.Sublist.cons_cons _ ?_ | refine List.Sublist.cons _ ?_))
def pLam1 : Pos := ⟨17, 31, 17, 57⟩
def pGen1 : Pos := ⟨141, 51, 141, 79⟩
def pGen2 : Pos := ⟨142, 33, 142, 128⟩
def pLam2 : Pos := ⟨142, 100, 142, 126⟩
def qLam1 : Str := "make_charset.<locals>.<lambda>"
def qLam2 : Str := "regex_opt_inner.<locals>.<lambda>"
def qGen : Str := "regex_opt_inner.<locals>.<genexpr>"
def tabsL : List (Addr × List (Pos × Str)) := [(52, [(pLam1, qLam1)]), (176, [(pGen1, qGen), (pGen2, qGen), (pLam2, qLam2)])]
structure Base2 (C : Cx) : Prop extends Base C where
  hb : HasBuiltins C
  tb : C.tabs = tabsL
  h56 : CodeHd C.base 56 52
  h178 : CodeHd C.base 178 176
theorem tabs_own {P : Addr} {pos : Pos} {qual : Str} (h : (tabsL.all fun x => x.1 != P || x.2.all fun y => y.1.line != pos.line || y.1.col != pos.col || y.2 == qual) = true) : ∀ x ∈ tabsL, x.1 = P → ∀ y ∈ x.2, y.1.line = pos.line → y.1.col = pos.col → y.2 = qual := by
  intro x hx h1 y hy h2 h3
  have := List.all_eq_true.mp h x hx
  simp only [h1, bne_self_eq_false, Bool.false_or] at this
  have := List.all_eq_true.mp this y hy
  simp only [h2, h3, bne_self_eq_false, Bool.false_or] at this
  exact eq_of_beq this
section
variable {C : Cx} {A : Around} {S : St} {E : Value → Shared → Prop} {s : Shared}
theorem Base2.lam1 (B : Base2 C) : Host C 56 52 pLam1 qLam1 := ⟨B.h56, ⟨_, by rw [B.tb]; exact .head _, .head _⟩, by rw [B.tb]; exact tabs_own (by decide)⟩
theorem Base2.gen1 (B : Base2 C) : Host C 178 176 pGen1 qGen := ⟨B.h178, ⟨_, by rw [B.tb]; exact .tail _ (.head _), .head _⟩, by rw [B.tb]; exact tabs_own (by decide)⟩
theorem Base2.gen2 (B : Base2 C) : Host C 178 176 pGen2 qGen := ⟨B.h178, ⟨_, by rw [B.tb]; exact .tail _ (.head _), .tail _ (.head _)⟩, by rw [B.tb]; exact tabs_own (by decide)⟩
theorem Base2.lam2 (B : Base2 C) : Host C 178 176 pLam2 qLam2 := ⟨B.h178, ⟨_, by rw [B.tb]; exact .tail _ (.head _), .tail _ (.tail _ (.head _))⟩, by rw [B.tb]; exact tabs_own (by decide)⟩
theorem W.lam {env : Env} {qual : Str} {params : Arguments} {body : Expr} {scope : Scope} {c P : Addr} {pos : Pos} {clos : List (Str × Addr)} {Q : Value → St → Prop} (H : Host C c P pos qual) (HB : HasBuiltins C) (hcode : env.code = .ref c) (hcl : closureFor scope env = Pure.pure clos) (hge0 : env.globals = mainGlobals) (hnP : P ≠ mainGlobals)
    (h : ∀ f fd, fd.params = params → fd.body = .expr body → fd.scope = scope → fd.closure = clos → fd.globals = mainGlobals → fd.builtins = builtinsNs → fd.qualname = qual → fd.defaults = .none → fd.kwdefaults = .none → Q (.ref f) ((f, .fn fd) :: S))
    (hdef : defaultsOf params env = ([], []) := by rfl) (hq : env.qual ++ "<lambda>" = qual := by rfl) : W C A S (eval (.Lambda params body scope pos) env) Q E := .intro fun s G => by
  refine kla_eval hdef ?_
  rw [hq]
  unfold makeFunction
  simp only [List.zip_nil_right, List.filterMap_nil, List.isEmpty_nil, if_true, pure_bind]
  exact (W.lambda (name := "<lambda>") (firstLine := pos.line) H HB hcode hcl hge0 hnP h).1 s G
/-- the texts that make_charset meets -/
def signs : List Nat := [94, 93, 45, 92, 124, 63, 40, 99]
def csTexts : List (List Nat) := signs.flatMap fun z => if z < 97 then [[97, 98], [z, 97], [z, 98], [z, 97, 98]] else [[97, 98], [97, z], [98, z], [97, 98, z]]
def esc2 (c : Nat) : List Nat := if c == 45 || (91 ≤ c && c ≤ 94) then [92, c] else [c]
theorem cs_all : (csTexts.all fun x => match csRun 10 x 0 0 false [] with | some out => out.flatten == x.flatMap esc2 && decide ((out.map List.length).sum ≤ 1000) && decide (x.length ≤ 50) && decide ((x.flatMap esc2).length ≤ 50) | none => false) = true := by kernel_rfl
theorem fCharset (B : Base C) : FnIs C 57 xCharset.1 := B.fn xCharset fun P => ⟨_, _, _, _, rfl, rfl, rfl, rfl⟩
theorem gCharset (B : Base C) : GlobalIs C (Str.ofString "make_charset") (.ref 57) := B.glob (by intro P; kernel_rfl)
theorem gCsEsc (B : Base C) : GlobalIs C (Str.ofString "CS_ESCAPE") (.ref 43) := B.glob (by intro P; kernel_rfl)
/-- make_charset -/
theorem W.charset {l : Addr} {vs : List Value} {ls : List (List Nat)} {Q : Value → St → Prop} (B : Base2 C) (R : Room A 4) (hm : (l, .list vs) ∈ S) (hi : SL vs ls) (hx : ls.flatten ∈ csTexts) (hlen : ls.length ≤ 50)
    (h : ∀ t, Q (.str (mk (91 :: ls.flatten.flatMap esc2 ++ [93])) t) S) : W C A S (call (.ref 57) [.ref l]) Q NoE := by
  have hall := List.all_eq_true.mp cs_all _ hx
  generalize hxx : ls.flatten = x at *
  cases hrun : csRun 10 x 0 0 false [] with
  | none => rw [hrun] at hall; cases hall
  | some out =>
  rw [hrun] at hall
  simp only [Bool.and_eq_true, beq_iff_eq, decide_eq_true_eq] at hall
  obtain ⟨⟨⟨ho, hos⟩, hx50⟩, he50⟩ := hall
  refine .callDef (n := 3) (binds := [(Str.ofString "letters", .ref l)]) [Str.ofString "letters"] [] (fCharset B.toBase) R rfl (fun s G => .of_eq rfl) (by decide) (by decide) (by decide) ?_
  intro L R1
  refine .sCons (.sRet (.binop (.binop (.cStr fun t1 => .callMeth plainAttrs_pat slot_sub type_sub (.glob (gCsEsc B.toBase) ⟨fun s G => ⟨⟨_, G.keep _ _ (B.frag _ _ (oPat.2 _)), rfl⟩, fun a e => ?_⟩, ?_⟩)))))
  · injection e with e; subst e; exact ⟨_, G.keep _ _ (B.frag _ _ (oPat.2 _)), rfl⟩
  refine .withB (first := [.ref 43]) (.itemsCons (.lam B.lam1 B.hb rfl rfl rfl (by decide) fun f fd hp hb hsc hcl hg hbi hq hd hk => ?_))
  refine .itemsCons (.callMeth F.plainAttrs_str F.slot_str_join F.type_str_join (.cStr fun t2 => ⟨fun s G => ⟨typeIs_str _ _ _, fun a e => (by cases e)⟩, .withB (first := [.str (mk []) t2]) (.itemsCons (.name (.tail _ (.head _)) (by walk_at "m") (.itemsNil (.joinL (.tail _ (.tail _ hm)) hi (by rw [← List.length_flatten, hxx]; simp; omega) fun t3 => .itemsNil ?_))))⟩))
  rw [joinM_nil, hxx]
  cases fd
  simp only at hp hb hsc hcl hg hbi hq hd hk
  subst hp hb hsc hcl hg hbi hq hd hk
  refine .patSub (k := 10) (out := out) B.toBase hx50 (.head _) ?_ hrun (by omega) hos fun t4 => ?_
  · intro mo tp li a b X hmo htp Q E hQ
    refine .callLam (n := 1) (binds := [(Str.ofString "m", .ref mo)]) [Str.ofString "m"] (List.mem_append_right _ (.head _)) B.nolimit (R1.in1) rfl rfl (show ∀ x ∈ [(Str.ofString "m", NameKind.local)], x.2 ≠ .cell by decide) (show ∀ x ∈ [Str.ofString "m"], [(Str.ofString "m", NameKind.local)].lookup x = some .local by decide) (by decide) ?_ rfl rfl rfl rfl
    intro L' R2
    refine .binop (.cStr fun t5 => .callMeth plainAttrs_mat slot_group type_group (.name (v := .ref mo) (.head _) (.head _) ⟨fun s G => ⟨⟨_, (G.sat _ (.tail _ hmo)).2.2, rfl⟩, fun a e => ?_⟩, .withB0 (first := [.ref mo]) (.group (.tail _ hmo) (.tail _ htp) (by omega) fun t6 => .addM (x := [92]) (fun t7 => ⟨_, List.sublist_cons_self _ _, hQ t7⟩) ?_)⟩))
    · injection e with e; subst e; exact ⟨_, (G.sat _ (.tail _ hmo)).2.2, rfl⟩
    · simp [csSl]; omega
  · refine .addM (x := [91]) (fun t7 => .cStr fun t8 => .addM (y := [93]) (fun t9 => ⟨S, ?_, ?_⟩) ?_) ?_
    · walk_at "s"
    · rw [ho] at *
      exact h t9
    · simp; omega
    · simp; omega
end
end Mine
-- part P2
namespace Mine
/-- the pattern as a tree -/
inductive Rx where
  | word (w : List Nat)
  | opt (r : Rx)
  | alt (a b : Rx)
  | set (cs : List Nat)
  | pre (p : List Nat) (r : Rx)
  | suf (r : Rx) (s : List Nat)
def opn : List Nat := [40, 63, 58]
def shw : Rx → List Nat
  | .word w => escM w
  | .opt r => opn ++ shw r ++ [41] ++ [63]
  | .alt a b => shw a ++ [124] ++ shw b
  | .set cs => 91 :: cs.flatMap esc2 ++ [93]
  | .pre p r => escM p ++ (opn ++ shw r ++ [41])
  | .suf r s => opn ++ shw r ++ [41] ++ escM s
/-- the longest beginning that all have -/
def lcp : List (List Nat) → List Nat
  | [] => []
  | [x] => x
  | x :: y :: r => cp x (lcp (y :: r))
def insw (w : List Nat) : List (List Nat) → List (List Nat)
  | [] => [w]
  | x :: r => if x < w then x :: insw w r else w :: x :: r
def srt : List (List Nat) → List (List Nat)
  | [] => []
  | w :: r => insw w (srt r)
def mu (ss : List (List Nat)) : Nat := ss.length + (ss.map List.length).sum
def isOne (w : List Nat) : Bool := w.length == 1
def sameHead (first w : List Nat) : Bool := w.head? == first.head?
def rxT : Nat → List (List Nat) → Rx
  | 0, _ => .word []
  | _ + 1, [] => .word []
  | _ + 1, [w] => .word w
  | n + 1, first :: x :: r =>
    let ss := first :: x :: r
    if first = [] then .opt (rxT n (x :: r)) else
    if first.length = 1 ∧ 1 < (ss.filter isOne).length then
      if ss.filter (fun w => !isOne w) ≠ [] then .alt (rxT n (ss.filter fun w => !isOne w)) (.set (ss.filter isOne).flatten) else .set (ss.filter isOne).flatten
    else if lcp ss ≠ [] then .pre (lcp ss) (rxT n (ss.map fun w => w.drop (lcp ss).length))
    else if lcp (ss.map List.reverse) ≠ [] then .suf (rxT n (srt (ss.map fun w => w.take (w.length - (lcp (ss.map List.reverse)).length)))) (lcp (ss.map List.reverse)).reverse
    else .alt (rxT n (ss.filter (sameHead first))) (rxT n (ss.filter fun w => !sameHead first w))
theorem cp_pre_left : ∀ (x y : List Nat), cp x y <+: x
  | [], y => by cases y <;> exact List.nil_prefix
  | a :: x, [] => List.nil_prefix
  | a :: x, b :: y => by
    unfold cp
    split
    · exact List.cons_prefix_cons.mpr ⟨rfl, cp_pre_left x y⟩
    · exact List.nil_prefix
theorem cp_pre_right : ∀ (x y : List Nat), cp x y <+: y
  | [], y => by cases y <;> exact List.nil_prefix
  | a :: x, [] => List.nil_prefix
  | a :: x, b :: y => by
    unfold cp
    split
    · rename_i h; subst h; exact List.cons_prefix_cons.mpr ⟨rfl, cp_pre_right x y⟩
    · exact List.nil_prefix
theorem pre_cp : ∀ (p x y : List Nat), p <+: x → p <+: y → p <+: cp x y
  | [], _, _, _, _ => List.nil_prefix
  | c :: p, [], _, h, _ => by simp at h
  | c :: p, a :: x, [], _, h => by simp at h
  | c :: p, a :: x, b :: y, h1, h2 => by
    rw [List.cons_prefix_cons] at h1 h2
    obtain ⟨rfl, h1⟩ := h1
    obtain ⟨rfl, h2⟩ := h2
    unfold cp
    rw [if_pos rfl]
    exact List.cons_prefix_cons.mpr ⟨rfl, pre_cp p x y h1 h2⟩
theorem lcp_pre : ∀ (ls : List (List Nat)), ∀ w ∈ ls, lcp ls <+: w
  | [], w, h => by cases h
  | [x], w, h => by cases h with | head => exact List.prefix_refl _ | tail _ h => cases h
  | x :: y :: r, w, h => by
    unfold lcp
    cases h with
    | head => exact cp_pre_left _ _
    | tail _ h => exact (cp_pre_right _ _).trans (lcp_pre (y :: r) w h)
theorem pre_lcp : ∀ (ls : List (List Nat)) (p : List Nat), ls ≠ [] → (∀ w ∈ ls, p <+: w) → p <+: lcp ls
  | [], p, h, _ => absurd rfl h
  | [x], p, _, h => h x (.head _)
  | x :: y :: r, p, _, h => by
    unfold lcp
    exact pre_cp _ _ _ (h x (.head _)) (pre_lcp (y :: r) p (by simp) fun w hw => h w (.tail _ hw))
theorem pre_antisymm {a b : List Nat} (h1 : a <+: b) (h2 : b <+: a) : a = b := h1.eq_of_length (Nat.le_antisymm h1.length_le h2.length_le)
/-- between two words that begin alike, all begin alike -/
theorem between : ∀ (p x y w : List Nat), p <+: x → p <+: y → ¬ w < x → ¬ y < w → p <+: w
  | [], _, _, _, _, _, _, _ => List.nil_prefix
  | c :: p, [], _, _, h, _, _, _ => by simp at h
  | c :: p, _ :: _, [], _, _, h, _, _ => by simp at h
  | c :: p, a :: x, b :: y, [], h1, h2, h3, h4 => absurd (by simp) h3
  | c :: p, a :: x, b :: y, d :: w, h1, h2, h3, h4 => by
    rw [List.cons_prefix_cons] at h1 h2
    obtain ⟨rfl, h1⟩ := h1
    obtain ⟨rfl, h2⟩ := h2
    rw [List.cons_lt_cons_iff] at h3 h4
    have hd : d = c := by
      have a1 : ¬ d < c := fun h => h3 (.inl h)
      have a2 : ¬ c < d := fun h => h4 (.inl h)
      omega
    subst hd
    exact List.cons_prefix_cons.mpr ⟨rfl, between p x y w h1 h2 (fun h => h3 (.inr ⟨rfl, h⟩)) (fun h => h4 (.inr ⟨rfl, h⟩))⟩
theorem lcp_ends {ls : List (List Nat)} {x y : List Nat} (hx : x ∈ ls) (hy : y ∈ ls) (h1 : ∀ w ∈ ls, ¬ w < x) (h2 : ∀ w ∈ ls, ¬ y < w) : cp x y = lcp ls :=
  pre_antisymm (pre_lcp ls _ (fun h => by subst h; cases hx) fun w hw => between _ x y w (cp_pre_left _ _) (cp_pre_right _ _) (h1 w hw) (h2 w hw)) (pre_cp _ _ _ (lcp_pre ls x hx) (lcp_pre ls y hy))
end Mine
-- part P3
namespace Mine
abbrev Inc (ss : List (List Nat)) : Prop := ss.Pairwise (· < ·)
theorem lt_irr (a : List Nat) : ¬ a < a := List.lt_irrefl a
theorem lt_tr {a b c : List Nat} (h1 : a < b) (h2 : b < c) : a < c := List.lt_trans h1 h2
theorem lt_conn {a b : List Nat} (h1 : ¬ a < b) (h2 : ¬ b < a) : a = b := by
  have x1 : b ≤ a := List.not_lt.mp h1
  have x2 : a ≤ b := List.not_lt.mp h2
  exact List.le_antisymm x2 x1
theorem nodup_inc {ls : List (List Nat)} (h : ls.Pairwise fun a b => ¬ b < a) (nd : ls.Nodup) : Inc ls := by
  have := List.Pairwise.and h nd
  exact this.imp fun {a b} ⟨h1, h2⟩ => by
    by_cases h3 : a < b
    · exact h3
    · exact absurd (lt_conn h3 h1) h2
theorem Inc.nodup {ls : List (List Nat)} (h : Inc ls) : ls.Nodup := by
  refine List.Pairwise.imp ?_ h
  intro a b hab e
  exact lt_irr b (e ▸ hab)
theorem insw_perm (w : List Nat) : ∀ ls, (insw w ls).Perm (w :: ls)
  | [] => .refl _
  | x :: r => by
    unfold insw
    split
    · exact (List.Perm.cons x (insw_perm w r)).trans (.swap _ _ _)
    · exact .refl _
theorem srt_perm : ∀ ls, (srt ls).Perm ls
  | [] => .refl _
  | w :: r => (insw_perm w _).trans (List.Perm.cons w (srt_perm r))
theorem insw_inc (w : List Nat) : ∀ ls, Inc ls → w ∉ ls → Inc (insw w ls)
  | [], _, _ => by simp [insw]
  | x :: r, h, hn => by
    unfold insw
    obtain ⟨h1, h2⟩ := List.pairwise_cons.mp h
    simp only [List.mem_cons, not_or] at hn
    split
    · rename_i hlt
      refine List.pairwise_cons.mpr ⟨fun y hy => ?_, insw_inc w r h2 hn.2⟩
      rcases List.mem_cons.mp ((insw_perm w r).mem_iff.mp hy) with rfl | hy
      · exact hlt
      · exact h1 y hy
    · rename_i hlt
      have hw : w < x := by
        by_cases h3 : w < x
        · exact h3
        · exact absurd (lt_conn h3 hlt) hn.1
      refine List.pairwise_cons.mpr ⟨fun y hy => ?_, h⟩
      rcases List.mem_cons.mp hy with rfl | hy
      · exact hw
      · exact lt_tr hw (h1 y hy)
theorem srt_inc : ∀ ls : List (List Nat), ls.Nodup → Inc (srt ls)
  | [], _ => .nil
  | w :: r, h => insw_inc w _ (srt_inc r (List.nodup_cons.mp h).2) fun hw => (List.nodup_cons.mp h).1 ((srt_perm r).mem_iff.mp hw)
theorem inc_unique : ∀ {a b : List (List Nat)}, Inc a → Inc b → a.Perm b → a = b
  | [], b, _, _, p => (List.nil_perm.mp p).symm
  | x :: a, [], _, _, p => absurd p (by simp)
  | x :: a, y :: b, ha, hb, p => by
    obtain ⟨a1, a2⟩ := List.pairwise_cons.mp ha
    obtain ⟨b1, b2⟩ := List.pairwise_cons.mp hb
    have : x = y := by
      have m1 : x ∈ y :: b := p.mem_iff.mp (.head _)
      have m2 : y ∈ x :: a := p.mem_iff.mpr (.head _)
      rcases List.mem_cons.mp m1 with e | m1
      · exact e
      · rcases List.mem_cons.mp m2 with e | m2
        · exact e.symm
        · exact absurd (lt_tr (b1 x m1) (a1 y m2)) (lt_irr _)
    subst this
    rw [inc_unique a2 b2 (List.Perm.cons_inv p)]
theorem srt_eq {ls ls' : List (List Nat)} (nd : ls.Nodup) (p : ls'.Perm ls) (h : ls'.Pairwise fun a b => ¬ b < a) : ls' = srt ls :=
  inc_unique (nodup_inc h (p.nodup_iff.mpr nd)) (srt_inc ls nd) (p.trans (srt_perm ls).symm)
theorem app_lt {p a b : List Nat} : p ++ a < p ++ b ↔ a < b := by
  induction p with
  | nil => rfl
  | cons c p ih =>
    rw [List.cons_append, List.cons_append, List.cons_lt_cons_iff]
    constructor
    · rintro (h | h)
      · exact absurd h (Nat.lt_irrefl _)
      · exact ih.mp h.2
    · exact fun h => .inr ⟨rfl, ih.mpr h⟩
theorem pre_eq {p w : List Nat} (h : p <+: w) : w = p ++ w.drop p.length := by
  obtain ⟨t, rfl⟩ := h
  simp
theorem inc_drop {p : List Nat} {ss : List (List Nat)} (h : Inc ss) (hp : ∀ w ∈ ss, p <+: w) : Inc (ss.map fun w => w.drop p.length) := by
  rw [Inc, List.pairwise_map]
  refine h.imp_of_mem fun {a b} ha hb hab => ?_
  rw [pre_eq (hp a ha), pre_eq (hp b hb)] at hab
  exact app_lt.mp hab
theorem suf_eq {s w : List Nat} (h : s.reverse <+: w.reverse) : w = w.take (w.length - s.length) ++ s := by
  have h1 : s <:+ w := List.reverse_prefix.mp h
  obtain ⟨t, rfl⟩ := h1
  simp
theorem nodup_strip {s : List Nat} {ss : List (List Nat)} (h : ss.Nodup) (hp : ∀ w ∈ ss, s <+: w.reverse) : (ss.map fun w => w.take (w.length - s.length)).Nodup := by
  rw [List.Nodup, List.pairwise_map]
  refine List.Pairwise.imp_of_mem (fun {a b} ha hb hab e => hab ?_) h
  have e1 := suf_eq (s := s.reverse) (w := a) (by rw [List.reverse_reverse]; exact hp a ha)
  have e2 := suf_eq (s := s.reverse) (w := b) (by rw [List.reverse_reverse]; exact hp b hb)
  rw [e1, e2]
  simp only [List.length_reverse]
  rw [e]
theorem mu_cons (w : List Nat) (r : List (List Nat)) : mu (w :: r) = 1 + w.length + mu r := by simp [mu]; omega
theorem mu_perm {a b : List (List Nat)} (h : a.Perm b) : mu a = mu b := by
  unfold mu
  rw [h.length_eq, (h.map _).sum_nat]
theorem mu_split (f : List Nat → Bool) : ∀ ss : List (List Nat), mu (ss.filter f) + mu (ss.filter fun w => !f w) = mu ss
  | [] => rfl
  | w :: r => by
    have ih := mu_split f r
    rw [mu_cons]
    cases h : f w
    · rw [List.filter_cons_of_neg (by simp [h]), List.filter_cons_of_pos (by simp [h]), mu_cons]; omega
    · rw [List.filter_cons_of_pos h, List.filter_cons_of_neg (by simp [h]), mu_cons]; omega
theorem mu_pos {ss : List (List Nat)} (h : ss ≠ []) : 1 ≤ mu ss := by
  cases ss with
  | nil => exact absurd rfl h
  | cons w r => rw [mu_cons]; omega
theorem mu_map {f : List Nat → List Nat} {k : Nat} : ∀ ss : List (List Nat), (∀ w ∈ ss, (f w).length + k = w.length) → mu (ss.map f) + k * ss.length = mu ss
  | [], _ => rfl
  | w :: r, h => by
    have ih := mu_map r fun w hw => h w (.tail _ hw)
    have := h w (.head _)
    rw [List.map_cons, mu_cons, mu_cons, List.length_cons, Nat.mul_add]
    omega
end Mine
-- part P4
namespace Mine
structure Words (ss : List (List Nat)) (z : Nat) : Prop where
  inc : Inc ss
  ne : ss ≠ []
  zs : z ∈ signs
  lets : ∀ w ∈ ss, ∀ c ∈ w, c = 97 ∨ c = 98 ∨ c = z
theorem signs_lt {z : Nat} (h : z ∈ signs) : z < 128 := by revert z; decide
theorem Words.lt128 {ss z} (W : Words ss z) {w : List Nat} (h : w ∈ ss) : ∀ c ∈ w, c < 128 := fun c hc => by
  have := signs_lt W.zs
  rcases W.lets w h c hc with rfl | rfl | rfl <;> omega
theorem Words.tail {ss z} {x first : List Nat} (W : Words (first :: x :: ss) z) : Words (x :: ss) z :=
  ⟨(List.pairwise_cons.mp W.inc).2, by simp, W.zs, fun w hw => W.lets w (.tail _ hw)⟩
theorem Words.filter {ss z} (W : Words ss z) (f : List Nat → Bool) (h : ss.filter f ≠ []) : Words (ss.filter f) z :=
  ⟨W.inc.filter f, h, W.zs, fun w hw => W.lets w (List.mem_filter.mp hw).1⟩
theorem Words.drop {ss z} (W : Words ss z) {p : List Nat} (hp : ∀ w ∈ ss, p <+: w) : Words (ss.map fun w => w.drop p.length) z :=
  ⟨inc_drop W.inc hp, by simpa using W.ne, W.zs, fun w hw c hc => by
    obtain ⟨u, hu, rfl⟩ := List.mem_map.mp hw
    exact W.lets u hu c (List.mem_of_mem_drop hc)⟩
theorem Words.strip {ss z} (W : Words ss z) {s : List Nat} (hp : ∀ w ∈ ss, s <+: w.reverse) : Words (srt (ss.map fun w => w.take (w.length - s.length))) z :=
  ⟨srt_inc _ (nodup_strip W.inc.nodup hp), fun h => W.ne (by
    have := (srt_perm (ss.map fun w => w.take (w.length - s.length))).length_eq
    rw [h] at this
    simpa using this.symm), W.zs, fun w hw c hc => by
    obtain ⟨u, hu, rfl⟩ := List.mem_map.mp ((srt_perm _).mem_iff.mp hw)
    exact W.lets u hu c (List.mem_of_mem_take hc)⟩
theorem mu_drop {ss : List (List Nat)} {p : List Nat} (hne : ss ≠ []) (hp : ∀ w ∈ ss, p <+: w) : mu (ss.map fun w => w.drop p.length) + p.length ≤ mu ss := by
  have := mu_map (f := fun w => w.drop p.length) (k := p.length) ss fun w hw => by
    have := (hp w hw).length_le
    simp; omega
  have h1 : 1 ≤ ss.length := by cases ss <;> simp at hne ⊢
  have h2 := Nat.mul_le_mul_left p.length h1
  omega
theorem mu_strip {ss : List (List Nat)} {s : List Nat} (hne : ss ≠ []) (hp : ∀ w ∈ ss, s <+: w.reverse) : mu (srt (ss.map fun w => w.take (w.length - s.length))) + s.length ≤ mu ss := by
  rw [mu_perm (srt_perm _)]
  have := mu_map (f := fun w => w.take (w.length - s.length)) (k := s.length) ss fun w hw => by
    have := (hp w hw).length_le
    simp at this ⊢; omega
  have h1 : 1 ≤ ss.length := by cases ss <;> simp at hne ⊢
  have h2 := Nat.mul_le_mul_left s.length h1
  omega
/-- the one-letter words -/
theorem ones_map : ∀ ls : List (List Nat), (∀ w ∈ ls, isOne w = true) → ∃ cs : List Nat, ls = cs.map fun c => [c]
  | [], _ => ⟨[], rfl⟩
  | w :: r, h => by
    obtain ⟨cs, rfl⟩ := ones_map r fun w hw => h w (.tail _ hw)
    have := h w (.head _)
    match w, this with
    | [c], _ => exact ⟨c :: cs, rfl⟩
theorem cs_lo : ∀ z ∈ signs, z < 97 → [97, 98] ∈ csTexts ∧ [z, 97] ∈ csTexts ∧ [z, 98] ∈ csTexts ∧ [z, 97, 98] ∈ csTexts := by decide
theorem cs_hi : ∀ z ∈ signs, ¬ z < 97 → [97, 98] ∈ csTexts ∧ [97, z] ∈ csTexts ∧ [98, z] ∈ csTexts ∧ [97, 98, z] ∈ csTexts ∧ 98 < z := by decide
theorem cs_ok {cs : List Nat} {z : Nat} (hz : z ∈ signs) (h : ∀ c ∈ cs, c = 97 ∨ c = 98 ∨ c = z) (hi : cs.Pairwise (· < ·)) (h2 : 1 < cs.length) : cs ∈ csTexts := by
  match cs, h, hi, h2 with
  | [], _, _, h2 => simp at h2
  | [a], _, _, h2 => simp at h2
  | [a, b], h, hi, _ =>
    have ha := h a (by simp)
    have hb := h b (by simp)
    have hab : a < b := by simpa using hi
    by_cases hlt : z < 97
    · obtain ⟨h1, h2, h3, h4⟩ := cs_lo z hz hlt
      have : (a = 97 ∧ b = 98) ∨ (a = z ∧ b = 97) ∨ (a = z ∧ b = 98) := by omega
      rcases this with ⟨rfl, rfl⟩ | ⟨rfl, rfl⟩ | ⟨rfl, rfl⟩ <;> assumption
    · obtain ⟨h1, h2, h3, h4, h5⟩ := cs_hi z hz hlt
      have : (a = 97 ∧ b = 98) ∨ (a = 97 ∧ b = z) ∨ (a = 98 ∧ b = z) := by omega
      rcases this with ⟨rfl, rfl⟩ | ⟨rfl, rfl⟩ | ⟨rfl, rfl⟩ <;> assumption
  | [a, b, c], h, hi, _ =>
    have ha := h a (by simp)
    have hb := h b (by simp)
    have hc := h c (by simp)
    have hab : a < b := by simp at hi; omega
    have hbc : b < c := by simp at hi; omega
    by_cases hlt : z < 97
    · obtain ⟨h1, h2, h3, h4⟩ := cs_lo z hz hlt
      have : (a = z ∧ b = 97 ∧ c = 98) := by omega
      rcases this with ⟨rfl, rfl, rfl⟩; assumption
    · obtain ⟨h1, h2, h3, h4, h5⟩ := cs_hi z hz hlt
      have : (a = 97 ∧ b = 98 ∧ c = z) := by omega
      rcases this with ⟨rfl, rfl, rfl⟩; assumption
  | a :: b :: c :: d :: r, h, hi, _ =>
    exfalso
    have ha := h a (by simp)
    have hb := h b (by simp)
    have hc := h c (by simp)
    have hd := h d (by simp)
    simp at hi
    omega
theorem Words.ones {ss z} (W : Words ss z) (h : 1 < (ss.filter isOne).length) : ∃ cs : List Nat, ss.filter isOne = cs.map (fun c => [c]) ∧ (ss.filter isOne).flatten = cs ∧ cs ∈ csTexts ∧ (ss.filter isOne).length = cs.length := by
  obtain ⟨cs, e⟩ := ones_map (ss.filter isOne) fun w hw => (List.mem_filter.mp hw).2
  have hf : (ss.filter isOne).flatten = cs := by rw [e]; induction cs with
    | nil => rfl
    | cons c r ih =>
      clear ih e
      induction r with
      | nil => rfl
      | cons d r ih => simp at ih ⊢; exact ih
  have hlen : (ss.filter isOne).length = cs.length := by rw [e]; simp
  refine ⟨cs, e, hf, cs_ok W.zs (fun c hc => ?_) ?_ (hlen ▸ h), hlen⟩
  · have : [c] ∈ ss.filter isOne := by rw [e]; exact List.mem_map.mpr ⟨c, hc, rfl⟩
    exact W.lets _ (List.mem_filter.mp this).1 c (by simp)
  · have := W.inc.filter isOne
    rw [e, List.pairwise_map] at this
    exact this.imp fun {a b} h => by
      rw [List.cons_lt_cons_iff] at h
      rcases h with h | ⟨_, h⟩
      · exact h
      · exact absurd h (List.lt_irrefl _)
theorem filter_split {α} (p : α → Bool) : ∀ l : List α, l.Pairwise (fun a b => p b = true → p a = true) → l = l.filter p ++ l.filter fun w => !p w
  | [], _ => rfl
  | x :: r, h => by
    obtain ⟨h1, h2⟩ := List.pairwise_cons.mp h
    have ih := filter_split p r h2
    cases hx : p x
    · have : r.filter p = [] := List.filter_eq_nil_iff.mpr fun y hy hp => by
        have := h1 y hy hp; rw [hx] at this; cases this
      rw [List.filter_cons_of_neg (by simp [hx]), List.filter_cons_of_pos (by simp [hx]), this]
      rw [this, List.nil_append] at ih
      rw [← ih]; rfl
    · rw [List.filter_cons_of_pos hx, List.filter_cons_of_neg (by simp [hx]), List.cons_append, ← ih]
theorem inc_ne_nil {first : List Nat} {r : List (List Nat)} (h : Inc (first :: r)) (hf : first ≠ []) : ∀ w ∈ first :: r, w ≠ [] := by
  intro w hw e
  subst e
  rcases List.mem_cons.mp hw with h1 | h1
  · exact hf h1.symm
  · have := (List.pairwise_cons.mp h).1 _ h1
    exact absurd this (by simp)
theorem heads_split {first : List Nat} {r : List (List Nat)} (h : Inc (first :: r)) (hf : first ≠ []) :
    first :: r = (first :: r).filter (sameHead first) ++ (first :: r).filter fun w => !sameHead first w := by
  refine filter_split _ _ ?_
  have hne := inc_ne_nil h hf
  have hle : ∀ w ∈ first :: r, ¬ w < first := by
    intro w hw
    rcases List.mem_cons.mp hw with rfl | hw
    · exact lt_irr _
    · exact fun h2 => lt_irr _ (lt_tr ((List.pairwise_cons.mp h).1 w hw) h2)
  refine h.imp_of_mem fun {a b} ha hb hab hs => ?_
  match first, a, b, hf, hne a ha, hne b hb, hle a ha, hab, hs with
  | f :: first, x :: a, y :: b, _, _, _, h1, h2, h3 =>
    simp only [sameHead, List.head?_cons, beq_iff_eq, Option.some.injEq] at h3 ⊢
    rw [List.cons_lt_cons_iff] at h1 h2
    have : ¬ x < f := fun h => h1 (.inl h)
    rcases h2 with h2 | ⟨h2, _⟩ <;> omega
theorem heads_two {first : List Nat} {r : List (List Nat)} (hf : first ≠ []) (h : lcp (first :: r) = []) : (first :: r).filter (fun w => !sameHead first w) ≠ [] := by
  intro e
  have := List.filter_eq_nil_iff.mp e
  match first, hf with
  | c :: f, _ =>
    have hp : [c] <+: lcp ((c :: f) :: r) := pre_lcp _ _ (by simp) fun w hw => by
      have h1 := this w hw
      simp only [Bool.not_eq_true', Bool.not_eq_false, sameHead, beq_iff_eq, List.head?_cons] at h1
      match w, h1 with
      | d :: w, h1 =>
        simp at h1
        subst h1
        exact List.cons_prefix_cons.mpr ⟨rfl, List.nil_prefix⟩
    rw [h] at hp
    simp at hp
theorem heads_one {first : List Nat} {r : List (List Nat)} : (first :: r).filter (sameHead first) ≠ [] := by
  rw [List.filter_cons_of_pos (by simp [sameHead])]
  simp
theorem esc2_len (c : Nat) : (esc2 c).length ≤ 2 := by unfold esc2; split <;> simp
theorem flat_len (f : Nat → List Nat) (hf : ∀ c, (f c).length ≤ 2) : ∀ cs : List Nat, (cs.flatMap f).length ≤ 2 * cs.length
  | [] => by simp
  | c :: r => by
    have := flat_len f hf r
    have := hf c
    rw [List.flatMap_cons, List.length_append, List.length_cons]; omega
theorem mu_ones : ∀ ss : List (List Nat), (∀ w ∈ ss, isOne w = true) → mu ss = 2 * ss.length
  | [], _ => rfl
  | w :: r, h => by
    have := mu_ones r fun w hw => h w (.tail _ hw)
    have h1 := h w (.head _)
    simp [isOne] at h1
    rw [mu_cons, this, h1]; simp; omega
theorem shw_len : ∀ (n : Nat) (ss : List (List Nat)) (z : Nat), Words ss z → mu ss ≤ n → (shw (rxT n ss)).length + 10 ≤ 20 * mu ss
  | 0, ss, z, W, h => by have := mu_pos W.ne; omega
  | n + 1, [], z, W, h => absurd rfl W.ne
  | n + 1, [w], z, W, h => by
    have := escM_len w
    simp [rxT, shw, mu]; omega
  | n + 1, first :: x :: r, z, W, h => by
    rw [rxT]
    have hm := mu_cons first (x :: r)
    split
    · have := shw_len n (x :: r) z W.tail (by omega)
      simp [shw, opn]; omega
    split
    · rename_i h1 h2
      obtain ⟨cs, e1, e2, e3, e4⟩ := W.ones h2.2
      have hs := mu_split isOne (first :: x :: r)
      have ho := mu_ones ((first :: x :: r).filter isOne) fun w hw => (List.mem_filter.mp hw).2
      have hf := flat_len esc2 esc2_len cs
      have := h2.2
      rw [e4] at ho this
      split
      · rename_i h3
        have := shw_len n _ z (W.filter _ h3) (by omega)
        simp only [shw, e2, List.length_append, List.length_cons, List.length_nil]; omega
      · simp only [shw, e2, List.length_append, List.length_cons, List.length_nil]; omega
    split
    · rename_i h1 h2 h3
      have hp := lcp_pre (first :: x :: r)
      have hmu := mu_drop W.ne hp
      have hl : 1 ≤ (lcp (first :: x :: r)).length := by cases e : lcp (first :: x :: r) <;> simp_all
      have := shw_len n _ z (W.drop hp) (by omega)
      have := escM_len (lcp (first :: x :: r))
      simp only [shw, opn, List.length_append, List.length_cons, List.length_nil]; omega
    split
    · rename_i h1 h2 h3 h4
      have hp : ∀ w ∈ first :: x :: r, lcp ((first :: x :: r).map List.reverse) <+: w.reverse := fun w hw => lcp_pre _ _ (List.mem_map.mpr ⟨w, hw, rfl⟩)
      have hmu := mu_strip W.ne hp
      have hl : 1 ≤ (lcp ((first :: x :: r).map List.reverse)).length := by cases e : lcp ((first :: x :: r).map List.reverse) <;> simp_all
      have := shw_len n _ z (W.strip hp) (by omega)
      have := escM_len (lcp ((first :: x :: r).map List.reverse)).reverse
      rw [List.length_reverse] at this
      simp only [shw, opn, List.length_append, List.length_cons, List.length_nil]; omega
    · rename_i h1 h2 h3 h4
      have h3 : lcp (first :: x :: r) = [] := by simpa using h3
      have hs := mu_split (sameHead first) (first :: x :: r)
      have w1 := W.filter _ (heads_one (first := first) (r := x :: r))
      have w2 := W.filter _ (heads_two h1 h3)
      have p1 := mu_pos w1.ne
      have p2 := mu_pos w2.ne
      have i1 := shw_len n _ z w1 (by omega)
      have i2 := shw_len n _ z w2 (by omega)
      simp only [shw, List.length_append, List.length_cons, List.length_nil]; omega
end Mine
-- part B20
namespace Mine
open PySem PySem.Calls PySem.W PyProof.Rows
local macro_rules | `(tactic| walk_at "m") => `(tactic| first | exact List.Mem.head _ | exact List.Mem.tail _ (List.Mem.head _) | exact List.Mem.tail _ (List.Mem.tail _ (List.Mem.head _)) | exact List.Mem.tail _ (List.Mem.tail _ (List.Mem.tail _ (List.Mem.head _))) | exact List.Mem.tail _ (List.Mem.tail _ (List.Mem.tail _ (List.Mem.tail _ (List.Mem.head _)))) | exact List.Mem.tail _ (List.Mem.tail _ (List.Mem.tail _ (List.Mem.tail _ (List.Mem.tail _ (List.Mem.head _))))) | exact List.Mem.tail _ (List.Mem.tail _ (List.Mem.tail _ (List.Mem.tail _ (List.Mem.tail _ (List.Mem.tail _ (List.Mem.head _)))))) | exact List.Mem.tail _ (List.Mem.tail _ (List.Mem.tail _ (List.Mem.tail _ (List.Mem.tail _ (List.Mem.tail _ (List.Mem.tail _ (List.Mem.head _))))))) | exact List.Mem.tail _ (List.Mem.tail _ (List.Mem.tail _ (List.Mem.tail _ (List.Mem.tail _ (List.Mem.tail _ (List.Mem.tail _ (List.Mem.tail _ (List.Mem.head _)))))))) | exact List.Mem.tail _ (List.Mem.tail _ (List.Mem.tail _ (List.Mem.tail _ (List.Mem.tail _ (List.Mem.tail _ (List.Mem.tail _ (List.Mem.tail _ (List.Mem.tail _ (List.Mem.head _))))))))) | exact List.Mem.tail _ (List.Mem.tail _ (List.Mem.tail _ (List.Mem.tail _ (List.Mem.tail _ (List.Mem.tail _ (List.Mem.tail _ (List.Mem.tail _ (List.Mem.tail _ (List.Mem.tail _ (List.Mem.head _)))))))))) | exact List.Mem.tail _ (List.Mem.tail _ (List.Mem.tail _ (List.Mem.tail _ (List.Mem.tail _ (List.Mem.tail _ (List.Mem.tail _ (List.Mem.tail _ (List.Mem.tail _ (List.Mem.tail _ (List.Mem.tail _ (List.Mem.head _))))))))))) | exact List.Mem.tail _ (List.Mem.tail _ (List.Mem.tail _ (List.Mem.tail _ (List.Mem.tail _ (List.Mem.tail _ (List.Mem.tail _ (List.Mem.tail _ (List.Mem.tail _ (List.Mem.tail _ (List.Mem.tail _ (List.Mem.tail _ (List.Mem.head _)))))))))))) | exact List.Mem.tail _ (List.Mem.tail _ (List.Mem.tail _ (List.Mem.tail _ (List.Mem.tail _ (List.Mem.tail _ (List.Mem.tail _ (List.Mem.tail _ (List.Mem.tail _ (List.Mem.tail _ (List.Mem.tail _ (List.Mem.tail _ (List.Mem.tail _ (List.Mem.head _))))))))))))) | exact List.Mem.tail _ (List.Mem.tail _ (List.Mem.tail _ (List.Mem.tail _ (List.Mem.tail _ (List.Mem.tail _ (List.Mem.tail _ (List.Mem.tail _ (List.Mem.tail _ (List.Mem.tail _ (List.Mem.tail _ (List.Mem.tail _ (List.Mem.tail _ (List.Mem.tail _ (List.Mem.head _)))))))))))))) | exact List.Mem.tail _ (List.Mem.tail _ (List.Mem.tail _ (List.Mem.tail _ (List.Mem.tail _ (List.Mem.tail _ (List.Mem.tail _ (List.Mem.tail _ (List.Mem.tail _ (List.Mem.tail _ (List.Mem.tail _ (List.Mem.tail _ (List.Mem.tail _ (List.Mem.tail _ (List.Mem.tail _ (List.Mem.head _))))))))))))))) | exact List.Mem.tail _ (List.Mem.tail _ (List.Mem.tail _ (List.Mem.tail _ (List.Mem.tail _ (List.Mem.tail _ (List.Mem.tail _ (List.Mem.tail _ (List.Mem.tail _ (List.Mem.tail _ (List.Mem.tail _ (List.Mem.tail _ (List.Mem.tail _ (List.Mem.tail _ (List.Mem.tail _ (List.Mem.tail _ (List.Mem.head _)))))))))))))))) | exact List.Mem.tail _ (List.Mem.tail _ (List.Mem.tail _ (List.Mem.tail _ (List.Mem.tail _ (List.Mem.tail _ (List.Mem.tail _ (List.Mem.tail _ (List.Mem.tail _ (List.Mem.tail _ (List.Mem.tail _ (List.Mem.tail _ (List.Mem.tail _ (List.Mem.tail _ (List.Mem.tail _ (List.Mem.tail _ (List.Mem.tail _ (List.Mem.head _))))))))))))))))) | exact List.Mem.tail _ (List.Mem.tail _ (List.Mem.tail _ (List.Mem.tail _ (List.Mem.tail _ (List.Mem.tail _ (List.Mem.tail _ (List.Mem.tail _ (List.Mem.tail _ (List.Mem.tail _ (List.Mem.tail _ (List.Mem.tail _ (List.Mem.tail _ (List.Mem.tail _ (List.Mem.tail _ (List.Mem.tail _ (List.Mem.tail _ (List.Mem.tail _ (List.Mem.head _)))))))))))))))))) | exact List.Mem.tail _ (List.Mem.tail _ (List.Mem.tail _ (List.Mem.tail _ (List.Mem.tail _ (List.Mem.tail _ (List.Mem.tail _ (List.Mem.tail _ (List.Mem.tail _ (List.Mem.tail _ (List.Mem.tail _ (List.Mem.tail _ (List.Mem.tail _ (List.Mem.tail _ (List.Mem.tail _ (List.Mem.tail _ (List.Mem.tail _ (List.Mem.tail _ (List.Mem.tail _ (List.Mem.head _))))))))))))))))))) | exact List.Mem.tail _ (List.Mem.tail _ (List.Mem.tail _ (List.Mem.tail _ (List.Mem.tail _ (List.Mem.tail _ (List.Mem.tail _ (List.Mem.tail _ (List.Mem.tail _ (List.Mem.tail _ (List.Mem.tail _ (List.Mem.tail _ (List.Mem.tail _ (List.Mem.tail _ (List.Mem.tail _ (List.Mem.tail _ (List.Mem.tail _ (List.Mem.tail _ (List.Mem.tail _ (List.Mem.tail _ (List.Mem.head _)))))))))))))))))))) | exact List.Mem.tail _ (List.Mem.tail _ (List.Mem.tail _ (List.Mem.tail _ (List.Mem.tail _ (List.Mem.tail _ (List.Mem.tail _ (List.Mem.tail _ (List.Mem.tail _ (List.Mem.tail _ (List.Mem.tail _ (List.Mem.tail _ (List.Mem.tail _ (List.Mem.tail _ (List.Mem.tail _ (List.Mem.tail _ (List.Mem.tail _ (List.Mem.tail _ (List.Mem.tail _ (List.Mem.tail _ (List.Mem.tail _ (List.Mem.head _))))))))))))))))))))) | exact List.Mem.tail _ (List.Mem.tail _ (List.Mem.tail _ (List.Mem.tail _ (List.Mem.tail _ (List.Mem.tail _ (List.Mem.tail _ (List.Mem.tail _ (List.Mem.tail _ (List.Mem.tail _ (List.Mem.tail _ (List.Mem.tail _ (List.Mem.tail _ (List.Mem.tail _ (List.Mem.tail _ (List.Mem.tail _ (List.Mem.tail _ (List.Mem.tail _ (List.Mem.tail _ (List.Mem.tail _ (List.Mem.tail _ (List.Mem.tail _ (List.Mem.head _)))))))))))))))))))))) | exact List.Mem.tail _ (List.Mem.tail _ (List.Mem.tail _ (List.Mem.tail _ (List.Mem.tail _ (List.Mem.tail _ (List.Mem.tail _ (List.Mem.tail _ (List.Mem.tail _ (List.Mem.tail _ (List.Mem.tail _ (List.Mem.tail _ (List.Mem.tail _ (List.Mem.tail _ (List.Mem.tail _ (List.Mem.tail _ (List.Mem.tail _ (List.Mem.tail _ (List.Mem.tail _ (List.Mem.tail _ (List.Mem.tail _ (List.Mem.tail _ (List.Mem.tail _ (List.Mem.head _))))))))))))))))))))))))
local macro_rules | `(tactic| walk_at "u") => `(tactic| first | exact Upd.here | exact Upd.there (Upd.here) | exact Upd.there (Upd.there (Upd.here)) | exact Upd.there (Upd.there (Upd.there (Upd.here))) | exact Upd.there (Upd.there (Upd.there (Upd.there (Upd.here)))) | exact Upd.there (Upd.there (Upd.there (Upd.there (Upd.there (Upd.here))))) | exact Upd.there (Upd.there (Upd.there (Upd.there (Upd.there (Upd.there (Upd.here)))))) | exact Upd.there (Upd.there (Upd.there (Upd.there (Upd.there (Upd.there (Upd.there (Upd.here))))))) | exact Upd.there (Upd.there (Upd.there (Upd.there (Upd.there (Upd.there (Upd.there (Upd.there (Upd.here)))))))) | exact Upd.there (Upd.there (Upd.there (Upd.there (Upd.there (Upd.there (Upd.there (Upd.there (Upd.there (Upd.here))))))))) | exact Upd.there (Upd.there (Upd.there (Upd.there (Upd.there (Upd.there (Upd.there (Upd.there (Upd.there (Upd.there (Upd.here)))))))))) | exact Upd.there (Upd.there (Upd.there (Upd.there (Upd.there (Upd.there (Upd.there (Upd.there (Upd.there (Upd.there (Upd.there (Upd.here))))))))))) | exact Upd.there (Upd.there (Upd.there (Upd.there (Upd.there (Upd.there (Upd.there (Upd.there (Upd.there (Upd.there (Upd.there (Upd.there (Upd.here)))))))))))) | exact Upd.there (Upd.there (Upd.there (Upd.there (Upd.there (Upd.there (Upd.there (Upd.there (Upd.there (Upd.there (Upd.there (Upd.there (Upd.there (Upd.here))))))))))))) | exact Upd.there (Upd.there (Upd.there (Upd.there (Upd.there (Upd.there (Upd.there (Upd.there (Upd.there (Upd.there (Upd.there (Upd.there (Upd.there (Upd.there (Upd.here)))))))))))))) | exact Upd.there (Upd.there (Upd.there (Upd.there (Upd.there (Upd.there (Upd.there (Upd.there (Upd.there (Upd.there (Upd.there (Upd.there (Upd.there (Upd.there (Upd.there (Upd.here))))))))))))))) | exact Upd.there (Upd.there (Upd.there (Upd.there (Upd.there (Upd.there (Upd.there (Upd.there (Upd.there (Upd.there (Upd.there (Upd.there (Upd.there (Upd.there (Upd.there (Upd.there (Upd.here)))))))))))))))) | exact Upd.there (Upd.there (Upd.there (Upd.there (Upd.there (Upd.there (Upd.there (Upd.there (Upd.there (Upd.there (Upd.there (Upd.there (Upd.there (Upd.there (Upd.there (Upd.there (Upd.there (Upd.here))))))))))))))))) | exact Upd.there (Upd.there (Upd.there (Upd.there (Upd.there (Upd.there (Upd.there (Upd.there (Upd.there (Upd.there (Upd.there (Upd.there (Upd.there (Upd.there (Upd.there (Upd.there (Upd.there (Upd.there (Upd.here)))))))))))))))))) | exact Upd.there (Upd.there (Upd.there (Upd.there (Upd.there (Upd.there (Upd.there (Upd.there (Upd.there (Upd.there (Upd.there (Upd.there (Upd.there (Upd.there (Upd.there (Upd.there (Upd.there (Upd.there (Upd.there (Upd.here))))))))))))))))))) | exact Upd.there (Upd.there (Upd.there (Upd.there (Upd.there (Upd.there (Upd.there (Upd.there (Upd.there (Upd.there (Upd.there (Upd.there (Upd.there (Upd.there (Upd.there (Upd.there (Upd.there (Upd.there (Upd.there (Upd.there (Upd.here)))))))))))))))))))) | exact Upd.there (Upd.there (Upd.there (Upd.there (Upd.there (Upd.there (Upd.there (Upd.there (Upd.there (Upd.there (Upd.there (Upd.there (Upd.there (Upd.there (Upd.there (Upd.there (Upd.there (Upd.there (Upd.there (Upd.there (Upd.there (Upd.here))))))))))))))))))))) | exact Upd.there (Upd.there (Upd.there (Upd.there (Upd.there (Upd.there (Upd.there (Upd.there (Upd.there (Upd.there (Upd.there (Upd.there (Upd.there (Upd.there (Upd.there (Upd.there (Upd.there (Upd.there (Upd.there (Upd.there (Upd.there (Upd.there (Upd.here)))))))))))))))))))))) | exact Upd.there (Upd.there (Upd.there (Upd.there (Upd.there (Upd.there (Upd.there (Upd.there (Upd.there (Upd.there (Upd.there (Upd.there (Upd.there (Upd.there (Upd.there (Upd.there (Upd.there (Upd.there (Upd.there (Upd.there (Upd.there (Upd.there (Upd.there (Upd.here))))))))))))))))))))))))
local macro_rules | `(tactic| walk_at "ul") => `(tactic| first | exact UpdL.here | exact UpdL.there (UpdL.here) | exact UpdL.there (UpdL.there (UpdL.here)) | exact UpdL.there (UpdL.there (UpdL.there (UpdL.here))) | exact UpdL.there (UpdL.there (UpdL.there (UpdL.there (UpdL.here)))) | exact UpdL.there (UpdL.there (UpdL.there (UpdL.there (UpdL.there (UpdL.here))))) | exact UpdL.there (UpdL.there (UpdL.there (UpdL.there (UpdL.there (UpdL.there (UpdL.here)))))) | exact UpdL.there (UpdL.there (UpdL.there (UpdL.there (UpdL.there (UpdL.there (UpdL.there (UpdL.here))))))) | exact UpdL.there (UpdL.there (UpdL.there (UpdL.there (UpdL.there (UpdL.there (UpdL.there (UpdL.there (UpdL.here)))))))) | exact UpdL.there (UpdL.there (UpdL.there (UpdL.there (UpdL.there (UpdL.there (UpdL.there (UpdL.there (UpdL.there (UpdL.here))))))))) | exact UpdL.there (UpdL.there (UpdL.there (UpdL.there (UpdL.there (UpdL.there (UpdL.there (UpdL.there (UpdL.there (UpdL.there (UpdL.here)))))))))) | exact UpdL.there (UpdL.there (UpdL.there (UpdL.there (UpdL.there (UpdL.there (UpdL.there (UpdL.there (UpdL.there (UpdL.there (UpdL.there (UpdL.here))))))))))) | exact UpdL.there (UpdL.there (UpdL.there (UpdL.there (UpdL.there (UpdL.there (UpdL.there (UpdL.there (UpdL.there (UpdL.there (UpdL.there (UpdL.there (UpdL.here)))))))))))) | exact UpdL.there (UpdL.there (UpdL.there (UpdL.there (UpdL.there (UpdL.there (UpdL.there (UpdL.there (UpdL.there (UpdL.there (UpdL.there (UpdL.there (UpdL.there (UpdL.here))))))))))))))
local macro_rules | `(tactic| walk_at "d") => `(tactic| first | exact Del.here | exact Del.there (Del.here) | exact Del.there (Del.there (Del.here)) | exact Del.there (Del.there (Del.there (Del.here))) | exact Del.there (Del.there (Del.there (Del.there (Del.here)))) | exact Del.there (Del.there (Del.there (Del.there (Del.there (Del.here))))) | exact Del.there (Del.there (Del.there (Del.there (Del.there (Del.there (Del.here)))))) | exact Del.there (Del.there (Del.there (Del.there (Del.there (Del.there (Del.there (Del.here))))))) | exact Del.there (Del.there (Del.there (Del.there (Del.there (Del.there (Del.there (Del.there (Del.here)))))))) | exact Del.there (Del.there (Del.there (Del.there (Del.there (Del.there (Del.there (Del.there (Del.there (Del.here))))))))) | exact Del.there (Del.there (Del.there (Del.there (Del.there (Del.there (Del.there (Del.there (Del.there (Del.there (Del.here)))))))))) | exact Del.there (Del.there (Del.there (Del.there (Del.there (Del.there (Del.there (Del.there (Del.there (Del.there (Del.there (Del.here))))))))))) | exact Del.there (Del.there (Del.there (Del.there (Del.there (Del.there (Del.there (Del.there (Del.there (Del.there (Del.there (Del.there (Del.here)))))))))))) | exact Del.there (Del.there (Del.there (Del.there (Del.there (Del.there (Del.there (Del.there (Del.there (Del.there (Del.there (Del.there (Del.there (Del.here))))))))))))) | exact Del.there (Del.there (Del.there (Del.there (Del.there (Del.there (Del.there (Del.there (Del.there (Del.there (Del.there (Del.there (Del.there (Del.there (Del.here)))))))))))))) | exact Del.there (Del.there (Del.there (Del.there (Del.there (Del.there (Del.there (Del.there (Del.there (Del.there (Del.there (Del.there (Del.there (Del.there (Del.there (Del.here))))))))))))))) | exact Del.there (Del.there (Del.there (Del.there (Del.there (Del.there (Del.there (Del.there (Del.there (Del.there (Del.there (Del.there (Del.there (Del.there (Del.there (Del.there (Del.here)))))))))))))))) | exact Del.there (Del.there (Del.there (Del.there (Del.there (Del.there (Del.there (Del.there (Del.there (Del.there (Del.there (Del.there (Del.there (Del.there (Del.there (Del.there (Del.there (Del.here))))))))))))))))) | exact Del.there (Del.there (Del.there (Del.there (Del.there (Del.there (Del.there (Del.there (Del.there (Del.there (Del.there (Del.there (Del.there (Del.there (Del.there (Del.there (Del.there (Del.there (Del.here)))))))))))))))))) | exact Del.there (Del.there (Del.there (Del.there (Del.there (Del.there (Del.there (Del.there (Del.there (Del.there (Del.there (Del.there (Del.there (Del.there (Del.there (Del.there (Del.there (Del.there (Del.there (Del.here))))))))))))))))))) | exact Del.there (Del.there (Del.there (Del.there (Del.there (Del.there (Del.there (Del.there (Del.there (Del.there (Del.there (Del.there (Del.there (Del.there (Del.there (Del.there (Del.there (Del.there (Del.there (Del.there (Del.here)))))))))))))))))))) | exact Del.there (Del.there (Del.there (Del.there (Del.there (Del.there (Del.there (Del.there (Del.there (Del.there (Del.there (Del.there (Del.there (Del.there (Del.there (Del.there (Del.there (Del.there (Del.there (Del.there (Del.there (Del.here))))))))))))))))))))) | exact Del.there (Del.there (Del.there (Del.there (Del.there (Del.there (Del.there (Del.there (Del.there (Del.there (Del.there (Del.there (Del.there (Del.there (Del.there (Del.there (Del.there (Del.there (Del.there (Del.there (Del.there (Del.there (Del.here)))))))))))))))))))))) | exact Del.there (Del.there (Del.there (Del.there (Del.there (Del.there (Del.there (Del.there (Del.there (Del.there (Del.there (Del.there (Del.there (Del.there (Del.there (Del.there (Del.there (Del.there (Del.there (Del.there (Del.there (Del.there (Del.there (Del.here))))))))))))))))))))))))
local macro_rules | `(tactic| walk_at "s") => `(tactic| repeat (first | exact List.Sublist.refl _ | exact List.nil_sublist _ | refine List.Sublist.cons_cons _ ?_ | refine List.Sublist.cons _ ?_))
local macro_rules | `(tactic| walk_at "h") => `(tactic| repeat (first | assumption | refine List.Mem.tail _ ?_))
theorem slicePick_plain (vs : List Value) (lo hi : Option Int) : (slicePick vs.toArray lo hi none).toList = (vs.drop (lo.elim 0 (clipAt vs.length))).take (hi.elim vs.length (clipAt vs.length) - lo.elim 0 (clipAt vs.length)) := by
  have := pickN vs.toArray lo hi
  have e := ssi_eq lo hi none vs.toArray.size
  simp only [Option.getD] at e
  rw [e] at this
  simp only [List.size_toArray] at this ⊢
  exact this
theorem clipAt_nat (n i : Nat) : clipAt n i = min i n := by
  have := clipAt_cast n i
  rw [if_neg (by omega)] at this
  omega
theorem slicePick_from (vs : List Value) (i : Nat) : (slicePick vs.toArray (some (i : Int)) none none).toList = vs.drop i := by
  rw [slicePick_plain]
  simp only [Option.elim, clipAt_nat]
  rw [List.take_of_length_le (by simp)]
  rcases Nat.lt_or_ge i vs.length with h | h
  · rw [Nat.min_eq_left (by omega)]
  · rw [Nat.min_eq_right h, List.drop_eq_nil_of_le h, List.drop_eq_nil_of_le (Nat.le_refl _)]
section
variable {C : Cx} {A : Around} {S : St} {E : Value → Shared → Prop} {env : Env}
theorem W.slLFrom {value slice : Expr} {l a : Addr} {vs : List Value} {i : Nat} {t : Tok} {Q : Value → St → Prop} (hm : (a, .fobj "slice" #[.int i t, .none, .none]) ∈ S) (hl : (l, .list vs) ∈ S)
    (h : ∀ c, Q (.ref c) ((c, .list (vs.drop i)) :: S)) (hsz : vs.length ≤ 1000)
    (hs : ∃ ops, subscripted slice false (.ref l) (.ref a) = operate ops (getItem (.ref l) (.ref a)) := by exact ⟨_, rfl⟩) :
    W C A S (subscriptTail value slice (.ref l) (.ref a)) Q E :=
  .slL hm hl (.int i t) .none .none (by simp) (fun c => by rw [slicePick_from]; exact h c) hsz hs
theorem W.slLRev {value slice : Expr} {l a : Addr} {vs : List Value} {t : Tok} {Q : Value → St → Prop} (hm : (a, .fobj "slice" #[.none, .none, .int (-1) t]) ∈ S) (hl : (l, .list vs) ∈ S)
    (h : ∀ c, Q (.ref c) ((c, .list vs.reverse) :: S)) (hsz : vs.length ≤ 1000)
    (hs : ∃ ops, subscripted slice false (.ref l) (.ref a) = operate ops (getItem (.ref l) (.ref a)) := by exact ⟨_, rfl⟩) :
    W C A S (subscriptTail value slice (.ref l) (.ref a)) Q E :=
  .slL hm hl .none .none (.int _ t) (by simp) (fun c => by rw [slicePick_rev]; exact h c) hsz hs
theorem W.translateE {t : Tok} {Q : Value → St → Prop} (R : Room A 3) (h : ∀ t', Q (.str (mk []) t') S) :
    W C A S (call (.builtin "str.translate") [.str (mk []) t, .ref 164]) Q E := .intro fun s G => by
  refine wpAny_call (codeAny_call_builtin F.slot_str_translate.plain F.entry_str_translate (F.slot_str_translate.check _ _ _ _ _ _ _ _ (typeIs_str _ _ _) (F.args_str_translate_2 _ _) ?_))
  unfold Builtin.«str.translate»
  have e : Builtin.Str.strOneArg "translate" ⟨[.str (mk []) t, .ref 164], []⟩ = pure (.str (mk []) t, mk [], .ref 164) := rfl
  rw [e, pure_bind]
  dsimp only
  rw [if_pos (by rfl)]
  unfold Builtin.Str.strUnchanged
  refine wpAny_bind (wpAny_rule ?_)
  rw [if_pos (by rfl)]
  exact wpAny_bind (wpAny_pure (wpAny_pure ⟨S, G, h t⟩))
theorem W.escapeA {x : List Nat} {t : Tok} {Q : Value → St → Prop} (B : Base C) (R : Room A 4) (h128 : ∀ c ∈ x, c < 128) (hlen : x.length ≤ 1000) (h : ∀ t', Q (.str (mk (escM x)) t') S) :
    W C A S (call (.ref 174) [.str (mk x) t]) Q E := by
  by_cases hx : x = []
  · subst hx
    refine .callDef (n := 3) (binds := [(Str.ofString "pattern", .str (mk []) t)]) [Str.ofString "pattern"] [] (fEscape B) R rfl (fun s G => .of_eq rfl) (by decide) (by decide) (by decide) ?_
    intro L R1
    refine .sCons (.sIf (.tval (.callName (.glob (gIsinst B) (.withB (.itemsCons (.name (.head _) (by walk_at "m") (.itemsCons (.glob (gStr B) (.itemsNil (.isiStr (.truthyB ?_))))))))))))
    refine ite_pos rfl ?_
    refine .sCons (.sRet (.callMeth F.plainAttrs_str F.slot_str_translate F.type_str_translate (.name (.head _) (by walk_at "m") ⟨fun s G => ⟨typeIs_str _ _ _, fun a e => (by cases e)⟩, .withB (.itemsCons (.glob (gSpecial B) (.itemsNil (.translateE R1 fun t' => ⟨S, List.sublist_cons_self _ _, h t'⟩))))⟩)))
  · exact .escape B R hx h128 hlen h
theorem Good.methL {s : Shared} {a : Addr} {vs : List Value} (G : Good C A S s) (hm : (a, .list vs) ∈ S) : s.TypeIs (.ref a) "list" ∧ ∀ b, (Value.ref a) = .ref b → ∃ ob, s.heap.get? b = some ob ∧ ob.dict = none :=
  ⟨(G.list hm).typeIs, fun b e => by injection e with e; subst e; obtain ⟨n, e⟩ := (G.sat _ hm).2.2; exact ⟨_, e, rfl⟩⟩
theorem W.sAppend {o e : Expr} {apos pos spos : Pos} {Q : Flow → St → Prop}
    (h : W C A S (eval o env) (fun ov S₁ => ∃ a, ov = .ref a ∧ (∃ vs, (a, .list vs) ∈ S₁) ∧ W C A S₁ (eval e env) (fun v S₂ => ∃ vs S₃, Upd a (.list vs) (.list (vs ++ [v])) S₂ S₃ ∧ vs.length ≤ 1000 ∧ Q .next S₃) E) E)
    (hi : interactive env = false := by rfl) (hs : swapsWith (.Call (.Attribute o (Str.ofString "append") apos) [e] [] pos) none spos.line env = Pure.pure false := by rfl)
    (hbase : attributeBase o (Str.ofString "append") env (eval o env) = eval o env := by rfl)
    (he : starEach [e] env = [(false, eval e env)] := by rfl) (hline : (apos.endLine == pos.line) = true := by rfl) :
    W C A S (exec (.Expr (.Call (.Attribute o (Str.ofString "append") apos) [e] [] pos) spos) env) Q E := by
  refine .sExpr (.callMeth F.plainAttrs_list slot_list_append type_list_append (h.mono ?_) hbase (by rw [he]; rfl) hline) hi hs
  rintro ov S₁ ⟨a, rfl, ⟨vs, hm⟩, h2⟩
  refine ⟨fun s G => G.methL hm, .withB (first := [.ref a]) (.itemsCons (h2.mono ?_) he) he⟩
  rintro v S₂ ⟨us, S₃, hu, hl, q⟩
  exact .itemsNil (.append hu ⟨(fun _ h => by cases h), q⟩ hl)
/-- a call with a generator expression -/
theorem W.callGen {id : String} {pos : Pos} {first : List Value} {g : Expr} {Q : Value → St → Prop}
    (h : ∀ s, Good C A S s → wpAny (model C.prog C.w) A (eval g env) (fun a s' => wpAny (model C.prog C.w) A (call (.builtin id) (first ++ [a])) (fun v s'' => ∃ S', Good C A S' s'' ∧ Q v S') E s') E s)
    (he : starEach [g] env = [(false, eval g env)] := by rfl) :
    W C A S (callWith pos (.builtin id) first (backTo pos (starEach [g] env)) []) Q E := .intro fun s G =>
  callWith_method1 (wpAny_items_cons (wpAny_mono (h s G) (fun a s' q => wpAny_items_nil q) fun _ _ x => x) he) he rfl
/-- a list comprehension over a list of texts -/
theorem compWords {scope : Scope} {cl : List (Str × Addr)} {elt : Expr} {x : Str} {it l : Addr} {vs : List Value} {ls : List (List Nat)} {S₃ : St} (f : List Nat → List Nat) (hl : (l, .list vs) ∈ S₃) (hi : SL vs ls)
    (h : ∀ cn ac us w t, w ∈ ls → ∀ p, W C A (p :: (cn, .ns [(x, some (.str (mk w) t))]) :: (ac, .list us) :: S₃) (eval elt (compEnvC scope cl cn env)) (fun y S' => (∃ t', y = .str (mk (f w)) t') ∧ (p :: (cn, .ns [(x, some (.str (mk w) t))]) :: (ac, .list us) :: S₃).Sublist S') NoE) :
    CompBody C A env scope cl elt x (.ref it) vs.length (fun i X => X = [(it, liCell l i)]) (fun i v Y => vs[i]? = some v ∧ Y = [(it, liCell l (i + 1))]) (fun S => (l, .list vs) ∈ S) S₃ (fun i us => SL us ((ls.take i).map f)) where
  dep := fun X => List.mem_append_right _ hl
  self := fun X S hX hD => Iter.selfL X S hX
  start := by simpa using SL.nil
  turn := fun i hin v Y us cn ac hV hF => by
    obtain ⟨hv, rfl⟩ := hV
    obtain ⟨w, t, hw, rfl⟩ := hi.get' hv
    refine (h cn ac us w t (List.mem_of_getElem? hw) (it, liCell l (i + 1))).mono fun y S' ⟨⟨t', hy⟩, hs⟩ => ⟨_, rfl, hs, ?_⟩
    subst hy
    rw [List.take_add_one, hw]
    simpa using hF.snoc (f w) t'
/-- a generator expression over a list of texts -/
theorem genWords {cenv : Env} {elt : Expr} {x : Str} {it l cn : Addr} {vs : List Value} {ls : List (List Nat)} {S₃ : St} (f : List Nat → List Nat) (hl : (l, .list vs) ∈ S₃) (hi : SL vs ls)
    (h : ∀ acc ac a go w t p, w ∈ ls → W C A (p :: (cn, .ns [(Str.ofString ".0", some (.ref it)), (x, some (.str (mk w) t))]) :: (ac, .list acc) :: (a, .obj go) :: S₃) (eval elt cenv) (fun y S' => (∃ t', y = .str (mk (f w)) t') ∧ (p :: (cn, .ns [(Str.ofString ".0", some (.ref it)), (x, some (.str (mk w) t))]) :: (ac, .list acc) :: (a, .obj go) :: S₃).Sublist S') NoE) :
    GenBody C A cenv elt x cn (.ref it) vs.length (fun i X => X = [(it, liCell l i)]) (fun i v Y => vs[i]? = some v ∧ Y = [(it, liCell l (i + 1))]) (fun S => (l, .list vs) ∈ S) (fun _ S => S = S₃) (fun i v => ∃ w t, ls[i]? = some w ∧ v = .str (mk (f w)) t) where
  dep := fun i S Z hS => List.mem_append_right _ (hS ▸ hl)
  self := fun X S hX hD => Iter.selfL X S hX
  turn := fun i hin v Y acc ac a go S hV hS => by
    obtain ⟨hv, rfl⟩ := hV
    subst hS
    obtain ⟨w, t, hw, rfl⟩ := hi.get' hv
    refine (h acc ac a go w t (it, liCell l (i + 1)) (List.mem_of_getElem? hw)).mono fun y S' ⟨⟨t', hy⟩, hs⟩ => ⟨⟨w, t', hw, hy⟩, _, _, rfl, rfl, hs⟩
theorem genAcc {f : List Nat → List Nat} {vs acc : List Value} {ls la : List (List Nat)} (hi : SL vs ls) (ha : SL acc la) (hlen : acc.length = vs.length)
    (hP : ∀ (j : Nat) (v : Value), acc[j]? = some v → ∃ w t, ls[j]? = some w ∧ v = Value.str (mk (f w)) t) : la = ls.map f := by
  refine List.ext_getElem? fun j => ?_
  have h1 := hi.len
  have h2 := ha.len
  rcases Nat.lt_or_ge j la.length with h | h
  · obtain ⟨t, ht⟩ := ha.get (List.getElem?_eq_getElem h)
    obtain ⟨w, u, hw, e⟩ := hP j _ ht
    injection e with e _
    rw [List.getElem?_map, hw, List.getElem?_eq_getElem h, mk_inj e]; rfl
  · rw [List.getElem?_eq_none h, List.getElem?_eq_none (by simp; omega)]
end
end Mine
-- part C11A
namespace Mine
open PySem PySem.Calls PySem.W PyProof.Rows
local macro_rules | `(tactic| walk_at "m") => `(tactic| first | exact List.Mem.head _ | exact List.Mem.tail _ (List.Mem.head _) | exact List.Mem.tail _ (List.Mem.tail _ (List.Mem.head _)) | exact List.Mem.tail _ (List.Mem.tail _ (List.Mem.tail _ (List.Mem.head _))) | exact List.Mem.tail _ (List.Mem.tail _ (List.Mem.tail _ (List.Mem.tail _ (List.Mem.head _)))) | exact List.Mem.tail _ (List.Mem.tail _ (List.Mem.tail _ (List.Mem.tail _ (List.Mem.tail _ (List.Mem.head _))))) | exact List.Mem.tail _ (List.Mem.tail _ (List.Mem.tail _ (List.Mem.tail _ (List.Mem.tail _ (List.Mem.tail _ (List.Mem.head _)))))) | exact List.Mem.tail _ (List.Mem.tail _ (List.Mem.tail _ (List.Mem.tail _ (List.Mem.tail _ (List.Mem.tail _ (List.Mem.tail _ (List.Mem.head _))))))) | exact List.Mem.tail _ (List.Mem.tail _ (List.Mem.tail _ (List.Mem.tail _ (List.Mem.tail _ (List.Mem.tail _ (List.Mem.tail _ (List.Mem.tail _ (List.Mem.head _)))))))) | exact List.Mem.tail _ (List.Mem.tail _ (List.Mem.tail _ (List.Mem.tail _ (List.Mem.tail _ (List.Mem.tail _ (List.Mem.tail _ (List.Mem.tail _ (List.Mem.tail _ (List.Mem.head _))))))))) | exact List.Mem.tail _ (List.Mem.tail _ (List.Mem.tail _ (List.Mem.tail _ (List.Mem.tail _ (List.Mem.tail _ (List.Mem.tail _ (List.Mem.tail _ (List.Mem.tail _ (List.Mem.tail _ (List.Mem.head _)))))))))) | exact List.Mem.tail _ (List.Mem.tail _ (List.Mem.tail _ (List.Mem.tail _ (List.Mem.tail _ (List.Mem.tail _ (List.Mem.tail _ (List.Mem.tail _ (List.Mem.tail _ (List.Mem.tail _ (List.Mem.tail _ (List.Mem.head _))))))))))) | exact List.Mem.tail _ (List.Mem.tail _ (List.Mem.tail _ (List.Mem.tail _ (List.Mem.tail _ (List.Mem.tail _ (List.Mem.tail _ (List.Mem.tail _ (List.Mem.tail _ (List.Mem.tail _ (List.Mem.tail _ (List.Mem.tail _ (List.Mem.head _)))))))))))) | exact List.Mem.tail _ (List.Mem.tail _ (List.Mem.tail _ (List.Mem.tail _ (List.Mem.tail _ (List.Mem.tail _ (List.Mem.tail _ (List.Mem.tail _ (List.Mem.tail _ (List.Mem.tail _ (List.Mem.tail _ (List.Mem.tail _ (List.Mem.tail _ (List.Mem.head _))))))))))))) | exact List.Mem.tail _ (List.Mem.tail _ (List.Mem.tail _ (List.Mem.tail _ (List.Mem.tail _ (List.Mem.tail _ (List.Mem.tail _ (List.Mem.tail _ (List.Mem.tail _ (List.Mem.tail _ (List.Mem.tail _ (List.Mem.tail _ (List.Mem.tail _ (List.Mem.tail _ (List.Mem.head _)))))))))))))) | exact List.Mem.tail _ (List.Mem.tail _ (List.Mem.tail _ (List.Mem.tail _ (List.Mem.tail _ (List.Mem.tail _ (List.Mem.tail _ (List.Mem.tail _ (List.Mem.tail _ (List.Mem.tail _ (List.Mem.tail _ (List.Mem.tail _ (List.Mem.tail _ (List.Mem.tail _ (List.Mem.tail _ (List.Mem.head _))))))))))))))) | exact List.Mem.tail _ (List.Mem.tail _ (List.Mem.tail _ (List.Mem.tail _ (List.Mem.tail _ (List.Mem.tail _ (List.Mem.tail _ (List.Mem.tail _ (List.Mem.tail _ (List.Mem.tail _ (List.Mem.tail _ (List.Mem.tail _ (List.Mem.tail _ (List.Mem.tail _ (List.Mem.tail _ (List.Mem.tail _ (List.Mem.head _)))))))))))))))) | exact List.Mem.tail _ (List.Mem.tail _ (List.Mem.tail _ (List.Mem.tail _ (List.Mem.tail _ (List.Mem.tail _ (List.Mem.tail _ (List.Mem.tail _ (List.Mem.tail _ (List.Mem.tail _ (List.Mem.tail _ (List.Mem.tail _ (List.Mem.tail _ (List.Mem.tail _ (List.Mem.tail _ (List.Mem.tail _ (List.Mem.tail _ (List.Mem.head _))))))))))))))))) | exact List.Mem.tail _ (List.Mem.tail _ (List.Mem.tail _ (List.Mem.tail _ (List.Mem.tail _ (List.Mem.tail _ (List.Mem.tail _ (List.Mem.tail _ (List.Mem.tail _ (List.Mem.tail _ (List.Mem.tail _ (List.Mem.tail _ (List.Mem.tail _ (List.Mem.tail _ (List.Mem.tail _ (List.Mem.tail _ (List.Mem.tail _ (List.Mem.tail _ (List.Mem.head _)))))))))))))))))) | exact List.Mem.tail _ (List.Mem.tail _ (List.Mem.tail _ (List.Mem.tail _ (List.Mem.tail _ (List.Mem.tail _ (List.Mem.tail _ (List.Mem.tail _ (List.Mem.tail _ (List.Mem.tail _ (List.Mem.tail _ (List.Mem.tail _ (List.Mem.tail _ (List.Mem.tail _ (List.Mem.tail _ (List.Mem.tail _ (List.Mem.tail _ (List.Mem.tail _ (List.Mem.tail _ (List.Mem.head _))))))))))))))))))) | exact List.Mem.tail _ (List.Mem.tail _ (List.Mem.tail _ (List.Mem.tail _ (List.Mem.tail _ (List.Mem.tail _ (List.Mem.tail _ (List.Mem.tail _ (List.Mem.tail _ (List.Mem.tail _ (List.Mem.tail _ (List.Mem.tail _ (List.Mem.tail _ (List.Mem.tail _ (List.Mem.tail _ (List.Mem.tail _ (List.Mem.tail _ (List.Mem.tail _ (List.Mem.tail _ (List.Mem.tail _ (List.Mem.head _)))))))))))))))))))) | exact List.Mem.tail _ (List.Mem.tail _ (List.Mem.tail _ (List.Mem.tail _ (List.Mem.tail _ (List.Mem.tail _ (List.Mem.tail _ (List.Mem.tail _ (List.Mem.tail _ (List.Mem.tail _ (List.Mem.tail _ (List.Mem.tail _ (List.Mem.tail _ (List.Mem.tail _ (List.Mem.tail _ (List.Mem.tail _ (List.Mem.tail _ (List.Mem.tail _ (List.Mem.tail _ (List.Mem.tail _ (List.Mem.tail _ (List.Mem.head _))))))))))))))))))))) | exact List.Mem.tail _ (List.Mem.tail _ (List.Mem.tail _ (List.Mem.tail _ (List.Mem.tail _ (List.Mem.tail _ (List.Mem.tail _ (List.Mem.tail _ (List.Mem.tail _ (List.Mem.tail _ (List.Mem.tail _ (List.Mem.tail _ (List.Mem.tail _ (List.Mem.tail _ (List.Mem.tail _ (List.Mem.tail _ (List.Mem.tail _ (List.Mem.tail _ (List.Mem.tail _ (List.Mem.tail _ (List.Mem.tail _ (List.Mem.tail _ (List.Mem.head _)))))))))))))))))))))) | exact List.Mem.tail _ (List.Mem.tail _ (List.Mem.tail _ (List.Mem.tail _ (List.Mem.tail _ (List.Mem.tail _ (List.Mem.tail _ (List.Mem.tail _ (List.Mem.tail _ (List.Mem.tail _ (List.Mem.tail _ (List.Mem.tail _ (List.Mem.tail _ (List.Mem.tail _ (List.Mem.tail _ (List.Mem.tail _ (List.Mem.tail _ (List.Mem.tail _ (List.Mem.tail _ (List.Mem.tail _ (List.Mem.tail _ (List.Mem.tail _ (List.Mem.tail _ (List.Mem.head _))))))))))))))))))))))))
local macro_rules | `(tactic| walk_at "u") => `(tactic| first | exact Upd.here | exact Upd.there (Upd.here) | exact Upd.there (Upd.there (Upd.here)) | exact Upd.there (Upd.there (Upd.there (Upd.here))) | exact Upd.there (Upd.there (Upd.there (Upd.there (Upd.here)))) | exact Upd.there (Upd.there (Upd.there (Upd.there (Upd.there (Upd.here))))) | exact Upd.there (Upd.there (Upd.there (Upd.there (Upd.there (Upd.there (Upd.here)))))) | exact Upd.there (Upd.there (Upd.there (Upd.there (Upd.there (Upd.there (Upd.there (Upd.here))))))) | exact Upd.there (Upd.there (Upd.there (Upd.there (Upd.there (Upd.there (Upd.there (Upd.there (Upd.here)))))))) | exact Upd.there (Upd.there (Upd.there (Upd.there (Upd.there (Upd.there (Upd.there (Upd.there (Upd.there (Upd.here))))))))) | exact Upd.there (Upd.there (Upd.there (Upd.there (Upd.there (Upd.there (Upd.there (Upd.there (Upd.there (Upd.there (Upd.here)))))))))) | exact Upd.there (Upd.there (Upd.there (Upd.there (Upd.there (Upd.there (Upd.there (Upd.there (Upd.there (Upd.there (Upd.there (Upd.here))))))))))) | exact Upd.there (Upd.there (Upd.there (Upd.there (Upd.there (Upd.there (Upd.there (Upd.there (Upd.there (Upd.there (Upd.there (Upd.there (Upd.here)))))))))))) | exact Upd.there (Upd.there (Upd.there (Upd.there (Upd.there (Upd.there (Upd.there (Upd.there (Upd.there (Upd.there (Upd.there (Upd.there (Upd.there (Upd.here))))))))))))) | exact Upd.there (Upd.there (Upd.there (Upd.there (Upd.there (Upd.there (Upd.there (Upd.there (Upd.there (Upd.there (Upd.there (Upd.there (Upd.there (Upd.there (Upd.here)))))))))))))) | exact Upd.there (Upd.there (Upd.there (Upd.there (Upd.there (Upd.there (Upd.there (Upd.there (Upd.there (Upd.there (Upd.there (Upd.there (Upd.there (Upd.there (Upd.there (Upd.here))))))))))))))) | exact Upd.there (Upd.there (Upd.there (Upd.there (Upd.there (Upd.there (Upd.there (Upd.there (Upd.there (Upd.there (Upd.there (Upd.there (Upd.there (Upd.there (Upd.there (Upd.there (Upd.here)))))))))))))))) | exact Upd.there (Upd.there (Upd.there (Upd.there (Upd.there (Upd.there (Upd.there (Upd.there (Upd.there (Upd.there (Upd.there (Upd.there (Upd.there (Upd.there (Upd.there (Upd.there (Upd.there (Upd.here))))))))))))))))) | exact Upd.there (Upd.there (Upd.there (Upd.there (Upd.there (Upd.there (Upd.there (Upd.there (Upd.there (Upd.there (Upd.there (Upd.there (Upd.there (Upd.there (Upd.there (Upd.there (Upd.there (Upd.there (Upd.here)))))))))))))))))) | exact Upd.there (Upd.there (Upd.there (Upd.there (Upd.there (Upd.there (Upd.there (Upd.there (Upd.there (Upd.there (Upd.there (Upd.there (Upd.there (Upd.there (Upd.there (Upd.there (Upd.there (Upd.there (Upd.there (Upd.here))))))))))))))))))) | exact Upd.there (Upd.there (Upd.there (Upd.there (Upd.there (Upd.there (Upd.there (Upd.there (Upd.there (Upd.there (Upd.there (Upd.there (Upd.there (Upd.there (Upd.there (Upd.there (Upd.there (Upd.there (Upd.there (Upd.there (Upd.here)))))))))))))))))))) | exact Upd.there (Upd.there (Upd.there (Upd.there (Upd.there (Upd.there (Upd.there (Upd.there (Upd.there (Upd.there (Upd.there (Upd.there (Upd.there (Upd.there (Upd.there (Upd.there (Upd.there (Upd.there (Upd.there (Upd.there (Upd.there (Upd.here))))))))))))))))))))) | exact Upd.there (Upd.there (Upd.there (Upd.there (Upd.there (Upd.there (Upd.there (Upd.there (Upd.there (Upd.there (Upd.there (Upd.there (Upd.there (Upd.there (Upd.there (Upd.there (Upd.there (Upd.there (Upd.there (Upd.there (Upd.there (Upd.there (Upd.here)))))))))))))))))))))) | exact Upd.there (Upd.there (Upd.there (Upd.there (Upd.there (Upd.there (Upd.there (Upd.there (Upd.there (Upd.there (Upd.there (Upd.there (Upd.there (Upd.there (Upd.there (Upd.there (Upd.there (Upd.there (Upd.there (Upd.there (Upd.there (Upd.there (Upd.there (Upd.here))))))))))))))))))))))))
local macro_rules | `(tactic| walk_at "ul") => `(tactic| first | exact UpdL.here | exact UpdL.there (UpdL.here) | exact UpdL.there (UpdL.there (UpdL.here)) | exact UpdL.there (UpdL.there (UpdL.there (UpdL.here))) | exact UpdL.there (UpdL.there (UpdL.there (UpdL.there (UpdL.here)))) | exact UpdL.there (UpdL.there (UpdL.there (UpdL.there (UpdL.there (UpdL.here))))) | exact UpdL.there (UpdL.there (UpdL.there (UpdL.there (UpdL.there (UpdL.there (UpdL.here)))))) | exact UpdL.there (UpdL.there (UpdL.there (UpdL.there (UpdL.there (UpdL.there (UpdL.there (UpdL.here))))))) | exact UpdL.there (UpdL.there (UpdL.there (UpdL.there (UpdL.there (UpdL.there (UpdL.there (UpdL.there (UpdL.here)))))))) | exact UpdL.there (UpdL.there (UpdL.there (UpdL.there (UpdL.there (UpdL.there (UpdL.there (UpdL.there (UpdL.there (UpdL.here))))))))) | exact UpdL.there (UpdL.there (UpdL.there (UpdL.there (UpdL.there (UpdL.there (UpdL.there (UpdL.there (UpdL.there (UpdL.there (UpdL.here)))))))))) | exact UpdL.there (UpdL.there (UpdL.there (UpdL.there (UpdL.there (UpdL.there (UpdL.there (UpdL.there (UpdL.there (UpdL.there (UpdL.there (UpdL.here))))))))))) | exact UpdL.there (UpdL.there (UpdL.there (UpdL.there (UpdL.there (UpdL.there (UpdL.there (UpdL.there (UpdL.there (UpdL.there (UpdL.there (UpdL.there (UpdL.here)))))))))))) | exact UpdL.there (UpdL.there (UpdL.there (UpdL.there (UpdL.there (UpdL.there (UpdL.there (UpdL.there (UpdL.there (UpdL.there (UpdL.there (UpdL.there (UpdL.there (UpdL.here))))))))))))))
local macro_rules | `(tactic| walk_at "d") => `(tactic| first | exact Del.here | exact Del.there (Del.here) | exact Del.there (Del.there (Del.here)) | exact Del.there (Del.there (Del.there (Del.here))) | exact Del.there (Del.there (Del.there (Del.there (Del.here)))) | exact Del.there (Del.there (Del.there (Del.there (Del.there (Del.here))))) | exact Del.there (Del.there (Del.there (Del.there (Del.there (Del.there (Del.here)))))) | exact Del.there (Del.there (Del.there (Del.there (Del.there (Del.there (Del.there (Del.here))))))) | exact Del.there (Del.there (Del.there (Del.there (Del.there (Del.there (Del.there (Del.there (Del.here)))))))) | exact Del.there (Del.there (Del.there (Del.there (Del.there (Del.there (Del.there (Del.there (Del.there (Del.here))))))))) | exact Del.there (Del.there (Del.there (Del.there (Del.there (Del.there (Del.there (Del.there (Del.there (Del.there (Del.here)))))))))) | exact Del.there (Del.there (Del.there (Del.there (Del.there (Del.there (Del.there (Del.there (Del.there (Del.there (Del.there (Del.here))))))))))) | exact Del.there (Del.there (Del.there (Del.there (Del.there (Del.there (Del.there (Del.there (Del.there (Del.there (Del.there (Del.there (Del.here)))))))))))) | exact Del.there (Del.there (Del.there (Del.there (Del.there (Del.there (Del.there (Del.there (Del.there (Del.there (Del.there (Del.there (Del.there (Del.here))))))))))))) | exact Del.there (Del.there (Del.there (Del.there (Del.there (Del.there (Del.there (Del.there (Del.there (Del.there (Del.there (Del.there (Del.there (Del.there (Del.here)))))))))))))) | exact Del.there (Del.there (Del.there (Del.there (Del.there (Del.there (Del.there (Del.there (Del.there (Del.there (Del.there (Del.there (Del.there (Del.there (Del.there (Del.here))))))))))))))) | exact Del.there (Del.there (Del.there (Del.there (Del.there (Del.there (Del.there (Del.there (Del.there (Del.there (Del.there (Del.there (Del.there (Del.there (Del.there (Del.there (Del.here)))))))))))))))) | exact Del.there (Del.there (Del.there (Del.there (Del.there (Del.there (Del.there (Del.there (Del.there (Del.there (Del.there (Del.there (Del.there (Del.there (Del.there (Del.there (Del.there (Del.here))))))))))))))))) | exact Del.there (Del.there (Del.there (Del.there (Del.there (Del.there (Del.there (Del.there (Del.there (Del.there (Del.there (Del.there (Del.there (Del.there (Del.there (Del.there (Del.there (Del.there (Del.here)))))))))))))))))) | exact Del.there (Del.there (Del.there (Del.there (Del.there (Del.there (Del.there (Del.there (Del.there (Del.there (Del.there (Del.there (Del.there (Del.there (Del.there (Del.there (Del.there (Del.there (Del.there (Del.here))))))))))))))))))) | exact Del.there (Del.there (Del.there (Del.there (Del.there (Del.there (Del.there (Del.there (Del.there (Del.there (Del.there (Del.there (Del.there (Del.there (Del.there (Del.there (Del.there (Del.there (Del.there (Del.there (Del.here)))))))))))))))))))) | exact Del.there (Del.there (Del.there (Del.there (Del.there (Del.there (Del.there (Del.there (Del.there (Del.there (Del.there (Del.there (Del.there (Del.there (Del.there (Del.there (Del.there (Del.there (Del.there (Del.there (Del.there (Del.here))))))))))))))))))))) | exact Del.there (Del.there (Del.there (Del.there (Del.there (Del.there (Del.there (Del.there (Del.there (Del.there (Del.there (Del.there (Del.there (Del.there (Del.there (Del.there (Del.there (Del.there (Del.there (Del.there (Del.there (Del.there (Del.here)))))))))))))))))))))) | exact Del.there (Del.there (Del.there (Del.there (Del.there (Del.there (Del.there (Del.there (Del.there (Del.there (Del.there (Del.there (Del.there (Del.there (Del.there (Del.there (Del.there (Del.there (Del.there (Del.there (Del.there (Del.there (Del.there (Del.here))))))))))))))))))))))))
local macro_rules | `(tactic| walk_at "s") => `(tactic| repeat (first | exact List.Sublist.refl _ | exact List.nil_sublist _ | refine List.Sublist.cons_cons _ ?_ | refine List.Sublist.cons _ ?_))
local macro_rules | `(tactic| walk_at "h") => `(tactic| repeat (first | assumption | exact List.Mem.head _ | refine List.Mem.tail _ ?_))
def clsP (o : List Nat) : List Nat := if o = [] then [] else [41]
def InnerOk (n : Nat) : Prop := ∀ {C : Cx} {A : Around} {S : St} {l : Addr} {vs : List Value} {ss : List (List Nat)} {z : Nat} {o : List Nat} {t0 : Tok} {Q : Value → St → Prop},
  Base2 C → Room A (12 * n + 20) → Words ss z → mu ss ≤ n → n ≤ 40 → (l, .list vs) ∈ S → SL vs ss → (o = [] ∨ o = opn ∨ o = [40]) → (∀ t, Q (.str (mk (o ++ shw (rxT n ss) ++ clsP o)) t) S) → W C A S (call (.ref 179) [.ref l, .str (mk o) t0]) Q NoE
section
variable {C : Cx} {A : Around} {S : St} {E : Value → Shared → Prop} {env : Env}
theorem fInner (B : Base C) : FnIs C 179 xInner.1 := B.fn xInner fun P => ⟨_, _, _, _, rfl, rfl, rfl, rfl⟩
theorem gInner (B : Base C) : GlobalIs C (Str.ofString "regex_opt_inner") (.ref 179) := B.glob (by intro P; kernel_rfl)
theorem gLen (B : Base C) : GlobalIs C (Str.ofString "len") (.builtin "len") := B.bi (by intro P; kernel_rfl) (by kernel_rfl) (by decide)
theorem gSorted (B : Base C) : GlobalIs C (Str.ofString "sorted") (.builtin "sorted") := B.bi (by intro P; kernel_rfl) (by kernel_rfl) (by decide)
theorem gList (B : Base C) : GlobalIs C (Str.ofString "list") (.type "list") := B.bi (by intro P; kernel_rfl) (by kernel_rfl) (by decide)
theorem W.closeP {p1 p2 p3 p4 p5 : Pos} {o : List Nat} {t0 : Tok} {l} (ho : o = [] ∨ o = opn ∨ o = [40]) (hm : (env.locals, .ns l) ∈ S) (hx : (Str.ofString "open_paren", some (.str (mk o) t0)) ∈ l)
    (hk : env.scope.kind = .function) (hl : env.kindOf (Str.ofString "open_paren") = some .local) :
    W C A S (eval (.BoolOp .Or [.BoolOp .And [.Name (Str.ofString "open_paren") p1, .Constant (.str (Str.ofString ")")) 0 p2] p3, .Constant (.str (Str.ofString "")) 0 p4] p5) env) (fun v S' => S' = S ∧ ∃ t, v = .str (mk (clsP o)) t) E := by
  by_cases h : o = []
  · subst h
    refine .or2 (.and2 (.name hm hx (.truM (ite_neg (by decide) (.truM (ite_neg (by decide) (.cStr fun t => ⟨rfl, t, rfl⟩)) (by simp))) (by simp)) hk hl))
  · have hlen : o.length ≤ 100000 := by rcases ho with rfl | rfl | rfl <;> decide
    refine .or2 (.and2 (.name hm hx (.truM (ite_pos (by simpa using h) (.cStr fun t => .truM (x := [41]) (ite_pos (by decide) ⟨rfl, t, ?_⟩) (by simp))) hlen) hk hl))
    unfold clsP
    rw [if_neg h]
    rfl
theorem Base.at {m : Nat} (B : Base C) : Base (C.at m) := ⟨B.frag, B.g, B.b, B.nolimit⟩
theorem Base2.at {m : Nat} (B : Base2 C) : Base2 (C.at m) := { B.toBase.at with hb := B.hb, tb := B.tb, h56 := B.h56, h178 := B.h178 }
theorem Iter.dep {it : Value} {n : Nat} {K : Nat → St → Prop} {D D' : St → Prop} {V : Nat → Value → St → Prop} (I : Iter C A it n K D V) (h : ∀ S, D' S → D S) : Iter C A it n K D' V :=
  ⟨fun i hi X S E hK hD => I.item i hi X S E hK (h S hD), fun X S E hK hD => I.stop X S E hK (h S hD)⟩
def keyOf (first : List Nat) (ss : List (List Nat)) (j : Nat) : Bool := sameHead first (ss.getD j [])
/-- the key of a word -/
theorem keyAt {f c : Addr} {fd : FuncData} {first w : List Nat} {tf tw : Tok} (hlim : C.base.NoLimit) (hfd : (f, .fn fd) ∈ S) (hc : (c, .cell (some (.str (mk first) tf))) ∈ S)
    (hp : fd.params = { posonlyargs := [], args := [{ arg := Str.ofString "s", annotation := none, pos := ⟨142, 107, 142, 108⟩ }], vararg := none, kwonlyargs := [], kw_defaults := [], kwarg := none, defaults := [] })
    (hsc : fd.scope = { kind := ScopeKind.function, names := [(Str.ofString "s", NameKind.local), (Str.ofString "first", NameKind.free)], isGenerator := false, isCoroutine := false })
    (hcl : fd.closure = [(Str.ofString "first", c)])
    (hb : ∃ p1 p2 p3 p4 p5 p6 p7, fd.body = .expr (((Expr.Name (Str.ofString "s") p1).Subscript (.Constant (.int 0) 0 p2) p3).Compare [.Eq] [(Expr.Name (Str.ofString "first") p4).Subscript (.Constant (.int 0) 0 p5) p6] p7))
    (hf : first ≠ []) (hw : w ≠ []) (hd : fd.defaults = .none) (hk : fd.kwdefaults = .none) : KeyAt C S f (.str (mk w) tw) (sameHead first w) := fun A' Z R => by
  obtain ⟨p1, p2, p3, p4, p5, p6, p7, hb⟩ := hb
  cases fd
  simp only at hp hb hsc hcl hd hk
  subst hp hb hsc hcl hd hk
  match first, w, hf, hw with
  | c0 :: first, d :: w, _, _ =>
  refine .callLam (n := 0) (binds := [(Str.ofString "s", .str (mk (d :: w)) tw)]) [Str.ofString "s"] (List.mem_append_right _ hfd) hlim R rfl rfl (show ∀ x ∈ [(Str.ofString "s", NameKind.local), (Str.ofString "first", NameKind.free)], x.2 ≠ .cell by decide) (show ∀ x ∈ [Str.ofString "s"], [(Str.ofString "s", NameKind.local), (Str.ofString "first", NameKind.free)].lookup x = some .local by decide) (by decide) ?_ rfl rfl rfl rfl
  intro L' R2
  refine .cmp (.sub (.name (.head _) (by walk_at "m") (.cInt fun t1 => .itemM (by decide) (by decide) rfl fun t2 => .sub (.nameF rfl (.tail _ (List.mem_append_right _ hc)) (.cInt fun t3 => .itemM (by decide) (by decide) rfl fun t4 => ?_)))))
  refine .eqM ⟨_, List.sublist_cons_self _ _, ?_, rfl⟩
  by_cases h : d = c0 <;> simp [sameHead, h]
/-- where the groups begin -/
structure Two (first : List Nat) (ss : List (List Nat)) (m : Nat) : Prop where
  lt : m < ss.length
  pos : 0 < m
  lo : ∀ j, j < m → keyOf first ss j = true
  hi : ∀ j, m ≤ j → j < ss.length → keyOf first ss j = false
  g1 : ss.take m = ss.filter (sameHead first)
  g2 : ss.drop m = ss.filter fun w => !sameHead first w
theorem two_of {first : List Nat} {r : List (List Nat)} (h : Inc (first :: r)) (hf : first ≠ []) (hl : lcp (first :: r) = []) : Two first (first :: r) ((first :: r).filter (sameHead first)).length := by
  have e := heads_split h hf
  have h1 := heads_one (first := first) (r := r)
  have h2 := heads_two hf hl
  have e1 : (first :: r).take ((first :: r).filter (sameHead first)).length = (first :: r).filter (sameHead first) := (congrArg (List.take _) e).trans (by simp)
  have e2 : (first :: r).drop ((first :: r).filter (sameHead first)).length = (first :: r).filter fun w => !sameHead first w := (congrArg (List.drop _) e).trans (by simp)
  have hl1 : 0 < ((first :: r).filter (sameHead first)).length := List.length_pos_iff.mpr h1
  have hl2 : 0 < ((first :: r).filter fun w => !sameHead first w).length := List.length_pos_iff.mpr h2
  have hl3 := congrArg List.length e
  rw [List.length_append] at hl3
  generalize first :: r = ss at *
  refine ⟨by omega, hl1, fun j hj => ?_, fun j hj hjl => ?_, e1, e2⟩
  · have hjl : j < ss.length := by omega
    have : ss[j] ∈ ss.take (ss.filter (sameHead first)).length := by
      rw [List.mem_take_iff_getElem]
      exact ⟨j, by omega, rfl⟩
    rw [e1] at this
    unfold keyOf
    rw [List.getD_eq_getElem?_getD, List.getElem?_eq_getElem hjl]
    exact (List.mem_filter.mp this).2
  · have : ss[j] ∈ ss.drop (ss.filter (sameHead first)).length := by
      rw [List.mem_drop_iff_getElem]
      exact ⟨j - (ss.filter (sameHead first)).length, by omega, by congr 1; omega⟩
    rw [e2] at this
    unfold keyOf
    rw [List.getD_eq_getElem?_getD, List.getElem?_eq_getElem hjl]
    simpa using (List.mem_filter.mp this).2
end
end Mine
-- part C11
namespace Mine
open PySem PySem.Calls PySem.W PyProof.Rows
local macro_rules | `(tactic| walk_at "m") => `(tactic| first | exact List.Mem.head _ | exact List.Mem.tail _ (List.Mem.head _) | exact List.Mem.tail _ (List.Mem.tail _ (List.Mem.head _)) | exact List.Mem.tail _ (List.Mem.tail _ (List.Mem.tail _ (List.Mem.head _))) | exact List.Mem.tail _ (List.Mem.tail _ (List.Mem.tail _ (List.Mem.tail _ (List.Mem.head _)))) | exact List.Mem.tail _ (List.Mem.tail _ (List.Mem.tail _ (List.Mem.tail _ (List.Mem.tail _ (List.Mem.head _))))) | exact List.Mem.tail _ (List.Mem.tail _ (List.Mem.tail _ (List.Mem.tail _ (List.Mem.tail _ (List.Mem.tail _ (List.Mem.head _)))))) | exact List.Mem.tail _ (List.Mem.tail _ (List.Mem.tail _ (List.Mem.tail _ (List.Mem.tail _ (List.Mem.tail _ (List.Mem.tail _ (List.Mem.head _))))))) | exact List.Mem.tail _ (List.Mem.tail _ (List.Mem.tail _ (List.Mem.tail _ (List.Mem.tail _ (List.Mem.tail _ (List.Mem.tail _ (List.Mem.tail _ (List.Mem.head _)))))))) | exact List.Mem.tail _ (List.Mem.tail _ (List.Mem.tail _ (List.Mem.tail _ (List.Mem.tail _ (List.Mem.tail _ (List.Mem.tail _ (List.Mem.tail _ (List.Mem.tail _ (List.Mem.head _))))))))) | exact List.Mem.tail _ (List.Mem.tail _ (List.Mem.tail _ (List.Mem.tail _ (List.Mem.tail _ (List.Mem.tail _ (List.Mem.tail _ (List.Mem.tail _ (List.Mem.tail _ (List.Mem.tail _ (List.Mem.head _)))))))))) | exact List.Mem.tail _ (List.Mem.tail _ (List.Mem.tail _ (List.Mem.tail _ (List.Mem.tail _ (List.Mem.tail _ (List.Mem.tail _ (List.Mem.tail _ (List.Mem.tail _ (List.Mem.tail _ (List.Mem.tail _ (List.Mem.head _))))))))))) | exact List.Mem.tail _ (List.Mem.tail _ (List.Mem.tail _ (List.Mem.tail _ (List.Mem.tail _ (List.Mem.tail _ (List.Mem.tail _ (List.Mem.tail _ (List.Mem.tail _ (List.Mem.tail _ (List.Mem.tail _ (List.Mem.tail _ (List.Mem.head _)))))))))))) | exact List.Mem.tail _ (List.Mem.tail _ (List.Mem.tail _ (List.Mem.tail _ (List.Mem.tail _ (List.Mem.tail _ (List.Mem.tail _ (List.Mem.tail _ (List.Mem.tail _ (List.Mem.tail _ (List.Mem.tail _ (List.Mem.tail _ (List.Mem.tail _ (List.Mem.head _))))))))))))) | exact List.Mem.tail _ (List.Mem.tail _ (List.Mem.tail _ (List.Mem.tail _ (List.Mem.tail _ (List.Mem.tail _ (List.Mem.tail _ (List.Mem.tail _ (List.Mem.tail _ (List.Mem.tail _ (List.Mem.tail _ (List.Mem.tail _ (List.Mem.tail _ (List.Mem.tail _ (List.Mem.head _)))))))))))))) | exact List.Mem.tail _ (List.Mem.tail _ (List.Mem.tail _ (List.Mem.tail _ (List.Mem.tail _ (List.Mem.tail _ (List.Mem.tail _ (List.Mem.tail _ (List.Mem.tail _ (List.Mem.tail _ (List.Mem.tail _ (List.Mem.tail _ (List.Mem.tail _ (List.Mem.tail _ (List.Mem.tail _ (List.Mem.head _))))))))))))))) | exact List.Mem.tail _ (List.Mem.tail _ (List.Mem.tail _ (List.Mem.tail _ (List.Mem.tail _ (List.Mem.tail _ (List.Mem.tail _ (List.Mem.tail _ (List.Mem.tail _ (List.Mem.tail _ (List.Mem.tail _ (List.Mem.tail _ (List.Mem.tail _ (List.Mem.tail _ (List.Mem.tail _ (List.Mem.tail _ (List.Mem.head _)))))))))))))))) | exact List.Mem.tail _ (List.Mem.tail _ (List.Mem.tail _ (List.Mem.tail _ (List.Mem.tail _ (List.Mem.tail _ (List.Mem.tail _ (List.Mem.tail _ (List.Mem.tail _ (List.Mem.tail _ (List.Mem.tail _ (List.Mem.tail _ (List.Mem.tail _ (List.Mem.tail _ (List.Mem.tail _ (List.Mem.tail _ (List.Mem.tail _ (List.Mem.head _))))))))))))))))) | exact List.Mem.tail _ (List.Mem.tail _ (List.Mem.tail _ (List.Mem.tail _ (List.Mem.tail _ (List.Mem.tail _ (List.Mem.tail _ (List.Mem.tail _ (List.Mem.tail _ (List.Mem.tail _ (List.Mem.tail _ (List.Mem.tail _ (List.Mem.tail _ (List.Mem.tail _ (List.Mem.tail _ (List.Mem.tail _ (List.Mem.tail _ (List.Mem.tail _ (List.Mem.head _)))))))))))))))))) | exact List.Mem.tail _ (List.Mem.tail _ (List.Mem.tail _ (List.Mem.tail _ (List.Mem.tail _ (List.Mem.tail _ (List.Mem.tail _ (List.Mem.tail _ (List.Mem.tail _ (List.Mem.tail _ (List.Mem.tail _ (List.Mem.tail _ (List.Mem.tail _ (List.Mem.tail _ (List.Mem.tail _ (List.Mem.tail _ (List.Mem.tail _ (List.Mem.tail _ (List.Mem.tail _ (List.Mem.head _))))))))))))))))))) | exact List.Mem.tail _ (List.Mem.tail _ (List.Mem.tail _ (List.Mem.tail _ (List.Mem.tail _ (List.Mem.tail _ (List.Mem.tail _ (List.Mem.tail _ (List.Mem.tail _ (List.Mem.tail _ (List.Mem.tail _ (List.Mem.tail _ (List.Mem.tail _ (List.Mem.tail _ (List.Mem.tail _ (List.Mem.tail _ (List.Mem.tail _ (List.Mem.tail _ (List.Mem.tail _ (List.Mem.tail _ (List.Mem.head _)))))))))))))))))))) | exact List.Mem.tail _ (List.Mem.tail _ (List.Mem.tail _ (List.Mem.tail _ (List.Mem.tail _ (List.Mem.tail _ (List.Mem.tail _ (List.Mem.tail _ (List.Mem.tail _ (List.Mem.tail _ (List.Mem.tail _ (List.Mem.tail _ (List.Mem.tail _ (List.Mem.tail _ (List.Mem.tail _ (List.Mem.tail _ (List.Mem.tail _ (List.Mem.tail _ (List.Mem.tail _ (List.Mem.tail _ (List.Mem.tail _ (List.Mem.head _))))))))))))))))))))) | exact List.Mem.tail _ (List.Mem.tail _ (List.Mem.tail _ (List.Mem.tail _ (List.Mem.tail _ (List.Mem.tail _ (List.Mem.tail _ (List.Mem.tail _ (List.Mem.tail _ (List.Mem.tail _ (List.Mem.tail _ (List.Mem.tail _ (List.Mem.tail _ (List.Mem.tail _ (List.Mem.tail _ (List.Mem.tail _ (List.Mem.tail _ (List.Mem.tail _ (List.Mem.tail _ (List.Mem.tail _ (List.Mem.tail _ (List.Mem.tail _ (List.Mem.head _)))))))))))))))))))))) | exact List.Mem.tail _ (List.Mem.tail _ (List.Mem.tail _ (List.Mem.tail _ (List.Mem.tail _ (List.Mem.tail _ (List.Mem.tail _ (List.Mem.tail _ (List.Mem.tail _ (List.Mem.tail _ (List.Mem.tail _ (List.Mem.tail _ (List.Mem.tail _ (List.Mem.tail _ (List.Mem.tail _ (List.Mem.tail _ (List.Mem.tail _ (List.Mem.tail _ (List.Mem.tail _ (List.Mem.tail _ (List.Mem.tail _ (List.Mem.tail _ (List.Mem.tail _ (List.Mem.head _))))))))))))))))))))))))
local macro_rules | `(tactic| walk_at "u") => `(tactic| first | exact Upd.here | exact Upd.there (Upd.here) | exact Upd.there (Upd.there (Upd.here)) | exact Upd.there (Upd.there (Upd.there (Upd.here))) | exact Upd.there (Upd.there (Upd.there (Upd.there (Upd.here)))) | exact Upd.there (Upd.there (Upd.there (Upd.there (Upd.there (Upd.here))))) | exact Upd.there (Upd.there (Upd.there (Upd.there (Upd.there (Upd.there (Upd.here)))))) | exact Upd.there (Upd.there (Upd.there (Upd.there (Upd.there (Upd.there (Upd.there (Upd.here))))))) | exact Upd.there (Upd.there (Upd.there (Upd.there (Upd.there (Upd.there (Upd.there (Upd.there (Upd.here)))))))) | exact Upd.there (Upd.there (Upd.there (Upd.there (Upd.there (Upd.there (Upd.there (Upd.there (Upd.there (Upd.here))))))))) | exact Upd.there (Upd.there (Upd.there (Upd.there (Upd.there (Upd.there (Upd.there (Upd.there (Upd.there (Upd.there (Upd.here)))))))))) | exact Upd.there (Upd.there (Upd.there (Upd.there (Upd.there (Upd.there (Upd.there (Upd.there (Upd.there (Upd.there (Upd.there (Upd.here))))))))))) | exact Upd.there (Upd.there (Upd.there (Upd.there (Upd.there (Upd.there (Upd.there (Upd.there (Upd.there (Upd.there (Upd.there (Upd.there (Upd.here)))))))))))) | exact Upd.there (Upd.there (Upd.there (Upd.there (Upd.there (Upd.there (Upd.there (Upd.there (Upd.there (Upd.there (Upd.there (Upd.there (Upd.there (Upd.here))))))))))))) | exact Upd.there (Upd.there (Upd.there (Upd.there (Upd.there (Upd.there (Upd.there (Upd.there (Upd.there (Upd.there (Upd.there (Upd.there (Upd.there (Upd.there (Upd.here)))))))))))))) | exact Upd.there (Upd.there (Upd.there (Upd.there (Upd.there (Upd.there (Upd.there (Upd.there (Upd.there (Upd.there (Upd.there (Upd.there (Upd.there (Upd.there (Upd.there (Upd.here))))))))))))))) | exact Upd.there (Upd.there (Upd.there (Upd.there (Upd.there (Upd.there (Upd.there (Upd.there (Upd.there (Upd.there (Upd.there (Upd.there (Upd.there (Upd.there (Upd.there (Upd.there (Upd.here)))))))))))))))) | exact Upd.there (Upd.there (Upd.there (Upd.there (Upd.there (Upd.there (Upd.there (Upd.there (Upd.there (Upd.there (Upd.there (Upd.there (Upd.there (Upd.there (Upd.there (Upd.there (Upd.there (Upd.here))))))))))))))))) | exact Upd.there (Upd.there (Upd.there (Upd.there (Upd.there (Upd.there (Upd.there (Upd.there (Upd.there (Upd.there (Upd.there (Upd.there (Upd.there (Upd.there (Upd.there (Upd.there (Upd.there (Upd.there (Upd.here)))))))))))))))))) | exact Upd.there (Upd.there (Upd.there (Upd.there (Upd.there (Upd.there (Upd.there (Upd.there (Upd.there (Upd.there (Upd.there (Upd.there (Upd.there (Upd.there (Upd.there (Upd.there (Upd.there (Upd.there (Upd.there (Upd.here))))))))))))))))))) | exact Upd.there (Upd.there (Upd.there (Upd.there (Upd.there (Upd.there (Upd.there (Upd.there (Upd.there (Upd.there (Upd.there (Upd.there (Upd.there (Upd.there (Upd.there (Upd.there (Upd.there (Upd.there (Upd.there (Upd.there (Upd.here)))))))))))))))))))) | exact Upd.there (Upd.there (Upd.there (Upd.there (Upd.there (Upd.there (Upd.there (Upd.there (Upd.there (Upd.there (Upd.there (Upd.there (Upd.there (Upd.there (Upd.there (Upd.there (Upd.there (Upd.there (Upd.there (Upd.there (Upd.there (Upd.here))))))))))))))))))))) | exact Upd.there (Upd.there (Upd.there (Upd.there (Upd.there (Upd.there (Upd.there (Upd.there (Upd.there (Upd.there (Upd.there (Upd.there (Upd.there (Upd.there (Upd.there (Upd.there (Upd.there (Upd.there (Upd.there (Upd.there (Upd.there (Upd.there (Upd.here)))))))))))))))))))))) | exact Upd.there (Upd.there (Upd.there (Upd.there (Upd.there (Upd.there (Upd.there (Upd.there (Upd.there (Upd.there (Upd.there (Upd.there (Upd.there (Upd.there (Upd.there (Upd.there (Upd.there (Upd.there (Upd.there (Upd.there (Upd.there (Upd.there (Upd.there (Upd.here))))))))))))))))))))))))
local macro_rules | `(tactic| walk_at "ul") => `(tactic| first | exact UpdL.here | exact UpdL.there (UpdL.here) | exact UpdL.there (UpdL.there (UpdL.here)) | exact UpdL.there (UpdL.there (UpdL.there (UpdL.here))) | exact UpdL.there (UpdL.there (UpdL.there (UpdL.there (UpdL.here)))) | exact UpdL.there (UpdL.there (UpdL.there (UpdL.there (UpdL.there (UpdL.here))))) | exact UpdL.there (UpdL.there (UpdL.there (UpdL.there (UpdL.there (UpdL.there (UpdL.here)))))) | exact UpdL.there (UpdL.there (UpdL.there (UpdL.there (UpdL.there (UpdL.there (UpdL.there (UpdL.here))))))) | exact UpdL.there (UpdL.there (UpdL.there (UpdL.there (UpdL.there (UpdL.there (UpdL.there (UpdL.there (UpdL.here)))))))) | exact UpdL.there (UpdL.there (UpdL.there (UpdL.there (UpdL.there (UpdL.there (UpdL.there (UpdL.there (UpdL.there (UpdL.here))))))))) | exact UpdL.there (UpdL.there (UpdL.there (UpdL.there (UpdL.there (UpdL.there (UpdL.there (UpdL.there (UpdL.there (UpdL.there (UpdL.here)))))))))) | exact UpdL.there (UpdL.there (UpdL.there (UpdL.there (UpdL.there (UpdL.there (UpdL.there (UpdL.there (UpdL.there (UpdL.there (UpdL.there (UpdL.here))))))))))) | exact UpdL.there (UpdL.there (UpdL.there (UpdL.there (UpdL.there (UpdL.there (UpdL.there (UpdL.there (UpdL.there (UpdL.there (UpdL.there (UpdL.there (UpdL.here)))))))))))) | exact UpdL.there (UpdL.there (UpdL.there (UpdL.there (UpdL.there (UpdL.there (UpdL.there (UpdL.there (UpdL.there (UpdL.there (UpdL.there (UpdL.there (UpdL.there (UpdL.here))))))))))))))
local macro_rules | `(tactic| walk_at "d") => `(tactic| first | exact Del.here | exact Del.there (Del.here) | exact Del.there (Del.there (Del.here)) | exact Del.there (Del.there (Del.there (Del.here))) | exact Del.there (Del.there (Del.there (Del.there (Del.here)))) | exact Del.there (Del.there (Del.there (Del.there (Del.there (Del.here))))) | exact Del.there (Del.there (Del.there (Del.there (Del.there (Del.there (Del.here)))))) | exact Del.there (Del.there (Del.there (Del.there (Del.there (Del.there (Del.there (Del.here))))))) | exact Del.there (Del.there (Del.there (Del.there (Del.there (Del.there (Del.there (Del.there (Del.here)))))))) | exact Del.there (Del.there (Del.there (Del.there (Del.there (Del.there (Del.there (Del.there (Del.there (Del.here))))))))) | exact Del.there (Del.there (Del.there (Del.there (Del.there (Del.there (Del.there (Del.there (Del.there (Del.there (Del.here)))))))))) | exact Del.there (Del.there (Del.there (Del.there (Del.there (Del.there (Del.there (Del.there (Del.there (Del.there (Del.there (Del.here))))))))))) | exact Del.there (Del.there (Del.there (Del.there (Del.there (Del.there (Del.there (Del.there (Del.there (Del.there (Del.there (Del.there (Del.here)))))))))))) | exact Del.there (Del.there (Del.there (Del.there (Del.there (Del.there (Del.there (Del.there (Del.there (Del.there (Del.there (Del.there (Del.there (Del.here))))))))))))) | exact Del.there (Del.there (Del.there (Del.there (Del.there (Del.there (Del.there (Del.there (Del.there (Del.there (Del.there (Del.there (Del.there (Del.there (Del.here)))))))))))))) | exact Del.there (Del.there (Del.there (Del.there (Del.there (Del.there (Del.there (Del.there (Del.there (Del.there (Del.there (Del.there (Del.there (Del.there (Del.there (Del.here))))))))))))))) | exact Del.there (Del.there (Del.there (Del.there (Del.there (Del.there (Del.there (Del.there (Del.there (Del.there (Del.there (Del.there (Del.there (Del.there (Del.there (Del.there (Del.here)))))))))))))))) | exact Del.there (Del.there (Del.there (Del.there (Del.there (Del.there (Del.there (Del.there (Del.there (Del.there (Del.there (Del.there (Del.there (Del.there (Del.there (Del.there (Del.there (Del.here))))))))))))))))) | exact Del.there (Del.there (Del.there (Del.there (Del.there (Del.there (Del.there (Del.there (Del.there (Del.there (Del.there (Del.there (Del.there (Del.there (Del.there (Del.there (Del.there (Del.there (Del.here)))))))))))))))))) | exact Del.there (Del.there (Del.there (Del.there (Del.there (Del.there (Del.there (Del.there (Del.there (Del.there (Del.there (Del.there (Del.there (Del.there (Del.there (Del.there (Del.there (Del.there (Del.there (Del.here))))))))))))))))))) | exact Del.there (Del.there (Del.there (Del.there (Del.there (Del.there (Del.there (Del.there (Del.there (Del.there (Del.there (Del.there (Del.there (Del.there (Del.there (Del.there (Del.there (Del.there (Del.there (Del.there (Del.here)))))))))))))))))))) | exact Del.there (Del.there (Del.there (Del.there (Del.there (Del.there (Del.there (Del.there (Del.there (Del.there (Del.there (Del.there (Del.there (Del.there (Del.there (Del.there (Del.there (Del.there (Del.there (Del.there (Del.there (Del.here))))))))))))))))))))) | exact Del.there (Del.there (Del.there (Del.there (Del.there (Del.there (Del.there (Del.there (Del.there (Del.there (Del.there (Del.there (Del.there (Del.there (Del.there (Del.there (Del.there (Del.there (Del.there (Del.there (Del.there (Del.there (Del.here)))))))))))))))))))))) | exact Del.there (Del.there (Del.there (Del.there (Del.there (Del.there (Del.there (Del.there (Del.there (Del.there (Del.there (Del.there (Del.there (Del.there (Del.there (Del.there (Del.there (Del.there (Del.there (Del.there (Del.there (Del.there (Del.there (Del.here))))))))))))))))))))))))
local macro_rules | `(tactic| walk_at "s") => `(tactic| repeat (first | exact List.Sublist.refl _ | exact List.nil_sublist _ | refine List.Sublist.cons_cons _ ?_ | refine List.Sublist.cons _ ?_))
local macro_rules | `(tactic| walk_at "h") => `(tactic| repeat (first | assumption | exact List.Mem.head _ | refine List.Mem.tail _ ?_))
section
variable {C : Cx} {A : Around} {S : St} {E : Value → Shared → Prop} {env : Env}
theorem le_sum : ∀ {l : List Nat} {a : Nat}, a ∈ l → a ≤ l.sum
  | b :: l, a, h => by
    rcases List.mem_cons.mp h with rfl | h
    · simp
    · have := le_sum h; simp; omega
theorem inner_step {n : Nat} (rec : InnerOk n) : InnerOk (n + 1) := by
  intro C A S l vs ss z o t0 Q B R Wd hmu hn hm hi ho h
  have ho3 : o.length ≤ 3 := by rcases ho with rfl | rfl | rfl <;> decide
  have hc1 : (clsP o).length ≤ 1 := by unfold clsP; split <;> simp
  have hlen := hi.len
  have hssl : ss.length ≤ 41 := by have : mu ss = ss.length + (ss.map List.length).sum := rfl; omega
  have hwl : ∀ w ∈ ss, w.length ≤ 41 := fun w hw => by
    have : mu ss = ss.length + (ss.map List.length).sum := rfl
    have := le_sum (l := ss.map List.length) (a := w.length) (List.mem_map.mpr ⟨w, hw, rfl⟩)
    omega
  refine .callDefC (n := 12 * (n + 1) + 19) (binds := [(Str.ofString "strings", .ref l), (Str.ofString "open_paren", .str (mk o) t0)]) [Str.ofString "strings", Str.ofString "open_paren"]
    [Str.ofString "close_paren", Str.ofString "oneletter", Str.ofString "rest", Str.ofString "s", Str.ofString "prefix", Str.ofString "strings_rev", Str.ofString "suffix"] (fInner B.toBase) (R.mono (by omega)) rfl rfl (by decide) (by decide) (by decide) ?_
  intro L R1
  show W _ _ ((L, .ns [(Str.ofString "strings", some (.ref l)), (Str.ofString "open_paren", some (.str (mk o) t0)), (Str.ofString "close_paren", none), (Str.ofString "oneletter", none), (Str.ofString "rest", none), (Str.ofString "s", none), (Str.ofString "prefix", none), (Str.ofString "strings_rev", none), (Str.ofString "suffix", none)]) :: (L + 3, .cell none) :: (L + 2, .cell none) :: (L + 1, .cell none) :: S) _ _ _
  refine .sCons (.sAssign (.mono (.closeP ho (.head _) (by walk_at "m") rfl rfl) ?_))
  rintro v S' ⟨rfl, tc, rfl⟩
  refine .stl .here (by walk_at "ul") ?_
  obtain ⟨first, r, rfl⟩ : ∃ first r, ss = first :: r := by
    cases ss with
    | nil => exact absurd rfl Wd.ne
    | cons a b => exact ⟨a, b, rfl⟩
  obtain ⟨tf, hv0⟩ := hi.get (i := 0) (l := first) rfl
  have hf128 := Wd.lt128 (w := first) (.head _)
  have hf41 := hwl first (.head _)
  refine .sCons (.sIf (.tnot (.tval (.name (.head _) (by walk_at "m") (.truL (by walk_at "h") (ite_neg ?_ (.sNil ?_)) (by omega))))))
  · cases vs <;> simp at hv0 ⊢
  refine .sCons (.sAssign (.sub (.name (.head _) (by walk_at "m") (.cInt fun t1 => .itemL (by walk_at "h") (by decide) (by decide) hv0 ?_))))
  refine .stc rfl (by walk_at "u") ?_
  refine .sCons (.sIf (.tcmp (.callName (.glob (gLen B.toBase) (.withB (.itemsCons (.name (.head _) (by walk_at "m") (.itemsNil (.lenL (by walk_at "h") (fun t2 => .cInt fun t3 => .eqI ⟨_, rfl, ?_⟩) (by omega))))))))))
  cases r with
  | nil =>
    refine ite_pos (by simp at hlen ⊢; omega) ?_
    refine .sCons (.sRet (.binop (.binop (.name (.head _) (by walk_at "m") (.callName (.glob (gEscape B.toBase) (.withFn (fEscape B.toBase) (.itemsCons (.nameC rfl (by walk_at "m") (.itemsNil (.escapeA B.toBase (R1.mono (by omega)) hf128 (by omega) fun t4 => ?_)))))))))))
    have := escM_len first
    refine .addM (fun t5 => .name (.head _) (by walk_at "m") (.addM (fun t6 => ⟨S, by walk_at "s", h t6⟩) (by simp; omega))) (by omega)
  | cons x r =>
  refine ite_neg (by simp at hlen ⊢; omega) (.sNil ?_)
  have hco : clsP opn = [41] := rfl
  have hco2 : clsP [40, 63, 58] = [41] := rfl
  refine .sCons (.sIf (.tnot (.tval (.nameC rfl (by walk_at "m") (.truM ?_ (by omega))))))
  by_cases hf : first = []
  · refine ite_pos (by simpa using hf) ?_
    have e : rxT (n + 1) (first :: x :: r) = .opt (rxT n (x :: r)) := by rw [rxT, if_pos hf]
    have hmu' : mu (x :: r) ≤ n := by rw [mu_cons] at hmu; omega
    have hsz := shw_len n (x :: r) z Wd.tail hmu'
    refine .sCons (.sRet (.binop (.binop (.binop (.name (.head _) (by walk_at "m") (.callName (.glob (gInner B.toBase) (.withFn (fInner B.toBase) (.itemsCons (.sub (.name (.head _) (by walk_at "m") (.eSlice (.partS (.cInt fun t4 => .partN (.partN fun a => .slLFrom (i := 1) (.head _) (by walk_at "h") (fun c => ?_) (by omega))))))) )))))))))
    refine .itemsCons (.cStr fun t5 => .itemsNil (rec (ss := x :: r) (o := opn) B (R1.mono (by omega)) Wd.tail hmu' (by omega) (.head _) (hi.drop 1) (.inr (.inl rfl)) fun t6 => ?_))
    refine .addM (fun t7 => .cStr fun t8 => .addM (y := [63]) (fun t9 => .name (by walk_at "m") (by walk_at "m") (.addM (fun t10 => ⟨S, by walk_at "s", ?_⟩) ?_)) ?_) ?_
    · show Q (.str _ _) S
      have := h t10
      rw [e] at this
      simpa [shw, hco, hco2, opn] using this
    · simp [hco, hco2, opn]; omega
    · simp [hco, hco2, opn]; omega
    · simp [hco, hco2, opn]; omega
  refine ite_neg (by simpa using hf) (.sNil ?_)
  -- the one-letter words
  refine .sCons (.mono (Q := fun f S' => (f = .next ∧ ¬ (first.length = 1 ∧ 1 < ((first :: x :: r).filter isOne).length) ∧ ∃ v1 v2 v3, List.Sublist ((L, .ns [(Str.ofString "strings", some (.ref l)), (Str.ofString "open_paren", some (.str (mk o) t0)), (Str.ofString "close_paren", some (.str (mk (clsP o)) tc)), (Str.ofString "oneletter", v1), (Str.ofString "rest", v2), (Str.ofString "s", v3), (Str.ofString "prefix", none), (Str.ofString "strings_rev", none), (Str.ofString "suffix", none)]) :: (L + 3, .cell none) :: (L + 2, .cell (some (.str (mk first) tf))) :: (L + 1, .cell none) :: S) S') ∨ ∃ v, f = .ret v ∧ ∃ S'', S''.Sublist S' ∧ Q v S'') ?_ ?_)
  · refine .sIf (.tcmp (.callName (.glob (gLen B.toBase) (.withB (.itemsCons (.nameC rfl (by walk_at "m") (.itemsNil (.lenM (fun t2 => .cInt fun t3 => .eqI ⟨_, rfl, ?_⟩) (by omega)))))))))
    by_cases hf1 : first.length = 1
    · refine ite_pos (by simp [hf1]) ?_
      refine .sCons (.sAssign (.mkList (.itemsNil ⟨by decide, fun one => .stl (by walk_at "u") (by walk_at "ul") ?_⟩)))
      refine .sCons (.sAssign (.mkList (.itemsNil ⟨by decide, fun rst => .stl (by walk_at "u") (by walk_at "ul") ?_⟩)))
      refine .sCons (.sFor (.name (by walk_at "m") (by walk_at "m") (.iterL (by walk_at "h") fun it => ?_)))
      refine ⟨vs.length, _, _, _, _, _, fun i S' => ∃ v3 us1 us2, SL us1 (((first :: x :: r).take i).filter isOne) ∧ SL us2 (((first :: x :: r).take i).filter fun w => !isOne w) ∧ S' = (rst, .list us2) :: (one, .list us1) :: (L, .ns [(Str.ofString "strings", some (.ref l)), (Str.ofString "open_paren", some (.str (mk o) t0)), (Str.ofString "close_paren", some (.str (mk (clsP o)) tc)), (Str.ofString "oneletter", some (.ref one)), (Str.ofString "rest", some (.ref rst)), (Str.ofString "s", v3), (Str.ofString "prefix", none), (Str.ofString "strings_rev", none), (Str.ofString "suffix", none)]) :: (L + 3, .cell none) :: (L + 2, .cell (some (.str (mk first) tf))) :: (L + 1, .cell none) :: S,
        Iter.list (l := l) (vs := vs) (it := it) R1.handled, ?_, rfl, .refl _, ⟨_, _, _, .nil, .nil, rfl⟩⟩
      constructor
      · rintro i S' ⟨v3, us1, us2, _, _, rfl⟩
        walk_at "h"
      · rintro i hin v Y S' ⟨hv, rfl⟩ ⟨v3, us1, us2, h1, h2, rfl⟩
        obtain ⟨w, tw, hw, rfl⟩ := hi.get' hv
        have hwm := List.mem_of_getElem? hw
        have e1 : (first :: x :: r).take (i + 1) = (first :: x :: r).take i ++ [w] := by rw [List.take_add_one, hw]; rfl
        have hl1 := h1.len
        have hl2 := h2.len
        have := (List.filter_sublist (p := isOne) (l := (first :: x :: r).take i)).length_le
        have := (List.filter_sublist (p := fun w => !isOne w) (l := (first :: x :: r).take i)).length_le
        have : ((first :: x :: r).take i).length ≤ 41 := by rw [List.length_take]; omega
        refine .goName (.asName (.stl (by walk_at "u") (by walk_at "ul") ?_))
        refine .sCons (.sIf (.tcmp (.callName (.glob (gLen B.toBase) (.withB (.itemsCons (.name (by walk_at "m") (by walk_at "m") (.itemsNil (.lenM (fun t2 => .cInt fun t3 => .eqI ⟨_, rfl, ?_⟩) (by have := hwl w hwm; omega))))))))))
        by_cases hw1 : w.length = 1
        · refine ite_pos (by simp [hw1]) (.sCons (.sAppend (.name (by walk_at "m") (by walk_at "m") ⟨_, rfl, ⟨us1, by walk_at "h"⟩, .name (by walk_at "m") (by walk_at "m") ⟨us1, _, by walk_at "u", by omega, .sNil (.sNil ⟨[_], _, rfl, .refl _, _, _, _, ?_, ?_, rfl⟩)⟩⟩)))
          · rw [e1, List.filter_append]
            simpa [List.filter_cons, isOne, hw1] using h1.snoc w tw
          · rw [e1, List.filter_append]
            simpa [List.filter_cons, isOne, hw1] using h2
        · refine ite_neg (by simp; omega) (.sCons (.sAppend (.name (by walk_at "m") (by walk_at "m") ⟨_, rfl, ⟨us2, by walk_at "h"⟩, .name (by walk_at "m") (by walk_at "m") ⟨us2, _, by walk_at "u", by omega, .sNil (.sNil ⟨[_], _, rfl, .refl _, _, _, _, ?_, ?_, rfl⟩)⟩⟩)))
          · rw [e1, List.filter_append]
            simpa [List.filter_cons, isOne, hw1] using h1
          · rw [e1, List.filter_append]
            simpa [List.filter_cons, isOne, hw1] using h2.snoc w tw
      · rintro S' ⟨v3, us1, us2, h1, h2, rfl⟩
        rw [hlen, List.take_length] at h1 h2
        have hl1 := h1.len
        have hl2 := h2.len
        have := (List.filter_sublist (p := isOne) (l := first :: x :: r)).length_le
        have := (List.filter_sublist (p := fun w => !isOne w) (l := first :: x :: r)).length_le
        refine .sCons (.sIf (.tcmp (.callName (.glob (gLen B.toBase) (.withB (.itemsCons (.name (by walk_at "m") (by walk_at "m") (.itemsNil (.lenL (by walk_at "h") (fun t2 => .cInt fun t3 => .gtI ⟨_, rfl, ?_⟩) (by omega))))))))))
        by_cases h1l : 1 < ((first :: x :: r).filter isOne).length
        · refine ite_pos (by simp; omega) ?_
          obtain ⟨cs, ec1, ec2, ec3, ec4⟩ := Wd.ones h1l
          have hmo := mu_ones ((first :: x :: r).filter isOne) fun w hw => (List.mem_filter.mp hw).2
          have hms := mu_split isOne (first :: x :: r)
          have hel := flat_len esc2 esc2_len cs
          rw [← ec2] at hel
          have hfl : ((first :: x :: r).filter isOne).flatten.length ≤ 41 := by rw [ec2]; omega
          refine .sCons (.sIf (.tval (.name (by walk_at "m") (by walk_at "m") (.truL (by walk_at "h") ?_ (by omega)))))
          by_cases hr : (first :: x :: r).filter (fun w => !isOne w) = []
          · have hu2 : us2 = [] := by cases us2 with | nil => rfl | cons a b => rw [hr] at hl2; simp at hl2
            refine ite_neg (by rw [hu2]; simp) (.sNil ?_)
            have e : rxT (n + 1) (first :: x :: r) = .set ((first :: x :: r).filter isOne).flatten := by
              rw [rxT, if_neg hf, if_pos ⟨hf1, h1l⟩, if_neg (by simpa using hr)]
            refine .sCons (.sRet (.binop (.binop (.name (by walk_at "m") (by walk_at "m") (.callName (.glob (gCharset B.toBase) (.withFn (fCharset B.toBase) (.itemsCons (.name (by walk_at "m") (by walk_at "m") (.itemsNil (.charset B (R1.mono (by omega)) (by walk_at "h") h1 (ec2 ▸ ec3) (by omega) fun t4 => ?_)))))))))))
            refine .addM (fun t5 => .name (by walk_at "m") (by walk_at "m") (.addM (fun t6 => .inr ⟨_, rfl, S, by walk_at "s", ?_⟩) ?_)) ?_
            · have := h t6
              rw [e] at this
              simpa [shw] using this
            · simp only [List.length_append, List.length_cons, List.length_nil]; omega
            · simp only [List.length_append, List.length_cons, List.length_nil]; omega
          · have hu2 : us2.isEmpty = false := by cases us2 with | cons a b => rfl | nil => exact absurd (List.length_eq_zero_iff.mp hl2.symm) hr
            refine ite_pos (by rw [hu2]; rfl) ?_
            have e : rxT (n + 1) (first :: x :: r) = .alt (rxT n ((first :: x :: r).filter fun w => !isOne w)) (.set ((first :: x :: r).filter isOne).flatten) := by
              rw [rxT, if_neg hf, if_pos ⟨hf1, h1l⟩, if_pos (by simpa using hr)]
            have hmu' : mu ((first :: x :: r).filter fun w => !isOne w) ≤ n := by omega
            have hsz := shw_len n _ z (Wd.filter _ hr) hmu'
            refine .sCons (.sRet (.binop (.binop (.binop (.binop (.name (by walk_at "m") (by walk_at "m") (.callName (.glob (gInner B.toBase) (.withFn (fInner B.toBase) (.itemsCons (.name (by walk_at "m") (by walk_at "m") (.itemsCons (.cStr fun t4 => .itemsNil (rec (o := []) B (R1.mono (by omega)) (Wd.filter _ hr) hmu' (by omega) (by walk_at "h") h2 (.inl rfl) fun t5 => ?_))))))))))))))
            refine .addM (fun t6 => .cStr fun t7 => .addM (y := [124]) (fun t8 => .callName (.glob (gCharset B.toBase) (.withFn (fCharset B.toBase) (.itemsCons (.name (by walk_at "m") (by walk_at "m") (.itemsNil (.charset B (R1.mono (by omega)) (by walk_at "h") h1 (ec2 ▸ ec3) (by omega) fun t9 => ?_))))))) ?_) ?_
            · refine .addM (fun t10 => .name (by walk_at "m") (by walk_at "m") (.addM (fun t11 => .inr ⟨_, rfl, S, by walk_at "s", ?_⟩) ?_)) ?_
              · have := h t11
                rw [e] at this
                simpa [shw, clsP] using this
              · simp [clsP] at *; omega
              · simp [clsP] at *; omega
            · simp [clsP] at *; omega
            · simp [clsP] at *; omega
        · refine ite_neg (by simp; omega) (.sNil (.sNil (.inl ⟨rfl, fun h => h1l h.2, some (.ref one), some (.ref rst), v3, ?_⟩)))
          walk_at "s"
    · refine ite_neg (by simp; omega) (.sNil (.inl ⟨rfl, fun h => hf1 h.1, _, _, _, .refl _⟩))
  all_goals skip
  rintro f S' (⟨rfl, hno, v1, v2, v3, hs⟩ | ⟨v, rfl, S'', hs, hq⟩)
  rotate_left
  · exact ⟨S'', hs, hq⟩
  refine .weaken ?_ hs
  refine .sCons (.sAssign (.callName (.glob (gCommon B.toBase) (.withFn (fCommon B.toBase) (.itemsCons (.name (.head _) (by walk_at "m") (.itemsNil (.common B.toBase (R1.mono (by omega)) (by walk_at "h") hi (by omega) (fun w hw => (by have := hwl w hw; omega)) fun p tp _ hp => ?_))))))))
  obtain ⟨xx, hxx, yy, hyy, hx1, hy1, rfl⟩ := hp (by simp)
  rw [lcp_ends hxx hyy hx1 hy1]
  have hpre := lcp_pre (first :: x :: r)
  have hpl : (lcp (first :: x :: r)).length ≤ 41 := by have := (hpre first (.head _)).length_le; omega
  refine .stl .here (by walk_at "ul") ?_
  refine .sCons (.sIf (.tval (.name (.head _) (by walk_at "m") (.truM ?_ (by omega)))))
  by_cases hp0 : lcp (first :: x :: r) ≠ []
  · refine ite_pos (by simpa using hp0) ?_
    have e : rxT (n + 1) (first :: x :: r) = .pre (lcp (first :: x :: r)) (rxT n ((first :: x :: r).map fun w => w.drop (lcp (first :: x :: r)).length)) := by
      rw [rxT, if_neg hf, if_neg hno, if_pos hp0]
    have hmd := mu_drop Wd.ne hpre
    have hp1 : 1 ≤ (lcp (first :: x :: r)).length := by cases e : lcp (first :: x :: r) <;> simp_all
    have hmu' : mu ((first :: x :: r).map fun w => w.drop (lcp (first :: x :: r)).length) ≤ n := by omega
    have hsz := shw_len n _ z (Wd.drop hpre) hmu'
    have hes := escM_len (lcp (first :: x :: r))
    generalize hP : lcp (first :: x :: r) = P at *
    refine .sCons (.sAssign (.callName (.glob (gLen B.toBase) (.withB (.itemsCons (.name (.head _) (by walk_at "m") (.itemsNil (.lenM (fun t2 => .stc rfl (by walk_at "u") ?_) (by omega)))))))))
    refine .sCons (.sRet (.binop (.binop (.binop (.name (.head _) (by walk_at "m") (.callName (.glob (gEscape B.toBase) (.withFn (fEscape B.toBase) (.itemsCons (.name (.head _) (by walk_at "m") (.itemsNil (.escapeA B.toBase (R1.mono (by omega)) (fun c hc => hf128 c ((hpre first (.head _)).subset hc)) (by omega) fun t3 => ?_))))))))))))
    refine .addM (fun t4 => .callName (.glob (gInner B.toBase) (.withFn (fInner B.toBase) (.itemsCons (.listComp (.name (.head _) (by walk_at "m") (.iterL (by walk_at "h") fun it => ?_))))))) (by omega)
    refine ⟨vs.length, _, _, _, _, _, _, Iter.list (l := l) (vs := vs) (it := it) R1.handled, compWords (fun w => w.drop P.length) (by walk_at "h") hi ?_, rfl, .refl _, by omega, fun ac us hF => ?_⟩
    · intro cn ac us w t hw p
      have := hwl w hw
      refine .sub (.name (by walk_at "m") (.head _) (.eSlice (.partS (.nameC rfl (by walk_at "m") (.partN (.partN fun a => .slFrom (.head _) (by omega) fun t' => ⟨⟨t', rfl⟩, by walk_at "s"⟩))))))
    rw [hlen, List.take_length] at hF
    refine .itemsCons (.cStr fun t5 => .itemsNil (rec (o := opn) B (R1.mono (by omega)) (Wd.drop hpre) hmu' (by omega) (.head _) hF (.inr (.inl rfl)) fun t6 => ?_))
    refine .addM (fun t7 => .name (by walk_at "m") (by walk_at "m") (.addM (fun t8 => ⟨S, by walk_at "s", ?_⟩) ?_)) ?_
    · show Q (.str _ _) S
      have := h t8
      rw [e] at this
      simpa [shw, hco, hco2, opn] using this
    · simp [hco, hco2, opn] at *; omega
    · simp [hco, hco2, opn] at *; omega
  have hp0 : lcp (first :: x :: r) = [] := by simpa using hp0
  refine ite_neg (by simp [hp0]) (.sNil ?_)
  rw [hp0]
  refine .sCons (.sAssignComp (.name (.head _) (by walk_at "m") (.iterL (by walk_at "h") fun it => ?_)))
  refine ⟨vs.length, _, _, _, _, _, _, Iter.list (l := l) (vs := vs) (it := it) R1.handled, compWords List.reverse (by walk_at "h") hi ?_, rfl, .refl _, by omega, fun ac cn lx us hF => ?_⟩
  · intro cn ac us w t hw p
    have := hwl w hw
    refine .sub (.name (by walk_at "m") (.head _) (.eSlice (.partN (.partN (.partS (.unop (.cInt fun t1 => .negI fun t2 => fun a => .slRev (.head _) (by omega) fun t' => ⟨⟨t', rfl⟩, by walk_at "s"⟩)))))))
  rw [hlen, List.take_length] at hF
  refine .stl (by walk_at "u") (by walk_at "ul") ⟨_, .refl _, ?_⟩
  have hrl : ∀ w ∈ (first :: x :: r).map List.reverse, w.length ≤ 41 := fun w hw => by
    obtain ⟨u, hu, rfl⟩ := List.mem_map.mp hw
    rw [List.length_reverse]; exact hwl u hu
  refine .sCons (.sAssign (.callName (.glob (gCommon B.toBase) (.withFn (fCommon B.toBase) (.itemsCons (.name (by walk_at "m") (by walk_at "m") (.itemsNil (.common B.toBase (R1.mono (by omega)) (by walk_at "h") hF (by simp at hssl ⊢; omega) (fun w hw => (by have := hrl w hw; omega)) fun sx tsx _ hp => ?_))))))))
  obtain ⟨xx, hxx, yy, hyy, hx1, hy1, rfl⟩ := hp (by simp)
  rw [lcp_ends hxx hyy hx1 hy1]
  have hpre : ∀ w ∈ first :: x :: r, lcp ((first :: x :: r).map List.reverse) <+: w.reverse := fun w hw => lcp_pre _ _ (List.mem_map.mpr ⟨w, hw, rfl⟩)
  have hpl : (lcp ((first :: x :: r).map List.reverse)).length ≤ 41 := by have := (hpre first (.head _)).length_le; rw [List.length_reverse] at this; omega
  refine .stl (by walk_at "u") (by walk_at "ul") ?_
  refine .sCons (.sIf (.tval (.name (by walk_at "m") (by walk_at "m") (.truM ?_ (by omega)))))
  by_cases hs0 : lcp ((first :: x :: r).map List.reverse) ≠ []
  · refine ite_pos (by simpa using hs0) ?_
    have e : rxT (n + 1) (first :: x :: r) = .suf (rxT n (srt ((first :: x :: r).map fun w => w.take (w.length - (lcp ((first :: x :: r).map List.reverse)).length)))) (lcp ((first :: x :: r).map List.reverse)).reverse := by
      rw [rxT, if_neg hf, if_neg hno, if_neg (by simpa using hp0), if_pos hs0]
    have hmd := mu_strip Wd.ne hpre
    have hnd := nodup_strip Wd.inc.nodup hpre
    have hp1 : 1 ≤ (lcp ((first :: x :: r).map List.reverse)).length := by cases e : lcp ((first :: x :: r).map List.reverse) <;> simp_all
    have hmu' : mu (srt ((first :: x :: r).map fun w => w.take (w.length - (lcp ((first :: x :: r).map List.reverse)).length))) ≤ n := by omega
    have hsz := shw_len n _ z (Wd.strip hpre) hmu'
    have hes := escM_len (lcp ((first :: x :: r).map List.reverse)).reverse
    rw [List.length_reverse] at hes
    have hstrip := Wd.strip hpre
    generalize hP : lcp ((first :: x :: r).map List.reverse) = P at *
    refine .sCons (.sAssign (.callName (.glob (gLen B.toBase) (.withB (.itemsCons (.name (by walk_at "m") (by walk_at "m") (.itemsNil (.lenM (fun t2 => .stc rfl (by walk_at "u") ?_) (by omega)))))))))
    have hq : (callEnvC xInner.1 L 179).qual ++ "<genexpr>" = qGen := by rfl
    refine .sCons (.sRet (.binop (.binop (.binop (.name (by walk_at "m") (by walk_at "m") (.callName (.glob (gInner B.toBase) (.withFn (fInner B.toBase) (.itemsCons (.callName (.glob (gSorted B.toBase) (.callGen (first := []) ?_))))))))))) )
    refine genexpW (hq ▸ B.gen1) B.hb rfl rfl B.nolimit (R1.mono (by omega)) (.name (by walk_at "m") (by walk_at "m") (.iterL (by walk_at "h") fun it => ?_))
    refine ⟨vs.length, _, _, _, _, _, [(it, liCell l 0)], _, .refl _, rfl, rfl, fun m cn code => ⟨Iter.list (l := l) (vs := vs) (it := it) R1.handled, genWords (fun w => w.take (w.length - P.length)) (by walk_at "h") hi ?_⟩, fun a s' hg => ?_⟩
    · intro acc ac a go w t p hw
      have := hwl w hw
      refine .sub (.name (by walk_at "m") (by walk_at "m") (.eSlice (.partN (.partS (.unop (.nameF rfl (by walk_at "m") (.negI fun t3 => .partN fun a => .slNeg (.head _) (by omega) hp1 fun t' => ⟨⟨t', rfl⟩, by walk_at "s"⟩)))))))
    refine sortedGen (R1.mono (by omega)) B.nolimit hg (by omega) (fun i v ⟨w, t, _, e⟩ => ⟨_, t, e⟩) fun acc la s'' S₄ lst vs' ls' hT hal hPa hSa hSv hperm hpw G' => ?_
    subst hT
    have hla := genAcc hi hSa hal hPa
    subst hla
    have hls := srt_eq hnd hperm hpw
    subst hls
    refine ⟨_, G', .itemsCons (.cStr fun t4 => .itemsNil (rec (o := opn) B (R1.mono (by omega)) hstrip hmu' (by omega) (.head _) hSv (.inr (.inl rfl)) fun t6 => ?_))⟩
    refine .addM (fun t7 => .callName (.glob (gEscape B.toBase) (.withFn (fEscape B.toBase) (.itemsCons (.sub (.name (by walk_at "m") (by walk_at "m") (.eSlice (.partN (.partN (.partS (.unop (.cInt fun t1 => .negI fun t2 => fun a => .slRev (.head _) (by omega) fun t8 => .itemsNil (.escapeA B.toBase (R1.mono (by omega)) ?_ ?_ fun t9 => ?_))))))))))))) ?_
    · intro c hc
      exact hf128 c (List.mem_reverse.mp ((hpre first (.head _)).subset (List.mem_reverse.mp hc)))
    · rw [List.length_reverse]; omega
    · refine .addM (fun t10 => .name (by walk_at "m") (by walk_at "m") (.addM (fun t11 => ⟨S, by walk_at "s", ?_⟩) ?_)) ?_
      · show Q (.str _ _) S
        have := h t11
        rw [e] at this
        simpa [shw, hco, hco2, opn] using this
      · simp [hco, hco2, opn] at *; omega
      · simp [hco, hco2, opn] at *; omega
    · simp [hco, hco2, opn] at *; omega
  have hs0 : lcp ((first :: x :: r).map List.reverse) = [] := by simpa using hs0
  refine ite_neg (by rw [hs0]; decide) (.sNil ?_)
  have hne := inc_ne_nil Wd.inc hf
  have T2 := two_of Wd.inc hf hp0
  have e : rxT (n + 1) (first :: x :: r) = .alt (rxT n ((first :: x :: r).filter (sameHead first))) (rxT n ((first :: x :: r).filter fun w => !sameHead first w)) := by
    rw [rxT, if_neg hf, if_neg hno, if_neg (by simpa using hp0), if_neg (by simpa using hs0)]
  have w1 := Wd.filter _ (heads_one (first := first) (r := x :: r))
  have w2 := Wd.filter _ (heads_two hf hp0)
  have hms := mu_split (sameHead first) (first :: x :: r)
  have hm1 := mu_pos w1.ne
  have hm2 := mu_pos w2.ne
  have z1 := shw_len n _ z w1 (by omega)
  have z2 := shw_len n _ z w2 (by omega)
  generalize hG1 : (first :: x :: r).filter (sameHead first) = g1 at *
  generalize hG2 : (first :: x :: r).filter (fun w => !sameHead first w) = g2 at *
  generalize hM : g1.length = m at *
  obtain ⟨T2l, T2p, T2lo, T2hi, T2a, T2b⟩ := T2
  rw [hG1] at T2a
  rw [hG2] at T2b
  have hk0 : keyOf first (first :: x :: r) 0 = true := T2lo 0 T2p
  have hkm : keyOf first (first :: x :: r) m = false := T2hi m (Nat.le_refl _) T2l
  have hhi : ∀ v ∈ vs, handedIn v = true := fun v hv => by
    obtain ⟨i, hi'⟩ := List.mem_iff_getElem?.mp hv
    obtain ⟨w, t, _, rfl⟩ := hi.get' hi'
    rfl
  have hq : (callEnvC xInner.1 L 179).qual ++ "<genexpr>" = qGen := by rfl
  refine .sCons (.sRet (.binop (.binop (.name (by walk_at "m") (by walk_at "m") (.callMeth F.plainAttrs_str F.slot_str_join F.type_str_join (.cStr fun tj => ⟨fun s G => ⟨typeIs_str _ _ _, fun a e => (by cases e)⟩, .callGen (first := [.str (mk [124]) tj]) ?_⟩))))))
  refine genexpW (hq ▸ B.gen2) B.hb rfl rfl B.nolimit (R1.mono (by omega)) (.callName (.glob (gGroupby B.toBase) (.withCls B.frag (by kernel_rfl) (.itemsCons (.name (by walk_at "m") (by walk_at "m") (.itemsCons (.lam B.lam2 B.hb rfl rfl rfl (by decide) fun f fd hp hb hsc hcl hg hbi hqn hd hk => .itemsNil (.newGb B.toBase (R1.mono (by omega)) (by walk_at "h") fun gx dx it tg tg' => .iterGb B.toBase (R1.mono (by omega)) (.head _) (.tail _ (.head _)) ?_))))))))
  have hgrp : ∀ {mm : Nat} {Z S₃ : St}, (l, .list vs) ∈ S₃ → (f, .fn fd) ∈ S₃ → (L + 1 + 1, .cell (some (.str (mk first) tf))) ∈ S₃ → Grp (C.at mm) l f fd vs (keyOf first (first :: x :: r)) (Z ++ S₃) := fun {mm Z S₃} q1 q2 q3 => Grp.app ⟨q1, q2, fun j v hv => by
    obtain ⟨w, tw, hw, rfl⟩ := hi.get' hv
    have : keyOf first (first :: x :: r) j = sameHead first w := by unfold keyOf; rw [List.getD_eq_getElem?_getD, hw]; rfl
    rw [this]
    exact keyAt (c := L + 1 + 1) (tf := tf) B.nolimit q2 q3 hp hsc hcl ⟨_, _, _, _, _, _, _, hb⟩ hf (hne w (List.mem_of_getElem? hw)) hd hk⟩ Z
  refine ⟨2, gbK gx dx it f l vs (keyOf first (first :: x :: r)) m, fun S' => ∀ mm, Grp (C.at mm) l f fd vs (keyOf first (first :: x :: r)) S', gbV gx dx it f l vs (keyOf first (first :: x :: r)) m, fun _ S' => S' = _, fun i v => ∃ t, v = .str (mk (shw (rxT n (if i = 0 then g1 else g2)))) t, _, _, .refl _, ⟨_, _, rfl⟩, rfl, fun mm cn code => ⟨?_, ?_⟩, fun a s' hg => ?_⟩
  · exact Iter.dep (gbIter B.toBase.at (R1.mono (m := 10) (by omega)).in1.in1.in1.deeper (by omega) (by rw [hkm, hk0]; decide)) fun S' h => h mm
  · constructor
    · rintro i S' Z rfl mm'
      exact hgrp (by walk_at "h") (by walk_at "h") (by walk_at "h")
    · rintro X S' ⟨tg, tg', rfl⟩ hD
      exact .iterGb B.toBase.at (R1.mono (m := 5) (by omega)).in1.in1.in1.deeper (.head _) (.tail _ (.head _)) ⟨rfl, rfl⟩
    · rintro i hi2 v Y acc ac a go S' ⟨rr, q, dq, nn, tn, rfl, rfl⟩ rfl
      refine .callName (.glob (gInner B.toBase.at) (.withFn (fInner B.toBase.at) (.itemsCons (.callName (.glob (gList B.toBase.at) (.withT (.itemsCons (.sub (.name (by walk_at "m") (by walk_at "m") (.cInt fun t9 => .itemT (.head _) (by decide) (by decide) rfl (.itemsNil ?_)))))))))))
      refine .weaken ?_ (List.sublist_cons_self _ _)
      have hR := fun env => (R1.mono (m := 12 * n + 31) (by omega)).in1.in1.in1.deeper (env := env)
      rcases i with _ | _ | i
      · refine .listQu (a := 0) (b := m) (k := keyOf first (first :: x :: r)) B.toBase.at ((hR _).mono (by omega)) T2p (by omega) (by omega) (fun j _ hj => (T2lo j hj).trans hk0.symm) (fun _ => by show _ ≠ keyOf _ _ 0; rw [hkm, hk0]; decide) hhi (hgrp (Z := [_, _, _]) (by walk_at "h") (by walk_at "h") (by walk_at "h")) fun ac2 => ?_
        rw [if_pos (by omega)]
        refine .itemsCons (.cStr fun t5 => .itemsNil (rec (o := []) B.at ((hR _).mono (by omega)) w1 (by omega) (by omega) (List.mem_append_right _ (.head _)) ?_ (.inl rfl) fun t6 => ⟨⟨t6, ?_⟩, _, _, ⟨.int nn tn, nn, tn, rfl⟩, rfl, ?_⟩))
        · have := hi.take m
          rw [T2a] at this
          simpa using this
        · simp [clsP]
        · exact .cons _ (.cons _ (.cons_cons _ (.cons_cons _ (.cons_cons _ (.cons _ (.refl _))))))
      · refine .listQu (a := m) (b := vs.length) (k := keyOf first (first :: x :: r)) B.toBase.at ((hR _).mono (by omega)) (by omega) (by omega) (by omega) (fun j hj hjl => (T2hi j hj (by omega)).trans hkm.symm) (fun h => absurd h (by omega)) hhi (hgrp (Z := [_, _, _]) (by walk_at "h") (by walk_at "h") (by walk_at "h")) fun ac2 => ?_
        rw [if_neg (by omega)]
        refine .itemsCons (.cStr fun t5 => .itemsNil (rec (o := []) B.at ((hR _).mono (by omega)) w2 (by omega) (by omega) (List.mem_append_right _ (.head _)) ?_ (.inl rfl) fun t6 => ⟨⟨t6, ?_⟩, _, _, ⟨.int nn tn, .none, .none, false, .int nn tn, .bool (keyOf first (first :: x :: r) m), rfl⟩, rfl, ?_⟩))
        · have := hi.drop m
          rw [T2b] at this
          rw [List.take_of_length_le (by simp)]
          exact this
        · simp [clsP]
        · exact .cons _ (.cons _ (.cons_cons _ (.cons_cons _ (.cons_cons _ (.cons _ (.refl _))))))
      · omega
  · refine joinGen (R1.mono (by omega)) B.nolimit hg (by omega) (fun i v ⟨t, e⟩ => ⟨_, t, e⟩) fun acc la S₄ hT hal hPa hSa => ?_
    have hla : la = [shw (rxT n g1), shw (rxT n g2)] := by
      have hl2 : la.length = 2 := by rw [← hSa.len]; exact hal
      match la, hl2 with
      | [a1, a2], _ =>
        obtain ⟨u1, hu1⟩ := hSa.get (i := 0) (l := a1) rfl
        obtain ⟨u2, hu2⟩ := hSa.get (i := 1) (l := a2) rfl
        obtain ⟨v1, e1⟩ := hPa 0 _ hu1
        obtain ⟨v2, e2⟩ := hPa 1 _ hu2
        injection e1 with e1 _
        injection e2 with e2 _
        rw [mk_inj e1, mk_inj e2]; rfl
    subst hla
    refine ⟨by simp; omega, fun s'' t' G' => ?_⟩
    subst hT
    refine ⟨_, G', .addM (fun t8 => .name (by walk_at "m") (by walk_at "m") (.addM (fun t9 => ⟨S, by walk_at "s", ?_⟩) ?_)) ?_⟩
    · show Q (.str _ _) S
      have := h t9
      rw [e] at this
      simpa [shw, joinM] using this
    · simp [joinM]; omega
    · simp [joinM]; omega
/-- regex_opt_inner -/
theorem inner_ok : ∀ n, InnerOk n
  | 0 => by
    intro B R Wd hmu
    have := mu_pos Wd.ne
    omega
  | n + 1 => inner_step (inner_ok n)
end
end Mine
-- part B21
namespace Mine
open PySem PySem.Calls PySem.W PyProof.Rows PySem.Spec
theorem relaid_led {t t' : SetTable} {hs : Array Int} {wanted : Nat} {od : Array Nat} (h : t.relaid hs wanted = some (t', od)) : t'.led = t.led ∧ t'.plain = t.plain := by
  unfold SetTable.relaid SetTable.laid at h
  cases e : SetTable.layClean (SetTable.sizeAbove wanted - 1) hs with
  | none => rw [e] at h; cases h
  | some ow =>
    rw [e] at h
    simp only [Option.bind_eq_bind, Option.bind_some, Option.pure_def, Option.some.injEq, Prod.mk.injEq] at h
    obtain ⟨rfl, _⟩ := h
    exact ⟨rfl, rfl⟩
theorem relayAll_led (t : SetTable) (es : Array (Int × Value)) (wanted : Nat) : (relayAll t es wanted).2.1.led = t.led ∧ ((relayAll t es wanted).2.1.plain = true → t.plain = true) := by
  unfold relayAll
  cases h : t.relaid (es.map (·.1)) wanted with
  | none => exact ⟨rfl, fun h => by cases h⟩
  | some p =>
    obtain ⟨t', od⟩ := p
    have := relaid_led h
    dsimp only
    split
    · exact ⟨this.1, fun h => this.2 ▸ h⟩
    · exact ⟨rfl, fun h => by cases h⟩
theorem orStandIn_led (t : SetTable) (n : Nat) : (t.orStandIn n).led = t.led ∧ ((t.orStandIn n).plain = true → t.plain = true) := by
  unfold SetTable.orStandIn
  split
  · exact ⟨rfl, fun h => h⟩
  · exact ⟨rfl, fun h => by cases h⟩
theorem layNew_led (t : SetTable) (es : Array (Int × Value)) (h : Int) (x : Value) : (layNew t es h x).2.1.led = t.led ∧ ((layNew t es h x).2.1.plain = true → t.plain = true) := by
  unfold layNew
  cases t.freeSlot h with
  | none => exact ⟨rfl, fun h => by cases h⟩
  | some p =>
    obtain ⟨slot, wd⟩ := p
    exact orStandIn_led (t.put slot).1 _
def addw (σ : List (List Nat)) (k : List Nat) : List (List Nat) := if k ∈ σ then σ else σ ++ [k]
def dd (ls : List (List Nat)) : List (List Nat) := ls.foldl addw []
theorem dd_snoc (ls : List (List Nat)) (k : List Nat) : dd (ls ++ [k]) = addw (dd ls) k := by unfold dd; rw [List.foldl_append]; rfl
theorem addw_nodup {σ : List (List Nat)} {k : List Nat} (h : σ.Nodup) : (addw σ k).Nodup := by
  unfold addw
  split
  · exact h
  · rename_i hk
    refine List.nodup_append.mpr ⟨h, by simp, fun a ha b hb e => ?_⟩
    have hb : b = k := by simpa using hb
    exact hk (hb ▸ e ▸ ha)
theorem dd_aux : ∀ (ls σ : List (List Nat)), σ.Nodup → (ls.foldl addw σ).Nodup ∧ ∀ k, k ∈ ls.foldl addw σ ↔ k ∈ σ ∨ k ∈ ls
  | [], σ, h => ⟨h, by simp⟩
  | x :: r, σ, h => by
    obtain ⟨h1, h2⟩ := dd_aux r (addw σ x) (addw_nodup h)
    refine ⟨h1, fun k => ?_⟩
    rw [List.foldl_cons, h2]
    unfold addw
    split
    · rename_i hx
      constructor
      · rintro (a | a)
        · exact .inl a
        · exact .inr (.tail _ a)
      · rintro (a | a)
        · exact .inl a
        · rcases List.mem_cons.mp a with rfl | a
          · exact .inl hx
          · exact .inr a
    · simp only [List.mem_append, List.mem_cons, List.not_mem_nil, or_false, or_assoc]
theorem dd_nodup (ls : List (List Nat)) : (dd ls).Nodup := (dd_aux ls [] (by simp)).1
theorem dd_mem (ls : List (List Nat)) (k : List Nat) : k ∈ dd ls ↔ k ∈ ls := by rw [dd, (dd_aux ls [] (by simp)).2]; simp
theorem dd_len (ls : List (List Nat)) : (dd ls).length ≤ ls.length := by
  suffices ∀ (ls σ : List (List Nat)), (ls.foldl addw σ).length ≤ σ.length + ls.length by have := this ls []; simpa [dd] using this
  intro ls
  induction ls with
  | nil => intro σ; simp
  | cons x r ih =>
    intro σ
    have := ih (addw σ x)
    have h2 : (addw σ x).length ≤ σ.length + 1 := by unfold addw; split <;> simp
    simp only [List.foldl_cons, List.length_cons]; omega
/-- a set of the texts ks -/
structure SetS (C : Cx) (o : Obj) (ks : List (List Nat)) : Prop where
  ex : o.ExactSet
  has : ∃ es ep t, o.data = .set es ep t ∧ ElemsOf (PySem.strKind C.prog C.w) es.toList ∧ (∃ ks', SL (es.toList.map (·.2)) ks' ∧ ks'.Perm ks) ∧ t.fits es.size = true ∧ es.size < scanBound ∧
    t.led = (!C.w.params.followText "set-order") ∧ (t.plain = true → es.size = 0)
theorem is_mk {prog : Program} {w : World} {k l : List Nat} {t : Tok} : (PySem.strKind prog w).is (mk k) (.str (mk l) t) = true ↔ k = l := by
  constructor
  · intro h
    exact mk_inj ((PySem.strKind prog w).inj _ _ _ h (strKind_is prog w (mk l) t))
  · rintro rfl
    exact strKind_is _ _ _ _
theorem SL.perm {vs vs' : List Value} {ls : List (List Nat)} (h : SL vs ls) (p : vs'.Perm vs) : ∃ ls', SL vs' ls' ∧ ls'.Perm ls := by
  induction p generalizing ls with
  | nil => exact ⟨ls, h, .refl _⟩
  | @cons x l1 l2 p ih =>
    cases ls with
    | nil => have := h.len; simp at this
    | cons k ls =>
      obtain ⟨t, ht⟩ := h.get (i := 0) (l := k) rfl
      simp at ht
      subst ht
      obtain ⟨ls', a, b⟩ := ih (ls := ls) (by have := h.drop 1; simpa using this)
      exact ⟨k :: ls', .cons k t a, b.cons k⟩
  | @swap x y l =>
    match ls, h.len with
    | k1 :: k2 :: ls, _ =>
      obtain ⟨t1, h1⟩ := h.get (i := 0) (l := k1) rfl
      obtain ⟨t2, h2⟩ := h.get (i := 1) (l := k2) rfl
      simp at h1 h2
      subst h1 h2
      have := h.drop 2
      exact ⟨k2 :: k1 :: ls, .cons k2 t2 (.cons k1 t1 (by simpa using this)), .swap _ _ _⟩
  | trans p q ih1 ih2 =>
    obtain ⟨l2, a, b⟩ := ih2 h
    obtain ⟨l3, c, d⟩ := ih1 a
    exact ⟨l3, c, d.trans b⟩
section
variable {C : Cx} {A : Around} {S : St} {E : Value → Shared → Prop} {s : Shared}
theorem addTail {a : Addr} {o : Obj} {es es1 : Array (Int × Value)} {ep : Nat} {t t2 : SetTable} {ks : List (List Nat)} {wasDummy : Bool} {g : Bool → Sem Unit} {R : Option Bool → Shared → Prop}
    (hg : ∀ (b : Bool) (s₁ : Shared) (Q' : Unit → Shared → Prop), Q' () s₁ → wpAny (model C.prog C.w) A (g b) Q' E s₁)
    (ho : s.heap.get? a = some o) (hex : o.ExactSet) (hd : o.data = .set es ep t) (hel : ElemsOf (PySem.strKind C.prog C.w) es1.toList) (hk : ∃ ks', SL (es1.toList.map (·.2)) ks' ∧ ks'.Perm ks)
    (hf : t2.fits es1.size = true) (hb : es1.size < scanBound) (hl : t2.led = (!C.w.params.followText "set-order")) (hp : t2.plain = false)
    (h : ∀ h' o', Heap.SameBut a s.heap h' → h'.get? a = some o' → SetS C o' ks → R (some true) { s with heap := h' }) :
    wpAny (model C.prog C.w) A (do
        storeSet a es1 t2
        if (!wasDummy && t2.tooFull) = true then do
            g (relayAll t2 es1 (SetTable.grown es1.size)).2.2
            storeSet a (relayAll t2 es1 (SetTable.grown es1.size)).1 (relayAll t2 es1 (SetTable.grown es1.size)).2.1
            pure (some true)
          else pure (some true)) R E s := by
  have put : ∀ {h0 : Heap} {o0 : Obj} {es0 ep0 t0 es' t'}, h0.get? a = some o0 → o0.data = .set es0 ep0 t0 → (h0.update a (Obj.putSet es' t')).get? a = some { o0 with data := .set es' (ep0 + 1) t' } := by
    intro h0 o0 es0 ep0 t0 es' t' e1 e2
    have := Heap.get?_update_self (Obj.putSet es' t') e1 (by rw [putSet_of es' t' e2]; rfl)
    rw [putSet_of es' t' e2] at this; exact this
  refine wpAny_bind (wpAny_storeSet_of ho hd ?_ (fits_of_scanBound hb))
  have ho1 := put (es' := es1) (t' := t2) ho hd
  have sb1 := Heap.SameBut.update s.heap a (Obj.putSet es1 t2)
  split
  · have q1 := relayAll_perm t2 es1 (SetTable.grown es1.size)
    have q2 := relayAll_fits t2 es1 (SetTable.grown es1.size)
    have q3 := relayAll_led t2 es1 (SetTable.grown es1.size)
    generalize relayAll t2 es1 (SetTable.grown es1.size) = Rl at q1 q2 q3 ⊢
    obtain ⟨es2, t3, gave2⟩ := Rl
    dsimp only at q1 q2 q3 ⊢
    have hsz : es2.size = es1.size := by rw [← Array.length_toList, q1.length_eq, Array.length_toList]
    refine wpAny_bind (hg _ _ _ ?_)
    refine wpAny_bind (wpAny_storeSet_of ho1 rfl ?_ (fits_of_scanBound (by rw [hsz]; exact hb)))
    obtain ⟨ks', k1, k2⟩ := hk
    obtain ⟨ks2, k3, k4⟩ := k1.perm (q1.map (·.2))
    refine wpAny_pure (h _ _ (sb1.trans (Heap.SameBut.update _ a _)) (put (es' := es2) (t' := t3) ho1 rfl) ⟨hex, es2, _, t3, rfl, hel.perm q1, ⟨ks2, k3, k4.trans k2⟩, q2, by rw [hsz]; exact hb, q3.1.trans hl, fun e => ?_⟩)
    have := q3.2 e
    rw [hp] at this; cases this
  · exact wpAny_pure (h _ _ sb1 ho1 ⟨hex, es1, _, t2, rfl, hel, hk, hf, hb, hl, fun e => by rw [hp] at e; cases e⟩)
end
end Mine
-- part B22
namespace Mine
open PySem PySem.Calls PySem.W PyProof.Rows PySem.Spec
section
variable {C : Cx} {A : Around} {S : St} {E : Value → Shared → Prop} {s : Shared}
theorem setAdd_raw {a : Addr} {o : Obj} {ks : List (List Nat)} {k : List Nat} {t : Tok} {Q : Bool → Shared → Prop} (ho : s.heap.get? a = some o) (hS : SetS C o ks) (hroom : ks.length + 1 < 1000)
    (h : ∀ b h' o' tk, Heap.SameBut a s.heap h' → h'.get? a = some o' → SetS C o' (addw ks k) → Q b { s with heap := h', toks := tk }) : wpAny (model C.prog C.w) A (setAdd a (.str (mk k) t)) Q E s := by
  obtain ⟨hex, es, ep, tb, hd, hel, ⟨ks', hk1, hk2⟩, hf, hb, hl, hp⟩ := hS
  have hsz : es.size = ks.length := by
    have := hk1.len
    rw [hk2.length_eq, List.length_map, Array.length_toList] at this; exact this
  unfold setAdd
  refine wpAny_holding (wpAny_bind ((PySem.strKind C.prog C.w).pyHash (k := mk k) (strKind_is _ _ _ _) ?_))
  unfold setAddHashed setAddHashedIn
  refine wpAny_holding (wpAny_bind (wpAny_setState_of ho hd hf ?_))
  dsimp only
  rw [byScan_of rfl hb hel]
  simp only [↓reduceIte]
  unfold setAddByScan
  refine wpAny_bind ?_
  refine wpAny_bind (wpAny_rule ?_)
  refine wpAny_bind (wpAny_setScan_of (knd := PySem.strKind C.prog C.w) (k := mk k) (strKind_is _ _ _ _) ho hd hf hel ?_)
  have memk : k ∈ ks ↔ ∃ e ∈ es.toList, (PySem.strKind C.prog C.w).is (mk k) e.2 = true := by
    rw [← hk2.mem_iff]
    constructor
    · intro hk
      obtain ⟨i, hi⟩ := List.mem_iff_getElem?.mp hk
      obtain ⟨u, hu⟩ := hk1.get hi
      rw [List.getElem?_map] at hu
      cases he : es.toList[i]? with
      | none => rw [he] at hu; cases hu
      | some e =>
        rw [he] at hu
        simp only [Option.map_some, Option.some.injEq] at hu
        exact ⟨e, List.mem_of_getElem? he, by rw [hu]; exact strKind_is _ _ _ _⟩
    · rintro ⟨e, he, hi⟩
      obtain ⟨i, hi2⟩ := List.mem_iff_getElem?.mp he
      obtain ⟨l, u, hl1, hl2⟩ := hk1.get' (i := i) (v := e.2) (by rw [List.getElem?_map, hi2]; rfl)
      rw [hl2] at hi
      rw [is_mk.mp hi]
      exact List.mem_of_getElem? hl1
  cases hr : List.findIdx? (fun e => (PySem.strKind C.prog C.w).is (mk k) e.2) es.toList with
  | some j =>
    dsimp only
    obtain ⟨hj, hpj, _⟩ := List.findIdx?_eq_some_iff_getElem.mp hr
    have hin : k ∈ ks := memk.mpr ⟨_, List.getElem_mem hj, hpj⟩
    refine wpAny_pure (wpAny_pure ?_)
    refine h _ s.heap o _ (Heap.SameBut.refl a s.heap) ho ?_
    unfold addw
    rw [if_pos hin]
    exact ⟨hex, es, ep, tb, hd, hel, ⟨ks', hk1, hk2⟩, hf, hb, hl, hp⟩
  | none =>
    dsimp only
    have hnin : k ∉ ks := fun hk => by
      obtain ⟨e, he, hi⟩ := memk.mp hk
      have := List.findIdx?_eq_none_iff.mp hr e he
      rw [hi] at this; cases this
    have hgw : ∀ (b : Bool) {s₁ : Shared} {Q' : Unit → Shared → Prop}, Q' () s₁ → wpAny (model C.prog C.w) A (match b with | true => rule "set.scan.the-table-gave-way" | false => pure ()) Q' E s₁ :=
      fun b s₁ Q' hq => by cases b <;> first | exact wpAny_pure hq | exact wpAny_rule hq
    have q1 := layNew_perm tb es ((PySem.strKind C.prog C.w).hash (mk k)) (.str (mk k) t)
    have q2 := layNew_fits tb es ((PySem.strKind C.prog C.w).hash (mk k)) (.str (mk k) t)
    have q3 := layNew_led tb es ((PySem.strKind C.prog C.w).hash (mk k)) (.str (mk k) t)
    generalize layNew tb es ((PySem.strKind C.prog C.w).hash (mk k)) (.str (mk k) t) = L at q1 q2 q3 ⊢
    obtain ⟨es1, t1, wasDummy, gave⟩ := L
    dsimp only at q1 q2 q3 ⊢
    rw [Array.toList_push] at q1
    have hel1 : ElemsOf (PySem.strKind C.prog C.w) es1.toList := (hel.push (k := mk k) (strKind_is _ _ _ _) rfl).perm q1
    have hsz1 : es1.size = es.size + 1 := by rw [← Array.length_toList, q1.length_eq, List.length_append, Array.length_toList]; rfl
    have hks1 : ∃ ks', SL (es1.toList.map (·.2)) ks' ∧ ks'.Perm (addw ks k) := by
      have h1 : SL ((es.toList ++ [((PySem.strKind C.prog C.w).hash (mk k), Value.str (mk k) t)]).map (·.2)) (ks' ++ [k]) := by
        rw [List.map_append]
        exact hk1.snoc k t
      obtain ⟨k2, a, b⟩ := h1.perm (q1.map (·.2))
      refine ⟨k2, a, b.trans ?_⟩
      unfold addw
      rw [if_neg hnin]
      exact hk2.append_right _
    have hb1 : es1.size < scanBound := by unfold scanBound; omega
    refine wpAny_bind (hgw _ ?_)
    have hl1 := q3.1.trans hl
    split
    · refine wpAny_bind ?_
      rw [hashByValue_scannable 8 (by rfl)]
      refine wpAny_pure ?_
      refine addTail (ks := addw ks k) ?_ ho hex hd hel1 hks1 (by exact SetTable.fits_plain_off q2) hb1 hl1 rfl (fun h' o' hsb hg hS' => ?_)
      · intro b s₁ Q' hq; cases b <;> first | exact wpAny_pure hq | exact wpAny_rule hq
      · exact wpAny_pure (h _ h' o' _ hsb hg hS')
    · rename_i hpl
      refine wpAny_bind (wpAny_pure ?_)
      simp only [↓reduceIte]
      refine addTail (ks := addw ks k) ?_ ho hex hd hel1 hks1 q2 hb1 hl1 (by simpa using hpl) (fun h' o' hsb hg hS' => ?_)
      · intro b s₁ Q' hq; cases b <;> first | exact wpAny_pure hq | exact wpAny_rule hq
      · exact wpAny_pure (h _ h' o' _ hsb hg hS')
theorem SetS.notCode {o : Obj} {ks} (h : SetS C o ks) : (Cell.obj o).notCode := by
  show o.cls ≠ _
  rw [h.ex.1]; decide
theorem SetS.notDict {o : Obj} {ks} (h : SetS C o ks) : ∀ es ep, o.data ≠ .dict es ep := fun es ep e => by
  obtain ⟨a, b, c, d, _⟩ := h.has
  rw [d] at e; cases e
/-- the items of a list into a set -/
theorem setLoop {I l a : Addr} {vs : List Value} {ls : List (List Nat)} {R : Result → Shared → Prop} (hh : A.handled = none) (hm : (l, .list vs) ∈ S) (hi : SL vs ls) (hn : vs.length ≤ 900)
    (hR : ∀ s' o', Good C A ((a, .obj o') :: S) s' → SetS C o' (dd ls) → R (.ok (.ret .none)) s') :
    ∀ (k i : Nat) (s : Shared) (o : Obj), vs.length - i = k → i ≤ vs.length → Good C A ((I, liCell l i) :: (a, .obj o) :: S) s → SetS C o (dd (ls.take i)) →
      codeAny (model C.prog C.w) A (.builtin "set.update.loop" ⟨[.ref a, .ref I], []⟩) R s := by
  have hlen := hi.len
  intro k
  induction k with
  | zero =>
    intro i s o hk hii G hS
    have : i = vs.length := by omega
    subst this
    refine codeAny_builtin F.entry_set_update_loop ?_
    rw [Around.under_plainId F.plain_set_update_loop _]
    show wpAny _ A.in1 (pyNext (.ref I) >>= _) _ _ s
    refine wpAny_bind (wpAny_mono (((Iter.list (C := C) (A := A.in1) (it := I) (l := l) (vs := vs) (by exact hh)).stop _ ((a, .obj o) :: S) _ rfl (.tail _ hm)).1 s (G.around (A' := A.in1) rfl)) (fun r s' ⟨S', G', e1, e2⟩ => ?_) fun _ _ x => x)
    subst e1 e2
    rw [hlen, List.take_length] at hS
    exact wpAny_pure (hR s' o (G'.around rfl) hS)
  | succ k ih =>
    intro i s o hk hii G hS
    have hlt : i < vs.length := by omega
    refine codeAny_builtin F.entry_set_update_loop ?_
    rw [Around.under_plainId F.plain_set_update_loop _]
    show wpAny _ A.in1 (pyNext (.ref I) >>= _) _ _ s
    refine wpAny_bind (wpAny_mono (((Iter.list (C := C) (A := A.in1) (it := I) (l := l) (vs := vs) (by exact hh)).item i hlt _ ((a, .obj o) :: S) _ rfl (.tail _ hm)).1 s (G.around (A' := A.in1) rfl)) (fun r s' ⟨S', G', v, Y, e1, ⟨hv, e3⟩, e2⟩ => ?_) fun _ _ x => x)
    subst e1 e3 e2
    obtain ⟨w, t, hw, rfl⟩ := hi.get' hv
    show wpAny _ A.in1 (holding [Value.str (mk w) t] (setAdd a (.str (mk w) t)) >>= _) _ _ s'
    have hg := (G'.sat (a, .obj o) (.tail _ (.head _))).2.2
    have hdl := dd_len (ls.take i)
    have : (ls.take i).length ≤ 900 := by rw [List.length_take]; omega
    refine wpAny_bind (wpAny_holding (setAdd_raw hg hS (by omega) fun b h' o' tk hsb hg' hS' => ?_))
    refine wpAny_pure ⟨plainId_quiet F.plain_set_update_loop _, ih (i + 1) _ o' (by omega) hlt ?_ ?_⟩
    · exact (G'.around (A' := A) rfl).change (s' := { s' with heap := h', toks := tk }) (.there .here) hsb hg' hS.notCode (fun ⟨ob, es, ep, x, y⟩ => by
        have hg : s'.heap.get? a = some o := hg
        rw [hg] at x; cases x; exact absurd y (hS.notDict _ _)) rfl G'.gens hS'.notDict
    · rw [List.take_add_one, hw]
      show SetS C o' (dd (ls.take i ++ [w]))
      rw [dd_snoc]; exact hS'
theorem setNew1 (a : Value) {Q₁ : Value → Shared → Prop}
    (h : Q₁ (.ref s.heap.objs.size) { s with heap := s.heap.push { cls := .type "set", dict := none, data := .set #[] 0 (.fresh 0 0 (!C.w.params.followText "set-order")) } }) :
    codeAny (model C.prog C.w) A (.call (.builtin "set.__new__") ⟨[.type "set", a], []⟩) (wants Q₁ E) s := by
  refine codeAny_of_tree ?_
  show wpAny _ A.in1 (do checkBuiltinCall "set.__new__" ⟨[.type "set", a], []⟩; again (.builtin "set.__new__" ⟨[.type "set", a], []⟩)) _ _ s
  refine wpAny_bind (wpAny_of_eq (F.newCall_set_1 a) (wpAny_pure ⟨plainId_quiet F.plain_set_new _, codeAny_builtin F.entry_set_new ?_⟩))
  rw [Around.under_plainId F.plain_set_new _]
  unfold Builtin.«set.__new__» Builtin.Frozenset.newClass
  have hsub := sub_set_self
  obtain ⟨hp, g, d, tk, os⟩ := s
  dsimp only
  wp_walk
  refine wpAny_askSetting (wpAny_pure ?_)
  dsimp only
  simp only [newObj]
  refine wpAny_bind (wpAny_alloc (wpAny_pure ?_))
  exact wpAny_pure h
set_option maxHeartbeats 3200000 in
/-- set(list) -/
theorem W.setOf {l : Addr} {vs : List Value} {ls : List (List Nat)} {Q : Value → St → Prop} (hh : A.handled = none) (hm : (l, .list vs) ∈ S) (hi : SL vs ls) (hn : vs.length ≤ 900)
    (h : ∀ a o, SetS C o (dd ls) → Q (.ref a) ((a, .obj o) :: S)) : W C A S (call (.type "set") [.ref l]) Q E := .intro fun s G => by
  obtain ⟨c, tl, hmro⟩ := F.called_set.mro
  have hmade := F.called_set.made
  have hsub := F.called_set.sub
  refine wpAny_call (codeAny_of_tree ?_)
  show wpAny _ _ (callAny (.type "set") _) _ _ _
  refine wpAny_pure ⟨Code.quiet_builtin _ (by decide +kernel), codeAny_builtin F.entry_type_call ?_⟩
  rw [Around.under_plain (weight_type_call_type "set" [.ref l] []) rfl]
  have h1 := F.called_set.notType
  have h2 := F.called_set.canCreate
  have hct := F.typeCall_set_1 (.ref l)
  repeat (any_goals (first | assumption | wp_step))
  refine codeAny_mono (setNew1 (C := C) (.ref l) (E := E) (Q₁ := fun obj s₁ => obj = .ref s.heap.objs.size ∧ s₁ = { s with heap := s.heap.push { cls := .type "set", dict := none, data := .set #[] 0 (.fresh 0 0 (!C.w.params.followText "set-order")) } }) ⟨rfl, rfl⟩) fun r s₁ hr => ?_
  cases r with
  | error e => exact hr
  | ok fl =>
    cases fl with
    | next => exact hr.elim
    | brk => exact hr.elim
    | cont => exact hr.elim
    | ret obj =>
      obtain ⟨rfl, rfl⟩ := hr
      generalize hso : ({ cls := .type "set", dict := none, data := .set #[] 0 (.fresh 0 0 (!C.w.params.followText "set-order")) } : Obj) = so
      have hS : (s.heap.push so).get? s.heap.objs.size = some so := Heap.get?_push_size _ (by subst hso; rfl)
      have hT : Shared.TypeIs { s with heap := s.heap.push so } (.ref s.heap.objs.size) "set" := ⟨_, hS, by subst hso; rfl⟩
      have hS0 : SetS C so (dd []) := by
        subst hso
        exact ⟨⟨rfl, rfl, rfl⟩, #[], 0, _, rfl, (fun e he => by simp at he), ⟨[], SL.nil, .refl _⟩, by rfl, by decide, rfl, fun _ => rfl⟩
      have G1 : Good C A ((s.heap.objs.size, .obj so) :: S) { s with heap := s.heap.push so } :=
        G.new (s' := { s with heap := s.heap.push so }) (fun b o e => Heap.get?_push_of_some _ e) (fresh_none _) hS rfl G.gens hS0.notDict
      have hli := F.called_set.init.lookup
      have hbi := F.called_set.init.bind (.ref s.heap.objs.size)
      repeat (any_goals (first | assumption | wp_step))
      refine codeAny_mono (codeAny_call_builtin (R := wants (fun r s₂ => r = .none ∧ ∃ o', Good C A ((s.heap.objs.size, .obj o') :: S) s₂ ∧ SetS C o' (dd ls)) E) F.called_set.init.plain F.entry_set_init (check_set_init_1 hT ?_)) fun r₂ s₂ hr₂ => ?_
      · have hl1 := G1.list (.tail _ hm)
        have hsls := F.sub_list_set
        have hslf := F.sub_list_frozenset
        have hne : (Value.type "list" == Value.type "dict") = false := by decide
        obtain ⟨ol, hol, hcl, nl, hdl⟩ := hl1
        obtain ⟨ocls, odict, odata, oslots⟩ := ol
        simp only at hcl hdl
        subst hcl; subst hdl
        unfold Builtin.«set.__init__» noKeywords Builtin.Frozenset.updateFrom
        subst hso
        generalize hPI : pyIter = PI
        wp_walk
        subst hPI
        refine wpAny_mono ((W.iterL (C := C) (A := A.in1.in1) (l := l) (vs := vs) (Q := fun v S' => ∃ it, v = .ref it ∧ S' = (it, liCell l 0) :: ((s.heap.objs.size, .obj _) :: S)) (.tail _ hm) (fun it => ⟨it, rfl, rfl⟩)).1 _ (G1.around (A' := A.in1.in1) rfl)) (fun v s' ⟨S', G', it, e1, e2⟩ => ?_) (fun _ _ x => x)
        subst e1 e2
        refine wpAny_bind (wpAny_runValue ?_)
        refine setLoop (A := A.in1.in1) (S := S) (I := it) (ls := ls) hh hm hi hn (fun s'' o' G'' hS'' => ?_) vs.length 0 s' _ (by omega) (Nat.zero_le _) G' hS0
        show wpAny _ _ _ _ _ _
        refine wpAny_pure ?_
        show wpAny _ _ (ret Value.none) _ _ _
        exact wpAny_pure ⟨rfl, o', G''.around rfl, hS''⟩
      · cases r₂ with
        | error e => exact hr₂
        | ok fl₂ =>
          cases fl₂ with
          | next => exact hr₂.elim
          | brk => exact hr₂.elim
          | cont => exact hr₂.elim
          | ret r =>
            obtain ⟨rfl, o', hG', hS'⟩ := hr₂
            repeat (any_goals (first | assumption | wp_step))
            exact ⟨_, hG', h _ _ hS'⟩
end
end Mine
-- part B23
namespace Mine
open PySem PySem.Calls PySem.W PyProof.Rows PySem.Spec
theorem slot_setit_next : Slot "set_iterator" "__next__" "set_iterator.__next__" :=
  .of (owner := "set_iterator") (n := "__next__") (by rw [typeLookup_type, builtinLookup_eq_fast]; kernel_rfl) (by decide +kernel) (by decide +kernel) (by decide +kernel)
    (by first | exact .inl (by decide +kernel) | exact .inr (by decide +kernel)) (by rw [isSubtype_type]; kernel_rfl)
theorem entry_setit_next : entryFor table "set_iterator.__next__" = some Builtin.«set_iterator.__next__» := entryFor_of_tree (by kernel_rfl)
theorem args_setit_next (a : Value) : argsOk "set_iterator.__next__" ⟨[a], []⟩ := by
  unfold argsOk; kernel_rfl
theorem owner_setit : ("set_iterator".toList.reverse) = ['r', 'o', 't', 'a', 'r', 'e', 't', 'i', '_', 't', 'e', 's'] := by decide +kernel
theorem entry_set_iter : entryFor table "set.__iter__" = some Builtin.«frozenset.__iter__» := entryFor_alias (id' := "frozenset.__iter__") (by kernel_rfl) rfl (by decide +kernel) (by kernel_rfl)
theorem perm_eraseIdx {α : Type} : ∀ (l : List α) (i : Nat) (x : α), l[i]? = some x → (x :: l.eraseIdx i).Perm l
  | [], i, x, h => by simp at h
  | y :: l, 0, x, h => by simp at h; subst h; exact .refl _
  | y :: l, i + 1, x, h => by
    have := perm_eraseIdx l i x (by simpa using h)
    exact (List.Perm.swap _ _ _).trans (this.cons y)
theorem pick_go {α : Type} (next : Nat → Nat) : ∀ (fuel k : Nat) (left : List α) (out : Array α), left.length = fuel → (pickOrder.go next fuel k left out).toList.Perm (out.toList ++ left)
  | 0, k, left, out, h => by
    have : left = [] := List.length_eq_zero_iff.mp h
    subst this
    unfold pickOrder.go; simp
  | fuel + 1, k, left, out, h => by
    have hlt : next k % left.length < left.length := Nat.mod_lt _ (by omega)
    unfold pickOrder.go
    rw [List.getElem?_eq_getElem hlt]
    dsimp only
    have hp := perm_eraseIdx left _ _ (List.getElem?_eq_getElem hlt)
    refine (pick_go next fuel (k + 1) _ _ (by rw [List.length_eraseIdx]; simp [hlt]; omega)).trans ?_
    simp only [Array.toList_push, List.append_assoc, List.singleton_append]
    exact hp.append_left _
theorem pick_perm {α : Type} (next : Nat → Nat) (xs : Array α) : (pickOrder next xs).toList.Perm xs.toList := by
  have := pick_go next xs.size 0 xs.toList #[] (by simp)
  simpa [pickOrder] using this
section
variable {C : Cx} {A : Around} {S : St} {E : Value → Shared → Prop} {s : Shared}
theorem choose_wp {M : Model} {src : Source} {n : Nat} {Q : Nat → Shared → Prop} (hn : n ≠ 0) (h : ∀ k d, k < n → Q k { s with drawn := d }) : wpAny M A (choose src n) Q E s := fun Γ p hΓ => by
  unfold choose
  rw [Sem.wp_choose]
  exact ⟨hn, h _ _ (Nat.mod_lt _ (by omega))⟩
theorem draw_wp {M : Model} {α : Type} : ∀ (n : Nat) (xs : List α) (s : Shared) (Q : List α → Shared → Prop), xs.length = n → (∀ ys d, ys.Perm xs → Q ys { s with drawn := d }) → wpAny M A (drawOrder n xs) Q E s
  | 0, xs, s, Q, hl, h => by
    have : xs = [] := List.length_eq_zero_iff.mp hl
    subst this
    exact wpAny_pure (h [] s.drawn (.refl _))
  | n + 1, x :: xs, s, Q, hl, h => by
    unfold drawOrder
    refine wpAny_bind (choose_wp (by simp) fun k d hk => ?_)
    rw [List.getElem?_eq_getElem hk]
    dsimp only
    refine wpAny_bind (draw_wp n _ _ _ (by rw [List.length_eraseIdx]; split <;> omega) fun ys d' hp => ?_)
    exact wpAny_pure (h _ d' ((hp.cons _).trans (perm_eraseIdx _ _ _ (List.getElem?_eq_getElem hk))))
def sitCell (f0 : Value) (i : Nat) (a : Addr) (n ep : Nat) : Cell := .fobj "set_iterator" #[f0, rawInt i, .ref a, rawInt n, rawInt ep]
theorem sit_notCode {f0 i a n ep} : (sitCell f0 i a n ep).notCode := by show "set_iterator" ≠ "code"; decide
/-- how the values us come out of the set o at a -/
inductive Comes (C : Cx) (a : Addr) (o : Obj) (n ep : Nat) (us : List Value) : (Nat → Value) → St → Prop where
  | plain (f : Nat → Nat) (hf : ∀ {A : Around} {E : Value → Shared → Prop} (i : Nat) (s : Shared) (Q : Option (Value × Nat) → Shared → Prop), s.heap.get? a = some o → (∀ v, us[i]? = some v → Q (some (v, f (i + 1))) s) → (i = n → Q none s) → i ≤ n → wpAny (model C.prog C.w) A (setNext a (f i) i ep) Q E s) : Comes C a o n ep us (fun i => rawInt (f i)) []
  | drawn (tp : Addr) (pl : List Nat) (hl : pl.length = n) (hf : ∀ {A : Around} {E : Value → Shared → Prop} (i : Nat) (s : Shared) (Q : Value → Shared → Prop), s.heap.get? a = some o → i < n → (∀ v, us[i]? = some v → Q v s) → wpAny (model C.prog C.w) A (setNextDrawn a (pl.getD i 0) ep) Q E s) :
      Comes C a o n ep us (fun _ => .ref tp) [(tp, .obj (tupObj (pl.map fun (i : Nat) => rawInt i)))]
theorem sitItem {a it : Addr} {o : Obj} {n ep i : Nat} {us : List Value} {F : Nat → Value} {X : St} {ks : List (List Nat)} (hc : Comes C a o n ep us F X) (hS : SetS C o ks) (hn : n = ks.length) (hul : us.length = n) (hi : i < n) {Q : Option Value → Shared → Prop}
    (G : Good C A ((it, sitCell (F i) i a n ep) :: (X ++ (a, .obj o) :: S)) s) (h : ∀ s', us[i]? = some (us.getD i .none) → Good C A ((it, sitCell (F (i + 1)) (i + 1) a n ep) :: (X ++ (a, .obj o) :: S)) s' → Q (some (us.getD i .none)) s') :
    wpAny (model C.prog C.w) A (pyNext (.ref it)) Q E s := by
  obtain ⟨oi, hoi, hcl, hdt⟩ := (G.sat _ (.head _)).2.2
  have hT : s.TypeIs (.ref it) "set_iterator" := ⟨_, hoi, hcl⟩
  have hoa : s.heap.get? a = some o := (G.sat (a, .obj o) (.tail _ (List.mem_append_right _ (.head _)))).2.2
  have hnodict : ¬ ∃ ob es ep, s.heap.get? it = some ob ∧ ob.data = .dict es ep := (G.sat _ (.head _)).2.2.notDict trivial
  obtain ⟨es, ep', tb, hd, hel, ⟨ks', hk1, hk2⟩, hf, hb, hl, hp⟩ := hS.has
  have hsz : es.size = n := by
    have := hk1.len
    rw [hk2.length_eq, List.length_map, Array.length_toList] at this; omega
  have hus : us[i]? = some (us.getD i .none) := by rw [List.getD_eq_getElem?_getD, List.getElem?_eq_getElem (by omega)]; rfl
  have upd : ∀ {h' : Heap} {f1 : Value}, Heap.SameBut it s.heap h' → (∃ ob, h'.get? it = some ob ∧ ob.cls = .type "set_iterator" ∧ ob.data = .fields #[f1, rawInt (i + 1 : Nat), .ref a, rawInt n, rawInt ep]) → f1 = F (i + 1) → Good C A ((it, sitCell (F (i + 1)) (i + 1) a n ep) :: (X ++ (a, .obj o) :: S)) { s with heap := h' } := by
    rintro h' f1 hsb hob rfl
    exact G.change .here hsb hob sit_notCode (fun x => absurd x hnodict) rfl G.gens
  unfold pyNext
  refine wpAny_bind (wpAny_attempt (wpAny_callSpecial?_slot (name := Str.ofString "__next__") hT slot_setit_next (wpAny_call_entry slot_setit_next hT entry_setit_next ?_ (args_setit_next _))))
  show wpAny _ _ (fieldsOf (.ref it) >>= _) _ _ s
  refine wpAny_bind (wpAny_fieldsOf hoi hdt ?_)
  dsimp only [rawInt]
  refine wpAny_bind (wpAny_setEntries_of hoa hd hf ?_)
  rw [if_neg (by simp [hsz])]
  cases hc with
  | plain f hfx =>
    dsimp only [rawInt]
    refine wpAny_bind (hfx i s _ hoa (fun v hv => ?_) (fun e => absurd e (by omega)) (by omega))
    have hve : v = us.getD i .none := by rw [List.getD_eq_getElem?_getD, hv]; rfl
    subst hve
    dsimp only
    have e1 := Heap.get?_update_self (Obj.mapFields (·.setIfInBounds 0 (.int (f (i + 1) : Nat) 0))) hoi (Obj.isFreed_of_fields (Obj.data_mapFields hdt _))
    have d1 := Obj.data_mapFields hdt (·.setIfInBounds 0 (.int (f (i + 1) : Nat) 0))
    refine wpAny_bind (wpAny_setField hoi hdt (by simp) (wpAny_bind (wpAny_setField e1 d1 (by simp) (wpAny_pure ⟨_, rfl, wpAny_pure (h _ hus (upd ((Heap.SameBut.update ..).trans (Heap.SameBut.update ..)) ⟨_, Heap.get?_update_self _ e1 (Obj.isFreed_of_fields (Obj.data_mapFields d1 _)), ?_, ?_⟩ rfl))⟩))))
    · rw [Obj.cls_mapFields, Obj.cls_mapFields]; exact hcl
    · rw [Obj.data_mapFields d1]
      simp [rawInt]
  | drawn tp pl hl hfx =>
    have htp := (G.sat (tp, .obj (tupObj (pl.map fun (i : Nat) => rawInt i))) (.tail _ (.head _))).2.2
    dsimp only
    refine wpAny_bind (wpAny_seqItems htp rfl ?_)
    have hpl : (pl.map fun (i : Nat) => rawInt i).toArray[(i : Int).toNat]? = some (rawInt (pl.getD i 0)) := by
      rw [List.getElem?_toArray, Int.toNat_natCast, List.getElem?_map, List.getD_eq_getElem?_getD, List.getElem?_eq_getElem (by omega)]; rfl
    dsimp only
    rw [hpl]
    dsimp only [rawInt]
    refine wpAny_bind (hfx i s _ hoa hi fun v hv => ?_)
    have hve : v = us.getD i .none := by rw [List.getD_eq_getElem?_getD, hv]; rfl
    subst hve
    refine wpAny_bind (wpAny_setField hoi hdt (by simp) (wpAny_pure ⟨_, rfl, wpAny_pure (h _ hus (upd (Heap.SameBut.update ..) ⟨_, Heap.get?_update_self _ hoi (Obj.isFreed_of_fields (Obj.data_mapFields hdt _)), ?_, ?_⟩ rfl))⟩))
    · rw [Obj.cls_mapFields]; exact hcl
    · rw [Obj.data_mapFields hdt]
      simp [rawInt]
theorem sitStop {a it : Addr} {o : Obj} {n ep : Nat} {us : List Value} {F : Nat → Value} {X : St} {ks : List (List Nat)} (hh : A.handled = none) (hc : Comes C a o n ep us F X) (hS : SetS C o ks) (hn : n = ks.length) (hul : us.length = n) {Q : Option Value → Shared → Prop}
    (G : Good C A ((it, sitCell (F n) n a n ep) :: (X ++ (a, .obj o) :: S)) s) (h : ∀ s', Good C A (X ++ (a, .obj o) :: S) s' → Q none s') :
    wpAny (model C.prog C.w) A (pyNext (.ref it)) Q E s := by
  obtain ⟨oi, hoi, hcl, hdt⟩ := (G.sat _ (.head _)).2.2
  have hT : s.TypeIs (.ref it) "set_iterator" := ⟨_, hoi, hcl⟩
  have hoa : s.heap.get? a = some o := (G.sat (a, .obj o) (.tail _ (List.mem_append_right _ (.head _)))).2.2
  have hnodict : ¬ ∃ ob es ep, s.heap.get? it = some ob ∧ ob.data = .dict es ep := (G.sat _ (.head _)).2.2.notDict trivial
  obtain ⟨es, ep', tb, hd, hel, ⟨ks', hk1, hk2⟩, hf, hb, hl, hp⟩ := hS.has
  have hsz : es.size = n := by
    have := hk1.len
    rw [hk2.length_eq, List.length_map, Array.length_toList] at this; omega
  have fin : ∀ {h1 : Heap} (_ : Heap.ExtBut it s.heap h1) (h' : Heap) (e : Addr), (∀ b o, h1.get? b = some o → h'.get? b = some o) → (∃ ob, h'.get? e = some ob ∧ ob.cls = .type "StopIteration") →
      (∃ ob, h'.get? e = some ob ∧ ob.cls = .type "StopIteration") ∧ Good C A (X ++ (a, .obj o) :: S) { s with heap := h' } := by
    intro h1 k1 h' e k he
    exact ⟨he, G.lose .here (s' := { s with heap := h' }) (fun b ob hb eb => k b ob (k1 b ob hb eb)) sit_notCode trivial rfl G.gens⟩
  unfold pyNext
  refine wpAny_bind (wpAny_attempt (wpAny_callSpecial?_slot (name := Str.ofString "__next__") hT slot_setit_next (wpAny_call_entry slot_setit_next hT entry_setit_next ?_ (args_setit_next _))))
  show wpAny _ _ (fieldsOf (.ref it) >>= _) _ _ s
  refine wpAny_bind (wpAny_fieldsOf hoi hdt ?_)
  dsimp only [rawInt]
  refine wpAny_bind (wpAny_setEntries_of hoa hd hf ?_)
  rw [if_neg (by simp [hsz])]
  have tail : ∀ (h' : Heap) (e : Addr), (∃ ob, h'.get? e = some ob ∧ ob.cls = .type "StopIteration") ∧ Good C A (X ++ (a, .obj o) :: S) { s with heap := h' } →
      wpAny (model C.prog C.w) A (do if ← isInstance (.ref e) (.type "StopIteration") then pure none else throw (.ref e)) Q E { s with heap := h' } := by
    rintro h' e ⟨⟨ob, h1, h2⟩, G'⟩
    refine wpAny_bind (wpAny_isInstance (T := "StopIteration") (b := true) ⟨_, h1, h2⟩ isSubtype_stop ?_)
    exact wpAny_pure (h _ G')
  cases hc with
  | plain f hfx =>
    dsimp only [rawInt]
    refine wpAny_bind (hfx n s _ hoa (fun v hv => by rw [List.getElem?_eq_none (by omega)] at hv; cases hv) (fun _ => ?_) (Nat.le_refl _))
    dsimp only
    refine wpAny_bind (wpAny_setField hoi hdt (by simp) ?_)
    exact raiseStop hh fun h' e k he => tail h' e (fin (Heap.SameBut.update ..).extBut h' e k he)
  | drawn tp pl hl hfx =>
    have htp := (G.sat (tp, .obj (tupObj (pl.map fun (i : Nat) => rawInt i))) (.tail _ (.head _))).2.2
    dsimp only
    refine wpAny_bind (wpAny_seqItems htp rfl ?_)
    have hpl : (pl.map fun (i : Nat) => rawInt i).toArray[(n : Int).toNat]? = none := by
      rw [List.getElem?_toArray, Int.toNat_natCast, List.getElem?_map, List.getElem?_eq_none (by omega)]; rfl
    dsimp only
    rw [hpl]
    dsimp only
    have e1 := Heap.get?_update_self (Obj.mapFields (·.setIfInBounds 0 (.int 0 0))) hoi (Obj.isFreed_of_fields (Obj.data_mapFields hdt _))
    have d1 := Obj.data_mapFields hdt (·.setIfInBounds 0 (.int 0 0))
    refine wpAny_bind (wpAny_setField hoi hdt (by simp) (wpAny_bind (wpAny_setField e1 d1 (by simp) ?_)))
    exact raiseStop hh fun h' e k he => tail h' e (fin ((Heap.SameBut.update ..).trans (Heap.SameBut.update ..)).extBut h' e k he)
end
end Mine
-- part B24
namespace Mine
open PySem PySem.Calls PySem.W PyProof.Rows PySem.Spec
section
variable {C : Cx} {A : Around} {S : St} {E : Value → Shared → Prop} {s : Shared}
theorem epoch_wp {a : Addr} {o : Obj} {es : Array (Int × Value)} {ep : Nat} {t : SetTable} {Q : Nat → Shared → Prop}
    (ho : s.heap.get? a = some o) (hd : o.data = .set es ep t) (hf : t.fits es.size = true) (h : Q ep s) : wpAny (model C.prog C.w) A (setEpoch a) Q E s := by
  unfold setEpoch
  exact wpAny_bind (wpAny_setState_of ho hd hf (wpAny_pure h))
/-- iter(set): how the values will come -/
theorem iterSet {a : Addr} {o : Obj} {ks : List (List Nat)} (hS : SetS C o ks) (hk : ks.length ≤ 900) (G : Good C A ((a, .obj o) :: S) s) {Q : Value → Shared → Prop}
    (h : ∀ s' it us ls F X ep, SL us ls → ls.Perm ks → Comes C a o ks.length ep us F X → Good C A ((it, sitCell (F 0) 0 a ks.length ep) :: (X ++ (a, .obj o) :: S)) s' → Q (.ref it) s') : wpAny (model C.prog C.w) A (pyIter (.ref a)) Q E s := by
  have hoa : s.heap.get? a = some o := (G.sat _ (.head _)).2.2
  have hT : s.TypeIs (.ref a) "set" := ⟨_, hoa, hS.ex.1⟩
  obtain ⟨es, ep, tb, hd, hel, ⟨ks', hk1, hk2⟩, hf, hb, hl, hp⟩ := hS.has
  have hsz : es.size = ks.length := by
    have := hk1.len
    rw [hk2.length_eq, List.length_map, Array.length_toList] at this; omega
  refine wpAny_pyIter_slot hT F.slot_set_iter (wpAny_call_entry F.slot_set_iter hT entry_set_iter ?_ (F.args_set_iter_1 _))
  show wpAny _ _ (Builtin.Frozenset.sizeOf a >>= _) _ _ s
  unfold Builtin.Frozenset.sizeOf
  refine wpAny_bind (wpAny_bind (wpAny_setEntries_of hoa hd hf (wpAny_pure ?_)))
  have made : ∀ {s₁ : Shared} {X : St} {f0 : Value} {A' : Around} {us : List Value} {ls : List (List Nat)} {Fv : Nat → Value}, Good C A (X ++ (a, .obj o) :: S) s₁ → f0 = Fv 0 → SL us ls → ls.Perm ks → Comes C a o ks.length ep us Fv X →
      wpAny (model C.prog C.w) A' (do ret (← newFields "set_iterator" [f0, rawInt 0, .ref a, rawInt es.size, rawInt (← setEpoch a)])) (fun fin s' => ∃ v, fin = .done (.ret v) ∧ ∃ T' r, s'.TypeIs v T' ∧ typeLookup (.type T') "__next__" = pure (some r) ∧ Q v s') E s₁ := by
    rintro s₁ X f0 A' us ls Fv G1 rfl h1 h2 h3
    have hoa1 : s₁.heap.get? a = some o := (G1.sat (a, .obj o) (List.mem_append_right _ (.head _))).2.2
    refine wpAny_bind (epoch_wp hoa1 hd hf ?_)
    refine wpAny_bind (wpAny_newObj_type (wpAny_pure ⟨_, rfl, "set_iterator", _, ⟨_, Heap.get?_push_size _ rfl, rfl⟩, slot_setit_next.lookup, h _ _ us ls Fv X ep h1 h2 h3 ?_⟩))
    refine G1.new (s' := { s₁ with heap := s₁.heap.push _ }) (c := sitCell (Fv 0) 0 a ks.length ep) (fun b o e => Heap.get?_push_of_some _ e) (fresh_none _) ⟨_, Heap.get?_push_size _ rfl, rfl, ?_⟩ rfl G1.gens
    rw [hsz]; rfl
  unfold setDrawn
  refine wpAny_bind (wpAny_bind (wpAny_setState_of hoa hd hf ?_))
  dsimp only
  unfold setsByText
  refine wpAny_bind (wpAny_bind (wpAny_askSetting (wpAny_pure (wpAny_pure (wpAny_ite_split (fun hc => ?_) (fun hc => ?_))))))
  · have hc' : (!C.w.params.followText "set-order" && (!tb.plain && decide (1 < es.size))) = true := hc
    simp only [Bool.and_eq_true, Bool.not_eq_true', decide_eq_true_eq] at hc'
    obtain ⟨hbf, hpl, h1⟩ := hc'
    refine wpAny_bind (draw_wp es.size _ _ _ (by simp) fun ys d hy => ?_)
    have G1 : Good C A ((a, .obj o) :: S) { s with drawn := d } := G.grow (s' := { s with drawn := d }) (fun _ _ e => e) rfl G.gens
    have hyl : ys.length = ks.length := by rw [hy.length_eq]; simp [hsz]
    refine wpAny_bind (wpAny_newTuple ?_ (by rw [sizeLine_eq]; simp; omega))
    have G2 := G1.new (s' := { s with drawn := d, heap := s.heap.push (tupObj (ys.map fun (i : Nat) => rawInt i)) }) (c := .obj (tupObj (ys.map fun (i : Nat) => rawInt i))) (fun b o e => Heap.get?_push_of_some _ e) (fresh_none _) (Heap.get?_push_size _ rfl) rfl G.gens
    have hys : ∀ y ∈ ys, y < es.size := fun y h => List.mem_range.mp (hy.mem_iff.mp h)
    have pus : (ys.map fun y => (es.toList.map (·.2)).getD y .none).Perm (es.toList.map (·.2)) := by
      refine (hy.map _).trans ?_
      have : (List.range es.size).map (fun y => (es.toList.map (·.2)).getD y .none) = es.toList.map (·.2) := by
        refine List.ext_getElem? fun j => ?_
        rcases Nat.lt_or_ge j es.size with hj | hj
        · rw [List.getElem?_map, List.getElem?_range hj]
          simp only [Option.map_some, List.getD_eq_getElem?_getD]
          rw [List.getElem?_eq_getElem (by simpa using hj)]; rfl
        · rw [List.getElem?_eq_none (by simpa using hj), List.getElem?_eq_none (by simpa using hj)]
      rw [this]
    obtain ⟨ls, q1, q2⟩ := hk1.perm pus
    refine made (X := [(s.heap.objs.size, .obj (tupObj (ys.map fun (i : Nat) => rawInt i)))]) (Fv := fun _ => .ref s.heap.objs.size) G2 rfl q1 (q2.trans hk2) (.drawn _ ys hyl ?_)
    intro A' E' i s' Q' ho' hin q3
    unfold setNextDrawn
    refine wpAny_bind (wpAny_setState_of ho' hd hf ?_)
    dsimp only
    rw [if_neg (by simp)]
    have hyi : ys[i]? = some (ys.getD i 0) := by rw [List.getD_eq_getElem?_getD, List.getElem?_eq_getElem (by omega)]; rfl
    have hlt := hys _ (List.mem_of_getElem? hyi)
    generalize ys.getD i 0 = y at *
    rw [Array.getElem?_eq_getElem hlt]
    dsimp only
    refine wpAny_pure (q3 _ ?_)
    rw [List.getElem?_map, hyi]
    simp only [Option.map_some, List.getD_eq_getElem?_getD]
    rw [List.getElem?_map, Array.getElem?_toList, Array.getElem?_eq_getElem hlt]; rfl
  refine wpAny_bind (wpAny_pure ?_)
  by_cases hbt : C.w.params.followText "set-order" = true
  · -- the order of the settings
    have pp := pick_perm (C.w.params.setOrder a ep) es
    obtain ⟨ls, h1, h2⟩ := hk1.perm (pp.map (·.2))
    have hpz : (pickOrder (C.w.params.setOrder a ep) es).size = ks.length := by rw [← Array.length_toList, pp.length_eq, Array.length_toList, hsz]
    refine made (X := []) (Fv := fun i => rawInt ((fun _ => 0 : Nat → Nat) i)) G rfl h1 (h2.trans hk2) (.plain (fun _ => 0) ?_)
    intro A' E' i s' Q' ho' q1 q2 hin
    unfold setNext
    refine wpAny_bind (wpAny_setState_of ho' hd hf ?_)
    dsimp only
    unfold setsByText
    refine wpAny_bind (wpAny_bind (wpAny_askSetting (wpAny_pure ?_)))
    refine wpAny_ite_split (fun _ => ?_) (fun hn => absurd hbt hn)
    refine wpAny_ite_split (fun hn => absurd hn (by simp)) (fun _ => ?_)
    unfold setWalk
    refine wpAny_bind (wpAny_bind (wpAny_setState_of ho' hd hf ?_))
    dsimp only
    unfold setsByText
    refine wpAny_bind (wpAny_bind (wpAny_askSetting (wpAny_pure ?_)))
    refine wpAny_ite_split (fun _ => ?_) (fun hn => absurd hbt hn)
    refine wpAny_bind (wpAny_askSetting (wpAny_pure (wpAny_pure ?_)))
    show Q' (((pickOrder (C.w.params.setOrder a ep) es)[i]?).map fun e => (e.2, 0)) s'
    rcases Nat.lt_or_ge i ks.length with hlt | hge
    · have e : (pickOrder (C.w.params.setOrder a ep) es)[i]? = some (pickOrder (C.w.params.setOrder a ep) es)[i] := Array.getElem?_eq_getElem (by omega)
      rw [e]
      refine q1 _ ?_
      rw [List.getElem?_map, Array.getElem?_toList, e]; rfl
    · rw [Array.getElem?_eq_none (by omega)]
      exact q2 (by omega)
  · have hbf : C.w.params.followText "set-order" = false := by simpa using hbt
    have h1 : es.size ≤ 1 := by
      have hc' : ¬ (!C.w.params.followText "set-order" && (!tb.plain && decide (1 < es.size))) = true := hc
      rw [hbf] at hc'
      cases e : tb.plain with
      | false => rw [e] at hc'; simp at hc'; omega
      | true => have := hp e; omega
    have hps : tb.place.size = es.size := by
      simp only [SetTable.fits, Bool.and_eq_true, beq_iff_eq] at hf
      exact hf.1
    refine made (X := []) (Fv := fun i => rawInt ((fun i => if i = 0 then 0 else tb.place.getD 0 0 + 1 : Nat → Nat) i)) G rfl hk1 hk2 (.plain (fun i => if i = 0 then 0 else tb.place.getD 0 0 + 1) ?_)
    intro A' E' i s' Q' ho' q1 q2 hin
    unfold setNext
    refine wpAny_bind (wpAny_setState_of ho' hd hf ?_)
    dsimp only
    unfold setsByText
    refine wpAny_bind (wpAny_bind (wpAny_askSetting (wpAny_pure ?_)))
    refine wpAny_ite_split (fun hn => absurd hn hbt) (fun _ => ?_)
    refine wpAny_ite_split (fun hn => ?_) (fun _ => ?_)
    · have hn : (!tb.plain && decide (1 < es.size)) = true := hn
      simp at hn; omega
    refine wpAny_bind (m := if (!tb.led && !es.isEmpty) = true then unsupported _ else pure ()) (wpAny_ite_split (fun hn => ?_) (fun _ => wpAny_pure ?_))
    · rw [hl, hbf] at hn; simp at hn
    rcases Nat.eq_zero_or_pos es.size with h0 | h0
    · rw [Array.getElem?_eq_none (xs := es) (by omega)]
      exact wpAny_pure (q2 (by omega))
    · have hp1 : tb.place.size = 1 := by omega
      obtain ⟨j, hj⟩ : ∃ j, tb.place = #[j] := by
        match hq : tb.place, hp1 with
        | ⟨[j]⟩, _ => exact ⟨j, rfl⟩
      have he1 : es.size = 1 := by omega
      rw [hj]
      have hin : i = 0 ∨ i = 1 := by omega
      rcases hin with rfl | rfl
      · rw [if_pos rfl]
        have hb0 : SetTable.below #[j] 0 = 0 := by simp [SetTable.below, SetTable.below.go]
        rw [hb0, Array.getElem?_eq_getElem (by omega)]
        have hq := q1 es[0].2 (by rw [List.getElem?_map, Array.getElem?_toList, Array.getElem?_eq_getElem (by omega)]; rfl)
        rw [hj] at hq
        exact wpAny_pure hq
      · rw [if_neg (by decide)]
        have hb0 : SetTable.below #[j] (#[j].getD 0 0 + 1) = 1 := by simp [SetTable.below, SetTable.below.go]
        rw [hb0, Array.getElem?_eq_none (xs := es) (by omega)]
        exact wpAny_pure (q2 (by omega))
theorem hint_set {a : Addr} {Q : Bool → Shared → Prop} (hT : s.TypeIs (.ref a) "set") (h : Q false s) : wpAny (model C.prog C.w) A (Builtin.List.listLengthHint (.ref a)) Q E s := by
  unfold Builtin.List.listLengthHint
  refine wpAny_bind (wpAny_specialOf hT F.slot_set_len.lookup ?_)
  generalize hid : ("set.__len__" : String) = id0
  wp_delta
  rw [show splitId id0 = some ("set", "__len__") from by subst hid; decide +kernel]
  subst hid
  refine wpAny_bind (wpAny_isInstance (T := "set") (b := true) hT sub_set_self ?_)
  refine wpAny_ite_split (fun hab => absurd hab (by decide)) (fun _ => ?_)
  refine wpAny_ite_split (fun _ => ?_) (fun hab => absurd (by decide +kernel) hab)
  refine wpAny_bind (wpAny_typeOf hT ?_)
  exact wpAny_pure h
/-- sorted(set) -/
theorem W.sortedSet {a : Addr} {o : Obj} {ks : List (List Nat)} {Q : Value → St → Prop} (hh : A.handled = none) (hm : (a, .obj o) ∈ S) (hS : SetS C o ks) (hk : ks.length ≤ 50) (hnd : ks.Nodup)
    (h : ∀ lst vs' ls', SL vs' ls' → ls'.Perm ks → ls'.Pairwise (fun a b => ¬ b < a) → Q (.ref lst) ((lst, .list vs') :: S)) : W C A S (call (.builtin "sorted") [.ref a]) Q E := .intro fun s G => by
  obtain ⟨S₁, S₂, rfl⟩ := List.append_of_mem hm
  refine Calls.call_function_entry kind_sorted plain_sorted entry_sorted (args_sorted1 _) ?_
  unfold Builtin.«sorted»
  refine wpAny_bind (m := checkCount "sorted" 1 1 _) (wpAny_pure ?_)
  have hoa := (G.sat _ hm).2.2
  have alt : a < s.heap.objs.size := hoa.lt
  have hT : s.TypeIs (.ref a) "set" := ⟨_, hoa, hS.ex.1⟩
  have Gp := G.perm (List.perm_middle (l₁ := S₁) (l₂ := S₂) (a := (a, Cell.obj o)))
  generalize hS0 : S₁ ++ S₂ = S0 at Gp
  refine wpAny_bind (wpAny_mono (Q := fun acc s' => (∃ ls, SL acc ls ∧ ls.Perm ks) ∧ acc.length ≤ 50 ∧ Good C A ((a, .obj o) :: S0) s') (E := NoE) ?_ (fun acc s' ⟨⟨ls, h1, h2⟩, h3, G'⟩ => ?_) (fun _ _ x => x.elim))
  · refine collect_raw (T := .type "set") (fun s' Q E hk hq => wpAny_typeOf (⟨_, hk _ _ hoa, hS.ex.1⟩ : s'.TypeIs (.ref a) "set") hq) (by decide) (by decide) (fun b e => by cases e; exact alt) ?_
    have G1 : Good C A ((s.heap.objs.size, .list []) :: (a, .obj o) :: S0) { s with heap := s.heap.push { cls := .type "list", data := .seq ([] : List Value).toArray } } :=
      Gp.new (c := .list []) (fun b o e => Heap.get?_push_of_some _ e) (fresh_none _) ⟨0, Heap.get?_push_size _ rfl⟩ rfl G.gens
    generalize s.heap.objs.size = ac at G1 ⊢
    show wpAny _ A.in1.in1 (pyIter (.ref a)) _ _ _
    refine iterSet (A := A.in1.in1) hS (by omega) ((G1.perm (.swap _ _ _)).around rfl) fun s₂ it us ls F X ep h1 h2 hc G2 => ?_
    refine hint_set ⟨_, (G2.sat (a, .obj o) (.tail _ (List.mem_append_right _ (.head _)))).2.2, hS.ex.1⟩ ?_
    have pm : ∀ c d, (((it, c) :: (X ++ (a, Cell.obj o) :: (ac, d) :: S0)) : St).Perm ((ac, d) :: (it, c) :: (X ++ (a, Cell.obj o) :: S0)) := by
      intro c d
      have := (List.perm_middle (l₁ := (it, c) :: (X ++ [(a, Cell.obj o)])) (l₂ := S0) (a := (ac, d)))
      simpa using this
    have hul : us.length = ks.length := h1.len.trans h2.length_eq
    have e1 : ∀ {s₁ : Shared} {acc c}, Good C A ((ac, .list acc) :: c) s₁ → ∃ k, IsL s₁.heap ac acc.toArray k := fun G => (G.sat _ (.head _)).2.2
    have G3 := (G2.around (A' := A) rfl).perm (pm _ _)
    obtain ⟨k0, hl0⟩ := e1 G3
    refine ⟨k0, ks.length, fun acc i s' => Good C A ((ac, .list acc) :: (it, sitCell (F i) i a ks.length ep) :: (X ++ (a, .obj o) :: S0)) s', fun j v => us[j]? = some v, fun acc s' => Good C A ((ac, .list acc) :: (X ++ (a, .obj o) :: S0)) s', hl0, ⟨fun acc i s' hi hJ => ?_, fun acc s' hJ => ?_, fun acc i s' v hJ => ?_⟩, by omega, G3, ?_, fun acc s' hl hP hJ => ⟨e1 hJ, ⟨ls, ?_, h2⟩, by omega, ?_⟩⟩
    · refine sitItem (A := A.in1.in1) hc hS rfl hul hi ((hJ.perm (pm _ _).symm).around rfl) fun s'' hu G' => ⟨_, rfl, hu, (G'.around (A' := A) rfl).perm (pm _ _)⟩
    · refine sitStop (A := A.in1.in1) (S := (ac, .list acc) :: S0) hh hc hS rfl hul ((hJ.perm (pm _ _).symm).around rfl) fun s'' G' => ⟨rfl, (G'.around (A' := A) rfl).perm ?_⟩
      have := (List.perm_middle (l₁ := X ++ [(a, Cell.obj o)]) (l₂ := S0) (a := (ac, Cell.list acc)))
      simpa using this
    · obtain ⟨k, hl⟩ := e1 hJ
      refine ⟨k, hl, ?_⟩
      refine hJ.change .here (Heap.SameBut.update ..) ⟨k + 1, ?_⟩ trivial (fun x => absurd x ((hJ.sat _ (.head _)).2.2.notDict trivial)) rfl hJ.gens
      refine (Heap.get?_update_self (Obj.mapSeq fun xs => xs.push v) hl rfl).trans ?_
      simp [Obj.mapSeq]
    · have q1 := Heap.get?_update_self (Obj.mapSeq (·.push Value.none)) hl0 rfl
      have q2 := Heap.get?_update_self (Obj.mapSeq (·.pop)) q1 rfl
      exact G3.change .here ((Heap.SameBut.update ..).trans (Heap.SameBut.update ..)) ⟨_, q2⟩ trivial (fun x => absurd x ((G3.sat _ (.head _)).2.2.notDict trivial)) rfl G3.gens
    · have : acc = us := by
        refine List.ext_getElem? fun j => ?_
        rcases Nat.lt_or_ge j acc.length with hj | hj
        · rw [List.getElem?_eq_getElem hj]
          exact (hP j _ (List.getElem?_eq_getElem hj)).symm
        · rw [List.getElem?_eq_none hj, List.getElem?_eq_none (by omega)]
      rw [this]; exact h1
    · exact hJ.weaken (.cons _ (List.sublist_append_right _ _))
  · have G'' := G'.perm (S' := S₁ ++ (a, .obj o) :: S₂) (by rw [← hS0]; exact List.perm_middle.symm)
    exact sortTail G'' h1 h3 fun s'' lst vs' ls' q1 q2 q3 q4 => ⟨_, q4, h lst vs' ls' q1 (q2.trans h2) q3⟩
end
end Mine
-- part C12
namespace Mine
open PySem PySem.Calls PySem.W PyProof.Rows
local macro_rules | `(tactic| walk_at "m") => `(tactic| first | exact List.Mem.head _ | exact List.Mem.tail _ (List.Mem.head _) | exact List.Mem.tail _ (List.Mem.tail _ (List.Mem.head _)) | exact List.Mem.tail _ (List.Mem.tail _ (List.Mem.tail _ (List.Mem.head _))) | exact List.Mem.tail _ (List.Mem.tail _ (List.Mem.tail _ (List.Mem.tail _ (List.Mem.head _)))) | exact List.Mem.tail _ (List.Mem.tail _ (List.Mem.tail _ (List.Mem.tail _ (List.Mem.tail _ (List.Mem.head _))))) | exact List.Mem.tail _ (List.Mem.tail _ (List.Mem.tail _ (List.Mem.tail _ (List.Mem.tail _ (List.Mem.tail _ (List.Mem.head _)))))) | exact List.Mem.tail _ (List.Mem.tail _ (List.Mem.tail _ (List.Mem.tail _ (List.Mem.tail _ (List.Mem.tail _ (List.Mem.tail _ (List.Mem.head _))))))) | exact List.Mem.tail _ (List.Mem.tail _ (List.Mem.tail _ (List.Mem.tail _ (List.Mem.tail _ (List.Mem.tail _ (List.Mem.tail _ (List.Mem.tail _ (List.Mem.head _)))))))) | exact List.Mem.tail _ (List.Mem.tail _ (List.Mem.tail _ (List.Mem.tail _ (List.Mem.tail _ (List.Mem.tail _ (List.Mem.tail _ (List.Mem.tail _ (List.Mem.tail _ (List.Mem.head _))))))))) | exact List.Mem.tail _ (List.Mem.tail _ (List.Mem.tail _ (List.Mem.tail _ (List.Mem.tail _ (List.Mem.tail _ (List.Mem.tail _ (List.Mem.tail _ (List.Mem.tail _ (List.Mem.tail _ (List.Mem.head _)))))))))) | exact List.Mem.tail _ (List.Mem.tail _ (List.Mem.tail _ (List.Mem.tail _ (List.Mem.tail _ (List.Mem.tail _ (List.Mem.tail _ (List.Mem.tail _ (List.Mem.tail _ (List.Mem.tail _ (List.Mem.tail _ (List.Mem.head _))))))))))) | exact List.Mem.tail _ (List.Mem.tail _ (List.Mem.tail _ (List.Mem.tail _ (List.Mem.tail _ (List.Mem.tail _ (List.Mem.tail _ (List.Mem.tail _ (List.Mem.tail _ (List.Mem.tail _ (List.Mem.tail _ (List.Mem.tail _ (List.Mem.head _)))))))))))) | exact List.Mem.tail _ (List.Mem.tail _ (List.Mem.tail _ (List.Mem.tail _ (List.Mem.tail _ (List.Mem.tail _ (List.Mem.tail _ (List.Mem.tail _ (List.Mem.tail _ (List.Mem.tail _ (List.Mem.tail _ (List.Mem.tail _ (List.Mem.tail _ (List.Mem.head _))))))))))))) | exact List.Mem.tail _ (List.Mem.tail _ (List.Mem.tail _ (List.Mem.tail _ (List.Mem.tail _ (List.Mem.tail _ (List.Mem.tail _ (List.Mem.tail _ (List.Mem.tail _ (List.Mem.tail _ (List.Mem.tail _ (List.Mem.tail _ (List.Mem.tail _ (List.Mem.tail _ (List.Mem.head _)))))))))))))) | exact List.Mem.tail _ (List.Mem.tail _ (List.Mem.tail _ (List.Mem.tail _ (List.Mem.tail _ (List.Mem.tail _ (List.Mem.tail _ (List.Mem.tail _ (List.Mem.tail _ (List.Mem.tail _ (List.Mem.tail _ (List.Mem.tail _ (List.Mem.tail _ (List.Mem.tail _ (List.Mem.tail _ (List.Mem.head _))))))))))))))) | exact List.Mem.tail _ (List.Mem.tail _ (List.Mem.tail _ (List.Mem.tail _ (List.Mem.tail _ (List.Mem.tail _ (List.Mem.tail _ (List.Mem.tail _ (List.Mem.tail _ (List.Mem.tail _ (List.Mem.tail _ (List.Mem.tail _ (List.Mem.tail _ (List.Mem.tail _ (List.Mem.tail _ (List.Mem.tail _ (List.Mem.head _)))))))))))))))) | exact List.Mem.tail _ (List.Mem.tail _ (List.Mem.tail _ (List.Mem.tail _ (List.Mem.tail _ (List.Mem.tail _ (List.Mem.tail _ (List.Mem.tail _ (List.Mem.tail _ (List.Mem.tail _ (List.Mem.tail _ (List.Mem.tail _ (List.Mem.tail _ (List.Mem.tail _ (List.Mem.tail _ (List.Mem.tail _ (List.Mem.tail _ (List.Mem.head _))))))))))))))))) | exact List.Mem.tail _ (List.Mem.tail _ (List.Mem.tail _ (List.Mem.tail _ (List.Mem.tail _ (List.Mem.tail _ (List.Mem.tail _ (List.Mem.tail _ (List.Mem.tail _ (List.Mem.tail _ (List.Mem.tail _ (List.Mem.tail _ (List.Mem.tail _ (List.Mem.tail _ (List.Mem.tail _ (List.Mem.tail _ (List.Mem.tail _ (List.Mem.tail _ (List.Mem.head _)))))))))))))))))) | exact List.Mem.tail _ (List.Mem.tail _ (List.Mem.tail _ (List.Mem.tail _ (List.Mem.tail _ (List.Mem.tail _ (List.Mem.tail _ (List.Mem.tail _ (List.Mem.tail _ (List.Mem.tail _ (List.Mem.tail _ (List.Mem.tail _ (List.Mem.tail _ (List.Mem.tail _ (List.Mem.tail _ (List.Mem.tail _ (List.Mem.tail _ (List.Mem.tail _ (List.Mem.tail _ (List.Mem.head _))))))))))))))))))) | exact List.Mem.tail _ (List.Mem.tail _ (List.Mem.tail _ (List.Mem.tail _ (List.Mem.tail _ (List.Mem.tail _ (List.Mem.tail _ (List.Mem.tail _ (List.Mem.tail _ (List.Mem.tail _ (List.Mem.tail _ (List.Mem.tail _ (List.Mem.tail _ (List.Mem.tail _ (List.Mem.tail _ (List.Mem.tail _ (List.Mem.tail _ (List.Mem.tail _ (List.Mem.tail _ (List.Mem.tail _ (List.Mem.head _)))))))))))))))))))) | exact List.Mem.tail _ (List.Mem.tail _ (List.Mem.tail _ (List.Mem.tail _ (List.Mem.tail _ (List.Mem.tail _ (List.Mem.tail _ (List.Mem.tail _ (List.Mem.tail _ (List.Mem.tail _ (List.Mem.tail _ (List.Mem.tail _ (List.Mem.tail _ (List.Mem.tail _ (List.Mem.tail _ (List.Mem.tail _ (List.Mem.tail _ (List.Mem.tail _ (List.Mem.tail _ (List.Mem.tail _ (List.Mem.tail _ (List.Mem.head _))))))))))))))))))))) | exact List.Mem.tail _ (List.Mem.tail _ (List.Mem.tail _ (List.Mem.tail _ (List.Mem.tail _ (List.Mem.tail _ (List.Mem.tail _ (List.Mem.tail _ (List.Mem.tail _ (List.Mem.tail _ (List.Mem.tail _ (List.Mem.tail _ (List.Mem.tail _ (List.Mem.tail _ (List.Mem.tail _ (List.Mem.tail _ (List.Mem.tail _ (List.Mem.tail _ (List.Mem.tail _ (List.Mem.tail _ (List.Mem.tail _ (List.Mem.tail _ (List.Mem.head _)))))))))))))))))))))) | exact List.Mem.tail _ (List.Mem.tail _ (List.Mem.tail _ (List.Mem.tail _ (List.Mem.tail _ (List.Mem.tail _ (List.Mem.tail _ (List.Mem.tail _ (List.Mem.tail _ (List.Mem.tail _ (List.Mem.tail _ (List.Mem.tail _ (List.Mem.tail _ (List.Mem.tail _ (List.Mem.tail _ (List.Mem.tail _ (List.Mem.tail _ (List.Mem.tail _ (List.Mem.tail _ (List.Mem.tail _ (List.Mem.tail _ (List.Mem.tail _ (List.Mem.tail _ (List.Mem.head _))))))))))))))))))))))))
local macro_rules | `(tactic| walk_at "u") => `(tactic| first | exact Upd.here | exact Upd.there (Upd.here) | exact Upd.there (Upd.there (Upd.here)) | exact Upd.there (Upd.there (Upd.there (Upd.here))) | exact Upd.there (Upd.there (Upd.there (Upd.there (Upd.here)))) | exact Upd.there (Upd.there (Upd.there (Upd.there (Upd.there (Upd.here))))) | exact Upd.there (Upd.there (Upd.there (Upd.there (Upd.there (Upd.there (Upd.here)))))) | exact Upd.there (Upd.there (Upd.there (Upd.there (Upd.there (Upd.there (Upd.there (Upd.here))))))) | exact Upd.there (Upd.there (Upd.there (Upd.there (Upd.there (Upd.there (Upd.there (Upd.there (Upd.here)))))))) | exact Upd.there (Upd.there (Upd.there (Upd.there (Upd.there (Upd.there (Upd.there (Upd.there (Upd.there (Upd.here))))))))) | exact Upd.there (Upd.there (Upd.there (Upd.there (Upd.there (Upd.there (Upd.there (Upd.there (Upd.there (Upd.there (Upd.here)))))))))) | exact Upd.there (Upd.there (Upd.there (Upd.there (Upd.there (Upd.there (Upd.there (Upd.there (Upd.there (Upd.there (Upd.there (Upd.here))))))))))) | exact Upd.there (Upd.there (Upd.there (Upd.there (Upd.there (Upd.there (Upd.there (Upd.there (Upd.there (Upd.there (Upd.there (Upd.there (Upd.here)))))))))))) | exact Upd.there (Upd.there (Upd.there (Upd.there (Upd.there (Upd.there (Upd.there (Upd.there (Upd.there (Upd.there (Upd.there (Upd.there (Upd.there (Upd.here))))))))))))) | exact Upd.there (Upd.there (Upd.there (Upd.there (Upd.there (Upd.there (Upd.there (Upd.there (Upd.there (Upd.there (Upd.there (Upd.there (Upd.there (Upd.there (Upd.here)))))))))))))) | exact Upd.there (Upd.there (Upd.there (Upd.there (Upd.there (Upd.there (Upd.there (Upd.there (Upd.there (Upd.there (Upd.there (Upd.there (Upd.there (Upd.there (Upd.there (Upd.here))))))))))))))) | exact Upd.there (Upd.there (Upd.there (Upd.there (Upd.there (Upd.there (Upd.there (Upd.there (Upd.there (Upd.there (Upd.there (Upd.there (Upd.there (Upd.there (Upd.there (Upd.there (Upd.here)))))))))))))))) | exact Upd.there (Upd.there (Upd.there (Upd.there (Upd.there (Upd.there (Upd.there (Upd.there (Upd.there (Upd.there (Upd.there (Upd.there (Upd.there (Upd.there (Upd.there (Upd.there (Upd.there (Upd.here))))))))))))))))) | exact Upd.there (Upd.there (Upd.there (Upd.there (Upd.there (Upd.there (Upd.there (Upd.there (Upd.there (Upd.there (Upd.there (Upd.there (Upd.there (Upd.there (Upd.there (Upd.there (Upd.there (Upd.there (Upd.here)))))))))))))))))) | exact Upd.there (Upd.there (Upd.there (Upd.there (Upd.there (Upd.there (Upd.there (Upd.there (Upd.there (Upd.there (Upd.there (Upd.there (Upd.there (Upd.there (Upd.there (Upd.there (Upd.there (Upd.there (Upd.there (Upd.here))))))))))))))))))) | exact Upd.there (Upd.there (Upd.there (Upd.there (Upd.there (Upd.there (Upd.there (Upd.there (Upd.there (Upd.there (Upd.there (Upd.there (Upd.there (Upd.there (Upd.there (Upd.there (Upd.there (Upd.there (Upd.there (Upd.there (Upd.here)))))))))))))))))))) | exact Upd.there (Upd.there (Upd.there (Upd.there (Upd.there (Upd.there (Upd.there (Upd.there (Upd.there (Upd.there (Upd.there (Upd.there (Upd.there (Upd.there (Upd.there (Upd.there (Upd.there (Upd.there (Upd.there (Upd.there (Upd.there (Upd.here))))))))))))))))))))) | exact Upd.there (Upd.there (Upd.there (Upd.there (Upd.there (Upd.there (Upd.there (Upd.there (Upd.there (Upd.there (Upd.there (Upd.there (Upd.there (Upd.there (Upd.there (Upd.there (Upd.there (Upd.there (Upd.there (Upd.there (Upd.there (Upd.there (Upd.here)))))))))))))))))))))) | exact Upd.there (Upd.there (Upd.there (Upd.there (Upd.there (Upd.there (Upd.there (Upd.there (Upd.there (Upd.there (Upd.there (Upd.there (Upd.there (Upd.there (Upd.there (Upd.there (Upd.there (Upd.there (Upd.there (Upd.there (Upd.there (Upd.there (Upd.there (Upd.here))))))))))))))))))))))))
local macro_rules | `(tactic| walk_at "ul") => `(tactic| first | exact UpdL.here | exact UpdL.there (UpdL.here) | exact UpdL.there (UpdL.there (UpdL.here)) | exact UpdL.there (UpdL.there (UpdL.there (UpdL.here))) | exact UpdL.there (UpdL.there (UpdL.there (UpdL.there (UpdL.here)))) | exact UpdL.there (UpdL.there (UpdL.there (UpdL.there (UpdL.there (UpdL.here))))) | exact UpdL.there (UpdL.there (UpdL.there (UpdL.there (UpdL.there (UpdL.there (UpdL.here)))))) | exact UpdL.there (UpdL.there (UpdL.there (UpdL.there (UpdL.there (UpdL.there (UpdL.there (UpdL.here))))))) | exact UpdL.there (UpdL.there (UpdL.there (UpdL.there (UpdL.there (UpdL.there (UpdL.there (UpdL.there (UpdL.here)))))))) | exact UpdL.there (UpdL.there (UpdL.there (UpdL.there (UpdL.there (UpdL.there (UpdL.there (UpdL.there (UpdL.there (UpdL.here))))))))) | exact UpdL.there (UpdL.there (UpdL.there (UpdL.there (UpdL.there (UpdL.there (UpdL.there (UpdL.there (UpdL.there (UpdL.there (UpdL.here)))))))))) | exact UpdL.there (UpdL.there (UpdL.there (UpdL.there (UpdL.there (UpdL.there (UpdL.there (UpdL.there (UpdL.there (UpdL.there (UpdL.there (UpdL.here))))))))))) | exact UpdL.there (UpdL.there (UpdL.there (UpdL.there (UpdL.there (UpdL.there (UpdL.there (UpdL.there (UpdL.there (UpdL.there (UpdL.there (UpdL.there (UpdL.here)))))))))))) | exact UpdL.there (UpdL.there (UpdL.there (UpdL.there (UpdL.there (UpdL.there (UpdL.there (UpdL.there (UpdL.there (UpdL.there (UpdL.there (UpdL.there (UpdL.there (UpdL.here))))))))))))))
local macro_rules | `(tactic| walk_at "d") => `(tactic| first | exact Del.here | exact Del.there (Del.here) | exact Del.there (Del.there (Del.here)) | exact Del.there (Del.there (Del.there (Del.here))) | exact Del.there (Del.there (Del.there (Del.there (Del.here)))) | exact Del.there (Del.there (Del.there (Del.there (Del.there (Del.here))))) | exact Del.there (Del.there (Del.there (Del.there (Del.there (Del.there (Del.here)))))) | exact Del.there (Del.there (Del.there (Del.there (Del.there (Del.there (Del.there (Del.here))))))) | exact Del.there (Del.there (Del.there (Del.there (Del.there (Del.there (Del.there (Del.there (Del.here)))))))) | exact Del.there (Del.there (Del.there (Del.there (Del.there (Del.there (Del.there (Del.there (Del.there (Del.here))))))))) | exact Del.there (Del.there (Del.there (Del.there (Del.there (Del.there (Del.there (Del.there (Del.there (Del.there (Del.here)))))))))) | exact Del.there (Del.there (Del.there (Del.there (Del.there (Del.there (Del.there (Del.there (Del.there (Del.there (Del.there (Del.here))))))))))) | exact Del.there (Del.there (Del.there (Del.there (Del.there (Del.there (Del.there (Del.there (Del.there (Del.there (Del.there (Del.there (Del.here)))))))))))) | exact Del.there (Del.there (Del.there (Del.there (Del.there (Del.there (Del.there (Del.there (Del.there (Del.there (Del.there (Del.there (Del.there (Del.here))))))))))))) | exact Del.there (Del.there (Del.there (Del.there (Del.there (Del.there (Del.there (Del.there (Del.there (Del.there (Del.there (Del.there (Del.there (Del.there (Del.here)))))))))))))) | exact Del.there (Del.there (Del.there (Del.there (Del.there (Del.there (Del.there (Del.there (Del.there (Del.there (Del.there (Del.there (Del.there (Del.there (Del.there (Del.here))))))))))))))) | exact Del.there (Del.there (Del.there (Del.there (Del.there (Del.there (Del.there (Del.there (Del.there (Del.there (Del.there (Del.there (Del.there (Del.there (Del.there (Del.there (Del.here)))))))))))))))) | exact Del.there (Del.there (Del.there (Del.there (Del.there (Del.there (Del.there (Del.there (Del.there (Del.there (Del.there (Del.there (Del.there (Del.there (Del.there (Del.there (Del.there (Del.here))))))))))))))))) | exact Del.there (Del.there (Del.there (Del.there (Del.there (Del.there (Del.there (Del.there (Del.there (Del.there (Del.there (Del.there (Del.there (Del.there (Del.there (Del.there (Del.there (Del.there (Del.here)))))))))))))))))) | exact Del.there (Del.there (Del.there (Del.there (Del.there (Del.there (Del.there (Del.there (Del.there (Del.there (Del.there (Del.there (Del.there (Del.there (Del.there (Del.there (Del.there (Del.there (Del.there (Del.here))))))))))))))))))) | exact Del.there (Del.there (Del.there (Del.there (Del.there (Del.there (Del.there (Del.there (Del.there (Del.there (Del.there (Del.there (Del.there (Del.there (Del.there (Del.there (Del.there (Del.there (Del.there (Del.there (Del.here)))))))))))))))))))) | exact Del.there (Del.there (Del.there (Del.there (Del.there (Del.there (Del.there (Del.there (Del.there (Del.there (Del.there (Del.there (Del.there (Del.there (Del.there (Del.there (Del.there (Del.there (Del.there (Del.there (Del.there (Del.here))))))))))))))))))))) | exact Del.there (Del.there (Del.there (Del.there (Del.there (Del.there (Del.there (Del.there (Del.there (Del.there (Del.there (Del.there (Del.there (Del.there (Del.there (Del.there (Del.there (Del.there (Del.there (Del.there (Del.there (Del.there (Del.here)))))))))))))))))))))) | exact Del.there (Del.there (Del.there (Del.there (Del.there (Del.there (Del.there (Del.there (Del.there (Del.there (Del.there (Del.there (Del.there (Del.there (Del.there (Del.there (Del.there (Del.there (Del.there (Del.there (Del.there (Del.there (Del.there (Del.here))))))))))))))))))))))))
local macro_rules | `(tactic| walk_at "s") => `(tactic| repeat (first | exact List.Sublist.refl _ | exact List.nil_sublist _ | refine List.Sublist.cons_cons _ ?_ | refine List.Sublist.cons _ ?_))
local macro_rules | `(tactic| walk_at "h") => `(tactic| repeat (first | assumption | exact List.Mem.head _ | refine List.Mem.tail _ ?_))
section
variable {C : Cx} {A : Around} {S : St} {E : Value → Shared → Prop} {env : Env}
theorem W.withFnKw {F : Addr} {fd : FuncData} {pos kp : Pos} {e kv : Expr} {rest : List Expr} {x : Str} {Q : Value → St → Prop} (hF : FnIs C F fd)
    (h : W C A S (spliced (backTo pos (starEach (e :: rest) env))) (fun vs S₁ => W C A S₁ (eval kv env) (fun k S₂ => W C A S₂ (call (.ref F) vs [(x, k)]) Q E) E) E)
    (he : starEach (e :: rest) env = (false, eval e env) :: starEach rest env := by rfl) :
    W C A S (callWith pos (.ref F) [] (backTo pos (starEach (e :: rest) env)) (backToKw pos (keywordEach [⟨some x, kv, kp⟩] env))) Q E := .intro fun s G => by
  obtain ⟨⟨o, ho, hd⟩, _, _⟩ := hF
  refine callWith_function_kw (o := o) (fd := fd) (PyProof.Rows.evalArgs_kw2 (by rfl) (wpAny_mono (h.1 s G) (fun vs s₁ ⟨S₁, G₁, q₁⟩ => ?_) fun _ _ x => x) he)
  show wpAny _ _ (evalAll [eval kv env >>= fun v => standAt pos >>= fun _ => pure v]) _ _ _
  exact wpAny_evalAll_cons (wpAny_bind (wpAny_mono (q₁.1 s₁ G₁) (fun k s₂ ⟨S₂, G₂, q₂⟩ => wpAny_bind (wpAny_standAt (wpAny_pure (wpAny_evalAll_nil ⟨⟨G₂.keep _ _ ho, hd⟩, q₂.1 s₂ G₂⟩)))) fun _ _ x => x))
theorem fOpt (B : Base C) : FnIs C 187 xOpt.1 := B.fn xOpt fun P => ⟨_, _, _, _, rfl, rfl, rfl, rfl⟩
theorem gOpt (B : Base C) : GlobalIs C (Str.ofString "regex_opt") (.ref 187) := B.glob (by intro P; kernel_rfl)
theorem gSet (B : Base C) : GlobalIs C (Str.ofString "set") (.type "set") := B.bi (by intro P; kernel_rfl) (by kernel_rfl) (by decide)
/-- the pattern of the words -/
def pat (ls : List (List Nat)) (b : List Nat) : List Nat := 40 :: shw (rxT 40 (srt (dd ls))) ++ [41] ++ b
/-- regex_opt -/
theorem W.regexOpt {l : Addr} {vs : List Value} {ls : List (List Nat)} {z : Nat} {b : List Nat} {tb : Tok} {Q : Value → St → Prop} (B : Base2 C) (R : Room A 520) (hm : (l, .list vs) ∈ S) (hi : SL vs ls)
    (Wd : Words (srt (dd ls)) z) (hmu : mu (srt (dd ls)) ≤ 40) (hlen : ls.length ≤ 50) (hb : b.length ≤ 10) (h : ∀ t, Q (.str (mk (pat ls b)) t) S) :
    W C A S (call (.ref 187) [.ref l] [(Str.ofString "suffix", .str (mk b) tb)]) Q NoE := by
  refine .callDef (n := 519) (binds := [(Str.ofString "strings", .ref l), (Str.ofString "prefix", .str (mk []) 660), (Str.ofString "suffix", .str (mk b) tb)]) [Str.ofString "strings", Str.ofString "prefix", Str.ofString "suffix"] [] (fOpt B.toBase) R rfl (fun s G => ?_) (by decide) (by decide) (by decide) ?_
  · exact .of_defaults (T := 180) (o := { cls := .type "tuple", data := .seq #[.str (Str.ofString "") 660, .str (Str.ofString "") 661] }) (items := #[.str (Str.ofString "") 660, .str (Str.ofString "") 661]) (n := 0) rfl (G.keep _ _ (B.frag 180 _ (by kernel_rfl))) rfl rfl rfl
  intro L R1
  have hl := hi.len
  refine .sCons (.sAssign (.callName (.glob (gSorted B.toBase) (.withB (.itemsCons (.callName (.glob (gSet B.toBase) (.withT (.itemsCons (.name (.head _) (by walk_at "m") (.itemsNil (.setOf R1.handled (by walk_at "h") hi (by omega) fun a o hS => .itemsNil ?_)))))))))))) 
  have hdl := dd_len ls
  refine .sortedSet R1.handled (.head _) hS (by omega) (dd_nodup ls) fun lst vs' ls' h1 h2 h3 => .stl (by walk_at "u") (by walk_at "ul") ?_
  have := srt_eq (dd_nodup ls) h2 h3
  subst this
  have hsz := shw_len 40 _ z Wd hmu
  refine .sCons (.sRet (.binop (.binop (.name (by walk_at "m") (by walk_at "m") (.callName (.glob (gInner B.toBase) (.withFn (fInner B.toBase) (.itemsCons (.name (by walk_at "m") (by walk_at "m") (.itemsCons (.cStr fun t1 => .itemsNil (inner_ok 40 (o := [40]) B (R1.mono (by omega)) Wd hmu (by omega) (by walk_at "h") h1 (.inr (.inr rfl)) fun t2 => ?_))))))))))))
  refine .addM (x := []) (fun t3 => .name (by walk_at "m") (by walk_at "m") (.addM (fun t4 => ⟨S, by walk_at "s", ?_⟩) ?_)) ?_
  · show Q (.str _ _) S
    have := h t4
    simpa [pat, clsP] using this
  · simp [clsP]; omega
  · simp [clsP]; omega
end
end Mine
-- part B25
namespace Mine
open PySem PySem.Calls PySem.W PyProof.Rows PySem.Spec
theorem seq_list_iadd : seqSlot? (.type "list") (dunderI "add") = pure (some (.builtin "list.__iadd__")) := PySem.seqSlot_of F.slot_list_iadd.lookup (by decide +kernel)
theorem fi_list_add : fillsInplaceSlot (.type "list") "add" (Operator.Add == .Add) = pure false := by
  unfold fillsInplaceSlot
  show (typeLookup (.type "list") (dunderI "add") >>= fun fi => pure (fi.isSome && !isSeqSlot fi)) = pure false
  rw [F.slot_list_iadd.lookup, pure_bind]
  have : isSeqSlot (some (.builtin "list.__iadd__")) = true := by decide +kernel
  rw [this]; rfl
section
variable {C : Cx} {A : Around} {S : St} {E : Value → Shared → Prop} {env : Env}
/-- a list is made longer by another -/
theorem W.iaddL {a b : Addr} {xs ys : List Value} {S' : St} {Q : Value → St → Prop} (hu : Upd a (.list xs) (.list (xs ++ ys)) S S') (hb : (b, .list ys) ∈ S) (h : Q (.ref a) S') (hsz : xs.length + ys.length ≤ 1000) :
    W C A S (inplaceOp .Add (.ref a) (.ref b)) Q E := .intro fun s G => by
  obtain ⟨n, e⟩ := (G.sat _ hu.mem).2.2
  obtain ⟨m, f⟩ := (G.sat _ hb).2.2
  unfold inplaceOp
  refine wpAny_holding ?_
  refine wpAny_bind (wpAny_typeOf ⟨_, e, rfl⟩ (wpAny_bind (wpAny_of_eq fi_list_add ?_)))
  show wpAny _ A (if false = true then _ else _) _ E s
  rw [if_neg Bool.false_ne_true]
  refine wpAny_bind (wpAny_binaryOp1_none (nm := "add") ⟨_, e, rfl⟩ ⟨_, f, rfl⟩ noFill_list_add ?_)
  refine wpAny_bind (wpAny_of_eq seq_list_iadd ?_)
  refine wpAny_bind (wpAny_rule ?_)
  refine call_meets F.slot_list_iadd ⟨_, e, rfl⟩ F.entry_list_iadd (F.args_list_iadd_2 _ _) (AutoSeq1.list___iadd___list_list_0 a xs.toArray n b ys.toArray m (by simp [Builtin.List.listTooLong, sizeLine_eq]; omega) (by rw [sizeLine_eq]; simp; omega) (by rw [sizeLine_eq]; simp; omega)) ⟨e, f, S', ?_, h⟩
  have e2 := IsL.update e (fun x => x ++ ys.toArray)
  refine G.change (s' := { s with heap := s.heap.update a (Obj.mapSeq fun x => x ++ ys.toArray) }) hu (Heap.SameBut.update ..) ⟨_, by rw [show (xs ++ ys).toArray = xs.toArray ++ ys.toArray from by simp]; exact e2⟩ trivial (fun x => absurd x ((G.sat _ hu.mem).2.2.notDict trivial)) rfl G.gens
theorem W.popL {a : Addr} {xs : List Value} {y : Value} {S' : St} {Q : Value → St → Prop} (hu : Upd a (.list (xs ++ [y])) (.list xs) S S') (h : Q y S') (hsz : xs.length ≤ 900) :
    W C A S (call (.builtin "list.pop") [.ref a]) Q E := .intro fun s G => by
  obtain ⟨n, e⟩ := (G.sat _ hu.mem).2.2
  refine call_meets F.slot_list_pop ⟨_, e, rfl⟩ F.entry_list_pop (F.args_list_pop_1 _) (MeetsSeq.list_pop_last a (xs ++ [y]).toArray n y (by simp) (by rw [sizeLine_eq]; simp; omega)) ⟨e, S', ?_, h⟩
  have e2 := IsL.update e (fun x => x.eraseIdxIfInBounds ((xs ++ [y]).toArray.size - 1))
  have e3 : (xs ++ [y]).toArray.eraseIdxIfInBounds ((xs ++ [y]).toArray.size - 1) = xs.toArray := by
    apply Array.toList_inj.mp
    simp [Array.eraseIdxIfInBounds]
    rw [List.eraseIdx_append_of_length_le (Nat.le_refl _)]
    simp
  refine G.change (s' := { s with heap := s.heap.update a (Obj.mapSeq fun x => x.eraseIdxIfInBounds ((xs ++ [y]).toArray.size - 1)) }) hu (Heap.SameBut.update ..) ⟨_, by rw [← e3]; exact e2⟩ trivial (fun x => absurd x ((G.sat _ hu.mem).2.2.notDict trivial)) rfl G.gens
theorem W.setItemL {a : Addr} {xs : List Value} {k : Int} {t : Tok} {v : Value} {S' : St} {Q : Unit → St → Prop} (hu : Upd a (.list xs) (.list (xs.set k.toNat v)) S S') (h0 : 0 ≤ k) (hk : k < xs.length) (hk2 : k < 1000) (h : Q () S') :
    W C A S (setItem (.ref a) (.int k t) v) Q E := .intro fun s G => by
  obtain ⟨n, e⟩ := (G.sat _ hu.mem).2.2
  have hl := G.list hu.mem
  unfold setItem
  first | with_reducible refine wpAny_holding ?_ | skip
  first | refine wpAny_bind (wpAny_pure ?_) | skip
  refine wpAny_bind (wpAny_sequenceKey hl.typeIs (by decide) ?_)
  refine wpAny_bind (wpAny_callSpecial?_slot (name := Str.ofString "__setitem__") hl.typeIs PySem.slot_list_setitem (wpAny_call_entry PySem.slot_list_setitem hl.typeIs PySem.entry_list_setitem ?_ (PySem.args_list_setitem _ _ _)))
  unfold Builtin.«list.__setitem__»
  have e0 : Builtin.List.listBlankSlotArgs "__setitem__" 2 ⟨[.ref a, .int k t, v], []⟩ = pure (.ref a, [.int k t, v]) := rfl
  rw [e0, pure_bind]
  dsimp only
  refine wpAny_bind (PySem.wpAny_listSubscript_int (fitsIndex_of h0 (by omega)) ?_)
  obtain ⟨k, rfl⟩ := Int.eq_ofNat_of_zero_le h0
  have hx : xs.toArray[k]? = some (xs[k]'(by omega)) := by simp
  rw [Int.toNat_natCast] at hu
  show wpAny _ _ ((seqItemAt a k >>= fun r => pure (r.map (k, ·))) >>= _) _ _ s
  refine wpAny_bind (wpAny_bind (wpAny_seqItemAt e rfl (wpAny_pure ?_)))
  rw [hx]
  show wpAny _ _ (setSeqItemAt a k v >>= _) _ _ s
  have e2 := IsL.update e (fun x => x.setIfInBounds k v)
  refine wpAny_bind (wpAny_setSeqItemAt e rfl (wpAny_pure ⟨.none, rfl, wpAny_pure ⟨S', ?_, h⟩⟩))
  refine G.change (s' := { s with heap := s.heap.update a (Obj.mapSeq fun x => x.setIfInBounds k v) }) hu (Heap.SameBut.update ..) ⟨_, by rw [show (xs.set k v).toArray = xs.toArray.setIfInBounds k v from by simp]; exact e2⟩ trivial (fun x => absurd x ((G.sat _ hu.mem).2.2.notDict trivial)) rfl G.gens
theorem W.sSetSub {o i value : Expr} {pos' pos : Pos} {Q : Flow → St → Prop} (h : W C A S (eval value env) (fun v S₁ => W C A S₁ (eval o env) (fun ov S₂ => W C A S₂ (eval i env) (fun iv S₃ => W C A S₃ (setItem ov iv v) (fun _ => Q .next) E) E) E) E)
    (hs : swapsWith value (some (.Subscript o i pos')) pos.line env = Pure.pure false := by rfl) : W C A S (exec (.Assign [.Subscript o i pos'] value pos) env) Q E := .intro fun s G =>
  wpAny_Assign_Subscript (wpAny_mono (h.1 s G) (fun _ s' ⟨_, G', q⟩ => wpAny_mono (q.1 s' G') (fun _ s' ⟨_, G', q⟩ => wpAny_mono (q.1 s' G') (fun _ s' ⟨_, G', q⟩ => q.1 s' G') fun _ _ x => x) fun _ _ x => x) fun _ _ x => x) hs
theorem W.perm {α : Type} {S' : St} {t : Sem α} {Q : α → St → Prop} (h : W C A S' t Q E) (p : S.Perm S') : W C A S t Q E := .intro fun s G => h.1 s (G.perm p)
theorem W.inM {x : List Nat} {c : Nat} {t u : Tok} {Q : Value → St → Prop} (h : Q (.bool (decide (c ∈ x))) S) : W C A S (compareOp .In (.str (mk [c]) t) (.str (mk x) u)) Q E := .intro fun s G => by
  refine PySem.P.in_str ⟨S, G, ?_⟩
  have := StrLaws.found_one (mk x) c
  rw [show (mk [c]) = (⟨#[c]⟩ : Str) from rfl, this]
  exact h
end
end Mine
-- part P5
namespace Mine
/-- for a rest of the text: how much can be taken, in order -/
abbrev Wy := List Nat → List Nat
def idS : Wy := fun _ => [0]
def noS : Wy := fun _ => []
def letS (cs : List Nat) : Wy := fun t => match t with
  | [] => []
  | c :: _ => if c ∈ cs then [1] else []
def seqS (f g : Wy) : Wy := fun t => (f t).flatMap fun k => (g (t.drop k)).map (k + ·)
def altS (f g : Wy) : Wy := fun t => f t ++ g t
def optS (b : Bool) (g : Wy) : Wy := fun t => g t ++ (if b then [0] else [])
def wordS (w : List Nat) (g : Wy) : Wy := w.foldl (fun g c => seqS g (letS [c])) g
theorem optS_false (g : Wy) : optS false g = g := by funext t; simp [optS]
theorem altS_noS (g : Wy) : altS noS g = g := by funext t; simp [altS, noS]
theorem altS_assoc (a b c : Wy) : altS (altS a b) c = altS a (altS b c) := by funext t; simp [altS]
theorem seqS_id (g : Wy) : seqS idS g = g := by funext t; simp [seqS, idS]
def den : Rx → Wy
  | .word w => wordS w idS
  | .opt r => optS true (den r)
  | .alt a b => altS (den a) (den b)
  | .set cs => letS cs
  | .pre p r => seqS (wordS p idS) (den r)
  | .suf r s => wordS s (den r)
def cl : Rx → Nat
  | .word _ => 0
  | .opt r => cl r + 1
  | .alt a b => cl a + cl b
  | .set _ => 0
  | .pre _ r => cl r + 1
  | .suf r _ => cl r + 1
/-- never more than b ways -/
def Bd (b : Nat) (f : Wy) : Prop := ∀ t, (f t).length ≤ b
theorem Bd.mono {a b f} (h : Bd a f) (hab : a ≤ b) : Bd b f := fun t => Nat.le_trans (h t) hab
theorem Bd.idS : Bd 1 idS := fun t => by simp [Mine.idS]
theorem Bd.noS : Bd 0 noS := fun t => by simp [Mine.noS]
theorem Bd.letS (cs) : Bd 1 (letS cs) := fun t => by
  unfold Mine.letS
  split
  · simp
  · split <;> simp
theorem Bd.opt {a f} (b : Bool) (h : Bd a f) : Bd (a + 1) (optS b f) := fun t => by
  have := h t
  unfold optS
  split <;> simp <;> omega
theorem Bd.alt {a b f g} (h : Bd a f) (k : Bd b g) : Bd (a + b) (altS f g) := fun t => by
  have := h t
  have := k t
  simp [altS]; omega
theorem Bd.seq {a b f g} (h : Bd a f) (k : Bd b g) : Bd (a * b) (seqS f g) := fun t => by
  unfold seqS
  have : ∀ l : List Nat, (l.flatMap fun k => (g (t.drop k)).map (k + ·)).length ≤ l.length * b := by
    intro l
    induction l with
    | nil => simp
    | cons x r ih =>
      have := k (t.drop x)
      rw [List.flatMap_cons, List.length_append, List.length_map, List.length_cons, Nat.add_mul]
      omega
  exact Nat.le_trans (this _) (Nat.mul_le_mul_right b (h t))
theorem Bd.word {a} : ∀ (w : List Nat) {g}, Bd a g → Bd a (wordS w g)
  | [], g, h => h
  | c :: w, g, h => Bd.word w (g := seqS g (Mine.letS [c])) (by simpa using h.seq (Bd.letS [c]))
/-- a bound of the ways -/
def nb : Rx → Nat
  | .word _ => 1
  | .opt r => nb r + 1
  | .alt a b => nb a + nb b
  | .set _ => 1
  | .pre _ r => nb r
  | .suf r _ => nb r
theorem bd_den : ∀ r, Bd (nb r) (den r)
  | .word w => Bd.word w Bd.idS
  | .opt r => (bd_den r).opt true
  | .alt a b => (bd_den a).alt (bd_den b)
  | .set cs => Bd.letS cs
  | .pre q r => by
    have := (Bd.word q Bd.idS).seq (bd_den r)
    rwa [Nat.one_mul] at this
  | .suf r q => Bd.word q (bd_den r)
/-- the pattern p, read from where the groups fs stand open: what the whole can take -/
inductive Runs : Nat → List Nat → List (Wy × Wy) → Nat → Wy → Prop where
  | done (F g : Wy) (j : Nat) : Bd 40 (altS F g) → Runs j [] [(F, g)] j (altS F g)
  | openQ {j p fs J G} : Runs j p ((noS, idS) :: fs) J G → Runs j (40 :: 63 :: 58 :: p) fs J G
  | openP {j p fs J G} : p.take 2 ≠ [63, 58] → Runs j p ((noS, idS) :: fs) J G → Runs j (40 :: p) fs J G
  | bar {j p fs J G F g} : Bd 40 (altS F g) → Runs j p ((altS F g, idS) :: fs) J G → Runs j (124 :: p) ((F, g) :: fs) J G
  | close {j p fs J G F g F' g'} : p.head? ≠ some 63 → Bd 40 (altS F g) → Bd 40 (seqS g' (optS false (altS F g))) → Runs (j + 1) p ((F', seqS g' (optS false (altS F g))) :: fs) J G → Runs j (41 :: p) ((F, g) :: (F', g') :: fs) J G
  | closeQ {j p fs J G F g F' g'} : Bd 40 (altS F g) → Bd 40 (seqS g' (optS true (altS F g))) → Runs (j + 1) p ((F', seqS g' (optS true (altS F g))) :: fs) J G → Runs j (41 :: 63 :: p) ((F, g) :: (F', g') :: fs) J G
  | set {j p fs J G F g} (cs : List Nat) : Bd 40 (seqS g (optS false (letS cs))) → Runs j p ((F, seqS g (optS false (letS cs))) :: fs) J G → Runs j (91 :: (cs.flatMap esc2 ++ 93 :: p)) ((F, g) :: fs) J G
  | lit {j p fs J G F g} (c : Nat) : c ∉ [40, 124, 41, 63, 91, 92] → Bd 40 (seqS g (optS false (letS [c]))) → Runs j p ((F, seqS g (optS false (letS [c]))) :: fs) J G → Runs j (c :: p) ((F, g) :: fs) J G
  | esc {j p fs J G F g} (c : Nat) : Bd 40 (seqS g (optS false (letS [c]))) → Runs j p ((F, seqS g (optS false (letS [c]))) :: fs) J G → Runs j (92 :: c :: p) ((F, g) :: fs) J G
theorem runs_lit {j p fs J G F g c} (hb : Bd 40 g) (h : Runs j p ((F, seqS g (letS [c])) :: fs) J G) : Runs j (esc1 c ++ p) ((F, g) :: fs) J G := by
  have hb2 : Bd 40 (seqS g (letS [c])) := by simpa using hb.seq (Bd.letS [c])
  rw [← optS_false (letS [c])] at h hb2
  unfold esc1
  split
  · exact .esc c hb2 h
  · rename_i hc
    refine .lit c (fun hm => hc ?_) hb2 h
    revert hm
    simp only [List.mem_cons, List.not_mem_nil, or_false]
    rintro (rfl | rfl | rfl | rfl | rfl | rfl) <;> decide
theorem runs_word {j p fs J G F} : ∀ (w : List Nat) (g : Wy), Bd 40 g → Runs j p ((F, wordS w g) :: fs) J G → Runs j (escM w ++ p) ((F, g) :: fs) J G
  | [], g, _, h => h
  | c :: w, g, hb, h => by
    have ih := runs_word (p := p) w (seqS g (letS [c])) (by simpa using hb.seq (Bd.letS [c])) h
    have : escM (c :: w) ++ p = esc1 c ++ (escM w ++ p) := by simp [escM]
    rw [this]
    exact runs_lit hb ih
/-- no pattern begins with a question mark -/
theorem head_ok : ∀ (r : Rx) (p : List Nat), p.head? ≠ some 63 → (shw r ++ p).head? ≠ some 63
  | .word [], p, h => h
  | .word (c :: w), p, _ => by
    simp only [shw, escM, List.flatMap_cons]
    unfold esc1
    split
    · simp
    · rename_i hc
      simp only [List.cons_append, List.nil_append, List.head?_cons, ne_eq, Option.some.injEq]
      rintro rfl
      exact hc (by decide)
  | .opt r, p, _ => by simp [shw, opn]
  | .alt a b, p, h => by
    have := head_ok a ([124] ++ shw b ++ p) (by simp)
    simpa [shw] using this
  | .set cs, p, _ => by simp [shw]
  | .pre [] r, p, _ => by simp [shw, opn, escM]
  | .pre (c :: w) r, p, _ => by
    simp only [shw, escM, List.flatMap_cons]
    unfold esc1
    split
    · simp
    · rename_i hc
      simp only [List.cons_append, List.nil_append, List.head?_cons, ne_eq, Option.some.injEq]
      rintro rfl
      exact hc (by decide)
  | .suf r s, p, _ => by simp [shw, opn]
theorem head_esc (w : List Nat) (p : List Nat) (h : p.head? ≠ some 63) : (escM w ++ p).head? ≠ some 63 := head_ok (.word w) p h
theorem Bd.one : Bd 40 Mine.idS := Bd.idS.mono (by decide)
theorem bd_opt {f : Wy} {a : Nat} (b : Bool) (h : Bd a f) (ha : a + 1 ≤ 40) : Bd 40 (optS b f) := (h.opt b).mono ha
theorem runs_shw : ∀ (r : Rx) (F : Wy) (a : Nat), Bd a F → a + nb r ≤ 40 → ∃ F' g', altS F' g' = altS F (den r) ∧ ∀ j p fs J G, p.head? ≠ some 63 → Runs (j + cl r) p ((F', g') :: fs) J G → Runs j (shw r ++ p) ((F, idS) :: fs) J G
  | .word w, F, a, hF, ha => ⟨F, wordS w idS, rfl, fun j p fs J G hp h => runs_word w _ Bd.one h⟩
  | .set cs, F, a, hF, ha => ⟨F, letS cs, rfl, fun j p fs J G hp h => by
    have : shw (.set cs) ++ p = 91 :: (cs.flatMap esc2 ++ 93 :: p) := by simp [shw]
    rw [this]
    have e : seqS idS (optS false (letS cs)) = letS cs := by rw [optS_false, seqS_id]
    refine .set cs ?_ ?_
    · rw [e]; exact (Bd.letS cs).mono (by decide)
    · rw [e]; exact h⟩
  | .alt x b, F, a, hF, ha => by
    simp only [nb] at ha
    obtain ⟨F1, g1, e1, h1⟩ := runs_shw x F a hF (by omega)
    have hF1 : Bd (a + nb x) (altS F1 g1) := by rw [e1]; exact hF.alt (bd_den x)
    obtain ⟨F2, g2, e2, h2⟩ := runs_shw b (altS F1 g1) _ hF1 (by omega)
    refine ⟨F2, g2, by rw [e2, e1, altS_assoc]; rfl, fun j p fs J G hp h => ?_⟩
    have : shw (.alt x b) ++ p = shw x ++ (124 :: (shw b ++ p)) := by simp [shw]
    rw [this]
    refine h1 j _ fs J G (by simp) (.bar (hF1.mono (by omega)) (h2 _ p fs J G hp ?_))
    rw [Nat.add_assoc]
    exact h
  | .opt r, F, a, hF, ha => by
    simp only [nb] at ha
    obtain ⟨F1, g1, e1, h1⟩ := runs_shw r noS 0 Bd.noS (by omega)
    refine ⟨F, optS true (den r), rfl, fun j p fs J G hp h => ?_⟩
    have : shw (.opt r) ++ p = 40 :: 63 :: 58 :: (shw r ++ (41 :: 63 :: p)) := by simp [shw, opn]
    rw [this]
    have e : altS F1 g1 = den r := by rw [e1, altS_noS]
    refine .openQ (h1 j _ _ J G (by simp) (.closeQ ?_ ?_ ?_))
    · rw [e]; exact (bd_den r).mono (by omega)
    · rw [e, seqS_id]; exact bd_opt true (bd_den r) (by omega)
    · rw [e, seqS_id]; exact h
  | .pre q r, F, a, hF, ha => by
    simp only [nb] at ha
    obtain ⟨F1, g1, e1, h1⟩ := runs_shw r noS 0 Bd.noS (by omega)
    refine ⟨F, seqS (wordS q idS) (den r), rfl, fun j p fs J G hp h => ?_⟩
    have : shw (.pre q r) ++ p = escM q ++ (40 :: 63 :: 58 :: (shw r ++ (41 :: p))) := by simp [shw, opn]
    rw [this]
    have e : altS F1 g1 = den r := by rw [e1, altS_noS]
    refine runs_word q _ Bd.one (.openQ (h1 j _ _ J G (by simp) (.close hp ?_ ?_ ?_)))
    · rw [e]; exact (bd_den r).mono (by omega)
    · rw [e, optS_false]
      exact ((Bd.word q Bd.idS).seq (bd_den r)).mono (by omega)
    · rw [e, optS_false]; exact h
  | .suf r q, F, a, hF, ha => by
    simp only [nb] at ha
    obtain ⟨F1, g1, e1, h1⟩ := runs_shw r noS 0 Bd.noS (by omega)
    refine ⟨F, wordS q (den r), rfl, fun j p fs J G hp h => ?_⟩
    have : shw (.suf r q) ++ p = 40 :: 63 :: 58 :: (shw r ++ (41 :: (escM q ++ p))) := by simp [shw, opn]
    rw [this]
    have e : altS F1 g1 = den r := by rw [e1, altS_noS]
    have hb : Bd 40 (den r) := (bd_den r).mono (by omega)
    refine .openQ (h1 j _ _ J G (by simp) (.close (head_esc q p hp) ?_ ?_ ?_))
    · rw [e]; exact hb
    · rw [e, optS_false, seqS_id]; exact hb
    · rw [e, optS_false, seqS_id]
      exact runs_word q _ hb h
/-- the whole pattern, a letter behind it -/
theorem runs_pat (r : Rx) (b : List Nat) (hb : b = [] ∨ b = [97] ∨ b = [98]) (hn : nb r ≤ 39) : Runs 0 (40 :: (shw r ++ 41 :: b)) [(noS, idS)] (cl r + 1) (wordS b (den r)) := by
  obtain ⟨F1, g1, e1, h1⟩ := runs_shw r noS 0 Bd.noS (by omega)
  have hh := head_ok r (41 :: b) (by simp)
  have hbd : Bd 40 (den r) := (bd_den r).mono (by omega)
  have e0 : altS F1 g1 = den r := by rw [e1, altS_noS]
  have e : wordS b (den r) = altS noS (wordS b (den r)) := (altS_noS _).symm
  have last : Runs (cl r + 1) b [(noS, den r)] (cl r + 1) (wordS b (den r)) := by
    have hw : Bd 40 (altS noS (wordS b (den r))) := by rw [← e]; exact Bd.word b hbd
    rcases hb with rfl | rfl | rfl
    · rw [e]; exact .done noS (wordS [] (den r)) _ hw
    · refine .lit 97 (by decide) (by rw [optS_false]; simpa using hbd.seq (Bd.letS [97])) ?_
      rw [optS_false, e]
      exact .done noS (wordS [97] (den r)) _ hw
    · refine .lit 98 (by decide) (by rw [optS_false]; simpa using hbd.seq (Bd.letS [98])) ?_
      rw [optS_false, e]
      exact .done noS (wordS [98] (den r)) _ hw
  refine .openP (fun h => hh ?_) (h1 0 _ _ _ _ (by simp) (.close (by rcases hb with rfl | rfl | rfl <;> simp) ?_ ?_ ?_))
  · match shw r ++ 41 :: b, h with
    | x :: y :: l, h => simp at h; simp [h.1]
  · rw [e0]; exact hbd
  · rw [e0, optS_false, seqS_id]; exact hbd
  · rw [e0, optS_false, seqS_id, Nat.zero_add]; exact last
theorem cl_le : ∀ (n : Nat) (ss : List (List Nat)) (z : Nat), Words ss z → mu ss ≤ n → cl (rxT n ss) + 1 ≤ mu ss
  | 0, ss, z, W, h => by have := mu_pos W.ne; omega
  | n + 1, [], z, W, h => absurd rfl W.ne
  | n + 1, [w], z, W, h => by simp [rxT, cl, mu]
  | n + 1, first :: x :: r, z, W, h => by
    rw [rxT]
    have hm := mu_cons first (x :: r)
    split
    · have := cl_le n (x :: r) z W.tail (by omega)
      simp only [cl]; omega
    split
    · rename_i h1 h2
      have hs := mu_split isOne (first :: x :: r)
      have ho := mu_ones ((first :: x :: r).filter isOne) fun w hw => (List.mem_filter.mp hw).2
      have := h2.2
      split
      · rename_i h3
        have := cl_le n _ z (W.filter _ h3) (by omega)
        simp only [cl]; omega
      · simp only [cl]; omega
    split
    · rename_i h1 h2 h3
      have hp := lcp_pre (first :: x :: r)
      have hmu := mu_drop W.ne hp
      have hl : 1 ≤ (lcp (first :: x :: r)).length := by cases e : lcp (first :: x :: r) <;> simp_all
      have := cl_le n _ z (W.drop hp) (by omega)
      simp only [cl]; omega
    split
    · rename_i h1 h2 h3 h4
      have hp : ∀ w ∈ first :: x :: r, lcp ((first :: x :: r).map List.reverse) <+: w.reverse := fun w hw => lcp_pre _ _ (List.mem_map.mpr ⟨w, hw, rfl⟩)
      have hmu := mu_strip W.ne hp
      have hl : 1 ≤ (lcp ((first :: x :: r).map List.reverse)).length := by cases e : lcp ((first :: x :: r).map List.reverse) <;> simp_all
      have := cl_le n _ z (W.strip hp) (by omega)
      simp only [cl]; omega
    · rename_i h1 h2 h3 h4
      have h3 : lcp (first :: x :: r) = [] := by simpa using h3
      have hs := mu_split (sameHead first) (first :: x :: r)
      have w1 := W.filter _ (heads_one (first := first) (r := x :: r))
      have w2 := W.filter _ (heads_two h1 h3)
      have p1 := mu_pos w1.ne
      have p2 := mu_pos w2.ne
      have i1 := cl_le n _ z w1 (by omega)
      have i2 := cl_le n _ z w2 (by omega)
      simp only [cl]; omega
theorem nb_le : ∀ (n : Nat) (ss : List (List Nat)) (z : Nat), Words ss z → mu ss ≤ n → nb (rxT n ss) ≤ mu ss
  | 0, ss, z, W, h => by have := mu_pos W.ne; omega
  | n + 1, [], z, W, h => absurd rfl W.ne
  | n + 1, [w], z, W, h => by simp [rxT, nb, mu]
  | n + 1, first :: x :: r, z, W, h => by
    rw [rxT]
    have hm := mu_cons first (x :: r)
    split
    · have := nb_le n (x :: r) z W.tail (by omega)
      simp only [nb]; omega
    split
    · rename_i h1 h2
      have hs := mu_split isOne (first :: x :: r)
      have ho := mu_ones ((first :: x :: r).filter isOne) fun w hw => (List.mem_filter.mp hw).2
      have := h2.2
      split
      · rename_i h3
        have := nb_le n _ z (W.filter _ h3) (by omega)
        simp only [nb]; omega
      · simp only [nb]; omega
    split
    · rename_i h1 h2 h3
      have hp := lcp_pre (first :: x :: r)
      have hmu := mu_drop W.ne hp
      have hl : 1 ≤ (lcp (first :: x :: r)).length := by cases e : lcp (first :: x :: r) <;> simp_all
      have := nb_le n _ z (W.drop hp) (by omega)
      simp only [nb]; omega
    split
    · rename_i h1 h2 h3 h4
      have hp : ∀ w ∈ first :: x :: r, lcp ((first :: x :: r).map List.reverse) <+: w.reverse := fun w hw => lcp_pre _ _ (List.mem_map.mpr ⟨w, hw, rfl⟩)
      have hmu := mu_strip W.ne hp
      have hl : 1 ≤ (lcp ((first :: x :: r).map List.reverse)).length := by cases e : lcp ((first :: x :: r).map List.reverse) <;> simp_all
      have := nb_le n _ z (W.strip hp) (by omega)
      simp only [nb]; omega
    · rename_i h1 h2 h3 h4
      have h3 : lcp (first :: x :: r) = [] := by simpa using h3
      have hs := mu_split (sameHead first) (first :: x :: r)
      have w1 := W.filter _ (heads_one (first := first) (r := x :: r))
      have w2 := W.filter _ (heads_two h1 h3)
      have p1 := mu_pos w1.ne
      have p2 := mu_pos w2.ne
      have i1 := nb_le n _ z w1 (by omega)
      have i2 := nb_le n _ z w2 (by omega)
      simp only [nb]; omega
end Mine
-- part C13
namespace Mine
open PySem PySem.Calls PySem.W PyProof.Rows
local macro_rules | `(tactic| walk_at "m") => `(tactic| first | exact List.Mem.head _ | exact List.Mem.tail _ (List.Mem.head _) | exact List.Mem.tail _ (List.Mem.tail _ (List.Mem.head _)) | exact List.Mem.tail _ (List.Mem.tail _ (List.Mem.tail _ (List.Mem.head _))) | exact List.Mem.tail _ (List.Mem.tail _ (List.Mem.tail _ (List.Mem.tail _ (List.Mem.head _)))) | exact List.Mem.tail _ (List.Mem.tail _ (List.Mem.tail _ (List.Mem.tail _ (List.Mem.tail _ (List.Mem.head _))))) | exact List.Mem.tail _ (List.Mem.tail _ (List.Mem.tail _ (List.Mem.tail _ (List.Mem.tail _ (List.Mem.tail _ (List.Mem.head _)))))) | exact List.Mem.tail _ (List.Mem.tail _ (List.Mem.tail _ (List.Mem.tail _ (List.Mem.tail _ (List.Mem.tail _ (List.Mem.tail _ (List.Mem.head _))))))) | exact List.Mem.tail _ (List.Mem.tail _ (List.Mem.tail _ (List.Mem.tail _ (List.Mem.tail _ (List.Mem.tail _ (List.Mem.tail _ (List.Mem.tail _ (List.Mem.head _)))))))) | exact List.Mem.tail _ (List.Mem.tail _ (List.Mem.tail _ (List.Mem.tail _ (List.Mem.tail _ (List.Mem.tail _ (List.Mem.tail _ (List.Mem.tail _ (List.Mem.tail _ (List.Mem.head _))))))))) | exact List.Mem.tail _ (List.Mem.tail _ (List.Mem.tail _ (List.Mem.tail _ (List.Mem.tail _ (List.Mem.tail _ (List.Mem.tail _ (List.Mem.tail _ (List.Mem.tail _ (List.Mem.tail _ (List.Mem.head _)))))))))) | exact List.Mem.tail _ (List.Mem.tail _ (List.Mem.tail _ (List.Mem.tail _ (List.Mem.tail _ (List.Mem.tail _ (List.Mem.tail _ (List.Mem.tail _ (List.Mem.tail _ (List.Mem.tail _ (List.Mem.tail _ (List.Mem.head _))))))))))) | exact List.Mem.tail _ (List.Mem.tail _ (List.Mem.tail _ (List.Mem.tail _ (List.Mem.tail _ (List.Mem.tail _ (List.Mem.tail _ (List.Mem.tail _ (List.Mem.tail _ (List.Mem.tail _ (List.Mem.tail _ (List.Mem.tail _ (List.Mem.head _)))))))))))) | exact List.Mem.tail _ (List.Mem.tail _ (List.Mem.tail _ (List.Mem.tail _ (List.Mem.tail _ (List.Mem.tail _ (List.Mem.tail _ (List.Mem.tail _ (List.Mem.tail _ (List.Mem.tail _ (List.Mem.tail _ (List.Mem.tail _ (List.Mem.tail _ (List.Mem.head _))))))))))))) | exact List.Mem.tail _ (List.Mem.tail _ (List.Mem.tail _ (List.Mem.tail _ (List.Mem.tail _ (List.Mem.tail _ (List.Mem.tail _ (List.Mem.tail _ (List.Mem.tail _ (List.Mem.tail _ (List.Mem.tail _ (List.Mem.tail _ (List.Mem.tail _ (List.Mem.tail _ (List.Mem.head _)))))))))))))) | exact List.Mem.tail _ (List.Mem.tail _ (List.Mem.tail _ (List.Mem.tail _ (List.Mem.tail _ (List.Mem.tail _ (List.Mem.tail _ (List.Mem.tail _ (List.Mem.tail _ (List.Mem.tail _ (List.Mem.tail _ (List.Mem.tail _ (List.Mem.tail _ (List.Mem.tail _ (List.Mem.tail _ (List.Mem.head _))))))))))))))) | exact List.Mem.tail _ (List.Mem.tail _ (List.Mem.tail _ (List.Mem.tail _ (List.Mem.tail _ (List.Mem.tail _ (List.Mem.tail _ (List.Mem.tail _ (List.Mem.tail _ (List.Mem.tail _ (List.Mem.tail _ (List.Mem.tail _ (List.Mem.tail _ (List.Mem.tail _ (List.Mem.tail _ (List.Mem.tail _ (List.Mem.head _)))))))))))))))) | exact List.Mem.tail _ (List.Mem.tail _ (List.Mem.tail _ (List.Mem.tail _ (List.Mem.tail _ (List.Mem.tail _ (List.Mem.tail _ (List.Mem.tail _ (List.Mem.tail _ (List.Mem.tail _ (List.Mem.tail _ (List.Mem.tail _ (List.Mem.tail _ (List.Mem.tail _ (List.Mem.tail _ (List.Mem.tail _ (List.Mem.tail _ (List.Mem.head _))))))))))))))))) | exact List.Mem.tail _ (List.Mem.tail _ (List.Mem.tail _ (List.Mem.tail _ (List.Mem.tail _ (List.Mem.tail _ (List.Mem.tail _ (List.Mem.tail _ (List.Mem.tail _ (List.Mem.tail _ (List.Mem.tail _ (List.Mem.tail _ (List.Mem.tail _ (List.Mem.tail _ (List.Mem.tail _ (List.Mem.tail _ (List.Mem.tail _ (List.Mem.tail _ (List.Mem.head _)))))))))))))))))) | exact List.Mem.tail _ (List.Mem.tail _ (List.Mem.tail _ (List.Mem.tail _ (List.Mem.tail _ (List.Mem.tail _ (List.Mem.tail _ (List.Mem.tail _ (List.Mem.tail _ (List.Mem.tail _ (List.Mem.tail _ (List.Mem.tail _ (List.Mem.tail _ (List.Mem.tail _ (List.Mem.tail _ (List.Mem.tail _ (List.Mem.tail _ (List.Mem.tail _ (List.Mem.tail _ (List.Mem.head _))))))))))))))))))) | exact List.Mem.tail _ (List.Mem.tail _ (List.Mem.tail _ (List.Mem.tail _ (List.Mem.tail _ (List.Mem.tail _ (List.Mem.tail _ (List.Mem.tail _ (List.Mem.tail _ (List.Mem.tail _ (List.Mem.tail _ (List.Mem.tail _ (List.Mem.tail _ (List.Mem.tail _ (List.Mem.tail _ (List.Mem.tail _ (List.Mem.tail _ (List.Mem.tail _ (List.Mem.tail _ (List.Mem.tail _ (List.Mem.head _)))))))))))))))))))) | exact List.Mem.tail _ (List.Mem.tail _ (List.Mem.tail _ (List.Mem.tail _ (List.Mem.tail _ (List.Mem.tail _ (List.Mem.tail _ (List.Mem.tail _ (List.Mem.tail _ (List.Mem.tail _ (List.Mem.tail _ (List.Mem.tail _ (List.Mem.tail _ (List.Mem.tail _ (List.Mem.tail _ (List.Mem.tail _ (List.Mem.tail _ (List.Mem.tail _ (List.Mem.tail _ (List.Mem.tail _ (List.Mem.tail _ (List.Mem.head _))))))))))))))))))))) | exact List.Mem.tail _ (List.Mem.tail _ (List.Mem.tail _ (List.Mem.tail _ (List.Mem.tail _ (List.Mem.tail _ (List.Mem.tail _ (List.Mem.tail _ (List.Mem.tail _ (List.Mem.tail _ (List.Mem.tail _ (List.Mem.tail _ (List.Mem.tail _ (List.Mem.tail _ (List.Mem.tail _ (List.Mem.tail _ (List.Mem.tail _ (List.Mem.tail _ (List.Mem.tail _ (List.Mem.tail _ (List.Mem.tail _ (List.Mem.tail _ (List.Mem.head _)))))))))))))))))))))) | exact List.Mem.tail _ (List.Mem.tail _ (List.Mem.tail _ (List.Mem.tail _ (List.Mem.tail _ (List.Mem.tail _ (List.Mem.tail _ (List.Mem.tail _ (List.Mem.tail _ (List.Mem.tail _ (List.Mem.tail _ (List.Mem.tail _ (List.Mem.tail _ (List.Mem.tail _ (List.Mem.tail _ (List.Mem.tail _ (List.Mem.tail _ (List.Mem.tail _ (List.Mem.tail _ (List.Mem.tail _ (List.Mem.tail _ (List.Mem.tail _ (List.Mem.tail _ (List.Mem.head _))))))))))))))))))))))))
local macro_rules | `(tactic| walk_at "u") => `(tactic| first | exact Upd.here | exact Upd.there (Upd.here) | exact Upd.there (Upd.there (Upd.here)) | exact Upd.there (Upd.there (Upd.there (Upd.here))) | exact Upd.there (Upd.there (Upd.there (Upd.there (Upd.here)))) | exact Upd.there (Upd.there (Upd.there (Upd.there (Upd.there (Upd.here))))) | exact Upd.there (Upd.there (Upd.there (Upd.there (Upd.there (Upd.there (Upd.here)))))) | exact Upd.there (Upd.there (Upd.there (Upd.there (Upd.there (Upd.there (Upd.there (Upd.here))))))) | exact Upd.there (Upd.there (Upd.there (Upd.there (Upd.there (Upd.there (Upd.there (Upd.there (Upd.here)))))))) | exact Upd.there (Upd.there (Upd.there (Upd.there (Upd.there (Upd.there (Upd.there (Upd.there (Upd.there (Upd.here))))))))) | exact Upd.there (Upd.there (Upd.there (Upd.there (Upd.there (Upd.there (Upd.there (Upd.there (Upd.there (Upd.there (Upd.here)))))))))) | exact Upd.there (Upd.there (Upd.there (Upd.there (Upd.there (Upd.there (Upd.there (Upd.there (Upd.there (Upd.there (Upd.there (Upd.here))))))))))) | exact Upd.there (Upd.there (Upd.there (Upd.there (Upd.there (Upd.there (Upd.there (Upd.there (Upd.there (Upd.there (Upd.there (Upd.there (Upd.here)))))))))))) | exact Upd.there (Upd.there (Upd.there (Upd.there (Upd.there (Upd.there (Upd.there (Upd.there (Upd.there (Upd.there (Upd.there (Upd.there (Upd.there (Upd.here))))))))))))) | exact Upd.there (Upd.there (Upd.there (Upd.there (Upd.there (Upd.there (Upd.there (Upd.there (Upd.there (Upd.there (Upd.there (Upd.there (Upd.there (Upd.there (Upd.here)))))))))))))) | exact Upd.there (Upd.there (Upd.there (Upd.there (Upd.there (Upd.there (Upd.there (Upd.there (Upd.there (Upd.there (Upd.there (Upd.there (Upd.there (Upd.there (Upd.there (Upd.here))))))))))))))) | exact Upd.there (Upd.there (Upd.there (Upd.there (Upd.there (Upd.there (Upd.there (Upd.there (Upd.there (Upd.there (Upd.there (Upd.there (Upd.there (Upd.there (Upd.there (Upd.there (Upd.here)))))))))))))))) | exact Upd.there (Upd.there (Upd.there (Upd.there (Upd.there (Upd.there (Upd.there (Upd.there (Upd.there (Upd.there (Upd.there (Upd.there (Upd.there (Upd.there (Upd.there (Upd.there (Upd.there (Upd.here))))))))))))))))) | exact Upd.there (Upd.there (Upd.there (Upd.there (Upd.there (Upd.there (Upd.there (Upd.there (Upd.there (Upd.there (Upd.there (Upd.there (Upd.there (Upd.there (Upd.there (Upd.there (Upd.there (Upd.there (Upd.here)))))))))))))))))) | exact Upd.there (Upd.there (Upd.there (Upd.there (Upd.there (Upd.there (Upd.there (Upd.there (Upd.there (Upd.there (Upd.there (Upd.there (Upd.there (Upd.there (Upd.there (Upd.there (Upd.there (Upd.there (Upd.there (Upd.here))))))))))))))))))) | exact Upd.there (Upd.there (Upd.there (Upd.there (Upd.there (Upd.there (Upd.there (Upd.there (Upd.there (Upd.there (Upd.there (Upd.there (Upd.there (Upd.there (Upd.there (Upd.there (Upd.there (Upd.there (Upd.there (Upd.there (Upd.here)))))))))))))))))))) | exact Upd.there (Upd.there (Upd.there (Upd.there (Upd.there (Upd.there (Upd.there (Upd.there (Upd.there (Upd.there (Upd.there (Upd.there (Upd.there (Upd.there (Upd.there (Upd.there (Upd.there (Upd.there (Upd.there (Upd.there (Upd.there (Upd.here))))))))))))))))))))) | exact Upd.there (Upd.there (Upd.there (Upd.there (Upd.there (Upd.there (Upd.there (Upd.there (Upd.there (Upd.there (Upd.there (Upd.there (Upd.there (Upd.there (Upd.there (Upd.there (Upd.there (Upd.there (Upd.there (Upd.there (Upd.there (Upd.there (Upd.here)))))))))))))))))))))) | exact Upd.there (Upd.there (Upd.there (Upd.there (Upd.there (Upd.there (Upd.there (Upd.there (Upd.there (Upd.there (Upd.there (Upd.there (Upd.there (Upd.there (Upd.there (Upd.there (Upd.there (Upd.there (Upd.there (Upd.there (Upd.there (Upd.there (Upd.there (Upd.here))))))))))))))))))))))))
local macro_rules | `(tactic| walk_at "ul") => `(tactic| first | exact UpdL.here | exact UpdL.there (UpdL.here) | exact UpdL.there (UpdL.there (UpdL.here)) | exact UpdL.there (UpdL.there (UpdL.there (UpdL.here))) | exact UpdL.there (UpdL.there (UpdL.there (UpdL.there (UpdL.here)))) | exact UpdL.there (UpdL.there (UpdL.there (UpdL.there (UpdL.there (UpdL.here))))) | exact UpdL.there (UpdL.there (UpdL.there (UpdL.there (UpdL.there (UpdL.there (UpdL.here)))))) | exact UpdL.there (UpdL.there (UpdL.there (UpdL.there (UpdL.there (UpdL.there (UpdL.there (UpdL.here))))))) | exact UpdL.there (UpdL.there (UpdL.there (UpdL.there (UpdL.there (UpdL.there (UpdL.there (UpdL.there (UpdL.here)))))))) | exact UpdL.there (UpdL.there (UpdL.there (UpdL.there (UpdL.there (UpdL.there (UpdL.there (UpdL.there (UpdL.there (UpdL.here))))))))) | exact UpdL.there (UpdL.there (UpdL.there (UpdL.there (UpdL.there (UpdL.there (UpdL.there (UpdL.there (UpdL.there (UpdL.there (UpdL.here)))))))))) | exact UpdL.there (UpdL.there (UpdL.there (UpdL.there (UpdL.there (UpdL.there (UpdL.there (UpdL.there (UpdL.there (UpdL.there (UpdL.there (UpdL.here))))))))))) | exact UpdL.there (UpdL.there (UpdL.there (UpdL.there (UpdL.there (UpdL.there (UpdL.there (UpdL.there (UpdL.there (UpdL.there (UpdL.there (UpdL.there (UpdL.here)))))))))))) | exact UpdL.there (UpdL.there (UpdL.there (UpdL.there (UpdL.there (UpdL.there (UpdL.there (UpdL.there (UpdL.there (UpdL.there (UpdL.there (UpdL.there (UpdL.there (UpdL.here))))))))))))))
local macro_rules | `(tactic| walk_at "d") => `(tactic| first | exact Del.here | exact Del.there (Del.here) | exact Del.there (Del.there (Del.here)) | exact Del.there (Del.there (Del.there (Del.here))) | exact Del.there (Del.there (Del.there (Del.there (Del.here)))) | exact Del.there (Del.there (Del.there (Del.there (Del.there (Del.here))))) | exact Del.there (Del.there (Del.there (Del.there (Del.there (Del.there (Del.here)))))) | exact Del.there (Del.there (Del.there (Del.there (Del.there (Del.there (Del.there (Del.here))))))) | exact Del.there (Del.there (Del.there (Del.there (Del.there (Del.there (Del.there (Del.there (Del.here)))))))) | exact Del.there (Del.there (Del.there (Del.there (Del.there (Del.there (Del.there (Del.there (Del.there (Del.here))))))))) | exact Del.there (Del.there (Del.there (Del.there (Del.there (Del.there (Del.there (Del.there (Del.there (Del.there (Del.here)))))))))) | exact Del.there (Del.there (Del.there (Del.there (Del.there (Del.there (Del.there (Del.there (Del.there (Del.there (Del.there (Del.here))))))))))) | exact Del.there (Del.there (Del.there (Del.there (Del.there (Del.there (Del.there (Del.there (Del.there (Del.there (Del.there (Del.there (Del.here)))))))))))) | exact Del.there (Del.there (Del.there (Del.there (Del.there (Del.there (Del.there (Del.there (Del.there (Del.there (Del.there (Del.there (Del.there (Del.here))))))))))))) | exact Del.there (Del.there (Del.there (Del.there (Del.there (Del.there (Del.there (Del.there (Del.there (Del.there (Del.there (Del.there (Del.there (Del.there (Del.here)))))))))))))) | exact Del.there (Del.there (Del.there (Del.there (Del.there (Del.there (Del.there (Del.there (Del.there (Del.there (Del.there (Del.there (Del.there (Del.there (Del.there (Del.here))))))))))))))) | exact Del.there (Del.there (Del.there (Del.there (Del.there (Del.there (Del.there (Del.there (Del.there (Del.there (Del.there (Del.there (Del.there (Del.there (Del.there (Del.there (Del.here)))))))))))))))) | exact Del.there (Del.there (Del.there (Del.there (Del.there (Del.there (Del.there (Del.there (Del.there (Del.there (Del.there (Del.there (Del.there (Del.there (Del.there (Del.there (Del.there (Del.here))))))))))))))))) | exact Del.there (Del.there (Del.there (Del.there (Del.there (Del.there (Del.there (Del.there (Del.there (Del.there (Del.there (Del.there (Del.there (Del.there (Del.there (Del.there (Del.there (Del.there (Del.here)))))))))))))))))) | exact Del.there (Del.there (Del.there (Del.there (Del.there (Del.there (Del.there (Del.there (Del.there (Del.there (Del.there (Del.there (Del.there (Del.there (Del.there (Del.there (Del.there (Del.there (Del.there (Del.here))))))))))))))))))) | exact Del.there (Del.there (Del.there (Del.there (Del.there (Del.there (Del.there (Del.there (Del.there (Del.there (Del.there (Del.there (Del.there (Del.there (Del.there (Del.there (Del.there (Del.there (Del.there (Del.there (Del.here)))))))))))))))))))) | exact Del.there (Del.there (Del.there (Del.there (Del.there (Del.there (Del.there (Del.there (Del.there (Del.there (Del.there (Del.there (Del.there (Del.there (Del.there (Del.there (Del.there (Del.there (Del.there (Del.there (Del.there (Del.here))))))))))))))))))))) | exact Del.there (Del.there (Del.there (Del.there (Del.there (Del.there (Del.there (Del.there (Del.there (Del.there (Del.there (Del.there (Del.there (Del.there (Del.there (Del.there (Del.there (Del.there (Del.there (Del.there (Del.there (Del.there (Del.here)))))))))))))))))))))) | exact Del.there (Del.there (Del.there (Del.there (Del.there (Del.there (Del.there (Del.there (Del.there (Del.there (Del.there (Del.there (Del.there (Del.there (Del.there (Del.there (Del.there (Del.there (Del.there (Del.there (Del.there (Del.there (Del.there (Del.here))))))))))))))))))))))))
local macro_rules | `(tactic| walk_at "s") => `(tactic| repeat (first | exact List.Sublist.refl _ | exact List.nil_sublist _ | refine List.Sublist.cons_cons _ ?_ | refine List.Sublist.cons _ ?_))
local macro_rules | `(tactic| walk_at "h") => `(tactic| repeat (first | assumption | exact List.Mem.head _ | refine List.Mem.tail _ ?_))
def Pw (R : Value → Wy → Prop) (xs : List Value) (ys : List Wy) : Prop := xs.length = ys.length ∧ ∀ (i : Nat) (x : Value), xs[i]? = some x → ∃ y : Wy, ys[i]? = some y ∧ R x y
theorem Pw.nil {R} : Pw R [] [] := ⟨rfl, fun i x h => by simp at h⟩
theorem Pw.snoc {R : Value → Wy → Prop} {xs ys x y} (h : Pw R xs ys) (hxy : R x y) : Pw R (xs ++ [x]) (ys ++ [y]) := by
  refine ⟨by simp [h.1], fun i z hz => ?_⟩
  rcases Nat.lt_or_ge i xs.length with hi | hi
  · rw [List.getElem?_append_left hi] at hz
    obtain ⟨w, h1, h2⟩ := h.2 i z hz
    exact ⟨w, by rw [List.getElem?_append_left (by rw [← h.1]; exact hi)]; exact h1, h2⟩
  · rw [List.getElem?_append_right hi] at hz
    have h0 : i - xs.length = 0 := by
      cases e : i - xs.length with
      | zero => rfl
      | succ m => rw [e] at hz; simp at hz
    rw [h0] at hz
    simp at hz
    subst hz
    exact ⟨y, by rw [List.getElem?_append_right (by rw [← h.1]; exact hi), ← h.1, h0]; rfl, hxy⟩
theorem Pw.imp {R R' : Value → Wy → Prop} {xs ys} (h : Pw R xs ys) (hi : ∀ x y, R x y → R' x y) : Pw R' xs ys := ⟨h.1, fun i x hx => let ⟨y, a, b⟩ := h.2 i x hx; ⟨y, a, hi _ _ b⟩⟩
def isLets (D : St) (v : Value) (f : Wy) : Prop := ∃ a t1 cs t2 fr, v = .ref a ∧ (a, Cell.list [.str (Str.ofString "letters") t1, .str (mk cs) t2, .bool fr]) ∈ D ∧ cs.length ≤ 900 ∧ f = optS fr (letS cs)
def RowI (I : Value → Wy → Prop) (items : List Value) (f : Wy) : Prop := ∃ fs, Pw I items fs ∧ f = fs.foldl seqS idS ∧ ∀ i, Bd 40 ((fs.take i).foldl seqS idS)
def ChI (I : Value → Wy → Prop) (D : St) (rows : List Value) (g : Wy) : Prop :=
  ∃ Fs, Pw (fun v F => ∃ a items, v = .ref a ∧ items.length ≤ 900 ∧ (a, Cell.list items) ∈ D ∧ RowI I items F) rows Fs ∧ g = Fs.foldl altS noS ∧ ∀ i, Bd 40 ((Fs.take i).foldl altS noS)
def ItemAt : Nat → St → Value → Wy → Prop
  | 0, D, v, f => isLets D v f
  | n + 1, D, v, f => isLets D v f ∨ ∃ a t1 c fr rows g, v = .ref a ∧ (a, Cell.list [.str (Str.ofString "group") t1, .ref c, .bool fr]) ∈ D ∧ rows.length ≤ 900 ∧ (c, Cell.list rows) ∈ D ∧ ChI (ItemAt n D) D rows g ∧ f = optS fr g
theorem isLets.mono {D D' : St} {v f} (h : isLets D v f) (hs : ∀ x ∈ D, x ∈ D') : isLets D' v f := let ⟨a, t1, cs, t2, fr, e, m, l, q⟩ := h; ⟨a, t1, cs, t2, fr, e, hs _ m, l, q⟩
theorem RowI.mono {I I' : Value → Wy → Prop} {items f} (h : RowI I items f) (hi : ∀ v f, I v f → I' v f) : RowI I' items f := let ⟨fs, a, b⟩ := h; ⟨fs, a.imp hi, b⟩
theorem ChI.mono {I I' : Value → Wy → Prop} {D D' : St} {rows g} (h : ChI I D rows g) (hi : ∀ v f, I v f → I' v f) (hs : ∀ x ∈ D, x ∈ D') : ChI I' D' rows g :=
  let ⟨Fs, a, b⟩ := h; ⟨Fs, a.imp fun v F ⟨c, items, e, l, m, r⟩ => ⟨c, items, e, l, hs _ m, r.mono hi⟩, b⟩
theorem ItemAt.mono : ∀ {n m : Nat} {D D' : St} {v f}, n ≤ m → (∀ x ∈ D, x ∈ D') → ItemAt n D v f → ItemAt m D' v f
  | 0, 0, D, D', v, f, _, hs, h => isLets.mono h hs
  | 0, m + 1, D, D', v, f, _, hs, h => .inl (isLets.mono h hs)
  | n + 1, 0, _, _, _, _, hnm, _, _ => absurd hnm (by omega)
  | n + 1, m + 1, D, D', v, f, hnm, hs, h => by
    rcases h with h | ⟨a, t1, c, fr, rows, g, e, h1, h2, h3, h4, h5⟩
    · exact .inl (h.mono hs)
    · exact .inr ⟨a, t1, c, fr, rows, g, e, hs _ h1, h2, hs _ h3, h4.mono (fun v f h => ItemAt.mono (by omega) hs h) hs, h5⟩
theorem take_snoc {α} (l : List α) (x : α) (i : Nat) : (l ++ [x]).take i = l.take i ∨ (l ++ [x]).take i = l ++ [x] := by
  rcases Nat.lt_or_ge l.length i with h | h
  · exact .inr (List.take_of_length_le (by simp; omega))
  · exact .inl (List.take_append_of_le_length h)
theorem RowI.snoc {I : Value → Wy → Prop} {items f v g} (h : RowI I items f) (hv : I v g) (hb : Bd 40 (seqS f g)) : RowI I (items ++ [v]) (seqS f g) := by
  obtain ⟨fs, a, rfl, b⟩ := h
  have e : (fs ++ [g]).foldl seqS idS = seqS (fs.foldl seqS idS) g := by rw [List.foldl_append]; rfl
  refine ⟨fs ++ [g], a.snoc hv, e.symm, fun i => ?_⟩
  rcases take_snoc fs g i with q | q
  · rw [q]; exact b i
  · rw [q, e]; exact hb
theorem ChI.snoc {I : Value → Wy → Prop} {D rows F a items g} (h : ChI I D rows F) (hl : items.length ≤ 900) (hm : (a, Cell.list items) ∈ D) (hr : RowI I items g) (hb : Bd 40 (altS F g)) : ChI I D (rows ++ [.ref a]) (altS F g) := by
  obtain ⟨Fs, p, rfl, b⟩ := h
  have e : (Fs ++ [g]).foldl altS noS = altS (Fs.foldl altS noS) g := by rw [List.foldl_append]; rfl
  refine ⟨Fs ++ [g], p.snoc ⟨a, items, rfl, hl, hm, hr⟩, e.symm, fun i => ?_⟩
  rcases take_snoc Fs g i with q | q
  · rw [q]; exact b i
  · rw [q, e]; exact hb
theorem RowI.nil {I} : RowI I [] idS := ⟨[], .nil, rfl, fun i => by simpa using Bd.one⟩
theorem ChI.nil {I D} : ChI I D [] noS := ⟨[], .nil, rfl, fun i => by simpa using Bd.noS.mono (by decide)⟩
/-- an open group -/
structure Fm where
  c : Addr
  u : Addr
  rs : List Value
  items : List Value
def fmCells : List Fm → St
  | [] => []
  | f :: fs => (f.c, .list (f.rs ++ [.ref f.u])) :: (f.u, .list f.items) :: fmCells fs
def FmOk (j : Nat) (D : St) (k : Nat) (f : Fm) (x : Wy × Wy) : Prop := ChI (ItemAt j D) D f.rs x.1 ∧ RowI (ItemAt j D) f.items x.2 ∧ f.rs.length ≤ k ∧ f.items.length ≤ k
theorem FmOk.mono {j j' k k' : Nat} {D D' : St} {f x} (h : FmOk j D k f x) (hj : j ≤ j') (hs : ∀ x ∈ D, x ∈ D') (hk : k ≤ k') : FmOk j' D' k' f x :=
  ⟨h.1.mono (fun v f h => h.mono hj hs) hs, h.2.1.mono (fun v f h => h.mono hj hs), Nat.le_trans h.2.2.1 hk, Nat.le_trans h.2.2.2 hk⟩
inductive FmsOk (j : Nat) (D : St) (k : Nat) : List Fm → List (Wy × Wy) → Prop where
  | nil : FmsOk j D k [] []
  | cons {f fs x xs} : FmOk j D k f x → FmsOk j D k fs xs → FmsOk j D k (f :: fs) (x :: xs)
theorem FmsOk.mono {j j' k k' : Nat} {D D' : St} {fs xs} (h : FmsOk j D k fs xs) (hj : j ≤ j') (hs : ∀ x ∈ D, x ∈ D') (hk : k ≤ k') : FmsOk j' D' k' fs xs := by
  induction h with
  | nil => exact .nil
  | cons a _ ih => exact .cons (a.mono hj hs hk) ih
open Classical in
theorem perm_close {α : Type} (a : α) (A B Y Z : List α) : ([a] ++ (A ++ (B ++ (Y ++ Z)))).Perm (A ++ (Y ++ ([a] ++ (B ++ Z)))) := by
  rw [List.perm_iff_count]
  intro x
  simp only [List.count_append]
  omega
section
variable {C : Cx} {A : Around} {S : St} {E : Value → Shared → Prop} {env : Env}
theorem fParsed (B : Base C) : FnIs C 195 xParsed.1 := B.fn xParsed fun P => ⟨_, _, _, _, rfl, rfl, rfl, rfl⟩
theorem gParsed (B : Base C) : GlobalIs C (Str.ofString "_law_parsed") (.ref 195) := B.glob (by intro P; kernel_rfl)
theorem W.sIfSign {c : Nat} {t : Tok} {x : Str} {l} {p1 p2 p3 p4 : Pos} {body orelse : List Stmt} {Q : Flow → St → Prop} (d : Nat) (hm : (env.locals, .ns l) ∈ S) (hx : (Str.ofString "sign", some (.str (mk [c]) t)) ∈ l)
    (h : if c = d then W C A S (execs body env) Q E else W C A S (execs orelse env) Q E) (hd : x = mk [d] := by rfl)
    (hk : env.scope.kind = .function := by rfl) (hl : env.kindOf (Str.ofString "sign") = some .local := by rfl) :
    W C A S (exec (.If (.Compare (.Name (Str.ofString "sign") p1) [.Eq] [.Constant (.str x) 0 p2] p3) body orelse p4) env) Q E := by
  subst hd
  refine .sIf (.tcmp (.name hm hx (.cStr fun t1 => .eqM ⟨_, rfl, ?_⟩) hk hl))
  by_cases e : c = d
  · rw [if_pos e] at h
    exact ite_pos (by simp [e]) h
  · rw [if_neg e] at h
    exact ite_neg (by simp [e]) h
/-- the last of a list -/
theorem W.last {o : Expr} {p1 p2 p3 : Pos} {Q : Value → St → Prop} (h : W C A S (eval o env) (fun v S₁ => ∃ a xs y, v = .ref a ∧ (a, .list (xs ++ [y])) ∈ S₁ ∧ xs.length ≤ 900 ∧ Q y S₁) E) :
    W C A S (eval (.Subscript o (.UnaryOp .USub (.Constant (.int 1) 0 p1) p2) p3) env) Q E := by
  refine .sub (h.mono ?_)
  rintro v S₁ ⟨a, xs, y, rfl, hm, hl, q⟩
  refine .unop (.cInt fun t => .negI fun t' => .itemLneg hm (by decide) (by simp; omega) (by decide) ?_ q)
  rw [show ((-1 : Int) + ((xs ++ [y]).length : Nat)).toNat = xs.length from by simp; omega]
  simp
end
end Mine
-- part C14
namespace Mine
open PySem PySem.Calls PySem.W PyProof.Rows
local macro_rules | `(tactic| walk_at "m") => `(tactic| first | exact List.Mem.head _ | exact List.Mem.tail _ (List.Mem.head _) | exact List.Mem.tail _ (List.Mem.tail _ (List.Mem.head _)) | exact List.Mem.tail _ (List.Mem.tail _ (List.Mem.tail _ (List.Mem.head _))) | exact List.Mem.tail _ (List.Mem.tail _ (List.Mem.tail _ (List.Mem.tail _ (List.Mem.head _)))) | exact List.Mem.tail _ (List.Mem.tail _ (List.Mem.tail _ (List.Mem.tail _ (List.Mem.tail _ (List.Mem.head _))))) | exact List.Mem.tail _ (List.Mem.tail _ (List.Mem.tail _ (List.Mem.tail _ (List.Mem.tail _ (List.Mem.tail _ (List.Mem.head _)))))) | exact List.Mem.tail _ (List.Mem.tail _ (List.Mem.tail _ (List.Mem.tail _ (List.Mem.tail _ (List.Mem.tail _ (List.Mem.tail _ (List.Mem.head _))))))) | exact List.Mem.tail _ (List.Mem.tail _ (List.Mem.tail _ (List.Mem.tail _ (List.Mem.tail _ (List.Mem.tail _ (List.Mem.tail _ (List.Mem.tail _ (List.Mem.head _)))))))) | exact List.Mem.tail _ (List.Mem.tail _ (List.Mem.tail _ (List.Mem.tail _ (List.Mem.tail _ (List.Mem.tail _ (List.Mem.tail _ (List.Mem.tail _ (List.Mem.tail _ (List.Mem.head _))))))))) | exact List.Mem.tail _ (List.Mem.tail _ (List.Mem.tail _ (List.Mem.tail _ (List.Mem.tail _ (List.Mem.tail _ (List.Mem.tail _ (List.Mem.tail _ (List.Mem.tail _ (List.Mem.tail _ (List.Mem.head _)))))))))) | exact List.Mem.tail _ (List.Mem.tail _ (List.Mem.tail _ (List.Mem.tail _ (List.Mem.tail _ (List.Mem.tail _ (List.Mem.tail _ (List.Mem.tail _ (List.Mem.tail _ (List.Mem.tail _ (List.Mem.tail _ (List.Mem.head _))))))))))) | exact List.Mem.tail _ (List.Mem.tail _ (List.Mem.tail _ (List.Mem.tail _ (List.Mem.tail _ (List.Mem.tail _ (List.Mem.tail _ (List.Mem.tail _ (List.Mem.tail _ (List.Mem.tail _ (List.Mem.tail _ (List.Mem.tail _ (List.Mem.head _)))))))))))) | exact List.Mem.tail _ (List.Mem.tail _ (List.Mem.tail _ (List.Mem.tail _ (List.Mem.tail _ (List.Mem.tail _ (List.Mem.tail _ (List.Mem.tail _ (List.Mem.tail _ (List.Mem.tail _ (List.Mem.tail _ (List.Mem.tail _ (List.Mem.tail _ (List.Mem.head _))))))))))))) | exact List.Mem.tail _ (List.Mem.tail _ (List.Mem.tail _ (List.Mem.tail _ (List.Mem.tail _ (List.Mem.tail _ (List.Mem.tail _ (List.Mem.tail _ (List.Mem.tail _ (List.Mem.tail _ (List.Mem.tail _ (List.Mem.tail _ (List.Mem.tail _ (List.Mem.tail _ (List.Mem.head _)))))))))))))) | exact List.Mem.tail _ (List.Mem.tail _ (List.Mem.tail _ (List.Mem.tail _ (List.Mem.tail _ (List.Mem.tail _ (List.Mem.tail _ (List.Mem.tail _ (List.Mem.tail _ (List.Mem.tail _ (List.Mem.tail _ (List.Mem.tail _ (List.Mem.tail _ (List.Mem.tail _ (List.Mem.tail _ (List.Mem.head _))))))))))))))) | exact List.Mem.tail _ (List.Mem.tail _ (List.Mem.tail _ (List.Mem.tail _ (List.Mem.tail _ (List.Mem.tail _ (List.Mem.tail _ (List.Mem.tail _ (List.Mem.tail _ (List.Mem.tail _ (List.Mem.tail _ (List.Mem.tail _ (List.Mem.tail _ (List.Mem.tail _ (List.Mem.tail _ (List.Mem.tail _ (List.Mem.head _)))))))))))))))) | exact List.Mem.tail _ (List.Mem.tail _ (List.Mem.tail _ (List.Mem.tail _ (List.Mem.tail _ (List.Mem.tail _ (List.Mem.tail _ (List.Mem.tail _ (List.Mem.tail _ (List.Mem.tail _ (List.Mem.tail _ (List.Mem.tail _ (List.Mem.tail _ (List.Mem.tail _ (List.Mem.tail _ (List.Mem.tail _ (List.Mem.tail _ (List.Mem.head _))))))))))))))))) | exact List.Mem.tail _ (List.Mem.tail _ (List.Mem.tail _ (List.Mem.tail _ (List.Mem.tail _ (List.Mem.tail _ (List.Mem.tail _ (List.Mem.tail _ (List.Mem.tail _ (List.Mem.tail _ (List.Mem.tail _ (List.Mem.tail _ (List.Mem.tail _ (List.Mem.tail _ (List.Mem.tail _ (List.Mem.tail _ (List.Mem.tail _ (List.Mem.tail _ (List.Mem.head _)))))))))))))))))) | exact List.Mem.tail _ (List.Mem.tail _ (List.Mem.tail _ (List.Mem.tail _ (List.Mem.tail _ (List.Mem.tail _ (List.Mem.tail _ (List.Mem.tail _ (List.Mem.tail _ (List.Mem.tail _ (List.Mem.tail _ (List.Mem.tail _ (List.Mem.tail _ (List.Mem.tail _ (List.Mem.tail _ (List.Mem.tail _ (List.Mem.tail _ (List.Mem.tail _ (List.Mem.tail _ (List.Mem.head _))))))))))))))))))) | exact List.Mem.tail _ (List.Mem.tail _ (List.Mem.tail _ (List.Mem.tail _ (List.Mem.tail _ (List.Mem.tail _ (List.Mem.tail _ (List.Mem.tail _ (List.Mem.tail _ (List.Mem.tail _ (List.Mem.tail _ (List.Mem.tail _ (List.Mem.tail _ (List.Mem.tail _ (List.Mem.tail _ (List.Mem.tail _ (List.Mem.tail _ (List.Mem.tail _ (List.Mem.tail _ (List.Mem.tail _ (List.Mem.head _)))))))))))))))))))) | exact List.Mem.tail _ (List.Mem.tail _ (List.Mem.tail _ (List.Mem.tail _ (List.Mem.tail _ (List.Mem.tail _ (List.Mem.tail _ (List.Mem.tail _ (List.Mem.tail _ (List.Mem.tail _ (List.Mem.tail _ (List.Mem.tail _ (List.Mem.tail _ (List.Mem.tail _ (List.Mem.tail _ (List.Mem.tail _ (List.Mem.tail _ (List.Mem.tail _ (List.Mem.tail _ (List.Mem.tail _ (List.Mem.tail _ (List.Mem.head _))))))))))))))))))))) | exact List.Mem.tail _ (List.Mem.tail _ (List.Mem.tail _ (List.Mem.tail _ (List.Mem.tail _ (List.Mem.tail _ (List.Mem.tail _ (List.Mem.tail _ (List.Mem.tail _ (List.Mem.tail _ (List.Mem.tail _ (List.Mem.tail _ (List.Mem.tail _ (List.Mem.tail _ (List.Mem.tail _ (List.Mem.tail _ (List.Mem.tail _ (List.Mem.tail _ (List.Mem.tail _ (List.Mem.tail _ (List.Mem.tail _ (List.Mem.tail _ (List.Mem.head _)))))))))))))))))))))) | exact List.Mem.tail _ (List.Mem.tail _ (List.Mem.tail _ (List.Mem.tail _ (List.Mem.tail _ (List.Mem.tail _ (List.Mem.tail _ (List.Mem.tail _ (List.Mem.tail _ (List.Mem.tail _ (List.Mem.tail _ (List.Mem.tail _ (List.Mem.tail _ (List.Mem.tail _ (List.Mem.tail _ (List.Mem.tail _ (List.Mem.tail _ (List.Mem.tail _ (List.Mem.tail _ (List.Mem.tail _ (List.Mem.tail _ (List.Mem.tail _ (List.Mem.tail _ (List.Mem.head _))))))))))))))))))))))))
local macro_rules | `(tactic| walk_at "u") => `(tactic| first | exact Upd.here | exact Upd.there (Upd.here) | exact Upd.there (Upd.there (Upd.here)) | exact Upd.there (Upd.there (Upd.there (Upd.here))) | exact Upd.there (Upd.there (Upd.there (Upd.there (Upd.here)))) | exact Upd.there (Upd.there (Upd.there (Upd.there (Upd.there (Upd.here))))) | exact Upd.there (Upd.there (Upd.there (Upd.there (Upd.there (Upd.there (Upd.here)))))) | exact Upd.there (Upd.there (Upd.there (Upd.there (Upd.there (Upd.there (Upd.there (Upd.here))))))) | exact Upd.there (Upd.there (Upd.there (Upd.there (Upd.there (Upd.there (Upd.there (Upd.there (Upd.here)))))))) | exact Upd.there (Upd.there (Upd.there (Upd.there (Upd.there (Upd.there (Upd.there (Upd.there (Upd.there (Upd.here))))))))) | exact Upd.there (Upd.there (Upd.there (Upd.there (Upd.there (Upd.there (Upd.there (Upd.there (Upd.there (Upd.there (Upd.here)))))))))) | exact Upd.there (Upd.there (Upd.there (Upd.there (Upd.there (Upd.there (Upd.there (Upd.there (Upd.there (Upd.there (Upd.there (Upd.here))))))))))) | exact Upd.there (Upd.there (Upd.there (Upd.there (Upd.there (Upd.there (Upd.there (Upd.there (Upd.there (Upd.there (Upd.there (Upd.there (Upd.here)))))))))))) | exact Upd.there (Upd.there (Upd.there (Upd.there (Upd.there (Upd.there (Upd.there (Upd.there (Upd.there (Upd.there (Upd.there (Upd.there (Upd.there (Upd.here))))))))))))) | exact Upd.there (Upd.there (Upd.there (Upd.there (Upd.there (Upd.there (Upd.there (Upd.there (Upd.there (Upd.there (Upd.there (Upd.there (Upd.there (Upd.there (Upd.here)))))))))))))) | exact Upd.there (Upd.there (Upd.there (Upd.there (Upd.there (Upd.there (Upd.there (Upd.there (Upd.there (Upd.there (Upd.there (Upd.there (Upd.there (Upd.there (Upd.there (Upd.here))))))))))))))) | exact Upd.there (Upd.there (Upd.there (Upd.there (Upd.there (Upd.there (Upd.there (Upd.there (Upd.there (Upd.there (Upd.there (Upd.there (Upd.there (Upd.there (Upd.there (Upd.there (Upd.here)))))))))))))))) | exact Upd.there (Upd.there (Upd.there (Upd.there (Upd.there (Upd.there (Upd.there (Upd.there (Upd.there (Upd.there (Upd.there (Upd.there (Upd.there (Upd.there (Upd.there (Upd.there (Upd.there (Upd.here))))))))))))))))) | exact Upd.there (Upd.there (Upd.there (Upd.there (Upd.there (Upd.there (Upd.there (Upd.there (Upd.there (Upd.there (Upd.there (Upd.there (Upd.there (Upd.there (Upd.there (Upd.there (Upd.there (Upd.there (Upd.here)))))))))))))))))) | exact Upd.there (Upd.there (Upd.there (Upd.there (Upd.there (Upd.there (Upd.there (Upd.there (Upd.there (Upd.there (Upd.there (Upd.there (Upd.there (Upd.there (Upd.there (Upd.there (Upd.there (Upd.there (Upd.there (Upd.here))))))))))))))))))) | exact Upd.there (Upd.there (Upd.there (Upd.there (Upd.there (Upd.there (Upd.there (Upd.there (Upd.there (Upd.there (Upd.there (Upd.there (Upd.there (Upd.there (Upd.there (Upd.there (Upd.there (Upd.there (Upd.there (Upd.there (Upd.here)))))))))))))))))))) | exact Upd.there (Upd.there (Upd.there (Upd.there (Upd.there (Upd.there (Upd.there (Upd.there (Upd.there (Upd.there (Upd.there (Upd.there (Upd.there (Upd.there (Upd.there (Upd.there (Upd.there (Upd.there (Upd.there (Upd.there (Upd.there (Upd.here))))))))))))))))))))) | exact Upd.there (Upd.there (Upd.there (Upd.there (Upd.there (Upd.there (Upd.there (Upd.there (Upd.there (Upd.there (Upd.there (Upd.there (Upd.there (Upd.there (Upd.there (Upd.there (Upd.there (Upd.there (Upd.there (Upd.there (Upd.there (Upd.there (Upd.here)))))))))))))))))))))) | exact Upd.there (Upd.there (Upd.there (Upd.there (Upd.there (Upd.there (Upd.there (Upd.there (Upd.there (Upd.there (Upd.there (Upd.there (Upd.there (Upd.there (Upd.there (Upd.there (Upd.there (Upd.there (Upd.there (Upd.there (Upd.there (Upd.there (Upd.there (Upd.here))))))))))))))))))))))))
local macro_rules | `(tactic| walk_at "ul") => `(tactic| first | exact UpdL.here | exact UpdL.there (UpdL.here) | exact UpdL.there (UpdL.there (UpdL.here)) | exact UpdL.there (UpdL.there (UpdL.there (UpdL.here))) | exact UpdL.there (UpdL.there (UpdL.there (UpdL.there (UpdL.here)))) | exact UpdL.there (UpdL.there (UpdL.there (UpdL.there (UpdL.there (UpdL.here))))) | exact UpdL.there (UpdL.there (UpdL.there (UpdL.there (UpdL.there (UpdL.there (UpdL.here)))))) | exact UpdL.there (UpdL.there (UpdL.there (UpdL.there (UpdL.there (UpdL.there (UpdL.there (UpdL.here))))))) | exact UpdL.there (UpdL.there (UpdL.there (UpdL.there (UpdL.there (UpdL.there (UpdL.there (UpdL.there (UpdL.here)))))))) | exact UpdL.there (UpdL.there (UpdL.there (UpdL.there (UpdL.there (UpdL.there (UpdL.there (UpdL.there (UpdL.there (UpdL.here))))))))) | exact UpdL.there (UpdL.there (UpdL.there (UpdL.there (UpdL.there (UpdL.there (UpdL.there (UpdL.there (UpdL.there (UpdL.there (UpdL.here)))))))))) | exact UpdL.there (UpdL.there (UpdL.there (UpdL.there (UpdL.there (UpdL.there (UpdL.there (UpdL.there (UpdL.there (UpdL.there (UpdL.there (UpdL.here))))))))))) | exact UpdL.there (UpdL.there (UpdL.there (UpdL.there (UpdL.there (UpdL.there (UpdL.there (UpdL.there (UpdL.there (UpdL.there (UpdL.there (UpdL.there (UpdL.here)))))))))))) | exact UpdL.there (UpdL.there (UpdL.there (UpdL.there (UpdL.there (UpdL.there (UpdL.there (UpdL.there (UpdL.there (UpdL.there (UpdL.there (UpdL.there (UpdL.there (UpdL.here))))))))))))))
local macro_rules | `(tactic| walk_at "d") => `(tactic| first | exact Del.here | exact Del.there (Del.here) | exact Del.there (Del.there (Del.here)) | exact Del.there (Del.there (Del.there (Del.here))) | exact Del.there (Del.there (Del.there (Del.there (Del.here)))) | exact Del.there (Del.there (Del.there (Del.there (Del.there (Del.here))))) | exact Del.there (Del.there (Del.there (Del.there (Del.there (Del.there (Del.here)))))) | exact Del.there (Del.there (Del.there (Del.there (Del.there (Del.there (Del.there (Del.here))))))) | exact Del.there (Del.there (Del.there (Del.there (Del.there (Del.there (Del.there (Del.there (Del.here)))))))) | exact Del.there (Del.there (Del.there (Del.there (Del.there (Del.there (Del.there (Del.there (Del.there (Del.here))))))))) | exact Del.there (Del.there (Del.there (Del.there (Del.there (Del.there (Del.there (Del.there (Del.there (Del.there (Del.here)))))))))) | exact Del.there (Del.there (Del.there (Del.there (Del.there (Del.there (Del.there (Del.there (Del.there (Del.there (Del.there (Del.here))))))))))) | exact Del.there (Del.there (Del.there (Del.there (Del.there (Del.there (Del.there (Del.there (Del.there (Del.there (Del.there (Del.there (Del.here)))))))))))) | exact Del.there (Del.there (Del.there (Del.there (Del.there (Del.there (Del.there (Del.there (Del.there (Del.there (Del.there (Del.there (Del.there (Del.here))))))))))))) | exact Del.there (Del.there (Del.there (Del.there (Del.there (Del.there (Del.there (Del.there (Del.there (Del.there (Del.there (Del.there (Del.there (Del.there (Del.here)))))))))))))) | exact Del.there (Del.there (Del.there (Del.there (Del.there (Del.there (Del.there (Del.there (Del.there (Del.there (Del.there (Del.there (Del.there (Del.there (Del.there (Del.here))))))))))))))) | exact Del.there (Del.there (Del.there (Del.there (Del.there (Del.there (Del.there (Del.there (Del.there (Del.there (Del.there (Del.there (Del.there (Del.there (Del.there (Del.there (Del.here)))))))))))))))) | exact Del.there (Del.there (Del.there (Del.there (Del.there (Del.there (Del.there (Del.there (Del.there (Del.there (Del.there (Del.there (Del.there (Del.there (Del.there (Del.there (Del.there (Del.here))))))))))))))))) | exact Del.there (Del.there (Del.there (Del.there (Del.there (Del.there (Del.there (Del.there (Del.there (Del.there (Del.there (Del.there (Del.there (Del.there (Del.there (Del.there (Del.there (Del.there (Del.here)))))))))))))))))) | exact Del.there (Del.there (Del.there (Del.there (Del.there (Del.there (Del.there (Del.there (Del.there (Del.there (Del.there (Del.there (Del.there (Del.there (Del.there (Del.there (Del.there (Del.there (Del.there (Del.here))))))))))))))))))) | exact Del.there (Del.there (Del.there (Del.there (Del.there (Del.there (Del.there (Del.there (Del.there (Del.there (Del.there (Del.there (Del.there (Del.there (Del.there (Del.there (Del.there (Del.there (Del.there (Del.there (Del.here)))))))))))))))))))) | exact Del.there (Del.there (Del.there (Del.there (Del.there (Del.there (Del.there (Del.there (Del.there (Del.there (Del.there (Del.there (Del.there (Del.there (Del.there (Del.there (Del.there (Del.there (Del.there (Del.there (Del.there (Del.here))))))))))))))))))))) | exact Del.there (Del.there (Del.there (Del.there (Del.there (Del.there (Del.there (Del.there (Del.there (Del.there (Del.there (Del.there (Del.there (Del.there (Del.there (Del.there (Del.there (Del.there (Del.there (Del.there (Del.there (Del.there (Del.here)))))))))))))))))))))) | exact Del.there (Del.there (Del.there (Del.there (Del.there (Del.there (Del.there (Del.there (Del.there (Del.there (Del.there (Del.there (Del.there (Del.there (Del.there (Del.there (Del.there (Del.there (Del.there (Del.there (Del.there (Del.there (Del.there (Del.here))))))))))))))))))))))))
local macro_rules | `(tactic| walk_at "s") => `(tactic| repeat (first | exact List.Sublist.refl _ | exact List.nil_sublist _ | refine List.Sublist.cons_cons _ ?_ | refine List.Sublist.cons _ ?_))
local macro_rules | `(tactic| walk_at "h") => `(tactic| repeat (first | assumption | exact List.Mem.head _ | refine List.Mem.tail _ ?_))
section
variable {C : Cx} {A : Around} {S : St} {E : Value → Shared → Prop} {env : Env}
def ogL : List Fm → List Value
  | [] => []
  | f :: fs => ogL fs ++ [.ref f.c]
theorem ogL_len : ∀ fs, (ogL fs).length = fs.length
  | [] => rfl
  | f :: fs => by simp [ogL, ogL_len fs]
open Classical in
theorem perm_bar {α : Type} (a b : α) (A Y Z : List α) : ([a] ++ (A ++ ([b] ++ (Y ++ Z)))).Perm (A ++ ([a] ++ (Y ++ ([b] ++ Z)))) := by
  rw [List.perm_iff_count]
  intro x
  simp only [List.count_append]
  omega
open Classical in
theorem perm_mid {α : Type} (A B Y Z : List α) : (A ++ (B ++ (Y ++ Z))).Perm (A ++ (Y ++ (B ++ Z))) := by
  rw [List.perm_iff_count]
  intro x
  simp only [List.count_append]
  omega
theorem z1 (x : Value) : [x].length ≤ sizeLine := by rw [sizeLine_eq]; simp
theorem z2 (x y : Value) : [x, y].length ≤ sizeLine := by rw [sizeLine_eq]; simp
theorem z3 (x y z : Value) : [x, y, z].length ≤ sizeLine := by rw [sizeLine_eq]; simp
/-- the state of the reading -/
def pst (L og : Addr) (p : List Nat) (tp : Tok) (k : Nat) (tk : Tok) (vs vg vl : Option Value) (fs : List Fm) (R : St) : St :=
  (L, .ns [(Str.ofString "pattern", some (.str (mk p) tp)), (Str.ofString "open_groups", some (.ref og)), (Str.ofString "k", some (.int k tk)), (Str.ofString "sign", vs), (Str.ofString "group", vg), (Str.ofString "letters", vl)]) ::
    (og, .list (ogL fs)) :: (fmCells fs ++ R)
theorem W.iaddM {x y : List Nat} {t u : Tok} {Q : Value → St → Prop} (h : ∀ t', Q (.str (mk (x ++ y)) t') S) (hsz : x.length + y.length ≤ 100000) : W C A S (inplaceOp .Add (.str (mk x) t) (.str (mk y) u)) Q E :=
  .iaddS (fun t' => by rw [mk_append]; exact h t') hsz
/-- what holds before a turn -/
def PInv (L og : Addr) (p : List Nat) (tp : Tok) (J : Nat) (G : Wy) (S : St) (m : Nat) (S' : St) : Prop :=
  (∃ k tk vs vg vl fs D j xs, m = p.length - k ∧ k ≤ p.length ∧ S' = pst L og p tp k tk vs vg vl fs (D ++ S) ∧ Runs j (p.drop k) xs J G ∧ FmsOk j D k fs xs ∧ fs.length ≤ k + 1) ∨
  (∃ k tk vs vg vl f fs D j F' g' xs it t1 c rows h q, m = p.length - k ∧ k ≤ p.length ∧ S' = (it, .list [.str (Str.ofString "group") t1, .ref c, .bool false]) :: pst L og p tp k tk vs vg vl ({ f with items := f.items ++ [.ref it] } :: fs) (D ++ S) ∧
    p.drop k = 63 :: q ∧ Runs (j + 1) q ((F', seqS g' (optS true h)) :: xs) J G ∧ FmOk j D k f (F', g') ∧ FmsOk j D k fs xs ∧ fs.length + 1 ≤ k + 1 ∧ (c, .list rows) ∈ D ∧ rows.length ≤ 900 ∧ ChI (ItemAt j D) D rows h ∧ Bd 40 (seqS g' (optS true h)))
theorem W.parsed {p : List Nat} {tp : Tok} {J : Nat} {G : Wy} {Q : Value → St → Prop} (B : Base C) (R : Room A 3) (hr : Runs 0 p [(noS, idS)] J G) (hlen : p.length ≤ 800)
    (h : ∀ c rows X, ChI (ItemAt J X) X rows G → (c, .list rows) ∈ X → rows.length ≤ 900 → Q (.ref c) (X ++ S)) : W C A S (call (.ref 195) [.str (mk p) tp]) Q NoE := by
  refine .callDef (n := 2) (binds := [(Str.ofString "pattern", .str (mk p) tp)]) [Str.ofString "pattern"] [Str.ofString "open_groups", Str.ofString "k", Str.ofString "sign", Str.ofString "group", Str.ofString "letters"] (fParsed B) R rfl (fun s G => .of_eq rfl) (by decide) (by decide) (by decide) ?_
  intro L R1
  refine .sCons (.sAsSwap (names := [Str.ofString "open_groups", Str.ofString "k"]) (.mkTuple (.itemsCons (.mkList (.itemsCons (.mkList (.itemsCons (.mkList (.itemsNil ⟨by decide, fun u => ?_⟩)))))))) (by rfl)) 
  refine .itemsNil ⟨z1 _, fun c => .itemsNil ⟨z1 _, fun og => .itemsCons (.cInt fun tk => .itemsNil ⟨z2 _ _, fun tu => ?_⟩)⟩⟩
  refine .unpT R1.handled (.head _) rfl ?_
  refine .aioCons (.bindN (.stl (by walk_at "u") (by walk_at "ul") ?_))
  refine .aioCons (.bindN (.stl (by walk_at "u") (by walk_at "ul") (.aioNil ?_)))
  refine .weaken (S₀ := [(og, .list [.ref c]), (c, .list [.ref u]), (u, .list [])] ++ (L, .ns [(Str.ofString "pattern", some (.str (mk p) tp)), (Str.ofString "open_groups", some (.ref og)), (Str.ofString "k", some (.int 0 tk)), (Str.ofString "sign", none), (Str.ofString "group", none), (Str.ofString "letters", none)]) :: S) (.perm ?_ List.perm_middle) (List.sublist_cons_self _ _)
  refine .sCons (.sWhile (PInv L og p tp J G S) (p.length - 0) ?_ PassesOwn.noE ?_)
  · exact .inl ⟨0, tk, none, none, none, [⟨c, u, [], []⟩], [], 0, [(noS, idS)], rfl, Nat.zero_le _, rfl, hr, .cons ⟨.nil, .nil, Nat.le_refl _, Nat.le_refl _⟩ .nil, by simp⟩
  clear hr tk tu u c
  intro m S' hI
  rcases hI with ⟨k, tk, vs, vg, vl, fs, D, j, xs, rfl, hk, rfl, hrun, hfs, hfl⟩ | ⟨k, tk, vs, vg, vl, f, fs, D, j, F', g', xs, it, t1, c, rows, hh, q, rfl, hk, rfl, hq, hrun, hf, hfs, hfl, hcm, hrl, hch, hbd⟩
  · refine .tcmp (.name (.head _) (by walk_at "m") (.callName (.glob (gLen B) (.withB (.itemsCons (.name (.head _) (by walk_at "m") (.itemsNil (.lenM (fun t1 => .ltI ⟨_, rfl, ?_⟩) (by omega)))))))))
    by_cases hkl : k < p.length
    · refine ite_pos (by simp; omega) ?_
      obtain ⟨c, q, hq⟩ : ∃ c q, p.drop k = c :: q := ⟨_, _, List.drop_eq_getElem_cons hkl⟩
      have hpc : p[k]? = some c := by
        have := List.drop_eq_getElem_cons hkl
        rw [hq] at this
        injection this with e1 e2
        rw [List.getElem?_eq_getElem hkl, e1]
      have hq1 : p.drop (k + 1) = q := by
        have := List.drop_eq_getElem_cons hkl
        rw [hq] at this
        injection this with e1 e2
        exact e2.symm
      refine .sCons (.sAssign (.sub (.name (.head _) (by walk_at "m") (.name (.head _) (by walk_at "m") (.itemM (by omega) (by omega) (by rw [Int.toNat_natCast]; exact hpc) fun t2 => .stl .here (by walk_at "ul") ?_)))))
      refine .sCons (.sAug (.ldl (.head _) (by walk_at "m") (.cInt fun t3 => .iaddI fun t4 => .stl .here (by walk_at "ul") ?_)))
      rw [show ((k : Int) + 1) = ((k + 1 : Nat) : Int) from by omega]
      rw [hq] at hrun
      cases hrun with
      | @openQ _ p' _ _ _ hr =>
        refine .sCons (.sIfSign 40 (.head _) (by walk_at "m") (ite_pos rfl ?_))
        refine .sCons (.sAppend (.name (.head _) (by walk_at "m") ⟨_, rfl, ⟨_, by walk_at "m"⟩, .mkList (.itemsCons (.mkList (.itemsNil ⟨by decide, fun u => .itemsNil ⟨z1 _, fun c => ⟨_, _, by walk_at "u", by rw [ogL_len]; omega, ?_⟩⟩⟩)))⟩))
        refine .sCons (.sAug (.ldl (by walk_at "m") (by walk_at "m") (.ifexp (.tcmp (.sub (.name (by walk_at "m") (by walk_at "m") (.eSlice (.partS (.name (by walk_at "m") (by walk_at "m") (.partS (.binop (.name (by walk_at "m") (by walk_at "m") (.cInt fun t5 => .addI fun t6 => ?_)))))))))))))
        rw [show (((k + 1 : Nat) : Int) + 2) = ((k + 3 : Nat) : Int) from by omega]
        refine .partN fun sl => .slMid (.head _) (by omega) fun t7 => .cStr fun t8 => .eqM (y := [63, 58]) ⟨_, rfl, ?_⟩
        rw [show (List.take (k + 3 - (k + 1)) (List.drop (k + 1) p)) = [63, 58] from by rw [hq1, show k + 3 - (k + 1) = 2 from by omega]; rfl]
        refine ite_pos (by decide) (.cInt fun t9 => .iaddI fun t10 => .stl (by walk_at "u") (by walk_at "ul") ?_)
        rw [show (((k + 1 : Nat) : Int) + 2) = ((k + 3 : Nat) : Int) from by omega]
        have hk3 : k + 3 ≤ p.length := by
          have := congrArg List.length hq
          simp at this; omega
        have hq3 : p.drop (k + 3) = p' := by
          have := congrArg (List.drop 2) hq1
          rw [List.drop_drop] at this
          exact this
        rw [← hq3] at hr
        refine .sNil (.weaken (.perm (.sNil ⟨p.length - (k + 3), _, by omega, .refl _, .inl ⟨k + 3, t10, _, _, _, ⟨c, u, [], []⟩ :: fs, D, j, _, rfl, by omega, rfl, hr, .cons ⟨.nil, .nil, Nat.zero_le _, Nat.zero_le _⟩ (hfs.mono (Nat.le_refl _) (fun _ h => h) (by omega)), by simp; omega⟩⟩) (List.perm_append_comm_assoc [_, _] [_, _] _)) (List.sublist_cons_self _ _))
      | openP hnq hr =>
        refine .sCons (.sIfSign 40 (.head _) (by walk_at "m") (ite_pos rfl ?_))
        refine .sCons (.sAppend (.name (.head _) (by walk_at "m") ⟨_, rfl, ⟨_, by walk_at "m"⟩, .mkList (.itemsCons (.mkList (.itemsNil ⟨by decide, fun u => .itemsNil ⟨z1 _, fun c => ⟨_, _, by walk_at "u", by rw [ogL_len]; omega, ?_⟩⟩⟩)))⟩))
        refine .sCons (.sAug (.ldl (by walk_at "m") (by walk_at "m") (.ifexp (.tcmp (.sub (.name (by walk_at "m") (by walk_at "m") (.eSlice (.partS (.name (by walk_at "m") (by walk_at "m") (.partS (.binop (.name (by walk_at "m") (by walk_at "m") (.cInt fun t5 => .addI fun t6 => ?_)))))))))))))
        rw [show (((k + 1 : Nat) : Int) + 2) = ((k + 3 : Nat) : Int) from by omega]
        refine .partN fun sl => .slMid (.head _) (by omega) fun t7 => .cStr fun t8 => .eqM (y := [63, 58]) ⟨_, rfl, ?_⟩
        rw [show (List.take (k + 3 - (k + 1)) (List.drop (k + 1) p)) = q.take 2 from by rw [hq1, show k + 3 - (k + 1) = 2 from by omega]]
        refine ite_neg (by simpa using hnq) (.cInt fun t9 => .iaddI fun t10 => .stl (by walk_at "u") (by walk_at "ul") ?_)
        rw [show (((k + 1 : Nat) : Int) + 0) = ((k + 1 : Nat) : Int) from by omega]
        rw [← hq1] at hr
        refine .sNil (.weaken (.perm (.sNil ⟨p.length - (k + 1), _, by omega, .refl _, .inl ⟨k + 1, t10, _, _, _, ⟨c, u, [], []⟩ :: fs, D, j, _, rfl, by omega, rfl, hr, .cons ⟨.nil, .nil, Nat.zero_le _, Nat.zero_le _⟩ (hfs.mono (Nat.le_refl _) (fun _ h => h) (by omega)), by simp; omega⟩⟩) (List.perm_append_comm_assoc [_, _] [_, _] _)) (List.sublist_cons_self _ _))
      | @bar _ _ fs1 _ _ F g hbd hr =>
        cases hfs with
        | @cons f fs2 _ _ hf hfs2 =>
        refine .sCons (.sIfSign 40 (.head _) (by walk_at "m") (ite_neg (by decide) ?_))
        refine .sCons (.sIfSign 124 (.head _) (by walk_at "m") (ite_pos rfl ?_))
        refine .sCons (.sAppend (.last (.name (.head _) (by walk_at "m") ⟨_, _, _, rfl, .tail _ (.head _), by rw [ogL_len]; simp at hfl; omega, ⟨_, rfl, ⟨_, .tail _ (.tail _ (.head _))⟩, .mkList (.itemsNil ⟨by decide, fun u => ⟨_, _, .there (.there (.there .here)), by have := hf.2.2.1; simp; omega, ?_⟩⟩)⟩⟩)))
        rw [← hq1] at hr
        refine .sNil (.sNil (.perm (.sNil ⟨p.length - (k + 1), _, by omega, .refl _, .inl ⟨k + 1, t4, some (.str (mk [124]) t2), vg, vl, ⟨f.c, u, f.rs ++ [Value.ref f.u], []⟩ :: fs2, (f.u, .list f.items) :: D, j, _, rfl, by omega, rfl, hr, .cons ⟨?_, .nil, ?_, Nat.zero_le _⟩ (hfs2.mono (Nat.le_refl _) (fun _ h => .tail _ h) (by omega)), by simp at hfl ⊢; omega⟩⟩) (perm_bar (u, Cell.list []) (f.u, Cell.list f.items) [(L, _), (og, _), (f.c, _)] (fmCells fs2) (D ++ S))))
        · exact (hf.1.mono (fun v f h => h.mono (Nat.le_refl _) (fun _ h => .tail _ h)) (fun _ h => .tail _ h)).snoc (by have := hf.2.2.2; omega) (.head _) (hf.2.1.mono fun v f h => h.mono (Nat.le_refl _) (fun _ h => .tail _ h)) hbd
        · have := hf.2.2.1; simp; omega
      | @close _ _ _ _ _ Fa ga F' g' hnq hbd hbd2 hr =>
        cases hfs with
        | @cons f0 fsx _ _ hf0 hfsx =>
        cases hfsx with
        | @cons f1 fs3 _ _ hf1 hfs3 =>
        simp only [List.length_cons] at hfl
        have b0 := hf0.2.2
        have b1 := hf1.2.2
        refine .sCons (.sIfSign 40 (.head _) (by walk_at "m") (ite_neg (by decide) ?_))
        refine .sCons (.sIfSign 124 (.head _) (by walk_at "m") (ite_neg (by decide) ?_))
        refine .sCons (.sIfSign 41 (.head _) (by walk_at "m") (ite_pos rfl ?_))
        refine .sCons (.sAssign (.callMeth F.plainAttrs_list F.slot_list_pop F.type_list_pop (.name (.head _) (by walk_at "m") ⟨fun s G => G.methL (.tail _ (.head _)), .withB0 (first := [.ref og]) (.popL (.there .here) (.stl .here (by walk_at "ul") ?_) (by rw [ogL_len]; simp; omega))⟩)))
        refine .sCons (.sAppend (.last (.last (.name (.head _) (by walk_at "m") ⟨_, _, _, rfl, .tail _ (.head _), by rw [ogL_len]; omega, ⟨f1.c, f1.rs, .ref f1.u, rfl, .tail _ (.tail _ (.tail _ (.tail _ (.head _)))), by omega, ⟨f1.u, rfl, ⟨f1.items, .tail _ (.tail _ (.tail _ (.tail _ (.tail _ (.head _)))))⟩, .mkList (.itemsCons (.cStr fun t5 => .itemsCons (.name (.head _) (by walk_at "m") (.itemsCons (.cBool (.itemsNil ⟨z3 _ _ _, fun it => ⟨f1.items, _, .there (.there (.there (.there (.there (.there .here))))), by omega, ?_⟩⟩))))))⟩⟩⟩))))
        rw [← hq1] at hr
        have hD : ∀ x ∈ D, x ∈ ((it, Cell.list [.str (Str.ofString "group") t5, .ref f0.c, .bool false]) :: (f0.c, Cell.list (f0.rs ++ [Value.ref f0.u])) :: (f0.u, Cell.list f0.items) :: D) := fun _ h => .tail _ (.tail _ (.tail _ h))
        refine .sNil (.sNil (.sNil (.perm (.sNil ⟨p.length - (k + 1), _, by omega, .refl _, .inl ⟨k + 1, t4, some (.str (mk [41]) t2), some (.ref f0.c), vl, ⟨f1.c, f1.u, f1.rs, f1.items ++ [Value.ref it]⟩ :: fs3, (it, .list [.str (Str.ofString "group") t5, .ref f0.c, .bool false]) :: (f0.c, .list (f0.rs ++ [Value.ref f0.u])) :: (f0.u, .list f0.items) :: D, j + 1, _, rfl, by omega, rfl, hr, .cons ⟨?_, ?_, (by show f1.rs.length ≤ _; omega), by simp; omega⟩ (hfs3.mono (Nat.le_succ _) hD (by omega)), by simp; omega⟩⟩) (perm_close (it, Cell.list [.str (Str.ofString "group") t5, .ref f0.c, .bool false]) [_, _] [(f0.c, _), (f0.u, _)] (fmCells (⟨f1.c, f1.u, f1.rs, f1.items ++ [Value.ref it]⟩ :: fs3)) (D ++ S)))))
        · exact hf1.1.mono (fun v f h => h.mono (Nat.le_succ _) hD) hD
        · refine (hf1.2.1.mono fun v f h => h.mono (Nat.le_succ _) hD).snoc (.inr ⟨it, t5, f0.c, false, f0.rs ++ [Value.ref f0.u], altS Fa ga, rfl, .head _, by simp; omega, .tail _ (.head _), ?_, rfl⟩) hbd2
          exact (hf0.1.mono (fun v f h => h.mono (Nat.le_refl _) hD) hD).snoc (by omega) (.tail _ (.tail _ (.head _))) (hf0.2.1.mono fun v f h => h.mono (Nat.le_refl _) hD) hbd
      | @closeQ _ q2 _ _ _ Fa ga F' g' hbd hbd2 hr =>
        cases hfs with
        | @cons f0 fsx _ _ hf0 hfsx =>
        cases hfsx with
        | @cons f1 fs3 _ _ hf1 hfs3 =>
        simp only [List.length_cons] at hfl
        have b0 := hf0.2.2
        have b1 := hf1.2.2
        refine .sCons (.sIfSign 40 (.head _) (by walk_at "m") (ite_neg (by decide) ?_))
        refine .sCons (.sIfSign 124 (.head _) (by walk_at "m") (ite_neg (by decide) ?_))
        refine .sCons (.sIfSign 41 (.head _) (by walk_at "m") (ite_pos rfl ?_))
        refine .sCons (.sAssign (.callMeth F.plainAttrs_list F.slot_list_pop F.type_list_pop (.name (.head _) (by walk_at "m") ⟨fun s G => G.methL (.tail _ (.head _)), .withB0 (first := [.ref og]) (.popL (.there .here) (.stl .here (by walk_at "ul") ?_) (by rw [ogL_len]; simp; omega))⟩)))
        refine .sCons (.sAppend (.last (.last (.name (.head _) (by walk_at "m") ⟨_, _, _, rfl, .tail _ (.head _), by rw [ogL_len]; omega, ⟨f1.c, f1.rs, .ref f1.u, rfl, .tail _ (.tail _ (.tail _ (.tail _ (.head _)))), by omega, ⟨f1.u, rfl, ⟨f1.items, .tail _ (.tail _ (.tail _ (.tail _ (.tail _ (.head _)))))⟩, .mkList (.itemsCons (.cStr fun t5 => .itemsCons (.name (.head _) (by walk_at "m") (.itemsCons (.cBool (.itemsNil ⟨z3 _ _ _, fun it => ⟨f1.items, _, .there (.there (.there (.there (.there (.there .here))))), by omega, ?_⟩⟩))))))⟩⟩⟩))))
        have hD : ∀ x ∈ D, x ∈ ((f0.c, Cell.list (f0.rs ++ [Value.ref f0.u])) :: (f0.u, Cell.list f0.items) :: D) := fun _ h => .tail _ (.tail _ h)
        refine .sNil (.sNil (.sNil (.perm (.sNil ⟨p.length - (k + 1), _, by omega, .refl _, .inr ⟨k + 1, t4, some (.str (mk [41]) t2), some (.ref f0.c), vl, f1, fs3, (f0.c, .list (f0.rs ++ [Value.ref f0.u])) :: (f0.u, .list f0.items) :: D, j, F', g', _, it, t5, f0.c, f0.rs ++ [Value.ref f0.u], altS Fa ga, q2, rfl, by omega, rfl, hq1, hr, hf1.mono (Nat.le_refl _) hD (by omega), hfs3.mono (Nat.le_refl _) hD (by omega), by omega, .head _, by simp; omega, ?_, hbd2⟩⟩) (perm_mid [(it, Cell.list [.str (Str.ofString "group") t5, .ref f0.c, .bool false]), _, _] [(f0.c, _), (f0.u, _)] (fmCells (⟨f1.c, f1.u, f1.rs, f1.items ++ [Value.ref it]⟩ :: fs3)) (D ++ S)))))
        exact (hf0.1.mono (fun v f h => h.mono (Nat.le_refl _) hD) hD).snoc (by omega) (.tail _ (.head _)) (hf0.2.1.mono fun v f h => h.mono (Nat.le_refl _) hD) hbd
      | @set _ q2 _ _ _ Fa ga cs hbd hr =>
        cases hfs with
        | @cons f fs2 _ _ hf hfs2 =>
        simp only [List.length_cons] at hfl
        have b0 := hf.2.2
        have hlenq : (cs.flatMap esc2).length + 1 + q2.length + (k + 1) = p.length := by
          have := congrArg List.length hq1
          simp only [List.length_drop, List.length_append, List.length_cons] at this
          omega
        have hcsl : cs.length ≤ (cs.flatMap esc2).length := by
          clear hr hq hq1 hlenq hbd
          induction cs with
          | nil => simp
          | cons d r ih =>
            have : 1 ≤ (esc2 d).length := by unfold esc2; split <;> simp
            rw [List.flatMap_cons, List.length_append, List.length_cons]; omega
        refine .sCons (.sIfSign 40 (.head _) (by walk_at "m") (ite_neg (by decide) ?_))
        refine .sCons (.sIfSign 124 (.head _) (by walk_at "m") (ite_neg (by decide) ?_))
        refine .sCons (.sIfSign 41 (.head _) (by walk_at "m") (ite_neg (by decide) ?_))
        refine .sCons (.sIfSign 63 (.head _) (by walk_at "m") (ite_neg (by decide) ?_))
        refine .sCons (.sIfSign 91 (.head _) (by walk_at "m") (ite_pos rfl ?_))
        refine .sCons (.sAssign (.cStr fun tl0 => .stl .here (by walk_at "ul") ?_))
        refine .sCons (.sWhile (fun m' S' => ∃ dn rs tk' tl', cs = dn ++ rs ∧ m' = rs.length ∧ S' = pst L og p tp (k + 1 + (dn.flatMap esc2).length) tk' (some (.str (mk [91]) t2)) vg (some (.str (mk dn) tl')) (f :: fs2) (D ++ S)) cs.length ⟨[], cs, t4, tl0, rfl, rfl, rfl⟩ PassesOwn.noE ?_)
        rintro m' S' ⟨dn, rs, tk', tl', hcs, rfl, rfl⟩
        have hdl : cs.length = dn.length + rs.length := by rw [hcs]; simp
        have hfm : (cs.flatMap esc2).length = (dn.flatMap esc2).length + (rs.flatMap esc2).length := by rw [hcs]; simp
        have hdrop : p.drop (k + 1 + (dn.flatMap esc2).length) = rs.flatMap esc2 ++ 93 :: q2 := by
          rw [← List.drop_drop, hq1, hcs]
          simp
        generalize hkk : k + 1 + (dn.flatMap esc2).length = kk at *
        have at0 : ∀ {e : Nat} {l : List Nat}, rs.flatMap esc2 ++ 93 :: q2 = e :: l → p[kk]? = some e := fun {e l} h => by
          have := congrArg (·[0]?) (hdrop.trans h)
          simpa using this
        have at1 : ∀ {e d : Nat} {l : List Nat}, rs.flatMap esc2 ++ 93 :: q2 = e :: d :: l → p[kk + 1]? = some d := fun {e d l} h => by
          have := congrArg (·[1]?) (hdrop.trans h)
          simpa using this
        cases rs with
        | nil =>
          refine .tcmp (.sub (.name (.head _) (by walk_at "m") (.name (.head _) (by walk_at "m") (.itemM (by omega) (by omega) (by rw [Int.toNat_natCast]; exact at0 rfl) fun t5 => .cStr fun t6 => .neM (x := [93]) (y := [93]) ⟨_, rfl, ite_neg (by decide) ?_⟩))))
          have hdn : cs = dn := by rw [hcs]; simp
          refine .sCons (.sAug (.ldl (.head _) (by walk_at "m") (.cInt fun t7 => .iaddI fun t8 => .stl .here (by walk_at "ul") ?_)))
          rw [show ((kk : Int) + 1) = ((kk + 1 : Nat) : Int) from by omega]
          refine .sCons (.sAppend (.last (.last (.name (.head _) (by walk_at "m") ⟨_, _, _, rfl, .tail _ (.head _), by rw [ogL_len]; omega, ⟨f.c, f.rs, .ref f.u, rfl, .tail _ (.tail _ (.head _)), by omega, ⟨f.u, rfl, ⟨f.items, .tail _ (.tail _ (.tail _ (.head _)))⟩, .mkList (.itemsCons (.cStr fun t5 => .itemsCons (.name (.head _) (by walk_at "m") (.itemsCons (.cBool (.itemsNil ⟨z3 _ _ _, fun it => ⟨f.items, _, .there (.there (.there (.there .here))), by omega, ?_⟩⟩))))))⟩⟩⟩))))
          have hq2 : p.drop (kk + 1) = q2 := by
            have := congrArg (List.drop 1) hdrop
            rw [List.drop_drop] at this
            exact this
          rw [← hq2] at hr
          subst hdn
          have hD : ∀ x ∈ D, x ∈ ((it, Cell.list [.str (Str.ofString "letters") t5, .str (mk cs) tl', .bool false]) :: D) := fun _ h => .tail _ h
          refine .sNil (.sNil (.sNil (.sNil (.sNil (.perm (.sNil ⟨p.length - (kk + 1), _, by omega, .refl _, .inl ⟨kk + 1, t8, some (.str (mk [91]) t2), vg, some (.str (mk cs) tl'), ⟨f.c, f.u, f.rs, f.items ++ [Value.ref it]⟩ :: fs2, (it, .list [.str (Str.ofString "letters") t5, .str (mk cs) tl', .bool false]) :: D, j, _, rfl, by omega, rfl, hr, .cons ⟨hf.1.mono (fun v f h => h.mono (Nat.le_refl _) hD) hD, ?_, (by show f.rs.length ≤ _; omega), by simp; omega⟩ (hfs2.mono (Nat.le_refl _) hD (by omega)), by simp; omega⟩⟩) (List.perm_middle (l₁ := (L, _) :: (og, _) :: fmCells (⟨f.c, f.u, f.rs, f.items ++ [Value.ref it]⟩ :: fs2)) (l₂ := D ++ S) (a := (it, Cell.list [.str (Str.ofString "letters") t5, .str (mk cs) tl', .bool false]))).symm)))))
          refine (hf.2.1.mono fun v f h => h.mono (Nat.le_refl _) hD).snoc (ItemAt.mono (Nat.zero_le _) (fun _ h => h) (n := 0) ⟨it, t5, cs, tl', false, rfl, .head _, by omega, rfl⟩) hbd
        | cons d rs' =>
          have hcs2 : cs = (dn ++ [d]) ++ rs' := by rw [hcs]; simp
          have hfl2 : (dn ++ [d]).flatMap esc2 = dn.flatMap esc2 ++ esc2 d := by simp
          rw [List.flatMap_cons, List.length_append] at hfm
          by_cases hd : (d == 45 || (91 ≤ d && d ≤ 94)) = true
          · have he : esc2 d = [92, d] := by unfold esc2; rw [if_pos hd]
            have hl2 : ((dn ++ [d]).flatMap esc2).length = (dn.flatMap esc2).length + 2 := by rw [hfl2, he]; simp
            rw [he] at hfm
            simp only [List.length_cons, List.length_nil] at hfm
            have e0 : (d :: rs').flatMap esc2 ++ 93 :: q2 = 92 :: d :: (rs'.flatMap esc2 ++ 93 :: q2) := by rw [List.flatMap_cons, he]; rfl
            refine .tcmp (.sub (.name (.head _) (by walk_at "m") (.name (.head _) (by walk_at "m") (.itemM (by omega) (by omega) (by rw [Int.toNat_natCast]; exact at0 e0) fun t5 => .cStr fun t6 => .neM (x := [92]) (y := [93]) ⟨_, rfl, ite_pos (by decide) ?_⟩))))
            refine .sCons (.sAug (.ldl (.head _) (by walk_at "m") (.ifexp (.tcmp (.sub (.name (.head _) (by walk_at "m") (.name (.head _) (by walk_at "m") (.itemM (by omega) (by omega) (by rw [Int.toNat_natCast]; exact at0 e0) fun t5 => .cStr fun t6 => .eqM (x := [92]) (y := [92]) ⟨_, rfl, ite_pos (by decide) (.cInt fun t7 => .iaddI fun t8 => .stl .here (by walk_at "ul") ?_)⟩))))))) )
            rw [show ((kk : Int) + 1) = ((kk + 1 : Nat) : Int) from by omega]
            refine .sCons (.sAug (.ldl (.head _) (by walk_at "m") (.sub (.name (.head _) (by walk_at "m") (.name (.head _) (by walk_at "m") (.itemM (by omega) (by omega) (by rw [Int.toNat_natCast]; exact at1 e0) fun t9 => .iaddM (fun t10 => .stl .here (by walk_at "ul") ?_) (by simp; omega)))))))
            refine .sCons (.sAug (.ldl (.head _) (by walk_at "m") (.cInt fun t11 => .iaddI fun t12 => .stl .here (by walk_at "ul") ?_)))
            rw [show (((kk + 1 : Nat) : Int) + 1) = ((kk + 2 : Nat) : Int) from by omega]
            have e : kk + 2 = k + 1 + ((dn ++ [d]).flatMap esc2).length := by omega
            refine .sNil ⟨rs'.length, _, by simp, .refl _, dn ++ [d], rs', t12, t10, hcs2, rfl, ?_⟩
            rw [← e]; rfl
          · have he : esc2 d = [d] := by unfold esc2; rw [if_neg hd]
            have hd2 : d ≠ 92 ∧ d ≠ 93 := by
              constructor <;> (rintro rfl; exact hd (by decide))
            have hl2 : ((dn ++ [d]).flatMap esc2).length = (dn.flatMap esc2).length + 1 := by rw [hfl2, he]; simp
            rw [he] at hfm
            simp only [List.length_cons, List.length_nil] at hfm
            have e0 : (d :: rs').flatMap esc2 ++ 93 :: q2 = d :: (rs'.flatMap esc2 ++ 93 :: q2) := by rw [List.flatMap_cons, he]; rfl
            refine .tcmp (.sub (.name (.head _) (by walk_at "m") (.name (.head _) (by walk_at "m") (.itemM (by omega) (by omega) (by rw [Int.toNat_natCast]; exact at0 e0) fun t5 => .cStr fun t6 => .neM (x := [d]) (y := [93]) ⟨_, rfl, ite_pos (by simp [hd2.2]) ?_⟩))))
            refine .sCons (.sAug (.ldl (.head _) (by walk_at "m") (.ifexp (.tcmp (.sub (.name (.head _) (by walk_at "m") (.name (.head _) (by walk_at "m") (.itemM (by omega) (by omega) (by rw [Int.toNat_natCast]; exact at0 e0) fun t5 => .cStr fun t6 => .eqM (x := [d]) (y := [92]) ⟨_, rfl, ite_neg (by simp [hd2.1]) (.cInt fun t7 => .iaddI fun t8 => .stl .here (by walk_at "ul") ?_)⟩))))))))
            rw [show ((kk : Int) + 0) = ((kk : Nat) : Int) from by omega]
            refine .sCons (.sAug (.ldl (.head _) (by walk_at "m") (.sub (.name (.head _) (by walk_at "m") (.name (.head _) (by walk_at "m") (.itemM (by omega) (by omega) (by rw [Int.toNat_natCast]; exact at0 e0) fun t9 => .iaddM (fun t10 => .stl .here (by walk_at "ul") ?_) (by simp; omega)))))))
            refine .sCons (.sAug (.ldl (.head _) (by walk_at "m") (.cInt fun t11 => .iaddI fun t12 => .stl .here (by walk_at "ul") ?_)))
            rw [show (((kk : Nat) : Int) + 1) = ((kk + 1 : Nat) : Int) from by omega]
            have e : kk + 1 = k + 1 + ((dn ++ [d]).flatMap esc2).length := by omega
            refine .sNil ⟨rs'.length, _, by simp, .refl _, dn ++ [d], rs', t12, t10, hcs2, rfl, ?_⟩
            rw [← e]; rfl
      | @lit _ _ _ _ _ Fa ga _ hc hbd hr =>
        cases hfs with
        | @cons f fs2 _ _ hf hfs2 =>
        simp only [List.length_cons] at hfl
        have b0 := hf.2.2
        simp only [List.mem_cons, List.not_mem_nil, or_false, not_or] at hc
        refine .sCons (.sIfSign 40 (.head _) (by walk_at "m") (ite_neg (by omega) ?_))
        refine .sCons (.sIfSign 124 (.head _) (by walk_at "m") (ite_neg (by omega) ?_))
        refine .sCons (.sIfSign 41 (.head _) (by walk_at "m") (ite_neg (by omega) ?_))
        refine .sCons (.sIfSign 63 (.head _) (by walk_at "m") (ite_neg (by omega) ?_))
        refine .sCons (.sIfSign 91 (.head _) (by walk_at "m") (ite_neg (by omega) ?_))
        refine .sCons (.sIfSign 92 (.head _) (by walk_at "m") (ite_neg (by omega) (.sNil ?_)))
        refine .sCons (.sAppend (.last (.last (.name (.head _) (by walk_at "m") ⟨_, _, _, rfl, .tail _ (.head _), by rw [ogL_len]; omega, ⟨f.c, f.rs, .ref f.u, rfl, .tail _ (.tail _ (.head _)), by omega, ⟨f.u, rfl, ⟨f.items, .tail _ (.tail _ (.tail _ (.head _)))⟩, .mkList (.itemsCons (.cStr fun t5 => .itemsCons (.name (.head _) (by walk_at "m") (.itemsCons (.cBool (.itemsNil ⟨z3 _ _ _, fun it => ⟨f.items, _, .there (.there (.there (.there .here))), by omega, ?_⟩⟩))))))⟩⟩⟩))))
        rw [← hq1] at hr
        have hD : ∀ x ∈ D, x ∈ ((it, Cell.list [.str (Str.ofString "letters") t5, .str (mk [c]) t2, .bool false]) :: D) := fun _ h => .tail _ h
        refine .sNil (.sNil (.sNil (.sNil (.sNil (.perm (.sNil ⟨p.length - (k + 1), _, by omega, .refl _, .inl ⟨k + 1, t4, some (.str (mk [c]) t2), vg, vl, ⟨f.c, f.u, f.rs, f.items ++ [Value.ref it]⟩ :: fs2, (it, .list [.str (Str.ofString "letters") t5, .str (mk [c]) t2, .bool false]) :: D, j, _, rfl, by omega, rfl, hr, .cons ⟨hf.1.mono (fun v f h => h.mono (Nat.le_refl _) hD) hD, ?_, (by show f.rs.length ≤ _; omega), by simp; omega⟩ (hfs2.mono (Nat.le_refl _) hD (by omega)), by simp; omega⟩⟩) (List.perm_middle (l₁ := (L, _) :: (og, _) :: fmCells (⟨f.c, f.u, f.rs, f.items ++ [Value.ref it]⟩ :: fs2)) (l₂ := D ++ S) (a := (it, Cell.list [.str (Str.ofString "letters") t5, .str (mk [c]) t2, .bool false]))).symm)))))
        refine (hf.2.1.mono fun v f h => h.mono (Nat.le_refl _) hD).snoc (ItemAt.mono (Nat.zero_le _) (fun _ h => h) (n := 0) ⟨it, t5, [c], t2, false, rfl, .head _, by simp, rfl⟩) hbd
      | @esc _ q2 _ _ _ Fa ga c' hbd hr =>
        cases hfs with
        | @cons f fs2 _ _ hf hfs2 =>
        simp only [List.length_cons] at hfl
        have b0 := hf.2.2
        have hk2 : k + 2 ≤ p.length := by
          have := congrArg List.length hq
          simp at this; omega
        have hc' : p[k + 1]? = some c' := by
          have := congrArg (·[1]?) hq
          simpa using this
        have hq2 : p.drop (k + 2) = q2 := by
          have := congrArg (List.drop 1) hq1
          rw [List.drop_drop] at this
          exact this
        refine .sCons (.sIfSign 40 (.head _) (by walk_at "m") (ite_neg (by decide) ?_))
        refine .sCons (.sIfSign 124 (.head _) (by walk_at "m") (ite_neg (by decide) ?_))
        refine .sCons (.sIfSign 41 (.head _) (by walk_at "m") (ite_neg (by decide) ?_))
        refine .sCons (.sIfSign 63 (.head _) (by walk_at "m") (ite_neg (by decide) ?_))
        refine .sCons (.sIfSign 91 (.head _) (by walk_at "m") (ite_neg (by decide) ?_))
        refine .sCons (.sIfSign 92 (.head _) (by walk_at "m") (ite_pos rfl ?_))
        refine .sCons (.sAssign (.sub (.name (.head _) (by walk_at "m") (.name (.head _) (by walk_at "m") (.itemM (by omega) (by omega) (by rw [Int.toNat_natCast]; exact hc') fun t6 => .stl .here (by walk_at "ul") ?_)))))
        refine .sCons (.sAug (.ldl (.head _) (by walk_at "m") (.cInt fun t7 => .iaddI fun t8 => .stl .here (by walk_at "ul") (.sNil ?_))))
        rw [show (((k + 1 : Nat) : Int) + 1) = ((k + 2 : Nat) : Int) from by omega]
        refine .sCons (.sAppend (.last (.last (.name (.head _) (by walk_at "m") ⟨_, _, _, rfl, .tail _ (.head _), by rw [ogL_len]; omega, ⟨f.c, f.rs, .ref f.u, rfl, .tail _ (.tail _ (.head _)), by omega, ⟨f.u, rfl, ⟨f.items, .tail _ (.tail _ (.tail _ (.head _)))⟩, .mkList (.itemsCons (.cStr fun t5 => .itemsCons (.name (.head _) (by walk_at "m") (.itemsCons (.cBool (.itemsNil ⟨z3 _ _ _, fun it => ⟨f.items, _, .there (.there (.there (.there .here))), by omega, ?_⟩⟩))))))⟩⟩⟩))))
        rw [← hq2] at hr
        have hD : ∀ x ∈ D, x ∈ ((it, Cell.list [.str (Str.ofString "letters") t5, .str (mk [c']) t6, .bool false]) :: D) := fun _ h => .tail _ h
        refine .sNil (.sNil (.sNil (.sNil (.sNil (.perm (.sNil ⟨p.length - (k + 2), _, by omega, .refl _, .inl ⟨k + 2, t8, some (.str (mk [c']) t6), vg, vl, ⟨f.c, f.u, f.rs, f.items ++ [Value.ref it]⟩ :: fs2, (it, .list [.str (Str.ofString "letters") t5, .str (mk [c']) t6, .bool false]) :: D, j, _, rfl, by omega, rfl, hr, .cons ⟨hf.1.mono (fun v f h => h.mono (Nat.le_refl _) hD) hD, ?_, (by show f.rs.length ≤ _; omega), by simp; omega⟩ (hfs2.mono (Nat.le_refl _) hD (by omega)), by simp; omega⟩⟩) (List.perm_middle (l₁ := (L, _) :: (og, _) :: fmCells (⟨f.c, f.u, f.rs, f.items ++ [Value.ref it]⟩ :: fs2)) (l₂ := D ++ S) (a := (it, Cell.list [.str (Str.ofString "letters") t5, .str (mk [c']) t6, .bool false]))).symm)))))
        refine (hf.2.1.mono fun v f h => h.mono (Nat.le_refl _) hD).snoc (ItemAt.mono (Nat.zero_le _) (fun _ h => h) (n := 0) ⟨it, t5, [c'], t6, false, rfl, .head _, by simp, rfl⟩) hbd
    · refine ite_neg (by simp; omega) ?_
      rw [List.drop_eq_nil_of_le (by omega)] at hrun
      cases hrun with
      | done Fa ga _ hbd =>
      cases hfs with
      | @cons f fsx _ _ hf hfsx =>
      cases hfsx with
      | nil =>
      refine .sCons (.sRet (.sub (.name (.head _) (by walk_at "m") (.cInt fun t5 => .itemL (.tail _ (.head _)) (by decide) (by decide) rfl ?_))))
      have b0 := hf.2.2
      have hD : ∀ x ∈ D, x ∈ ((f.c, Cell.list (f.rs ++ [Value.ref f.u])) :: (f.u, Cell.list f.items) :: D) := fun _ h => .tail _ (.tail _ h)
      refine ⟨((f.c, Cell.list (f.rs ++ [Value.ref f.u])) :: (f.u, Cell.list f.items) :: D) ++ S, .cons _ (.cons _ (.refl _)), h f.c (f.rs ++ [Value.ref f.u]) _ ?_ (.head _) (by simp; omega)⟩
      exact (hf.1.mono (fun v f h => h.mono (Nat.le_refl _) hD) hD).snoc (by omega) (.tail _ (.head _)) (hf.2.1.mono fun v f h => h.mono (Nat.le_refl _) hD) hbd
  · have hkl : k < p.length := by
      have := congrArg List.length hq
      simp at this; omega
    have hpc : p[k]? = some 63 := by
      have := List.drop_eq_getElem_cons hkl
      rw [hq] at this
      injection this with e1 e2
      rw [List.getElem?_eq_getElem hkl, e1]
    have hq1 : p.drop (k + 1) = q := by
      have := List.drop_eq_getElem_cons hkl
      rw [hq] at this
      injection this with e1 e2
      exact e2.symm
    have b0 := hf.2.2
    refine .tcmp (.name (.tail _ (.head _)) (by walk_at "m") (.callName (.glob (gLen B) (.withB (.itemsCons (.name (.tail _ (.head _)) (by walk_at "m") (.itemsNil (.lenM (fun t0 => .ltI ⟨_, rfl, ?_⟩) (by omega)))))))))
    refine ite_pos (by simp; omega) ?_
    refine .sCons (.sAssign (.sub (.name (.tail _ (.head _)) (by walk_at "m") (.name (.tail _ (.head _)) (by walk_at "m") (.itemM (by omega) (by omega) (by rw [Int.toNat_natCast]; exact hpc) fun t2 => .stl (.there .here) (by walk_at "ul") ?_)))))
    refine .sCons (.sAug (.ldl (.tail _ (.head _)) (by walk_at "m") (.cInt fun t3 => .iaddI fun t4 => .stl (.there .here) (by walk_at "ul") ?_)))
    rw [show ((k : Int) + 1) = ((k + 1 : Nat) : Int) from by omega]
    refine .sCons (.sIfSign 40 (.tail _ (.head _)) (by walk_at "m") (ite_neg (by decide) ?_))
    refine .sCons (.sIfSign 124 (.tail _ (.head _)) (by walk_at "m") (ite_neg (by decide) ?_))
    refine .sCons (.sIfSign 41 (.tail _ (.head _)) (by walk_at "m") (ite_neg (by decide) ?_))
    refine .sCons (.sIfSign 63 (.tail _ (.head _)) (by walk_at "m") (ite_pos rfl ?_))
    refine .sCons (.sSetSub (.cBool (.last (.last (.last (.name (.tail _ (.head _)) (by walk_at "m") ⟨_, _, _, rfl, .tail _ (.tail _ (.head _)), by rw [ogL_len]; omega, ⟨f.c, f.rs, .ref f.u, rfl, .tail _ (.tail _ (.tail _ (.head _))), by omega, ⟨f.u, f.items, .ref it, rfl, .tail _ (.tail _ (.tail _ (.tail _ (.head _)))), by omega, .cInt fun t5 => .setItemL (k := 2) .here (by decide) (by simp) (by decide) ?_⟩⟩⟩))))))
    rw [← hq1] at hrun
    have hD : ∀ x ∈ D, x ∈ ((it, Cell.list [.str (Str.ofString "group") t1, .ref c, .bool true]) :: D) := fun _ h => .tail _ h
    refine .sNil (.sNil (.sNil (.sNil (.perm (.sNil ⟨p.length - (k + 1), _, by omega, .refl _, .inl ⟨k + 1, t4, some (.str (mk [63]) t2), vg, vl, ⟨f.c, f.u, f.rs, f.items ++ [Value.ref it]⟩ :: fs, (it, .list [.str (Str.ofString "group") t1, .ref c, .bool true]) :: D, j + 1, _, rfl, by omega, rfl, hrun, .cons ⟨hf.1.mono (fun v f h => h.mono (Nat.le_succ _) hD) hD, ?_, (by show f.rs.length ≤ _; omega), by simp; omega⟩ (hfs.mono (Nat.le_succ _) hD (by omega)), by simp; omega⟩⟩) (List.perm_middle (l₁ := (L, _) :: (og, _) :: fmCells (⟨f.c, f.u, f.rs, f.items ++ [Value.ref it]⟩ :: fs)) (l₂ := D ++ S) (a := (it, Cell.list [.str (Str.ofString "group") t1, .ref c, .bool true]))).symm))))
    refine (hf.2.1.mono fun v f h => h.mono (Nat.le_succ _) hD).snoc (.inr ⟨it, t1, c, true, rows, hh, rfl, .head _, hrl, .tail _ hcm, hch.mono (fun v f h => h.mono (Nat.le_refl _) hD) hD, rfl⟩) hbd
end
end Mine
-- part C15
namespace Mine
open PySem PySem.Calls PySem.W PyProof.Rows
local macro_rules | `(tactic| walk_at "m") => `(tactic| first | exact List.Mem.head _ | exact List.Mem.tail _ (List.Mem.head _) | exact List.Mem.tail _ (List.Mem.tail _ (List.Mem.head _)) | exact List.Mem.tail _ (List.Mem.tail _ (List.Mem.tail _ (List.Mem.head _))) | exact List.Mem.tail _ (List.Mem.tail _ (List.Mem.tail _ (List.Mem.tail _ (List.Mem.head _)))) | exact List.Mem.tail _ (List.Mem.tail _ (List.Mem.tail _ (List.Mem.tail _ (List.Mem.tail _ (List.Mem.head _))))) | exact List.Mem.tail _ (List.Mem.tail _ (List.Mem.tail _ (List.Mem.tail _ (List.Mem.tail _ (List.Mem.tail _ (List.Mem.head _)))))) | exact List.Mem.tail _ (List.Mem.tail _ (List.Mem.tail _ (List.Mem.tail _ (List.Mem.tail _ (List.Mem.tail _ (List.Mem.tail _ (List.Mem.head _))))))) | exact List.Mem.tail _ (List.Mem.tail _ (List.Mem.tail _ (List.Mem.tail _ (List.Mem.tail _ (List.Mem.tail _ (List.Mem.tail _ (List.Mem.tail _ (List.Mem.head _)))))))) | exact List.Mem.tail _ (List.Mem.tail _ (List.Mem.tail _ (List.Mem.tail _ (List.Mem.tail _ (List.Mem.tail _ (List.Mem.tail _ (List.Mem.tail _ (List.Mem.tail _ (List.Mem.head _))))))))) | exact List.Mem.tail _ (List.Mem.tail _ (List.Mem.tail _ (List.Mem.tail _ (List.Mem.tail _ (List.Mem.tail _ (List.Mem.tail _ (List.Mem.tail _ (List.Mem.tail _ (List.Mem.tail _ (List.Mem.head _)))))))))) | exact List.Mem.tail _ (List.Mem.tail _ (List.Mem.tail _ (List.Mem.tail _ (List.Mem.tail _ (List.Mem.tail _ (List.Mem.tail _ (List.Mem.tail _ (List.Mem.tail _ (List.Mem.tail _ (List.Mem.tail _ (List.Mem.head _))))))))))) | exact List.Mem.tail _ (List.Mem.tail _ (List.Mem.tail _ (List.Mem.tail _ (List.Mem.tail _ (List.Mem.tail _ (List.Mem.tail _ (List.Mem.tail _ (List.Mem.tail _ (List.Mem.tail _ (List.Mem.tail _ (List.Mem.tail _ (List.Mem.head _)))))))))))) | exact List.Mem.tail _ (List.Mem.tail _ (List.Mem.tail _ (List.Mem.tail _ (List.Mem.tail _ (List.Mem.tail _ (List.Mem.tail _ (List.Mem.tail _ (List.Mem.tail _ (List.Mem.tail _ (List.Mem.tail _ (List.Mem.tail _ (List.Mem.tail _ (List.Mem.head _))))))))))))) | exact List.Mem.tail _ (List.Mem.tail _ (List.Mem.tail _ (List.Mem.tail _ (List.Mem.tail _ (List.Mem.tail _ (List.Mem.tail _ (List.Mem.tail _ (List.Mem.tail _ (List.Mem.tail _ (List.Mem.tail _ (List.Mem.tail _ (List.Mem.tail _ (List.Mem.tail _ (List.Mem.head _)))))))))))))) | exact List.Mem.tail _ (List.Mem.tail _ (List.Mem.tail _ (List.Mem.tail _ (List.Mem.tail _ (List.Mem.tail _ (List.Mem.tail _ (List.Mem.tail _ (List.Mem.tail _ (List.Mem.tail _ (List.Mem.tail _ (List.Mem.tail _ (List.Mem.tail _ (List.Mem.tail _ (List.Mem.tail _ (List.Mem.head _))))))))))))))) | exact List.Mem.tail _ (List.Mem.tail _ (List.Mem.tail _ (List.Mem.tail _ (List.Mem.tail _ (List.Mem.tail _ (List.Mem.tail _ (List.Mem.tail _ (List.Mem.tail _ (List.Mem.tail _ (List.Mem.tail _ (List.Mem.tail _ (List.Mem.tail _ (List.Mem.tail _ (List.Mem.tail _ (List.Mem.tail _ (List.Mem.head _)))))))))))))))) | exact List.Mem.tail _ (List.Mem.tail _ (List.Mem.tail _ (List.Mem.tail _ (List.Mem.tail _ (List.Mem.tail _ (List.Mem.tail _ (List.Mem.tail _ (List.Mem.tail _ (List.Mem.tail _ (List.Mem.tail _ (List.Mem.tail _ (List.Mem.tail _ (List.Mem.tail _ (List.Mem.tail _ (List.Mem.tail _ (List.Mem.tail _ (List.Mem.head _))))))))))))))))) | exact List.Mem.tail _ (List.Mem.tail _ (List.Mem.tail _ (List.Mem.tail _ (List.Mem.tail _ (List.Mem.tail _ (List.Mem.tail _ (List.Mem.tail _ (List.Mem.tail _ (List.Mem.tail _ (List.Mem.tail _ (List.Mem.tail _ (List.Mem.tail _ (List.Mem.tail _ (List.Mem.tail _ (List.Mem.tail _ (List.Mem.tail _ (List.Mem.tail _ (List.Mem.head _)))))))))))))))))) | exact List.Mem.tail _ (List.Mem.tail _ (List.Mem.tail _ (List.Mem.tail _ (List.Mem.tail _ (List.Mem.tail _ (List.Mem.tail _ (List.Mem.tail _ (List.Mem.tail _ (List.Mem.tail _ (List.Mem.tail _ (List.Mem.tail _ (List.Mem.tail _ (List.Mem.tail _ (List.Mem.tail _ (List.Mem.tail _ (List.Mem.tail _ (List.Mem.tail _ (List.Mem.tail _ (List.Mem.head _))))))))))))))))))) | exact List.Mem.tail _ (List.Mem.tail _ (List.Mem.tail _ (List.Mem.tail _ (List.Mem.tail _ (List.Mem.tail _ (List.Mem.tail _ (List.Mem.tail _ (List.Mem.tail _ (List.Mem.tail _ (List.Mem.tail _ (List.Mem.tail _ (List.Mem.tail _ (List.Mem.tail _ (List.Mem.tail _ (List.Mem.tail _ (List.Mem.tail _ (List.Mem.tail _ (List.Mem.tail _ (List.Mem.tail _ (List.Mem.head _)))))))))))))))))))) | exact List.Mem.tail _ (List.Mem.tail _ (List.Mem.tail _ (List.Mem.tail _ (List.Mem.tail _ (List.Mem.tail _ (List.Mem.tail _ (List.Mem.tail _ (List.Mem.tail _ (List.Mem.tail _ (List.Mem.tail _ (List.Mem.tail _ (List.Mem.tail _ (List.Mem.tail _ (List.Mem.tail _ (List.Mem.tail _ (List.Mem.tail _ (List.Mem.tail _ (List.Mem.tail _ (List.Mem.tail _ (List.Mem.tail _ (List.Mem.head _))))))))))))))))))))) | exact List.Mem.tail _ (List.Mem.tail _ (List.Mem.tail _ (List.Mem.tail _ (List.Mem.tail _ (List.Mem.tail _ (List.Mem.tail _ (List.Mem.tail _ (List.Mem.tail _ (List.Mem.tail _ (List.Mem.tail _ (List.Mem.tail _ (List.Mem.tail _ (List.Mem.tail _ (List.Mem.tail _ (List.Mem.tail _ (List.Mem.tail _ (List.Mem.tail _ (List.Mem.tail _ (List.Mem.tail _ (List.Mem.tail _ (List.Mem.tail _ (List.Mem.head _)))))))))))))))))))))) | exact List.Mem.tail _ (List.Mem.tail _ (List.Mem.tail _ (List.Mem.tail _ (List.Mem.tail _ (List.Mem.tail _ (List.Mem.tail _ (List.Mem.tail _ (List.Mem.tail _ (List.Mem.tail _ (List.Mem.tail _ (List.Mem.tail _ (List.Mem.tail _ (List.Mem.tail _ (List.Mem.tail _ (List.Mem.tail _ (List.Mem.tail _ (List.Mem.tail _ (List.Mem.tail _ (List.Mem.tail _ (List.Mem.tail _ (List.Mem.tail _ (List.Mem.tail _ (List.Mem.head _))))))))))))))))))))))))
local macro_rules | `(tactic| walk_at "u") => `(tactic| first | exact Upd.here | exact Upd.there (Upd.here) | exact Upd.there (Upd.there (Upd.here)) | exact Upd.there (Upd.there (Upd.there (Upd.here))) | exact Upd.there (Upd.there (Upd.there (Upd.there (Upd.here)))) | exact Upd.there (Upd.there (Upd.there (Upd.there (Upd.there (Upd.here))))) | exact Upd.there (Upd.there (Upd.there (Upd.there (Upd.there (Upd.there (Upd.here)))))) | exact Upd.there (Upd.there (Upd.there (Upd.there (Upd.there (Upd.there (Upd.there (Upd.here))))))) | exact Upd.there (Upd.there (Upd.there (Upd.there (Upd.there (Upd.there (Upd.there (Upd.there (Upd.here)))))))) | exact Upd.there (Upd.there (Upd.there (Upd.there (Upd.there (Upd.there (Upd.there (Upd.there (Upd.there (Upd.here))))))))) | exact Upd.there (Upd.there (Upd.there (Upd.there (Upd.there (Upd.there (Upd.there (Upd.there (Upd.there (Upd.there (Upd.here)))))))))) | exact Upd.there (Upd.there (Upd.there (Upd.there (Upd.there (Upd.there (Upd.there (Upd.there (Upd.there (Upd.there (Upd.there (Upd.here))))))))))) | exact Upd.there (Upd.there (Upd.there (Upd.there (Upd.there (Upd.there (Upd.there (Upd.there (Upd.there (Upd.there (Upd.there (Upd.there (Upd.here)))))))))))) | exact Upd.there (Upd.there (Upd.there (Upd.there (Upd.there (Upd.there (Upd.there (Upd.there (Upd.there (Upd.there (Upd.there (Upd.there (Upd.there (Upd.here))))))))))))) | exact Upd.there (Upd.there (Upd.there (Upd.there (Upd.there (Upd.there (Upd.there (Upd.there (Upd.there (Upd.there (Upd.there (Upd.there (Upd.there (Upd.there (Upd.here)))))))))))))) | exact Upd.there (Upd.there (Upd.there (Upd.there (Upd.there (Upd.there (Upd.there (Upd.there (Upd.there (Upd.there (Upd.there (Upd.there (Upd.there (Upd.there (Upd.there (Upd.here))))))))))))))) | exact Upd.there (Upd.there (Upd.there (Upd.there (Upd.there (Upd.there (Upd.there (Upd.there (Upd.there (Upd.there (Upd.there (Upd.there (Upd.there (Upd.there (Upd.there (Upd.there (Upd.here)))))))))))))))) | exact Upd.there (Upd.there (Upd.there (Upd.there (Upd.there (Upd.there (Upd.there (Upd.there (Upd.there (Upd.there (Upd.there (Upd.there (Upd.there (Upd.there (Upd.there (Upd.there (Upd.there (Upd.here))))))))))))))))) | exact Upd.there (Upd.there (Upd.there (Upd.there (Upd.there (Upd.there (Upd.there (Upd.there (Upd.there (Upd.there (Upd.there (Upd.there (Upd.there (Upd.there (Upd.there (Upd.there (Upd.there (Upd.there (Upd.here)))))))))))))))))) | exact Upd.there (Upd.there (Upd.there (Upd.there (Upd.there (Upd.there (Upd.there (Upd.there (Upd.there (Upd.there (Upd.there (Upd.there (Upd.there (Upd.there (Upd.there (Upd.there (Upd.there (Upd.there (Upd.there (Upd.here))))))))))))))))))) | exact Upd.there (Upd.there (Upd.there (Upd.there (Upd.there (Upd.there (Upd.there (Upd.there (Upd.there (Upd.there (Upd.there (Upd.there (Upd.there (Upd.there (Upd.there (Upd.there (Upd.there (Upd.there (Upd.there (Upd.there (Upd.here)))))))))))))))))))) | exact Upd.there (Upd.there (Upd.there (Upd.there (Upd.there (Upd.there (Upd.there (Upd.there (Upd.there (Upd.there (Upd.there (Upd.there (Upd.there (Upd.there (Upd.there (Upd.there (Upd.there (Upd.there (Upd.there (Upd.there (Upd.there (Upd.here))))))))))))))))))))) | exact Upd.there (Upd.there (Upd.there (Upd.there (Upd.there (Upd.there (Upd.there (Upd.there (Upd.there (Upd.there (Upd.there (Upd.there (Upd.there (Upd.there (Upd.there (Upd.there (Upd.there (Upd.there (Upd.there (Upd.there (Upd.there (Upd.there (Upd.here)))))))))))))))))))))) | exact Upd.there (Upd.there (Upd.there (Upd.there (Upd.there (Upd.there (Upd.there (Upd.there (Upd.there (Upd.there (Upd.there (Upd.there (Upd.there (Upd.there (Upd.there (Upd.there (Upd.there (Upd.there (Upd.there (Upd.there (Upd.there (Upd.there (Upd.there (Upd.here))))))))))))))))))))))))
local macro_rules | `(tactic| walk_at "ul") => `(tactic| first | exact UpdL.here | exact UpdL.there (UpdL.here) | exact UpdL.there (UpdL.there (UpdL.here)) | exact UpdL.there (UpdL.there (UpdL.there (UpdL.here))) | exact UpdL.there (UpdL.there (UpdL.there (UpdL.there (UpdL.here)))) | exact UpdL.there (UpdL.there (UpdL.there (UpdL.there (UpdL.there (UpdL.here))))) | exact UpdL.there (UpdL.there (UpdL.there (UpdL.there (UpdL.there (UpdL.there (UpdL.here)))))) | exact UpdL.there (UpdL.there (UpdL.there (UpdL.there (UpdL.there (UpdL.there (UpdL.there (UpdL.here))))))) | exact UpdL.there (UpdL.there (UpdL.there (UpdL.there (UpdL.there (UpdL.there (UpdL.there (UpdL.there (UpdL.here)))))))) | exact UpdL.there (UpdL.there (UpdL.there (UpdL.there (UpdL.there (UpdL.there (UpdL.there (UpdL.there (UpdL.there (UpdL.here))))))))) | exact UpdL.there (UpdL.there (UpdL.there (UpdL.there (UpdL.there (UpdL.there (UpdL.there (UpdL.there (UpdL.there (UpdL.there (UpdL.here)))))))))) | exact UpdL.there (UpdL.there (UpdL.there (UpdL.there (UpdL.there (UpdL.there (UpdL.there (UpdL.there (UpdL.there (UpdL.there (UpdL.there (UpdL.here))))))))))) | exact UpdL.there (UpdL.there (UpdL.there (UpdL.there (UpdL.there (UpdL.there (UpdL.there (UpdL.there (UpdL.there (UpdL.there (UpdL.there (UpdL.there (UpdL.here)))))))))))) | exact UpdL.there (UpdL.there (UpdL.there (UpdL.there (UpdL.there (UpdL.there (UpdL.there (UpdL.there (UpdL.there (UpdL.there (UpdL.there (UpdL.there (UpdL.there (UpdL.here))))))))))))))
local macro_rules | `(tactic| walk_at "d") => `(tactic| first | exact Del.here | exact Del.there (Del.here) | exact Del.there (Del.there (Del.here)) | exact Del.there (Del.there (Del.there (Del.here))) | exact Del.there (Del.there (Del.there (Del.there (Del.here)))) | exact Del.there (Del.there (Del.there (Del.there (Del.there (Del.here))))) | exact Del.there (Del.there (Del.there (Del.there (Del.there (Del.there (Del.here)))))) | exact Del.there (Del.there (Del.there (Del.there (Del.there (Del.there (Del.there (Del.here))))))) | exact Del.there (Del.there (Del.there (Del.there (Del.there (Del.there (Del.there (Del.there (Del.here)))))))) | exact Del.there (Del.there (Del.there (Del.there (Del.there (Del.there (Del.there (Del.there (Del.there (Del.here))))))))) | exact Del.there (Del.there (Del.there (Del.there (Del.there (Del.there (Del.there (Del.there (Del.there (Del.there (Del.here)))))))))) | exact Del.there (Del.there (Del.there (Del.there (Del.there (Del.there (Del.there (Del.there (Del.there (Del.there (Del.there (Del.here))))))))))) | exact Del.there (Del.there (Del.there (Del.there (Del.there (Del.there (Del.there (Del.there (Del.there (Del.there (Del.there (Del.there (Del.here)))))))))))) | exact Del.there (Del.there (Del.there (Del.there (Del.there (Del.there (Del.there (Del.there (Del.there (Del.there (Del.there (Del.there (Del.there (Del.here))))))))))))) | exact Del.there (Del.there (Del.there (Del.there (Del.there (Del.there (Del.there (Del.there (Del.there (Del.there (Del.there (Del.there (Del.there (Del.there (Del.here)))))))))))))) | exact Del.there (Del.there (Del.there (Del.there (Del.there (Del.there (Del.there (Del.there (Del.there (Del.there (Del.there (Del.there (Del.there (Del.there (Del.there (Del.here))))))))))))))) | exact Del.there (Del.there (Del.there (Del.there (Del.there (Del.there (Del.there (Del.there (Del.there (Del.there (Del.there (Del.there (Del.there (Del.there (Del.there (Del.there (Del.here)))))))))))))))) | exact Del.there (Del.there (Del.there (Del.there (Del.there (Del.there (Del.there (Del.there (Del.there (Del.there (Del.there (Del.there (Del.there (Del.there (Del.there (Del.there (Del.there (Del.here))))))))))))))))) | exact Del.there (Del.there (Del.there (Del.there (Del.there (Del.there (Del.there (Del.there (Del.there (Del.there (Del.there (Del.there (Del.there (Del.there (Del.there (Del.there (Del.there (Del.there (Del.here)))))))))))))))))) | exact Del.there (Del.there (Del.there (Del.there (Del.there (Del.there (Del.there (Del.there (Del.there (Del.there (Del.there (Del.there (Del.there (Del.there (Del.there (Del.there (Del.there (Del.there (Del.there (Del.here))))))))))))))))))) | exact Del.there (Del.there (Del.there (Del.there (Del.there (Del.there (Del.there (Del.there (Del.there (Del.there (Del.there (Del.there (Del.there (Del.there (Del.there (Del.there (Del.there (Del.there (Del.there (Del.there (Del.here)))))))))))))))))))) | exact Del.there (Del.there (Del.there (Del.there (Del.there (Del.there (Del.there (Del.there (Del.there (Del.there (Del.there (Del.there (Del.there (Del.there (Del.there (Del.there (Del.there (Del.there (Del.there (Del.there (Del.there (Del.here))))))))))))))))))))) | exact Del.there (Del.there (Del.there (Del.there (Del.there (Del.there (Del.there (Del.there (Del.there (Del.there (Del.there (Del.there (Del.there (Del.there (Del.there (Del.there (Del.there (Del.there (Del.there (Del.there (Del.there (Del.there (Del.here)))))))))))))))))))))) | exact Del.there (Del.there (Del.there (Del.there (Del.there (Del.there (Del.there (Del.there (Del.there (Del.there (Del.there (Del.there (Del.there (Del.there (Del.there (Del.there (Del.there (Del.there (Del.there (Del.there (Del.there (Del.there (Del.there (Del.here))))))))))))))))))))))))
local macro_rules | `(tactic| walk_at "s") => `(tactic| repeat (first | exact List.Sublist.refl _ | exact List.nil_sublist _ | refine List.Sublist.cons_cons _ ?_ | refine List.Sublist.cons _ ?_))
local macro_rules | `(tactic| walk_at "h") => `(tactic| repeat (first | assumption | exact List.Mem.head _ | refine List.Mem.tail _ ?_))
/-- a list of whole numbers -/
def NL (vs : List Value) (ks : List Nat) : Prop := vs.length = ks.length ∧ ∀ (i : Nat) (k : Nat), ks[i]? = some k → ∃ t, vs[i]? = some (Value.int (k : Int) t)
theorem NL.nil : NL [] [] := ⟨rfl, fun i k h => by simp at h⟩
theorem NL.snoc {vs ks k t} (h : NL vs ks) : NL (vs ++ [Value.int ((k : Nat) : Int) t]) (ks ++ [k]) := by
  refine ⟨by simp [h.1], fun i k' hk => ?_⟩
  rcases Nat.lt_or_ge i ks.length with hi | hi
  · rw [List.getElem?_append_left hi] at hk
    obtain ⟨u, hu⟩ := h.2 i k' hk
    exact ⟨u, by rw [List.getElem?_append_left (by rw [h.1]; exact hi)]; exact hu⟩
  · rw [List.getElem?_append_right hi] at hk
    cases e : i - ks.length with
    | zero =>
      rw [e] at hk
      simp at hk
      subst hk
      exact ⟨t, by rw [List.getElem?_append_right (by rw [h.1]; exact hi), h.1, e]; rfl⟩
    | succ m => rw [e] at hk; simp at hk
theorem NL.append {vs ks vs' ks'} (h : NL vs ks) (h' : NL vs' ks') : NL (vs ++ vs') (ks ++ ks') := by
  refine ⟨by simp [h.1, h'.1], fun i k hk => ?_⟩
  rcases Nat.lt_or_ge i ks.length with hi | hi
  · rw [List.getElem?_append_left hi] at hk
    obtain ⟨u, hu⟩ := h.2 i k hk
    exact ⟨u, by rw [List.getElem?_append_left (by rw [h.1]; exact hi)]; exact hu⟩
  · rw [List.getElem?_append_right hi] at hk
    obtain ⟨u, hu⟩ := h'.2 _ k hk
    exact ⟨u, by rw [List.getElem?_append_right (by rw [h.1]; exact hi), h.1]; exact hu⟩
theorem NL.get {vs : List Value} {ks : List Nat} {i : Nat} {v : Value} (h : NL vs ks) (hv : vs[i]? = some v) : ∃ k t, ks[i]? = some k ∧ v = Value.int ((k : Nat) : Int) t := by
  have hi : i < ks.length := by
    rw [← h.1]
    exact (List.getElem?_eq_some_iff.mp hv).1
  obtain ⟨t, ht⟩ := h.2 i ks[i] (List.getElem?_eq_getElem hi)
  rw [hv] at ht
  exact ⟨ks[i], t, List.getElem?_eq_getElem hi, by injection ht⟩
theorem fold_take (op : Wy → Wy → Wy) (z : Wy) (fs : List Wy) (i : Nat) (f : Wy) (h : fs[i]? = some f) : (fs.take (i + 1)).foldl op z = op ((fs.take i).foldl op z) f := by
  rw [List.take_add_one, h, List.foldl_append]; rfl
/-- what stands in «further» after i of the ends -/
def parts (f : Wy) (t : List Nat) (l : List Nat) : List Nat := l.flatMap fun k => (f (t.drop k)).map (k + ·)
theorem seqS_at (f g : Wy) (t : List Nat) : seqS f g t = parts g t (f t) := rfl
theorem altS_at (f g : Wy) (t : List Nat) : altS f g t = f t ++ g t := rfl
theorem parts_snoc (f : Wy) (t l : List Nat) (k : Nat) : parts f t (l ++ [k]) = parts f t l ++ (f (t.drop k)).map (k + ·) := by simp [parts]
theorem parts_le (f : Wy) (t l : List Nat) (i : Nat) : (parts f t (l.take i)).length ≤ (parts f t l).length := by
  have : parts f t l = parts f t (l.take i) ++ parts f t (l.drop i) := by
    unfold parts
    rw [← List.flatMap_append, List.take_append_drop]
  rw [this, List.length_append]; omega
def WaysOk (n : Nat) : Prop := ∀ {C : Cx} {A : Around} {S D : St} {c : Addr} {rows : List Value} {G : Wy} {txt : List Nat} {tt tp : Tok} {pl : Nat} {Q : Value → St → Prop},
  Base C → Room A (n + 2) → ChI (ItemAt n D) D rows G → rows.length ≤ 900 → (c, Cell.list rows) ∈ D → (∀ x ∈ D, x ∈ S) → txt.length ≤ 100 →
  (∀ r vs, NL vs ((G (txt.drop pl)).map (pl + ·)) → Q (.ref r) ((r, .list vs) :: S)) → W C A S (call (.ref 202) [.ref c, .str (mk txt) tt, .int (pl : Int) tp]) Q NoE
section
variable {C : Cx} {A : Around} {S : St} {E : Value → Shared → Prop} {env : Env}
theorem fWays (B : Base C) : FnIs C 202 xWays.1 := B.fn xWays fun P => ⟨_, _, _, _, rfl, rfl, rfl, rfl⟩
theorem gWays (B : Base C) : GlobalIs C (Str.ofString "_law_ways") (.ref 202) := B.glob (by intro P; kernel_rfl)
def nsW (c : Addr) (txt : List Nat) (tt : Tok) (pl : Nat) (tp : Tok) (fo ro en ki wh fr fu ed : Option Value) : List (Str × Option Value) :=
  [(Str.ofString "choices", some (.ref c)), (Str.ofString "text", some (.str (mk txt) tt)), (Str.ofString "place", some (.int pl tp)), (Str.ofString "found", fo), (Str.ofString "row", ro), (Str.ofString "ends", en), (Str.ofString "kind", ki), (Str.ofString "what", wh), (Str.ofString "free", fr), (Str.ofString "further", fu), (Str.ofString "end", ed)]
theorem ways_step (n : Nat) (rec : ∀ m, m + 1 = n → WaysOk m) : WaysOk n := by
  intro C A S D c rows G txt tt tp pl Q B R hch hrl hcm hD htl h
  refine .callDef (n := n + 1) (binds := [(Str.ofString "choices", .ref c), (Str.ofString "text", .str (mk txt) tt), (Str.ofString "place", .int pl tp)]) [Str.ofString "choices", Str.ofString "text", Str.ofString "place"]
    [Str.ofString "found", Str.ofString "row", Str.ofString "ends", Str.ofString "kind", Str.ofString "what", Str.ofString "free", Str.ofString "further", Str.ofString "end"] (fWays B) R rfl (fun s G => .of_eq rfl) (by decide) (by decide) (by decide) ?_
  intro L R1
  obtain ⟨Fs, hpw, rfl, hbd⟩ := hch
  refine .sCons (.sAssign (.mkList (.itemsNil ⟨by decide, fun fo => .stl (by walk_at "u") (by walk_at "ul") ?_⟩)))
  refine .sCons (.sFor (.name (by walk_at "m") (by walk_at "m") (.iterL (vs := rows) (.tail _ (.tail _ (hD _ hcm))) fun it => ?_)))
  refine ⟨rows.length, _, _, _, _, _, fun i S' => ∃ ro en ki wh fr fu ed vsf, NL vsf ((((Fs.take i).foldl altS noS) (txt.drop pl)).map (pl + ·)) ∧ S' = (fo, .list vsf) :: (L, .ns (nsW c txt tt pl tp (some (.ref fo)) ro en ki wh fr fu ed)) :: S,
    Iter.list (l := c) (vs := rows) (it := it) R1.handled, ?_, rfl, .refl _, ⟨_, _, _, _, _, _, _, _, .nil, rfl⟩⟩
  constructor
  · rintro i S' ⟨ro, en, ki, wh, fr, fu, ed, vsf, h1, rfl⟩
    exact .tail _ (.tail _ (hD _ hcm))
  · rintro i hin v Y S' ⟨hv, rfl⟩ ⟨ro, en, ki, wh, fr, fu, ed, vsf, hnl, rfl⟩
    obtain ⟨F, hF, a, items, rfl, hil, ham, fs, hpw2, rfl, hbd2⟩ := hpw.2 i v hv
    refine .goName (.asName (.stl (by walk_at "u") (by walk_at "ul") ?_))
    refine .sCons (.sAssign (.mkList (.itemsCons (.name (by walk_at "m") (by walk_at "m") (.itemsNil ⟨z1 _, fun en => .stl (by walk_at "u") (by walk_at "ul") ?_⟩)))))
    refine .sCons (.sFor (.name (by walk_at "m") (by walk_at "m") (.iterL (vs := items) (.tail _ (.tail _ (.tail _ (.tail _ (hD _ ham))))) fun it2 => ?_)))
    refine ⟨items.length, _, _, _, _, _, fun i2 S'' => ∃ en ki wh fr fu ed vse, NL vse ((((fs.take i2).foldl seqS idS) (txt.drop pl)).map (pl + ·)) ∧ S'' = (en, .list vse) :: (it, liCell c (i + 1)) :: (fo, .list vsf) :: (L, .ns (nsW c txt tt pl tp (some (.ref fo)) (some (.ref a)) (some (.ref en)) ki wh fr fu ed)) :: S,
      Iter.list (l := a) (vs := items) (it := it2) R1.handled, ?_, rfl, .refl _, ⟨en, _, _, _, _, _, _, by simpa [idS] using (NL.nil.snoc (k := pl) (t := tp)), rfl⟩⟩
    clear en ki wh fr fu ed
    constructor
    · rintro i2 S'' ⟨en, ki, wh, fr, fu, ed, vse, h1, rfl⟩
      exact .tail _ (.tail _ (.tail _ (.tail _ (hD _ ham))))
    · rintro i2 hi2 v Y S'' ⟨hv2, rfl⟩ ⟨en, ki, wh, fr, fu, ed, vse, hnl2, rfl⟩
      obtain ⟨f, hf, hit⟩ := hpw2.2 i2 v hv2
      have hb0 := hbd2 i2 (txt.drop pl)
      have hb1 := hbd2 (i2 + 1) (txt.drop pl)
      rw [fold_take seqS idS fs i2 f hf, seqS_at] at hb1
      generalize hLk : ((fs.take i2).foldl seqS idS) (txt.drop pl) = Lk at *
      have hvl : vse.length ≤ 40 := by rw [hnl2.1, List.length_map]; exact hb0
      obtain ⟨a2, kd, wt, fr0, g, rfl, ha2, rfl, hcase⟩ : ∃ a2 kd wt fr0 g, v = Value.ref a2 ∧ (a2, Cell.list [kd, wt, .bool fr0]) ∈ D ∧ f = optS fr0 g ∧
          ((∃ t1 t2 cs, kd = .str (Str.ofString "letters") t1 ∧ wt = .str (mk cs) t2 ∧ g = letS cs) ∨
           (∃ t1 c2 rows2 m, kd = .str (Str.ofString "group") t1 ∧ wt = .ref c2 ∧ m + 1 = n ∧ rows2.length ≤ 900 ∧ (c2, Cell.list rows2) ∈ D ∧ ChI (ItemAt m D) D rows2 g)) := by
        cases n with
        | zero =>
          obtain ⟨a2, t1, cs, t2, fr, e, m1, l, q⟩ := hit
          exact ⟨a2, _, _, fr, letS cs, e, m1, q, .inl ⟨t1, t2, cs, rfl, rfl, rfl⟩⟩
        | succ m =>
          rcases hit with ⟨a2, t1, cs, t2, fr, e, m1, l, q⟩ | ⟨a2, t1, c2, fr, rows2, g, e, q1, q2, q3, q4, q5⟩
          · exact ⟨a2, _, _, fr, letS cs, e, m1, q, .inl ⟨t1, t2, cs, rfl, rfl, rfl⟩⟩
          · exact ⟨a2, _, _, fr, g, e, q1, q5, .inr ⟨t1, c2, rows2, m, rfl, rfl, rfl, q2, q3, q4⟩⟩
      refine .goList (.head _) ?_
      refine .asTuple (.unpL R1.handled (.tail _ (.tail _ (.tail _ (.tail _ (.tail _ (hD _ ha2)))))) rfl ?_)
      refine .aioCons (.asName (.stl (by walk_at "u") (by walk_at "ul") ?_))
      refine .aioCons (.asName (.stl (by walk_at "u") (by walk_at "ul") ?_))
      refine .aioCons (.asName (.stl (by walk_at "u") (by walk_at "ul") (.aioNil ?_)))
      refine .sCons (.sAssign (.mkList (.itemsNil ⟨by decide, fun fu => .stl (by walk_at "u") (by walk_at "ul") ?_⟩)))
      refine .sCons (.sFor (.name (by walk_at "m") (by walk_at "m") (.iterL (vs := vse) (.tail _ (.tail _ (.head _))) fun it3 => ?_)))
      refine ⟨vse.length, _, _, _, _, _, fun i3 S3 => ∃ ed vfu, NL vfu ((parts (optS fr0 g) (txt.drop pl) (Lk.take i3)).map (pl + ·)) ∧ S3 = (fu, .list vfu) :: (it2, liCell a (i2 + 1)) :: (en, .list vse) :: (it, liCell c (i + 1)) :: (fo, .list vsf) :: (L, .ns (nsW c txt tt pl tp (some (.ref fo)) (some (.ref a)) (some (.ref en)) (some kd) (some wt) (some (.bool fr0)) (some (.ref fu)) ed)) :: S,
        Iter.list (l := en) (vs := vse) (it := it3) R1.handled, ?_, rfl, .refl _, ⟨_, _, by simpa [parts] using NL.nil, rfl⟩⟩
      constructor
      · rintro i3 S3 ⟨ed, vfu, h1, rfl⟩
        exact .tail _ (.tail _ (.head _))
      · rintro i3 hi3 v Y S3 ⟨hv3, rfl⟩ ⟨ed, vfu, hnl3, rfl⟩
        obtain ⟨k', tk, hk', rfl⟩ := hnl2.get hv3
        obtain ⟨k, hk, rfl⟩ : ∃ k, Lk[i3]? = some k ∧ pl + k = k' := by
          rw [List.getElem?_map] at hk'
          cases e : Lk[i3]? with
          | none => rw [e] at hk'; cases hk'
          | some k => rw [e] at hk'; exact ⟨k, rfl, by simpa using hk'⟩
        have ep : parts (optS fr0 g) (txt.drop pl) (Lk.take (i3 + 1)) = parts (optS fr0 g) (txt.drop pl) (Lk.take i3) ++ ((g (txt.drop (pl + k))).map (k + ·) ++ (if fr0 then [k] else [])) := by
          rw [List.take_add_one, hk]
          show parts _ _ (Lk.take i3 ++ [k]) = _
          rw [parts_snoc, List.drop_drop]
          congr 1
          unfold optS
          cases fr0 <;> simp
        have hpl1 := parts_le (optS fr0 g) (txt.drop pl) Lk (i3 + 1)
        rw [ep, List.length_append, List.length_append, List.length_map] at hpl1
        have hvf : vfu.length = (parts (optS fr0 g) (txt.drop pl) (Lk.take i3)).length := by rw [hnl3.1, List.length_map]
        refine .goName (.asName (.stl (by walk_at "u") (by walk_at "ul") ?_))
        refine .sCons (.mono (Q := fun fl S' => fl = .next ∧ ∃ vfu', NL vfu' ((parts (optS fr0 g) (txt.drop pl) (Lk.take i3) ++ (g (txt.drop (pl + k))).map (k + ·)).map (pl + ·)) ∧
          List.Sublist ((it3, liCell en (i3 + 1)) :: (fu, .list vfu') :: (it2, liCell a (i2 + 1)) :: (en, .list vse) :: (it, liCell c (i + 1)) :: (fo, .list vsf) :: (L, .ns (nsW c txt tt pl tp (some (.ref fo)) (some (.ref a)) (some (.ref en)) (some kd) (some wt) (some (.bool fr0)) (some (.ref fu)) (some (.int (pl + k : Nat) tk)))) :: S) S') ?_ ?_)
        · rcases hcase with ⟨t1, t2, cs, rfl, rfl, rfl⟩ | ⟨t1, c2, rows2, m, rfl, rfl, hm, hr2, hc2, hch2⟩
          · refine .sIf (.tcmp (.name (by walk_at "m") (by walk_at "m") (.cStr fun t3 => .eqS ⟨_, rfl, ?_⟩)))
            refine ite_neg (by decide) ?_
            refine .sCons (.sIf (.tbool (.andCons (.tcmp (.name (by walk_at "m") (by walk_at "m") (.callName (.glob (gLen B) (.withB (.itemsCons (.name (by walk_at "m") (by walk_at "m") (.itemsNil (.lenM (fun t4 => .ltI ⟨_, rfl, ?_⟩) (by omega)))))))))))))
            by_cases hlt : pl + k < txt.length
            · refine ite_pos (by simp; omega) ?_
              have hx : txt[pl + k]? = some txt[pl + k] := List.getElem?_eq_getElem hlt
              have hdr : txt.drop (pl + k) = txt[pl + k] :: txt.drop (pl + k + 1) := List.drop_eq_getElem_cons hlt
              refine .andCons (.tcmp (.sub (.name (by walk_at "m") (by walk_at "m") (.name (by walk_at "m") (by walk_at "m") (.itemM (by omega) (by omega) (by rw [Int.toNat_natCast]; exact hx) fun t5 => .name (by walk_at "m") (by walk_at "m") (.inM ⟨_, rfl, ?_⟩))))))
              by_cases hin : txt[pl + k] ∈ cs
              · refine ite_pos (by simp [hin]) (.andNil ?_)
                refine ite_pos rfl ?_
                refine .sCons (.sAppend (.name (by walk_at "m") (by walk_at "m") ⟨_, rfl, ⟨_, .tail _ (.head _)⟩, .binop (.name (by walk_at "m") (by walk_at "m") (.cInt fun t6 => .addI fun t7 => ⟨_, _, .there .here, by omega, .sNil (.sNil ⟨rfl, _, ?_, .refl _⟩)⟩))⟩))
                have e : letS cs (txt.drop (pl + k)) = [1] := by rw [hdr]; simp [letS, hin]
                rw [e]
                have := hnl3.snoc (k := pl + k + 1) (t := t7)
                simpa [Nat.add_assoc, Int.add_assoc] using this
              · refine ite_neg (by simp [hin]) ?_
                refine ite_neg (by decide) (.sNil (.sNil ⟨rfl, _, ?_, .refl _⟩))
                have e : letS cs (txt.drop (pl + k)) = [] := by rw [hdr]; simp [letS, hin]
                rw [e]
                simpa using hnl3
            · refine ite_neg (by simp; omega) ?_
              refine ite_neg (by decide) (.sNil (.sNil ⟨rfl, _, ?_, .refl _⟩))
              have e : letS cs (txt.drop (pl + k)) = [] := by rw [List.drop_eq_nil_of_le (by omega)]; rfl
              rw [e]
              simpa using hnl3
          · refine .sIf (.tcmp (.name (by walk_at "m") (by walk_at "m") (.cStr fun t3 => .eqS ⟨_, rfl, ?_⟩)))
            refine ite_pos (by decide) ?_
            refine .sCons (.sAug (.ldl (by walk_at "m") (by walk_at "m") (.callName (.glob (gWays B) (.withFn (fWays B) (.itemsCons (.name (by walk_at "m") (by walk_at "m") (.itemsCons (.name (by walk_at "m") (by walk_at "m") (.itemsCons (.name (by walk_at "m") (by walk_at "m") (.itemsNil (rec m hm B (R1.mono (by omega)) hch2 hr2 hc2 (fun x hx => .tail _ (.tail _ (.tail _ (.tail _ (.tail _ (.tail _ (.tail _ (hD x hx)))))))) htl fun r vs' hnr => ?_)))))))))))))
            have hl' := hnr.1
            rw [List.length_map] at hl'
            refine .iaddL (.there (.there .here)) (.head _) (.stl (by walk_at "u") (by walk_at "ul") (.sNil ⟨rfl, _, ?_, .cons _ (.refl _)⟩)) (by omega)
            rw [List.map_append, List.map_map]
            have e : ((pl + ·) ∘ (k + ·) : Nat → Nat) = (pl + k + ·) := by funext x; simp; omega
            rw [e]
            exact hnl3.append hnr
        · rintro fl S' ⟨rfl, vfu', hn4, hsub⟩
          refine .weaken ?_ hsub
          have hvl4 : vfu'.length ≤ 40 := by rw [hn4.1, List.length_map, List.length_append, List.length_map]; omega
          refine .sCons (.sIf (.tval (.name (by walk_at "m") (by walk_at "m") (.truthyB ?_))))
          cases fr0 with
          | true =>
            refine ite_pos rfl (.sCons (.sAppend (.name (by walk_at "m") (by walk_at "m") ⟨_, rfl, ⟨_, .tail _ (.head _)⟩, .name (by walk_at "m") (by walk_at "m") ⟨_, _, .there .here, by omega, .sNil (.sNil ⟨[_], _, rfl, .refl _, _, _, ?_, rfl⟩)⟩⟩)))
            rw [ep, ← List.append_assoc, List.map_append]
            exact hn4.snoc
          | false =>
            refine ite_neg (by decide) (.sNil (.sNil ⟨[_], _, rfl, .refl _, _, _, ?_, rfl⟩))
            rw [ep]
            simpa using hn4
      · rintro S3 ⟨ed, vfu, hn3, rfl⟩
        have e3 : Lk.take vse.length = Lk := List.take_of_length_le (by rw [hnl2.1, List.length_map]; exact Nat.le_refl _)
        rw [e3] at hn3
        refine .sCons (.sAssign (.name (by walk_at "m") (by walk_at "m") (.stl (by walk_at "u") (by walk_at "ul") (.perm (.sNil ⟨[(it2, liCell a (i2 + 1))], (fu, .list vfu) :: (it, liCell c (i + 1)) :: (fo, .list vsf) :: (L, .ns (nsW c txt tt pl tp (some (.ref fo)) (some (.ref a)) (some (.ref fu)) (some kd) (some wt) (some (.bool fr0)) (some (.ref fu)) ed)) :: S, rfl, .cons_cons _ (.cons_cons _ (.cons _ (.refl _))), fu, _, _, _, _, _, vfu, ?_, rfl⟩) (.swap _ _ _)))))
        rw [fold_take seqS idS fs i2 (optS fr0 g) hf, seqS_at, hLk]
        exact hn3
    · rintro S'' ⟨en, ki, wh, fr, fu, ed, vse, hn2, rfl⟩
      have e2 : fs.take items.length = fs := List.take_of_length_le (by rw [hpw2.1]; exact Nat.le_refl _)
      rw [e2] at hn2
      have hb2 := hbd (i + 1) (txt.drop pl)
      rw [fold_take altS noS Fs i _ hF, altS_at, List.length_append] at hb2
      have hl1 := hnl.1
      have hl2 := hn2.1
      rw [List.length_map] at hl1 hl2
      refine .sCons (.sAug (.ldl (by walk_at "m") (by walk_at "m") (.name (by walk_at "m") (by walk_at "m") (.iaddL (.there (.there .here)) (.head _) (.stl (by walk_at "u") (by walk_at "ul") (.sNil ⟨[_], (fo, .list (vsf ++ vse)) :: (L, .ns (nsW c txt tt pl tp (some (.ref fo)) (some (.ref a)) (some (.ref en)) ki wh fr fu ed)) :: S, rfl, .cons _ (.refl _), _, _, _, _, _, _, _, _, ?_, rfl⟩)) (by omega)))))
      rw [fold_take altS noS Fs i _ hF, altS_at, List.map_append]
      exact hnl.append hn2
  · rintro S' ⟨ro, en, ki, wh, fr, fu, ed, vsf, h1, rfl⟩
    have : Fs.take rows.length = Fs := List.take_of_length_le (by rw [hpw.1]; exact Nat.le_refl _)
    rw [this] at h1
    exact .sCons (.sRet (.name (by walk_at "m") (by walk_at "m") ⟨(fo, .list vsf) :: S, .cons_cons _ (.cons _ (.refl _)), h fo vsf h1⟩))
/-- _law_ways -/
theorem ways_ok (n : Nat) : WaysOk n := by
  induction n with
  | zero => exact ways_step 0 fun m h => absurd h (by omega)
  | succ n ih =>
    refine ways_step (n + 1) fun m h => ?_
    obtain rfl : m = n := by omega
    exact @ih
end
end Mine
-- part B26
namespace Mine
open PySem PySem.Calls PySem.W PyProof.Rows PySem.Spec
section
variable {C : Cx} {A : Around} {S : St} {E : Value → Shared → Prop} {env : Env}
/-- a list that stood there before the call -/
theorem Good.listB {s : Shared} {a : Addr} {vs : List Value} (G : Good C A S s) (h : C.base.IsList a vs.toArray) : s.heap.IsList a vs.toArray :=
  let ⟨o, e, r⟩ := h; ⟨o, G.keep _ _ e, r⟩
theorem W.lenLB {a : Addr} {vs : List Value} {Q : Value → St → Prop} (hm : C.base.IsList a vs.toArray) (h : ∀ t, Q (.int vs.length t) S) (hsz : vs.length ≤ 1000) : W C A S (call (.builtin "len") [.ref a]) Q E := .intro fun s G =>
  call_len_list (G.listB hm) (by simp; omega) ⟨S, G.tok _, by simpa using h _⟩
theorem W.itemLB {value slice : Expr} {a : Addr} {vs : List Value} {k : Int} {t : Tok} {x : Value} {Q : Value → St → Prop} (hm : C.base.IsList a vs.toArray) (h0 : 0 ≤ k) (hk : k < 1000) (hx : vs[k.toNat]? = some x) (h : Q x S)
    (hs : subscripted slice false (.ref a) (.int k t) = operate [.ref a, .int k t] (getItem (.ref a) (.int k t)) := by with_unfolding_all rfl) :
    W C A S (subscriptTail value slice (.ref a) (.int k t)) Q E := .intro fun s G =>
  tail_any (G.listB hm).typeIs PySem.slot_list_getitem.lookup (wpAny_getItem_list (G.listB hm) h0 (by omega) (by simpa using hx) ⟨S, G, h⟩) hs
theorem W.itemTB {value slice : Expr} {a : Addr} {vs : List Value} {k : Int} {t : Tok} {x : Value} {Q : Value → St → Prop} (hm : C.base.get? a = some (tupObj vs)) (h0 : 0 ≤ k) (hk : k < 1000) (hx : vs[k.toNat]? = some x) (h : Q x S)
    (hs : subscripted slice false (.ref a) (.int k t) = operate [.ref a, .int k t] (getItem (.ref a) (.int k t)) := by with_unfolding_all rfl) :
    W C A S (subscriptTail value slice (.ref a) (.int k t)) Q E := .intro fun s G => by
  have hb : k.toNat < vs.length := (List.getElem?_eq_some_iff.mp hx).1
  refine item_tupleT (l := vs) ⟨_, G.keep _ _ hm, rfl, 0, rfl⟩ (by omega) (by omega) (j := k.toNat) ?_ hx ⟨S, G, h⟩ hs
  unfold seqIndex?
  simp; omega
theorem W.fdivI {a b : Int} {t u : Tok} {Q : Value → St → Prop} (hb : b ≠ 0) (ha : a.natAbs < 10000000) (hb2 : b.natAbs < 10000000) (h : ∀ t', Q (.int (a.fdiv b) t') S) : W C A S (binaryOp .FloorDiv (.int a t) (.int b u)) Q E := .intro fun s G =>
  PyProof.Rows.floordiv_int hb ⟨S, G.tok _, h _⟩ (.inl (PyProof.noPylong_small (by omega)))
theorem W.powI {a n : Int} {t u : Tok} {Q : Value → St → Prop} (hn : 0 ≤ n) (hn2 : n ≤ 1000) (ha : a.natAbs < 1000) (h : ∀ t', Q (.int (a ^ n.toNat) t') S) : W C A S (binaryOp .Pow (.int a t) (.int n u)) Q E := .intro fun s G =>
  PyProof.Rows.pow_int_small hn (by omega) (Nat.lt_trans ha (by decide)) ⟨S, G.tok _, h _⟩
theorem W.minI {a b : Int} {t u : Tok} {Q : Value → St → Prop} (hh : A.handled = none) (h : ∀ t', Q (.int (min a b) t') S) : W C A S (call (.builtin "min") [.int a t, .int b u]) Q E := .intro fun s G =>
  min_two_ints hh fun h' tk hk => by
    have G' : Good C A S { s with heap := h', toks := tk } := G.grow (s' := { s with heap := h', toks := tk }) hk rfl G.gens
    by_cases c : b < a
    · rw [if_pos c]
      have e : min a b = b := by omega
      exact ⟨S, G', e ▸ h u⟩
    · rw [if_neg c]
      have e : min a b = a := by omega
      exact ⟨S, G', e ▸ h t⟩
end
end Mine
-- part B27
namespace Mine
open PySem PySem.Calls PySem.W PyProof.Rows PySem.Spec
section
variable {C : Cx} {A : Around} {S : St} {E : Value → Shared → Prop} {env : Env}
/-- two lists of whole numbers that are the same -/
theorem W.neL {a b : Addr} {us vs : List Value} {ks : List Nat} {Q : Value → St → Prop} (hu : A.units < cLine) (ha : (a, .list us) ∈ S) (hb : (b, .list vs) ∈ S) (h1 : NL us ks) (h2 : NL vs ks) (h : Q (.bool false) S) :
    W C A S (compareOp .NotEq (.ref a) (.ref b)) Q E := .intro fun s G => by
  have hl1 := h1.1
  have hl2 := h2.1
  refine PySem.EqBoolInt.of_rcne (SeqAt.RcNeAt.lists (e := fun _ => true) (G.list ha) (G.list hb) (by simp; omega) hu fun j q1 q2 => ?_) ?_
  · have hj1 : j < us.length := by simpa using q1
    have hj2 : j < vs.length := by simpa using q2
    obtain ⟨t, ht⟩ := h1.2 j ks[j] (List.getElem?_eq_getElem (by omega))
    obtain ⟨u, hu'⟩ := h2.2 j ks[j] (List.getElem?_eq_getElem (by omega))
    rw [List.getElem?_eq_getElem hj1] at ht
    rw [List.getElem?_eq_getElem hj2] at hu'
    injection ht with ht
    injection hu' with hu'
    simp only [List.getElem_toArray, ht, hu']
    have := SeqAt.EqAt.int_int (A := A.in1) (s := s) (ks[j] : Int) t (ks[j] : Int) u
    simpa using this
  · refine ⟨S, G, ?_⟩
    have : (List.range us.toArray.size).all (fun _ => true) = true := by simp
    rw [this]
    exact h
end
end Mine
-- part P6
namespace Mine
abbrev Dec (l : List Nat) : Prop := l.Pairwise (fun a b => b < a)
theorem mem_letS {cs t : List Nat} {k : Nat} : k ∈ letS cs t ↔ k = 1 ∧ ∃ c r, t = c :: r ∧ c ∈ cs := by
  unfold letS
  match t with
  | [] => simp
  | c :: r =>
    simp only
    split <;> simp_all
theorem mem_seqS {f g : Wy} {t : List Nat} {m : Nat} : m ∈ seqS f g t ↔ ∃ k ∈ f t, ∃ j ∈ g (t.drop k), m = k + j := by
  unfold seqS
  simp only [List.mem_flatMap, List.mem_map]
  constructor
  · rintro ⟨k, hk, j, hj, rfl⟩; exact ⟨k, hk, j, hj, rfl⟩
  · rintro ⟨k, hk, j, hj, rfl⟩; exact ⟨k, hk, j, hj, rfl⟩
theorem mem_wordS : ∀ (w : List Nat) (g : Wy) (t : List Nat) (m : Nat), m ∈ wordS w g t ↔ ∃ k ∈ g t, w <+: t.drop k ∧ m = k + w.length
  | [], g, t, m => by
    constructor
    · intro h; exact ⟨m, h, List.nil_prefix, rfl⟩
    · rintro ⟨k, hk, _, rfl⟩; exact hk
  | c :: w, g, t, m => by
    have ih := mem_wordS w (seqS g (letS [c])) t m
    show m ∈ wordS w (seqS g (letS [c])) t ↔ _
    rw [ih]
    constructor
    · rintro ⟨k, hk, hp, rfl⟩
      obtain ⟨k0, h0, j, hj, rfl⟩ := mem_seqS.mp hk
      obtain ⟨rfl, d, r, hd, hc⟩ := mem_letS.mp hj
      have hc : d = c := by simpa using hc
      subst hc
      have hr : t.drop (k0 + 1) = r := by rw [← List.drop_drop, hd]; rfl
      rw [hr] at hp
      refine ⟨k0, h0, by rw [hd]; exact List.cons_prefix_cons.mpr ⟨rfl, hp⟩, by simp; omega⟩
    · rintro ⟨k, hk, hp, rfl⟩
      match hd : t.drop k, hp with
      | d :: r, hp =>
        obtain ⟨e1, hp2⟩ := List.cons_prefix_cons.mp hp
        subst e1
        have hr : t.drop (k + 1) = r := by rw [← List.drop_drop, hd]; rfl
        exact ⟨k + 1, mem_seqS.mpr ⟨k, hk, 1, mem_letS.mpr ⟨rfl, _, r, hd, by simp⟩, rfl⟩, by rw [hr]; exact hp2, by simp; omega⟩
theorem dec_flat {f : Nat → List Nat} (h : ∀ k, f k = [] ∨ f k = [k + 1]) : ∀ (l : List Nat), Dec l → Dec (l.flatMap f)
  | [], _ => by simp
  | x :: r, hl => by
    obtain ⟨h1, h2⟩ := List.pairwise_cons.mp hl
    have ih := dec_flat h r h2
    rw [List.flatMap_cons]
    rcases h x with e | e
    · rw [e]; exact ih
    · rw [e]
      refine List.pairwise_cons.mpr ⟨fun y hy => ?_, ih⟩
      obtain ⟨z, hz, hy⟩ := List.mem_flatMap.mp hy
      have := h1 z hz
      rcases h z with q | q
      · rw [q] at hy; cases hy
      · rw [q] at hy
        simp at hy; omega
theorem dec_word : ∀ (w : List Nat) (g : Wy) (t : List Nat), Dec (g t) → Dec (wordS w g t)
  | [], g, t, h => h
  | c :: w, g, t, h => dec_word w (seqS g (letS [c])) t (by
    unfold seqS
    refine dec_flat (fun k => ?_) _ h
    unfold letS
    split
    · simp
    · split <;> simp)
theorem take_pre {t w : List Nat} {k : Nat} : (k ≤ t.length ∧ t.take k = w) ↔ (w <+: t ∧ k = w.length) := by
  constructor
  · rintro ⟨h, rfl⟩
    exact ⟨List.take_prefix _ _, by rw [List.length_take]; omega⟩
  · rintro ⟨h, rfl⟩
    exact ⟨h.length_le, (List.prefix_iff_eq_take.mp h).symm⟩
theorem pre_mem {ss : List (List Nat)} {t : List Nat} {k : Nat} : (k ≤ t.length ∧ t.take k ∈ ss) ↔ ∃ w ∈ ss, w <+: t ∧ k = w.length := by
  constructor
  · rintro ⟨h, hm⟩
    exact ⟨_, hm, take_pre.mp ⟨h, rfl⟩⟩
  · rintro ⟨w, hw, hp⟩
    obtain ⟨a, b⟩ := take_pre.mpr hp
    exact ⟨a, b ▸ hw⟩
theorem den_law : ∀ (n : Nat) (ss : List (List Nat)) (z : Nat), Words ss z → mu ss ≤ n → ∀ t : List Nat, (∀ k, k ∈ den (rxT n ss) t ↔ ∃ w ∈ ss, w <+: t ∧ k = w.length) ∧ Dec (den (rxT n ss) t)
  | 0, ss, z, W, h, t => by have := mu_pos W.ne; omega
  | n + 1, [], z, W, h, t => absurd rfl W.ne
  | n + 1, [w], z, W, h, t => by
    refine ⟨fun k => ?_, dec_word w idS t (by simp [idS])⟩
    show k ∈ wordS w idS t ↔ _
    rw [mem_wordS]
    simp [idS]
  | n + 1, first :: x :: r, z, W, h, t => by
    have hm := mu_cons first (x :: r)
    rw [rxT]
    split
    · rename_i h1
      subst h1
      obtain ⟨i1, i2⟩ := den_law n (x :: r) z W.tail (by omega) t
      have hpos : ∀ k ∈ den (rxT n (x :: r)) t, 0 < k := fun k hk => by
        obtain ⟨w, hw, _, rfl⟩ := (i1 k).mp hk
        cases w with
        | nil =>
          have := (List.pairwise_cons.mp W.inc).1 [] hw
          exact absurd this (lt_irr _)
        | cons a b => simp
      constructor
      · intro k
        show k ∈ den (rxT n (x :: r)) t ++ [0] ↔ _
        rw [List.mem_append, i1 k]
        constructor
        · rintro (⟨w, hw, hp⟩ | hk)
          · exact ⟨w, .tail _ hw, hp⟩
          · exact ⟨[], .head _, List.nil_prefix, by simpa using hk⟩
        · rintro ⟨w, hw, hp, rfl⟩
          rcases List.mem_cons.mp hw with rfl | hw
          · exact .inr (by simp)
          · exact .inl ⟨w, hw, hp, rfl⟩
      · show Dec (den (rxT n (x :: r)) t ++ [0])
        exact List.pairwise_append.mpr ⟨i2, by simp, fun a ha b hb => by have := hpos a ha; simp at hb; omega⟩
    rename_i h1
    have hne := inc_ne_nil W.inc h1
    split
    · rename_i h2
      obtain ⟨cs, e1, e2, e3, e4⟩ := W.ones h2.2
      have hs := mu_split isOne (first :: x :: r)
      have ho := mu_ones ((first :: x :: r).filter isOne) fun w hw => (List.mem_filter.mp hw).2
      have := h2.2
      have onesL : ∀ k, k ∈ letS cs t ↔ ∃ w ∈ (first :: x :: r).filter isOne, w <+: t ∧ k = w.length := by
        intro k
        rw [mem_letS, e1]
        constructor
        · rintro ⟨rfl, c, rr, rfl, hc⟩
          exact ⟨[c], List.mem_map.mpr ⟨c, hc, rfl⟩, by simp, rfl⟩
        · rintro ⟨w, hw, hp, rfl⟩
          obtain ⟨c, hc, rfl⟩ := List.mem_map.mp hw
          match t, hp with
          | d :: t, hp =>
            have := (List.cons_prefix_cons.mp hp).1
            subst this
            exact ⟨rfl, _, _, rfl, hc⟩
      have decL : Dec (letS cs t) := by
        unfold letS
        split
        · simp
        · split <;> simp
      rw [e2]
      split
      · rename_i h3
        obtain ⟨i1, i2⟩ := den_law n _ z (W.filter _ h3) (by omega) t
        constructor
        · intro k
          show k ∈ den _ t ++ letS cs t ↔ _
          rw [List.mem_append, i1 k, onesL k]
          constructor
          · rintro (⟨w, hw, hp⟩ | ⟨w, hw, hp⟩)
            · exact ⟨w, (List.mem_filter.mp hw).1, hp⟩
            · exact ⟨w, (List.mem_filter.mp hw).1, hp⟩
          · rintro ⟨w, hw, hp⟩
            cases ho : isOne w
            · exact .inl ⟨w, List.mem_filter.mpr ⟨hw, by simp [ho]⟩, hp⟩
            · exact .inr ⟨w, List.mem_filter.mpr ⟨hw, ho⟩, hp⟩
        · show Dec (den _ t ++ letS cs t)
          refine List.pairwise_append.mpr ⟨i2, decL, fun a ha b hb => ?_⟩
          obtain ⟨w, hw, hp, rfl⟩ := (i1 a).mp ha
          have hb := (mem_letS.mp hb).1
          subst hb
          obtain ⟨hw1, hw2⟩ := List.mem_filter.mp hw
          simp only [isOne, Bool.not_eq_true', beq_eq_false_iff_ne, ne_eq] at hw2
          have := hne w hw1
          have : w.length ≠ 0 := fun e => this (List.length_eq_zero_iff.mp e)
          omega
      · rename_i h3
        have h3 : (first :: x :: r).filter (fun w => !isOne w) = [] := by simpa using h3
        constructor
        · intro k
          show k ∈ letS cs t ↔ _
          rw [onesL k]
          constructor
          · rintro ⟨w, hw, hp⟩
            exact ⟨w, (List.mem_filter.mp hw).1, hp⟩
          · rintro ⟨w, hw, hp⟩
            refine ⟨w, List.mem_filter.mpr ⟨hw, ?_⟩, hp⟩
            have := List.filter_eq_nil_iff.mp h3 w hw
            simpa using this
        · exact decL
    split
    · rename_i h2 h3
      have hp := lcp_pre (first :: x :: r)
      have hmu := mu_drop W.ne hp
      have hl : 1 ≤ (lcp (first :: x :: r)).length := by cases e : lcp (first :: x :: r) <;> simp_all
      have ih := den_law n _ z (W.drop hp) (by omega)
      generalize lcp (first :: x :: r) = P at *
      have hP : ∀ k, k ∈ wordS P idS t ↔ P <+: t ∧ k = P.length := fun k => by rw [mem_wordS]; simp [idS]
      constructor
      · intro k
        show k ∈ seqS (wordS P idS) (den _) t ↔ _
        rw [mem_seqS]
        constructor
        · rintro ⟨k1, hk1, k2, hk2, rfl⟩
          obtain ⟨hpt, rfl⟩ := (hP k1).mp hk1
          obtain ⟨w, hw, hwt, rfl⟩ := ((ih _).1 k2).mp hk2
          obtain ⟨u, hu, rfl⟩ := List.mem_map.mp hw
          have e := pre_eq (hp u hu)
          refine ⟨u, hu, ?_, by have := (hp u hu).length_le; simp; omega⟩
          obtain ⟨s, rfl⟩ := hpt
          rw [List.drop_left] at hwt
          rw [e]
          exact (List.prefix_append_right_inj P).mpr hwt
        · rintro ⟨u, hu, hut, rfl⟩
          have e := pre_eq (hp u hu)
          have hle := (hp u hu).length_le
          have hpt := (hp u hu).trans hut
          refine ⟨P.length, (hP _).mpr ⟨hpt, rfl⟩, (u.drop P.length).length, ((ih _).1 _).mpr ⟨_, List.mem_map.mpr ⟨u, hu, rfl⟩, ?_, rfl⟩, by simp; omega⟩
          obtain ⟨s, rfl⟩ := hpt
          rw [List.drop_left]
          rw [e] at hut
          exact (List.prefix_append_right_inj P).mp hut
      · show Dec (seqS (wordS P idS) (den _) t)
        have hone : wordS P idS t = [] ∨ wordS P idS t = [P.length] := by
          have hd := dec_word P idS t (by simp [idS])
          match hq : wordS P idS t, hd with
          | [], _ => exact .inl rfl
          | [a], _ =>
            have := (hP a).mp (by rw [hq]; simp)
            rw [this.2]; exact .inr rfl
          | a :: b :: l, hd =>
            have h5 := (hP a).mp (by rw [hq]; simp)
            have h6 := (hP b).mp (by rw [hq]; simp)
            have := (List.pairwise_cons.mp hd).1 b (.head _)
            omega
        unfold seqS
        rcases hone with e | e
        · rw [e]; simp
        · rw [e]
          simp only [List.flatMap_cons, List.flatMap_nil, List.append_nil]
          rw [Dec, List.pairwise_map]
          exact (ih _).2.imp fun h => by omega
    split
    · rename_i h2 h3 h4
      have hp : ∀ w ∈ first :: x :: r, lcp ((first :: x :: r).map List.reverse) <+: w.reverse := fun w hw => lcp_pre _ _ (List.mem_map.mpr ⟨w, hw, rfl⟩)
      have hmu := mu_strip W.ne hp
      have hl : 1 ≤ (lcp ((first :: x :: r).map List.reverse)).length := by cases e : lcp ((first :: x :: r).map List.reverse) <;> simp_all
      obtain ⟨i1, i2⟩ := den_law n _ z (W.strip hp) (by omega) t
      generalize lcp ((first :: x :: r).map List.reverse) = P at *
      have e0 : ∀ w ∈ first :: x :: r, w = w.take (w.length - P.length) ++ P.reverse := fun w hw => by
        have := suf_eq (s := P.reverse) (w := w) (by rw [List.reverse_reverse]; exact hp w hw)
        simpa using this
      constructor
      · intro k
        show k ∈ wordS P.reverse (den _) t ↔ _
        rw [mem_wordS]
        constructor
        · rintro ⟨k1, hk1, hpt, rfl⟩
          obtain ⟨w, hw, hwt, rfl⟩ := (i1 k1).mp hk1
          obtain ⟨u, hu, rfl⟩ := List.mem_map.mp ((srt_perm _).mem_iff.mp hw)
          refine ⟨u, hu, ?_, ?_⟩
          · obtain ⟨s, rfl⟩ := hwt
            rw [List.drop_left] at hpt
            have g : u.take (u.length - P.length) ++ P.reverse <+: u.take (u.length - P.length) ++ s := (List.prefix_append_right_inj _).mpr hpt
            rw [← e0 u hu] at g
            exact g
          · have := congrArg List.length (e0 u hu)
            rw [List.length_append] at this
            exact this.symm
        · rintro ⟨u, hu, hut, rfl⟩
          have e := e0 u hu
          refine ⟨(u.take (u.length - P.length)).length, (i1 _).mpr ⟨_, (srt_perm _).mem_iff.mpr (List.mem_map.mpr ⟨u, hu, rfl⟩), ?_, rfl⟩, ?_, ?_⟩
          · exact (List.take_prefix _ _).trans hut
          · have h9 : (u.take (u.length - P.length)) ++ P.reverse <+: t := e ▸ hut
            obtain ⟨s, hs⟩ := h9
            rw [← hs, List.append_assoc, List.drop_left]
            exact List.prefix_append _ _
          · have := congrArg List.length e
            rw [List.length_append] at this
            exact this
      · exact dec_word _ _ t i2
    · rename_i h2 h3 h4
      have h3 : lcp (first :: x :: r) = [] := by simpa using h3
      have hs := mu_split (sameHead first) (first :: x :: r)
      have w1 := W.filter _ (heads_one (first := first) (r := x :: r))
      have w2 := W.filter _ (heads_two h1 h3)
      have p1 := mu_pos w1.ne
      have p2 := mu_pos w2.ne
      obtain ⟨i1, i2⟩ := den_law n _ z w1 (by omega) t
      obtain ⟨j1, j2⟩ := den_law n _ z w2 (by omega) t
      constructor
      · intro k
        show k ∈ den _ t ++ den _ t ↔ _
        rw [List.mem_append, i1 k, j1 k]
        constructor
        · rintro (⟨w, hw, hp⟩ | ⟨w, hw, hp⟩)
          · exact ⟨w, (List.mem_filter.mp hw).1, hp⟩
          · exact ⟨w, (List.mem_filter.mp hw).1, hp⟩
        · rintro ⟨w, hw, hp⟩
          cases ho : sameHead first w
          · exact .inr ⟨w, List.mem_filter.mpr ⟨hw, by simp [ho]⟩, hp⟩
          · exact .inl ⟨w, List.mem_filter.mpr ⟨hw, ho⟩, hp⟩
      · show Dec (den _ t ++ den _ t)
        have one : den (rxT n ((first :: x :: r).filter (sameHead first))) t = [] ∨ den (rxT n ((first :: x :: r).filter fun w => !sameHead first w)) t = [] := by
          cases hh : t.head? == first.head?
          · left
            refine List.eq_nil_iff_forall_not_mem.mpr fun k hk => ?_
            obtain ⟨w, hw, hp, _⟩ := (i1 k).mp hk
            obtain ⟨hw1, hw2⟩ := List.mem_filter.mp hw
            have hwn := hne w hw1
            match w, t, hp, hwn with
            | c :: w, d :: t, hp, _ =>
              have := (List.cons_prefix_cons.mp hp).1
              subst this
              simp [sameHead] at hw2 hh
              exact hh hw2
          · right
            refine List.eq_nil_iff_forall_not_mem.mpr fun k hk => ?_
            obtain ⟨w, hw, hp, _⟩ := (j1 k).mp hk
            obtain ⟨hw1, hw2⟩ := List.mem_filter.mp hw
            have hwn := hne w hw1
            match w, t, hp, hwn with
            | c :: w, d :: t, hp, _ =>
              have := (List.cons_prefix_cons.mp hp).1
              subst this
              simp [sameHead] at hw2 hh
              exact hw2 hh
        rcases one with e | e
        · rw [e]; exact j2
        · rw [e, List.append_nil]; exact i2
end Mine
-- part P7
namespace Mine
theorem dec_unique : ∀ {a b : List Nat}, Dec a → Dec b → (∀ k, k ∈ a ↔ k ∈ b) → a = b
  | [], [], _, _, _ => rfl
  | [], y :: b, _, _, h => absurd ((h y).mpr (.head _)) (by simp)
  | x :: a, [], _, _, h => absurd ((h x).mp (.head _)) (by simp)
  | x :: a, y :: b, ha, hb, h => by
    obtain ⟨a1, a2⟩ := List.pairwise_cons.mp ha
    obtain ⟨b1, b2⟩ := List.pairwise_cons.mp hb
    have hxy : x = y := by
      have m1 := (h x).mp (.head _)
      have m2 := (h y).mpr (.head _)
      rcases List.mem_cons.mp m1 with e | m1
      · exact e
      · rcases List.mem_cons.mp m2 with e | m2
        · exact e.symm
        · have := b1 x m1; have := a1 y m2; omega
    subst hxy
    have := dec_unique a2 b2 fun k => by
      have := h k
      simp only [List.mem_cons] at this
      constructor
      · intro hk
        rcases this.mp (.inr hk) with e | hk'
        · have := a1 k hk; omega
        · exact hk'
      · intro hk
        rcases this.mpr (.inr hk) with e | hk'
        · have := b1 k hk; omega
        · exact hk'
    rw [this]
theorem perm_nodup : ∀ {a b : List (List Nat)}, a.Nodup → b.Nodup → (∀ k, k ∈ a ↔ k ∈ b) → a.Perm b
  | [], b, _, _, h => by
    have : b = [] := List.eq_nil_iff_forall_not_mem.mpr fun k hk => by have := (h k).mpr hk; simp at this
    rw [this]
  | x :: a, b, ha, hb, h => by
    obtain ⟨b1, b2, rfl⟩ := List.append_of_mem ((h x).mp (.head _))
    have hp := List.perm_middle (l₁ := b1) (l₂ := b2) (a := x)
    obtain ⟨a1, a2⟩ := List.nodup_cons.mp ha
    obtain ⟨c1, c2⟩ := List.nodup_cons.mp (hp.nodup_iff.mp hb)
    refine (List.Perm.cons x (perm_nodup a2 c2 fun k => ?_)).trans hp.symm
    have hk := h k
    rw [hp.mem_iff] at hk
    simp only [List.mem_cons] at hk
    constructor
    · intro m
      rcases hk.mp (.inr m) with e | m'
      · exact absurd (e ▸ m) a1
      · exact m'
    · intro m
      rcases hk.mpr (.inr m) with e | m'
      · exact absurd (e ▸ m) c1
      · exact m'
theorem srt_dd_eq {a b : List (List Nat)} (h : ∀ k, k ∈ a ↔ k ∈ b) : srt (dd a) = srt (dd b) :=
  inc_unique (srt_inc _ (dd_nodup a)) (srt_inc _ (dd_nodup b)) ((srt_perm _).trans ((perm_nodup (dd_nodup a) (dd_nodup b) fun k => by rw [dd_mem, dd_mem, h]).trans (srt_perm _).symm))
theorem srt_dd_mem {a : List (List Nat)} {k : List Nat} : k ∈ srt (dd a) ↔ k ∈ a := by rw [(srt_perm _).mem_iff, dd_mem]
theorem words_dd {ls : List (List Nat)} {z : Nat} (hne : ls ≠ []) (hz : z ∈ signs) (hl : ∀ w ∈ ls, ∀ c ∈ w, c = 97 ∨ c = 98 ∨ c = z) : Words (srt (dd ls)) z :=
  ⟨srt_inc _ (dd_nodup ls), (fun e => by
    cases ls with
    | nil => exact hne rfl
    | cons x r =>
      have := (srt_dd_mem (a := x :: r)).mpr (.head _)
      rw [e] at this; cases this), hz, fun w hw => hl w (srt_dd_mem.mp hw)⟩
theorem mu_le {ls : List (List Nat)} {m : Nat} : ∀ (a : List (List Nat)), (∀ w ∈ a, w.length ≤ m) → mu a ≤ a.length * (m + 1)
  | [], _ => by simp [mu]
  | w :: r, h => by
    have := mu_le (ls := ls) r fun w hw => h w (.tail _ hw)
    have := h w (.head _)
    rw [mu_cons, List.length_cons, Nat.add_mul]; omega
theorem mu_dd {ls : List (List Nat)} (h6 : ls.length ≤ 6) (h4 : ∀ w ∈ ls, w.length ≤ 4) : mu (srt (dd ls)) ≤ 30 := by
  have := mu_le (ls := ls) (m := 4) (srt (dd ls)) fun w hw => h4 w (srt_dd_mem.mp hw)
  rw [(srt_perm _).length_eq] at this
  have := dd_len ls
  have h7 : (dd ls).length * (4 + 1) ≤ 6 * 5 := Nat.mul_le_mul (by omega) (by omega)
  omega
/-- what is due at a place: the text from there is t -/
def okAt (ls : List (List Nat)) (b t : List Nat) (s : Nat) : Bool := decide (t.take s ∈ ls) && decide ((t.drop s).take b.length = b)
def dueL (ls : List (List Nat)) (b t : List Nat) (m i : Nat) : List Nat := (((List.range i).map fun j => m - j).filter (okAt ls b t)).map (· + b.length)
theorem dueL_succ (ls b t m i) : dueL ls b t m (i + 1) = dueL ls b t m i ++ (if okAt ls b t (m - i) then [m - i + b.length] else []) := by
  unfold dueL
  rw [List.range_succ, List.map_append, List.filter_append, List.map_append]
  congr 1
  simp only [List.map_cons, List.map_nil, List.filter_cons, List.filter_nil]
  split <;> simp
theorem pre_iff_take {b t : List Nat} : b <+: t ↔ t.take b.length = b := by
  rw [List.prefix_iff_eq_take]
  exact eq_comm
theorem due_eq {ls : List (List Nat)} {b t : List Nat} {z : Nat} (hne : ls ≠ []) (hz : z ∈ signs) (hl : ∀ w ∈ ls, ∀ c ∈ w, c = 97 ∨ c = 98 ∨ c = z) (h6 : ls.length ≤ 6) (h4 : ∀ w ∈ ls, w.length ≤ 4) :
    wordS b (den (rxT 40 (srt (dd ls)))) t = dueL ls b t (min 4 t.length) (min 4 t.length + 1) := by
  have W := words_dd hne hz hl
  have hmu := mu_dd h6 h4
  obtain ⟨d1, d2⟩ := den_law 40 _ z W (by omega) t
  refine dec_unique (dec_word b _ t d2) ?_ fun k => ?_
  · unfold dueL
    rw [Dec, List.pairwise_map]
    refine (List.Pairwise.filter _ ?_).imp (fun {a c} h => (by omega : c + b.length < a + b.length))
    rw [List.pairwise_map]
    exact (List.pairwise_lt_range (n := min 4 t.length + 1)).imp_of_mem fun {a c} ha hc h => by
      have := List.mem_range.mp ha
      have := List.mem_range.mp hc
      omega
  · rw [mem_wordS]
    unfold dueL
    simp only [List.mem_map, List.mem_filter, List.mem_range, okAt, Bool.and_eq_true, decide_eq_true_eq]
    constructor
    · rintro ⟨k1, hk1, hb, rfl⟩
      obtain ⟨w, hw, hp, rfl⟩ := (d1 k1).mp hk1
      have hw := srt_dd_mem.mp hw
      have := h4 w hw
      have := hp.length_le
      refine ⟨w.length, ⟨⟨min 4 t.length - w.length, by omega, by omega⟩, ?_, pre_iff_take.mp hb⟩, rfl⟩
      rw [pre_iff_take.mp hp]; exact hw
    · rintro ⟨s, ⟨⟨j, hj, rfl⟩, hm, hb⟩, rfl⟩
      refine ⟨min 4 t.length - j, (d1 _).mpr ⟨_, srt_dd_mem.mpr hm, List.take_prefix _ _, ?_⟩, pre_iff_take.mpr hb, rfl⟩
      rw [List.length_take]; omega
end Mine
-- part C16
namespace Mine
open PySem PySem.Calls PySem.W PyProof.Rows
local macro_rules | `(tactic| walk_at "m") => `(tactic| first | exact List.Mem.head _ | exact List.Mem.tail _ (List.Mem.head _) | exact List.Mem.tail _ (List.Mem.tail _ (List.Mem.head _)) | exact List.Mem.tail _ (List.Mem.tail _ (List.Mem.tail _ (List.Mem.head _))) | exact List.Mem.tail _ (List.Mem.tail _ (List.Mem.tail _ (List.Mem.tail _ (List.Mem.head _)))) | exact List.Mem.tail _ (List.Mem.tail _ (List.Mem.tail _ (List.Mem.tail _ (List.Mem.tail _ (List.Mem.head _))))) | exact List.Mem.tail _ (List.Mem.tail _ (List.Mem.tail _ (List.Mem.tail _ (List.Mem.tail _ (List.Mem.tail _ (List.Mem.head _)))))) | exact List.Mem.tail _ (List.Mem.tail _ (List.Mem.tail _ (List.Mem.tail _ (List.Mem.tail _ (List.Mem.tail _ (List.Mem.tail _ (List.Mem.head _))))))) | exact List.Mem.tail _ (List.Mem.tail _ (List.Mem.tail _ (List.Mem.tail _ (List.Mem.tail _ (List.Mem.tail _ (List.Mem.tail _ (List.Mem.tail _ (List.Mem.head _)))))))) | exact List.Mem.tail _ (List.Mem.tail _ (List.Mem.tail _ (List.Mem.tail _ (List.Mem.tail _ (List.Mem.tail _ (List.Mem.tail _ (List.Mem.tail _ (List.Mem.tail _ (List.Mem.head _))))))))) | exact List.Mem.tail _ (List.Mem.tail _ (List.Mem.tail _ (List.Mem.tail _ (List.Mem.tail _ (List.Mem.tail _ (List.Mem.tail _ (List.Mem.tail _ (List.Mem.tail _ (List.Mem.tail _ (List.Mem.head _)))))))))) | exact List.Mem.tail _ (List.Mem.tail _ (List.Mem.tail _ (List.Mem.tail _ (List.Mem.tail _ (List.Mem.tail _ (List.Mem.tail _ (List.Mem.tail _ (List.Mem.tail _ (List.Mem.tail _ (List.Mem.tail _ (List.Mem.head _))))))))))) | exact List.Mem.tail _ (List.Mem.tail _ (List.Mem.tail _ (List.Mem.tail _ (List.Mem.tail _ (List.Mem.tail _ (List.Mem.tail _ (List.Mem.tail _ (List.Mem.tail _ (List.Mem.tail _ (List.Mem.tail _ (List.Mem.tail _ (List.Mem.head _)))))))))))) | exact List.Mem.tail _ (List.Mem.tail _ (List.Mem.tail _ (List.Mem.tail _ (List.Mem.tail _ (List.Mem.tail _ (List.Mem.tail _ (List.Mem.tail _ (List.Mem.tail _ (List.Mem.tail _ (List.Mem.tail _ (List.Mem.tail _ (List.Mem.tail _ (List.Mem.head _))))))))))))) | exact List.Mem.tail _ (List.Mem.tail _ (List.Mem.tail _ (List.Mem.tail _ (List.Mem.tail _ (List.Mem.tail _ (List.Mem.tail _ (List.Mem.tail _ (List.Mem.tail _ (List.Mem.tail _ (List.Mem.tail _ (List.Mem.tail _ (List.Mem.tail _ (List.Mem.tail _ (List.Mem.head _)))))))))))))) | exact List.Mem.tail _ (List.Mem.tail _ (List.Mem.tail _ (List.Mem.tail _ (List.Mem.tail _ (List.Mem.tail _ (List.Mem.tail _ (List.Mem.tail _ (List.Mem.tail _ (List.Mem.tail _ (List.Mem.tail _ (List.Mem.tail _ (List.Mem.tail _ (List.Mem.tail _ (List.Mem.tail _ (List.Mem.head _))))))))))))))) | exact List.Mem.tail _ (List.Mem.tail _ (List.Mem.tail _ (List.Mem.tail _ (List.Mem.tail _ (List.Mem.tail _ (List.Mem.tail _ (List.Mem.tail _ (List.Mem.tail _ (List.Mem.tail _ (List.Mem.tail _ (List.Mem.tail _ (List.Mem.tail _ (List.Mem.tail _ (List.Mem.tail _ (List.Mem.tail _ (List.Mem.head _)))))))))))))))) | exact List.Mem.tail _ (List.Mem.tail _ (List.Mem.tail _ (List.Mem.tail _ (List.Mem.tail _ (List.Mem.tail _ (List.Mem.tail _ (List.Mem.tail _ (List.Mem.tail _ (List.Mem.tail _ (List.Mem.tail _ (List.Mem.tail _ (List.Mem.tail _ (List.Mem.tail _ (List.Mem.tail _ (List.Mem.tail _ (List.Mem.tail _ (List.Mem.head _))))))))))))))))) | exact List.Mem.tail _ (List.Mem.tail _ (List.Mem.tail _ (List.Mem.tail _ (List.Mem.tail _ (List.Mem.tail _ (List.Mem.tail _ (List.Mem.tail _ (List.Mem.tail _ (List.Mem.tail _ (List.Mem.tail _ (List.Mem.tail _ (List.Mem.tail _ (List.Mem.tail _ (List.Mem.tail _ (List.Mem.tail _ (List.Mem.tail _ (List.Mem.tail _ (List.Mem.head _)))))))))))))))))) | exact List.Mem.tail _ (List.Mem.tail _ (List.Mem.tail _ (List.Mem.tail _ (List.Mem.tail _ (List.Mem.tail _ (List.Mem.tail _ (List.Mem.tail _ (List.Mem.tail _ (List.Mem.tail _ (List.Mem.tail _ (List.Mem.tail _ (List.Mem.tail _ (List.Mem.tail _ (List.Mem.tail _ (List.Mem.tail _ (List.Mem.tail _ (List.Mem.tail _ (List.Mem.tail _ (List.Mem.head _))))))))))))))))))) | exact List.Mem.tail _ (List.Mem.tail _ (List.Mem.tail _ (List.Mem.tail _ (List.Mem.tail _ (List.Mem.tail _ (List.Mem.tail _ (List.Mem.tail _ (List.Mem.tail _ (List.Mem.tail _ (List.Mem.tail _ (List.Mem.tail _ (List.Mem.tail _ (List.Mem.tail _ (List.Mem.tail _ (List.Mem.tail _ (List.Mem.tail _ (List.Mem.tail _ (List.Mem.tail _ (List.Mem.tail _ (List.Mem.head _)))))))))))))))))))) | exact List.Mem.tail _ (List.Mem.tail _ (List.Mem.tail _ (List.Mem.tail _ (List.Mem.tail _ (List.Mem.tail _ (List.Mem.tail _ (List.Mem.tail _ (List.Mem.tail _ (List.Mem.tail _ (List.Mem.tail _ (List.Mem.tail _ (List.Mem.tail _ (List.Mem.tail _ (List.Mem.tail _ (List.Mem.tail _ (List.Mem.tail _ (List.Mem.tail _ (List.Mem.tail _ (List.Mem.tail _ (List.Mem.tail _ (List.Mem.head _))))))))))))))))))))) | exact List.Mem.tail _ (List.Mem.tail _ (List.Mem.tail _ (List.Mem.tail _ (List.Mem.tail _ (List.Mem.tail _ (List.Mem.tail _ (List.Mem.tail _ (List.Mem.tail _ (List.Mem.tail _ (List.Mem.tail _ (List.Mem.tail _ (List.Mem.tail _ (List.Mem.tail _ (List.Mem.tail _ (List.Mem.tail _ (List.Mem.tail _ (List.Mem.tail _ (List.Mem.tail _ (List.Mem.tail _ (List.Mem.tail _ (List.Mem.tail _ (List.Mem.head _)))))))))))))))))))))) | exact List.Mem.tail _ (List.Mem.tail _ (List.Mem.tail _ (List.Mem.tail _ (List.Mem.tail _ (List.Mem.tail _ (List.Mem.tail _ (List.Mem.tail _ (List.Mem.tail _ (List.Mem.tail _ (List.Mem.tail _ (List.Mem.tail _ (List.Mem.tail _ (List.Mem.tail _ (List.Mem.tail _ (List.Mem.tail _ (List.Mem.tail _ (List.Mem.tail _ (List.Mem.tail _ (List.Mem.tail _ (List.Mem.tail _ (List.Mem.tail _ (List.Mem.tail _ (List.Mem.head _))))))))))))))))))))))))
local macro_rules | `(tactic| walk_at "u") => `(tactic| first | exact Upd.here | exact Upd.there (Upd.here) | exact Upd.there (Upd.there (Upd.here)) | exact Upd.there (Upd.there (Upd.there (Upd.here))) | exact Upd.there (Upd.there (Upd.there (Upd.there (Upd.here)))) | exact Upd.there (Upd.there (Upd.there (Upd.there (Upd.there (Upd.here))))) | exact Upd.there (Upd.there (Upd.there (Upd.there (Upd.there (Upd.there (Upd.here)))))) | exact Upd.there (Upd.there (Upd.there (Upd.there (Upd.there (Upd.there (Upd.there (Upd.here))))))) | exact Upd.there (Upd.there (Upd.there (Upd.there (Upd.there (Upd.there (Upd.there (Upd.there (Upd.here)))))))) | exact Upd.there (Upd.there (Upd.there (Upd.there (Upd.there (Upd.there (Upd.there (Upd.there (Upd.there (Upd.here))))))))) | exact Upd.there (Upd.there (Upd.there (Upd.there (Upd.there (Upd.there (Upd.there (Upd.there (Upd.there (Upd.there (Upd.here)))))))))) | exact Upd.there (Upd.there (Upd.there (Upd.there (Upd.there (Upd.there (Upd.there (Upd.there (Upd.there (Upd.there (Upd.there (Upd.here))))))))))) | exact Upd.there (Upd.there (Upd.there (Upd.there (Upd.there (Upd.there (Upd.there (Upd.there (Upd.there (Upd.there (Upd.there (Upd.there (Upd.here)))))))))))) | exact Upd.there (Upd.there (Upd.there (Upd.there (Upd.there (Upd.there (Upd.there (Upd.there (Upd.there (Upd.there (Upd.there (Upd.there (Upd.there (Upd.here))))))))))))) | exact Upd.there (Upd.there (Upd.there (Upd.there (Upd.there (Upd.there (Upd.there (Upd.there (Upd.there (Upd.there (Upd.there (Upd.there (Upd.there (Upd.there (Upd.here)))))))))))))) | exact Upd.there (Upd.there (Upd.there (Upd.there (Upd.there (Upd.there (Upd.there (Upd.there (Upd.there (Upd.there (Upd.there (Upd.there (Upd.there (Upd.there (Upd.there (Upd.here))))))))))))))) | exact Upd.there (Upd.there (Upd.there (Upd.there (Upd.there (Upd.there (Upd.there (Upd.there (Upd.there (Upd.there (Upd.there (Upd.there (Upd.there (Upd.there (Upd.there (Upd.there (Upd.here)))))))))))))))) | exact Upd.there (Upd.there (Upd.there (Upd.there (Upd.there (Upd.there (Upd.there (Upd.there (Upd.there (Upd.there (Upd.there (Upd.there (Upd.there (Upd.there (Upd.there (Upd.there (Upd.there (Upd.here))))))))))))))))) | exact Upd.there (Upd.there (Upd.there (Upd.there (Upd.there (Upd.there (Upd.there (Upd.there (Upd.there (Upd.there (Upd.there (Upd.there (Upd.there (Upd.there (Upd.there (Upd.there (Upd.there (Upd.there (Upd.here)))))))))))))))))) | exact Upd.there (Upd.there (Upd.there (Upd.there (Upd.there (Upd.there (Upd.there (Upd.there (Upd.there (Upd.there (Upd.there (Upd.there (Upd.there (Upd.there (Upd.there (Upd.there (Upd.there (Upd.there (Upd.there (Upd.here))))))))))))))))))) | exact Upd.there (Upd.there (Upd.there (Upd.there (Upd.there (Upd.there (Upd.there (Upd.there (Upd.there (Upd.there (Upd.there (Upd.there (Upd.there (Upd.there (Upd.there (Upd.there (Upd.there (Upd.there (Upd.there (Upd.there (Upd.here)))))))))))))))))))) | exact Upd.there (Upd.there (Upd.there (Upd.there (Upd.there (Upd.there (Upd.there (Upd.there (Upd.there (Upd.there (Upd.there (Upd.there (Upd.there (Upd.there (Upd.there (Upd.there (Upd.there (Upd.there (Upd.there (Upd.there (Upd.there (Upd.here))))))))))))))))))))) | exact Upd.there (Upd.there (Upd.there (Upd.there (Upd.there (Upd.there (Upd.there (Upd.there (Upd.there (Upd.there (Upd.there (Upd.there (Upd.there (Upd.there (Upd.there (Upd.there (Upd.there (Upd.there (Upd.there (Upd.there (Upd.there (Upd.there (Upd.here)))))))))))))))))))))) | exact Upd.there (Upd.there (Upd.there (Upd.there (Upd.there (Upd.there (Upd.there (Upd.there (Upd.there (Upd.there (Upd.there (Upd.there (Upd.there (Upd.there (Upd.there (Upd.there (Upd.there (Upd.there (Upd.there (Upd.there (Upd.there (Upd.there (Upd.there (Upd.here))))))))))))))))))))))))
local macro_rules | `(tactic| walk_at "ul") => `(tactic| first | exact UpdL.here | exact UpdL.there (UpdL.here) | exact UpdL.there (UpdL.there (UpdL.here)) | exact UpdL.there (UpdL.there (UpdL.there (UpdL.here))) | exact UpdL.there (UpdL.there (UpdL.there (UpdL.there (UpdL.here)))) | exact UpdL.there (UpdL.there (UpdL.there (UpdL.there (UpdL.there (UpdL.here))))) | exact UpdL.there (UpdL.there (UpdL.there (UpdL.there (UpdL.there (UpdL.there (UpdL.here)))))) | exact UpdL.there (UpdL.there (UpdL.there (UpdL.there (UpdL.there (UpdL.there (UpdL.there (UpdL.here))))))) | exact UpdL.there (UpdL.there (UpdL.there (UpdL.there (UpdL.there (UpdL.there (UpdL.there (UpdL.there (UpdL.here)))))))) | exact UpdL.there (UpdL.there (UpdL.there (UpdL.there (UpdL.there (UpdL.there (UpdL.there (UpdL.there (UpdL.there (UpdL.here))))))))) | exact UpdL.there (UpdL.there (UpdL.there (UpdL.there (UpdL.there (UpdL.there (UpdL.there (UpdL.there (UpdL.there (UpdL.there (UpdL.here)))))))))) | exact UpdL.there (UpdL.there (UpdL.there (UpdL.there (UpdL.there (UpdL.there (UpdL.there (UpdL.there (UpdL.there (UpdL.there (UpdL.there (UpdL.here))))))))))) | exact UpdL.there (UpdL.there (UpdL.there (UpdL.there (UpdL.there (UpdL.there (UpdL.there (UpdL.there (UpdL.there (UpdL.there (UpdL.there (UpdL.there (UpdL.here)))))))))))) | exact UpdL.there (UpdL.there (UpdL.there (UpdL.there (UpdL.there (UpdL.there (UpdL.there (UpdL.there (UpdL.there (UpdL.there (UpdL.there (UpdL.there (UpdL.there (UpdL.here))))))))))))))
local macro_rules | `(tactic| walk_at "d") => `(tactic| first | exact Del.here | exact Del.there (Del.here) | exact Del.there (Del.there (Del.here)) | exact Del.there (Del.there (Del.there (Del.here))) | exact Del.there (Del.there (Del.there (Del.there (Del.here)))) | exact Del.there (Del.there (Del.there (Del.there (Del.there (Del.here))))) | exact Del.there (Del.there (Del.there (Del.there (Del.there (Del.there (Del.here)))))) | exact Del.there (Del.there (Del.there (Del.there (Del.there (Del.there (Del.there (Del.here))))))) | exact Del.there (Del.there (Del.there (Del.there (Del.there (Del.there (Del.there (Del.there (Del.here)))))))) | exact Del.there (Del.there (Del.there (Del.there (Del.there (Del.there (Del.there (Del.there (Del.there (Del.here))))))))) | exact Del.there (Del.there (Del.there (Del.there (Del.there (Del.there (Del.there (Del.there (Del.there (Del.there (Del.here)))))))))) | exact Del.there (Del.there (Del.there (Del.there (Del.there (Del.there (Del.there (Del.there (Del.there (Del.there (Del.there (Del.here))))))))))) | exact Del.there (Del.there (Del.there (Del.there (Del.there (Del.there (Del.there (Del.there (Del.there (Del.there (Del.there (Del.there (Del.here)))))))))))) | exact Del.there (Del.there (Del.there (Del.there (Del.there (Del.there (Del.there (Del.there (Del.there (Del.there (Del.there (Del.there (Del.there (Del.here))))))))))))) | exact Del.there (Del.there (Del.there (Del.there (Del.there (Del.there (Del.there (Del.there (Del.there (Del.there (Del.there (Del.there (Del.there (Del.there (Del.here)))))))))))))) | exact Del.there (Del.there (Del.there (Del.there (Del.there (Del.there (Del.there (Del.there (Del.there (Del.there (Del.there (Del.there (Del.there (Del.there (Del.there (Del.here))))))))))))))) | exact Del.there (Del.there (Del.there (Del.there (Del.there (Del.there (Del.there (Del.there (Del.there (Del.there (Del.there (Del.there (Del.there (Del.there (Del.there (Del.there (Del.here)))))))))))))))) | exact Del.there (Del.there (Del.there (Del.there (Del.there (Del.there (Del.there (Del.there (Del.there (Del.there (Del.there (Del.there (Del.there (Del.there (Del.there (Del.there (Del.there (Del.here))))))))))))))))) | exact Del.there (Del.there (Del.there (Del.there (Del.there (Del.there (Del.there (Del.there (Del.there (Del.there (Del.there (Del.there (Del.there (Del.there (Del.there (Del.there (Del.there (Del.there (Del.here)))))))))))))))))) | exact Del.there (Del.there (Del.there (Del.there (Del.there (Del.there (Del.there (Del.there (Del.there (Del.there (Del.there (Del.there (Del.there (Del.there (Del.there (Del.there (Del.there (Del.there (Del.there (Del.here))))))))))))))))))) | exact Del.there (Del.there (Del.there (Del.there (Del.there (Del.there (Del.there (Del.there (Del.there (Del.there (Del.there (Del.there (Del.there (Del.there (Del.there (Del.there (Del.there (Del.there (Del.there (Del.there (Del.here)))))))))))))))))))) | exact Del.there (Del.there (Del.there (Del.there (Del.there (Del.there (Del.there (Del.there (Del.there (Del.there (Del.there (Del.there (Del.there (Del.there (Del.there (Del.there (Del.there (Del.there (Del.there (Del.there (Del.there (Del.here))))))))))))))))))))) | exact Del.there (Del.there (Del.there (Del.there (Del.there (Del.there (Del.there (Del.there (Del.there (Del.there (Del.there (Del.there (Del.there (Del.there (Del.there (Del.there (Del.there (Del.there (Del.there (Del.there (Del.there (Del.there (Del.here)))))))))))))))))))))) | exact Del.there (Del.there (Del.there (Del.there (Del.there (Del.there (Del.there (Del.there (Del.there (Del.there (Del.there (Del.there (Del.there (Del.there (Del.there (Del.there (Del.there (Del.there (Del.there (Del.there (Del.there (Del.there (Del.there (Del.here))))))))))))))))))))))))
local macro_rules | `(tactic| walk_at "s") => `(tactic| repeat (first | exact List.Sublist.refl _ | exact List.nil_sublist _ | refine List.Sublist.cons_cons _ ?_ | refine List.Sublist.cons _ ?_))
local macro_rules | `(tactic| walk_at "h") => `(tactic| repeat (first | assumption | exact List.Mem.head _ | refine List.Mem.tail _ ?_))
noncomputable def xLaw : FnX 207 := ⟨_, fun P => rfl⟩
noncomputable def lawStmts : List Stmt := match xLaw.1.body with
  | .stmts b => b
  | _ => []
section
variable {C : Cx} {A : Around} {S : St} {E : Value → Shared → Prop} {env : Env}
theorem gRange (B : Base C) : GlobalIs C (Str.ofString "range") (.type "range") := B.bi (by intro P; kernel_rfl) (by kernel_rfl) (by decide)
theorem gRest (B : Base C) : GlobalIs C (Str.ofString "_law_rest") (.ref 188) := B.glob (by intro P; kernel_rfl)
def restVals : List Value := [.int 139 673, .int 18 674, .int 6 675, .int 59 676, .int 93 677, .int 172 678, .int 71 679, .int 1063 680]
theorem compRange {scope : Scope} {cl : List (Str × Addr)} {elt : Expr} {x : Str} {it : Addr} {n : Nat} {S₃ : St} (F : Nat → List Value → Prop) (h0 : F 0 [])
    (h : ∀ cn ac us i u p, i < n → F i us → W C A (p :: (cn, .ns [(x, some (.int (i : Int) u))]) :: (ac, .list us) :: S₃) (eval elt (compEnvC scope cl cn env)) (fun y S' => F (i + 1) (us ++ [y]) ∧ (p :: (cn, .ns [(x, some (.int (i : Int) u))]) :: (ac, .list us) :: S₃).Sublist S') NoE) :
    CompBody C A env scope cl elt x (.ref it) n (fun i X => X = [(it, .obj (rngObj (0 + i * 1) (n - i) 1))]) (fun i v Y => (∃ u, v = .int (0 + i * 1) u) ∧ Y = [(it, .obj (rngObj (0 + (i + 1 : Nat) * 1) (n - (i + 1 : Nat)) 1))]) (fun _ => True) S₃ F where
  dep := fun _ => trivial
  self := fun X S hX hD => Iter.selfR X S hX
  start := h0
  turn := fun i hin v Y us cn ac hV hF => by
    obtain ⟨⟨u, rfl⟩, rfl⟩ := hV
    rw [show (0 + (i : Int) * 1) = (i : Int) from by omega]
    exact (h cn ac us i u _ hin hF).mono fun y S' ⟨q, hs⟩ => ⟨_, rfl, hs, q⟩
theorem size_range (n : Nat) : Builtin.Range.rangeSize 0 (n : Int) 1 = n := by
  unfold Builtin.Range.rangeSize
  simp
  intro h; simp [h]
theorem small_range (n : Nat) (h : n ≤ 1000) : Builtin.Range.small 0 (n : Int) 1 = true := by
  unfold Builtin.Range.small
  have h1 := size_range n
  simp only [h1]
  unfold Builtin.Range.rangeFitsLong
  simp
  omega
theorem W.binopI {l r : Expr} {op : Operator} {pos : Pos} {P : Value → Prop} {Q : Value → St → Prop} (h1 : W C A S (eval l env) (fun a S₁ => P a ∧ S.Sublist S₁) E)
    (h2 : ∀ a, P a → W C A S (eval r env) (fun b S₂ => W C A S₂ (binaryOp op a b) Q E) E) : W C A S (eval (.BinOp l op r pos) env) Q E :=
  .binop (h1.mono fun a S₁ ⟨p, hs⟩ => .weaken (h2 a p) hs)
theorem fmodN (m n : Nat) : ((m : Int).fmod (n : Int)) = ((m % n : Nat) : Int) := by
  cases m with
  | zero => simp
  | succ m => rfl
theorem fdivN (m n : Nat) : ((m : Int).fdiv (n : Int)) = ((m / n : Nat) : Int) := by
  cases m with
  | zero => simp
  | succ m => rfl
theorem W.modN {a b : Nat} {k : Int} {t u : Tok} {Q : Value → St → Prop} (hb : b ≠ 0) (hk : k = (b : Int)) (h : ∀ t', Q (.int ((a % b : Nat) : Int) t') S) : W C A S (binaryOp .Mod (.int (a : Int) t) (.int k u)) Q E := by
  subst hk
  exact .modI (by omega) fun t' => by rw [fmodN]; exact h t'
theorem W.divN {a b : Nat} {k : Int} {t u : Tok} {Q : Value → St → Prop} (hb : b ≠ 0) (ha : a < 10000000) (hb2 : b < 10000000) (hk : k = (b : Int)) (h : ∀ t', Q (.int ((a / b : Nat) : Int) t') S) : W C A S (binaryOp .FloorDiv (.int (a : Int) t) (.int k u)) Q E := by
  subst hk
  exact .fdivI (by omega) (by omega) (by omega) fun t' => by rw [fdivN]; exact h t'
theorem flat_ones {P : Nat → Prop} : ∀ {ls : List (List Nat)}, (∀ l ∈ ls, ∃ c, l = [c] ∧ P c) → ls.flatten.length = ls.length ∧ (∀ c ∈ ls.flatten, P c) ∧ (ls.map List.length).sum = ls.length
  | [], _ => by simp
  | l :: r, h => by
    obtain ⟨h1, h2, h3⟩ := flat_ones (ls := r) fun l hl => h l (.tail _ hl)
    obtain ⟨c, rfl, hc⟩ := h l (.head _)
    refine ⟨by simp [h1], fun d hd => ?_, by simp [h3]; omega⟩
    simp only [List.flatten_cons, List.cons_append, List.nil_append, List.mem_cons] at hd
    rcases hd with rfl | hd
    · exact hc
    · exact h2 d hd
theorem W.slLMid {value slice : Expr} {l a : Addr} {vs : List Value} {i j : Nat} {t u : Tok} {Q : Value → St → Prop} (hm : (a, .fobj "slice" #[.int (i : Int) t, .int (j : Int) u, .none]) ∈ S) (hl : (l, .list vs) ∈ S) (hi : i ≤ vs.length) (hj : j ≤ vs.length)
    (h : ∀ c, Q (.ref c) ((c, .list ((vs.drop i).take (j - i))) :: S)) (hsz : vs.length ≤ 1000)
    (hs : ∃ ops, subscripted slice false (.ref l) (.ref a) = operate ops (getItem (.ref l) (.ref a)) := by exact ⟨_, rfl⟩) :
    W C A S (subscriptTail value slice (.ref l) (.ref a)) Q E :=
  .slL hm hl (.int _ t) (.int _ u) .none (by simp) (fun c => by
    rw [slicePick_plain]
    simp only [Option.elim, clipAt_nat, Nat.min_eq_left hi, Nat.min_eq_left hj]
    exact h c) hsz hs
theorem NL.drop {vs ks} (n : Nat) (h : NL vs ks) : NL (vs.drop n) (ks.drop n) := ⟨by simp [h.1], fun i k hk => by
  rw [List.getElem?_drop] at hk ⊢
  exact h.2 _ k hk⟩
theorem NL.take {vs ks} (n : Nat) (h : NL vs ks) : NL (vs.take n) (ks.take n) := ⟨by simp [h.1], fun i k hk => by
  rcases Nat.lt_or_ge i n with hi | hi
  · rw [List.getElem?_take_of_lt hi] at hk ⊢
    exact h.2 _ k hk
  · rw [List.getElem?_eq_none (by rw [List.length_take]; omega)] at hk; cases hk⟩
theorem letter {z i : Nat} (h : i < 3) : ∃ c, [97, 98, z][i]? = some c ∧ (c = 97 ∨ c = 98 ∨ c = z) := by
  match i, h with
  | 0, _ => exact ⟨97, rfl, .inl rfl⟩
  | 1, _ => exact ⟨98, rfl, .inr (.inl rfl)⟩
  | 2, _ => exact ⟨z, rfl, .inr (.inr rfl)⟩
theorem pow3 (k : Nat) : (3 : Int) ^ ((k : Int).toNat) = ((3 ^ k : Nat) : Int) := by rw [Int.toNat_natCast]; simp
theorem pow3_le {k : Nat} (h : k ≤ 6) : 3 ^ k < 10000000 := Nat.lt_of_le_of_lt (Nat.pow_le_pow_right (by decide) h) (by decide)
theorem pow3_ne (k : Nat) : 3 ^ k ≠ 0 := Nat.pos_iff_ne_zero.mp (Nat.pow_pos (by decide))
theorem size_down (m : Nat) : Builtin.Range.rangeSize (m : Int) (-1) (-1) = ((m + 1 : Nat) : Int) := by
  unfold Builtin.Range.rangeSize
  rw [if_neg (by decide), if_pos (by omega)]
  simp
theorem small_down (m : Nat) (h : m ≤ 1000) : Builtin.Range.small (m : Int) (-1) (-1) = true := by
  unfold Builtin.Range.small
  have h1 := size_down m
  simp only [h1]
  unfold Builtin.Range.rangeFitsLong
  simp
  omega
theorem any_mk (ls : List (List Nat)) (w : List Nat) : ((ls.map mk).any (· == mk w)) = decide (w ∈ ls) := by
  induction ls with
  | nil => rfl
  | cons x r ih =>
    rw [List.map_cons, List.any_cons, ih, mk_beq]
    by_cases h : x = w
    · subst h; simp
    · have : w ≠ x := fun e => h e.symm
      simp [h, this]
/-- the law: what it computes is true -/
theorem W.lawBody {L fa sc : Addr} {cd : Value} {vs : List Value} {ns : List Int} {Q : Flow → St → Prop} (B : Base2 C) (R : Room A 540) (hu : A.units < cLine) (hsc : C.base.IsList sc vs.toArray) (hi : IntsAre vs ns) (hlen : vs.length ≤ 63)
    (h : ∀ S', Q (.ret (.bool true)) S') :
    W C A ((L, .ns [(Str.ofString "behind", none), (Str.ofString "owned", none), (Str.ofString "text", none), (Str.ofString "pattern", none), (Str.ofString "choices", none), (Str.ofString "place", none), (Str.ofString "due", none), (Str.ofString "size", none)]) ::
      (L + 1, .cell (some (.ref sc))) :: (L + 2, .cell none) :: (L + 3, .cell none) :: (L + 4, .cell none) :: S) (execs lawStmts (envOfC (Str.ofString "law") xLaw.1.scope L fa cd)) Q NoE := by
  refine .sCons (.sAssign (.listComp (.callName (.glob (gRange B.toBase) (.withT (.itemsCons (.cInt fun t1 => .itemsNil (.range1 fun r t2 t3 => .iterR (.head _) (small_range 8 (by decide)) (size_range 8) fun it => ?_)))))))) 
  refine ⟨8, _, _, _, [(it, .obj (rngObj 0 8 1))], _, fun i us => ∃ ds, NL us ds ∧ ds.length = i ∧ ∀ d ∈ ds, d < 1000003, Iter.range (a := 0) (c := 1) (n := 8) (it := it) R.handled, compRange _ ⟨[], .nil, rfl, by simp⟩ ?_, rfl, .refl _, by decide, fun ac us hF => ?_⟩
  · rintro cn ac us i u p hi8 ⟨ds, hnl, hdl, hds⟩
    refine .binopI (P := fun v => ∃ a t, v = .int a t) ?_ ?_
    rotate_left
    · rintro v ⟨a, t, rfl⟩
      refine .cInt fun t4 => .modI (by decide) fun t5 => ⟨?_, .refl _⟩
      have h1 : 0 ≤ a.fmod 1000003 := Int.fmod_nonneg_of_pos _ (by decide)
      have h2 : a.fmod 1000003 < 1000003 := Int.fmod_lt_of_pos _ (by decide)
      obtain ⟨d, hd⟩ := Int.eq_ofNat_of_zero_le h1
      rw [hd] at h2 ⊢
      refine ⟨ds ++ [d], hnl.snoc, by simp [hdl], fun e he => ?_⟩
      rcases List.mem_append.mp he with he | he
      · exact hds e he
      · simp at he; omega
    · refine .ifexp (.tcmp (.name (.tail _ (.head _)) (.head _) (.callName (.glob (gLen B.toBase) (.withB (.itemsCons (.nameC rfl (by walk_at "m") (.itemsNil (.lenLB hsc (fun t4 => .ltI ⟨_, rfl, ?_⟩) (by omega))))))))))
      by_cases hlt : i < vs.length
      · refine ite_pos (by simp; omega) (.sub (.nameC rfl (by walk_at "m") (.name (.tail _ (.head _)) (.head _) (.itemLB hsc (by omega) (by omega) (by rw [Int.toNat_natCast]; exact List.getElem?_eq_getElem hlt) ⟨?_, .refl _⟩))))
        obtain ⟨t, ht⟩ := IntsAre.int_at hi i _ (List.getElem?_eq_getElem hlt)
        exact ⟨_, t, ht⟩
      · refine ite_neg (by simp; omega) (.sub (.glob (gRest B.toBase) (.name (.tail _ (.head _)) (.head _) (.itemTB (vs := restVals) (B.frag _ _ (by kernel_rfl)) (by omega) (by omega) (by rw [Int.toNat_natCast]; exact List.getElem?_eq_getElem (by simp [restVals]; omega)) ⟨?_, .refl _⟩))))
        match i, hi8 with
        | 0, _ => exact ⟨_, _, rfl⟩
        | 1, _ => exact ⟨_, _, rfl⟩
        | 2, _ => exact ⟨_, _, rfl⟩
        | 3, _ => exact ⟨_, _, rfl⟩
        | 4, _ => exact ⟨_, _, rfl⟩
        | 5, _ => exact ⟨_, _, rfl⟩
        | 6, _ => exact ⟨_, _, rfl⟩
        | 7, _ => exact ⟨_, _, rfl⟩
  obtain ⟨ds, hnl, hdl, hds⟩ := hF
  have hget : ∀ k, (hk : k < 8) → ∃ t, us[k]? = some (.int ((ds[k]'(by omega) : Nat) : Int) t) := fun k hk => hnl.2 k _ (List.getElem?_eq_getElem (by omega))
  have hdlt : ∀ k, (hk : k < 8) → ds[k]'(by omega) < 1000003 := fun k hk => hds _ (List.getElem_mem _)
  obtain ⟨u0, hu0⟩ := hget 0 (by decide)
  have hd0 := hdlt 0 (by decide)
  obtain ⟨u7, hu7⟩ := hget 7 (by decide)
  have hd7 := hdlt 7 (by decide)
  refine .stc rfl (by walk_at "u") ?_
  have hz : signs[ds[0] % 8]? = some (signs[ds[0] % 8]'(by simp [signs]; omega)) := List.getElem?_eq_getElem _
  have hzs : signs[ds[0] % 8]'(by simp [signs]; omega) ∈ signs := List.getElem_mem _
  generalize signs[ds[0] % 8]'(by simp [signs]; omega) = z at hz hzs
  refine .sCons (.sAsTuple (.mkTuple (.itemsCons (.binop (.cStr fun t4 => .sub (.cStr fun t5 => .binop (.sub (.nameC rfl (by walk_at "m") (.cInt fun t6 => .itemL (by walk_at "m") (by decide) (by decide) hu0 (.cInt fun t7 => .modN (b := 8) (by decide) rfl fun t8 => ?_))))))))))
  refine .itemM (y := signs) (by omega) (by omega) (by rw [Int.toNat_natCast]; exact hz) fun t9 => .addM (x := [97, 98]) (fun tle => .itemsCons ?_) (by simp)
  refine .sub (.mkList (.itemsCons (.cStr fun q1 => .itemsCons (.cStr fun q2 => .itemsCons (.cStr fun q3 => .itemsNil ⟨z3 _ _ _, fun bl => ?_⟩)))))
  refine .binop (.binop (.sub (.nameC rfl (by walk_at "m") (.cInt fun t6 => .itemL (by walk_at "m") (by decide) (by decide) hu0 (.cInt fun t7 => .divN (b := 48) (by decide) (by omega) (by decide) rfl fun t8 => .cInt fun t9 => .modN (b := 3) (by decide) rfl fun t10 => ?_)))))
  obtain ⟨b, tb, hb, hbv⟩ : ∃ b tb, (b = [] ∨ b = [97] ∨ b = [98]) ∧ [Value.str (Str.ofString "") q1, Value.str (Str.ofString "a") q2, Value.str (Str.ofString "b") q3][ds[0] / 48 % 3]? = some (.str (mk b) tb) := by
    have : ds[0] / 48 % 3 < 3 := Nat.mod_lt _ (by decide)
    match ds[0] / 48 % 3, this with
    | 0, _ => exact ⟨[], q1, .inl rfl, rfl⟩
    | 1, _ => exact ⟨[97], q2, .inr (.inl rfl), rfl⟩
    | 2, _ => exact ⟨[98], q3, .inr (.inr rfl), rfl⟩
  refine .itemL (.head _) (by omega) (by omega) (by rw [Int.toNat_natCast]; exact hbv) (.itemsNil ⟨z2 _ _, fun tu => ?_⟩)
  refine .asTuple (.unpT R.handled (.head _) rfl ?_)
  refine .aioCons (.asName (.stc rfl (by walk_at "u") ?_))
  refine .aioCons (.asName (.stl (by walk_at "u") (by walk_at "ul") (.aioNil ?_)))
  refine .sCons (.sAssign (.mkList (.itemsNil ⟨by decide, fun ow => .stl (by walk_at "u") (by walk_at "ul") ?_⟩)))
  refine .weaken (S₀ := (ow, .list []) :: (ac, .list us) :: (L, .ns [(Str.ofString "behind", some (.str (mk b) tb)), (Str.ofString "owned", some (.ref ow)), (Str.ofString "text", none), (Str.ofString "pattern", none), (Str.ofString "choices", none), (Str.ofString "place", none), (Str.ofString "due", none), (Str.ofString "size", none)]) ::
      (L + 1, .cell (some (.ref sc))) :: (L + 2, .cell (some (.ref ac))) :: (L + 3, .cell (some (.str (mk [97, 98, z]) tle))) :: (L + 4, .cell none) :: S) ?_ (.cons_cons _ (.cons _ (.cons _ (.cons_cons _ (.cons _ (.refl _))))))
  clear hz tu bl hbv q1 q2 q3
  have hmd : ds[0] / 8 % 6 < 6 := Nat.mod_lt _ (by decide)
  refine .sCons (.sFor (.sub (.nameC rfl (by walk_at "m") (.eSlice (.partS (.cInt fun t4 => .partS (.binop (.cInt fun t5 => .binop (.binop (.sub (.nameC rfl (by walk_at "m") (.cInt fun t6 => .itemL (by walk_at "m") (by decide) (by decide) hu0 (.cInt fun t7 => .divN (b := 8) (by decide) (by omega) (by decide) rfl fun t8 => .cInt fun t9 => .modN (b := 6) (by decide) rfl fun t10 => .addI fun t11 => ?_)))))))))))) )
  rw [show ((2 : Int) + ((ds[0] / 8 % 6 : Nat) : Int)) = ((2 + ds[0] / 8 % 6 : Nat) : Int) from by omega]
  generalize hm : ds[0] / 8 % 6 = m at *
  refine .partN fun sl => .slLMid (i := 1) (.head _) (by walk_at "h") (by rw [hnl.1]; omega) (by rw [hnl.1]; omega) (fun nl => ?_) (by rw [hnl.1]; omega)
  have hnn := (hnl.drop 1).take (2 + m - 1)
  have hnlen : ((ds.drop 1).take (2 + m - 1)).length = m + 1 := by simp; omega
  have hnd : ∀ d ∈ (ds.drop 1).take (2 + m - 1), d < 1000003 := fun d hd => hds d (List.mem_of_mem_drop (List.mem_of_mem_take hd))
  generalize (ds.drop 1).take (2 + m - 1) = nds at hnn hnlen hnd
  generalize (us.drop 1).take (2 + m - 1) = nvs at hnn
  have hnvl := hnn.1
  refine .iterL (.head _) fun it => ?_
  refine ⟨nvs.length, _, _, _, [(it, liCell nl 0)], _, fun i S' => ∃ vnum vso lso, SL vso lso ∧ lso.length = i ∧ (∀ w ∈ lso, w.length ≤ 4 ∧ ∀ c ∈ w, c = 97 ∨ c = 98 ∨ c = z) ∧ S' = (nl, .list nvs) :: (ow, .list vso) :: (ac, .list us) :: (L, .ns [(Str.ofString "behind", some (.str (mk b) tb)), (Str.ofString "owned", some (.ref ow)), (Str.ofString "text", none), (Str.ofString "pattern", none), (Str.ofString "choices", none), (Str.ofString "place", none), (Str.ofString "due", none), (Str.ofString "size", none)]) ::
      (L + 1, .cell (some (.ref sc))) :: (L + 2, .cell (some (.ref ac))) :: (L + 3, .cell (some (.str (mk [97, 98, z]) tle))) :: (L + 4, .cell vnum) :: S,
    Iter.list (l := nl) (vs := nvs) (it := it) R.handled, ?_, rfl, .cons_cons _ (.cons_cons _ (.cons _ (.refl _))), ⟨none, [], [], .nil, rfl, by simp, rfl⟩⟩
  constructor
  · rintro i S' ⟨vnum, vso, lso, _, _, _, rfl⟩
    exact .head _
  · rintro i hin v Y S' ⟨hv, rfl⟩ ⟨vnum, vso, lso, hso, hlo, hwo, rfl⟩
    obtain ⟨nu, tn, hnu, rfl⟩ := hnn.get hv
    have hnu3 := hnd nu (List.mem_of_getElem? hnu)
    have hsol := hso.len
    have hm5 : nu % 5 < 5 := Nat.mod_lt _ (by decide)
    refine .goName (.asName (.stc rfl (by walk_at "u") ?_))
    refine .sCons (.sAppend (.name (by walk_at "m") (by walk_at "m") ⟨_, rfl, ⟨_, by walk_at "m"⟩, .callMeth F.plainAttrs_str F.slot_str_join F.type_str_join (.cStr fun tj => ⟨fun s G => ⟨typeIs_str _ _ _, fun a e => (by cases e)⟩, .withB (first := [.str (mk []) tj]) (.itemsCons (.listComp ?_))⟩)⟩))
    refine .callName (.glob (gRange B.toBase) (.withT (.itemsCons (.binop (.nameC rfl (by walk_at "m") (.cInt fun t4 => .modN (b := 5) (by decide) rfl fun t5 => .itemsNil (.range1 fun r t2 t3 => .iterR (.head _) (small_range (nu % 5) (by omega)) (size_range _) fun it2 => ?_)))))))
    refine ⟨nu % 5, _, _, _, [(it2, .obj (rngObj 0 ((nu % 5 : Nat) : Int) 1))], _, fun i us => ∃ ls, SL us ls ∧ ls.length = i ∧ ∀ l ∈ ls, ∃ c, l = [c] ∧ (c = 97 ∨ c = 98 ∨ c = z), Iter.range (a := 0) (c := 1) (n := nu % 5) (it := it2) R.handled, compRange _ ⟨[], .nil, rfl, by simp⟩ ?_, rfl, .refl _, by omega, fun ac2 us2 hF => ?_⟩
    · rintro cn ac2 us2 k u p hk ⟨ls, hsl, hll, hlc⟩
      refine .sub (.nameC rfl (by walk_at "m") (.binop (.binop (.binop (.nameC rfl (by walk_at "m") (.cInt fun t6 => .divN (b := 5) (by decide) (by omega) (by decide) rfl fun t7 => .binop (.cInt fun t8 => .name (.tail _ (.head _)) (.head _) (.powI (by omega) (by omega) (by decide) fun t9 => ?_))))))))
      rw [pow3]
      refine .divN (pow3_ne k) (by omega) (pow3_le (by omega)) rfl fun t10 => .cInt fun t11 => .modN (b := 3) (by decide) rfl fun t12 => ?_
      obtain ⟨c, hc, hcc⟩ := letter (z := z) (i := nu / 5 / 3 ^ k % 3) (Nat.mod_lt _ (by decide))
      refine .itemM (by omega) (by omega) (by rw [Int.toNat_natCast]; exact hc) fun t13 => ⟨⟨ls ++ [[c]], hsl.snoc [c] t13, by simp [hll], fun l hl => ?_⟩, .refl _⟩
      rcases List.mem_append.mp hl with hl | hl
      · exact hlc l hl
      · exact ⟨c, by simpa using hl, hcc⟩
    · obtain ⟨ls, hsl, hll, hlc⟩ := hF
      obtain ⟨g1, g2, g3⟩ := flat_ones hlc
      refine .itemsNil (.joinL (.head _) hsl (by rw [g3]; simp; omega) fun t6 => ?_)
      rw [joinM_nil]
      refine ⟨vso, _, by walk_at "u", by omega, .sNil ⟨[_], (nl, .list nvs) :: (ow, .list (vso ++ [.str (mk ls.flatten) t6])) :: (ac, .list us) :: (L, .ns [(Str.ofString "behind", some (.str (mk b) tb)), (Str.ofString "owned", some (.ref ow)), (Str.ofString "text", none), (Str.ofString "pattern", none), (Str.ofString "choices", none), (Str.ofString "place", none), (Str.ofString "due", none), (Str.ofString "size", none)]) ::
        (L + 1, .cell (some (.ref sc))) :: (L + 2, .cell (some (.ref ac))) :: (L + 3, .cell (some (.str (mk [97, 98, z]) tle))) :: (L + 4, .cell (some (.int (nu : Int) tn))) :: S, rfl, .cons _ (.cons _ (.refl _)), _, _, lso ++ [ls.flatten], hso.snoc _ _, by simp [hlo], fun w hw => ?_, rfl⟩⟩
      rcases List.mem_append.mp hw with hw | hw
      · exact hwo w hw
      · have : w = ls.flatten := by simpa using hw
        subst this
        exact ⟨by omega, g2⟩
  · rintro S' ⟨vnum, vso, lso, hso, hlo, hwo, rfl⟩
    rw [hnvl, hnlen] at hlo
    clear hnn hnd hnlen hnvl
    have hm7 : ds[7] % 7 < 7 := Nat.mod_lt _ (by decide)
    refine .sCons (.sAssign (.callMeth F.plainAttrs_str F.slot_str_join F.type_str_join (.cStr fun tj => ⟨fun s G => ⟨typeIs_str _ _ _, fun a e => (by cases e)⟩, .withB (first := [.str (mk []) tj]) (.itemsCons (.listComp ?_))⟩)))
    refine .callName (.glob (gRange B.toBase) (.withT (.itemsCons (.binop (.sub (.nameC rfl (by walk_at "m") (.cInt fun t3 => .itemL (by walk_at "m") (by decide) (by decide) hu7 (.cInt fun t4 => .modN (b := 7) (by decide) rfl fun t5 => .itemsNil (.range1 fun r t2 t3 => .iterR (.head _) (small_range (ds[7] % 7) (by omega)) (size_range _) fun it2 => ?_)))))))))
    refine ⟨ds[7] % 7, _, _, _, [(it2, .obj (rngObj 0 ((ds[7] % 7 : Nat) : Int) 1))], _, fun i us => ∃ ls, SL us ls ∧ ls.length = i ∧ ∀ l ∈ ls, ∃ c, l = [c] ∧ (c = 97 ∨ c = 98 ∨ c = z), Iter.range (a := 0) (c := 1) (n := ds[7] % 7) (it := it2) R.handled, compRange _ ⟨[], .nil, rfl, by simp⟩ ?_, rfl, .refl _, by omega, fun ac2 us2 hF => ?_⟩
    · rintro cn ac2 us2 k u p hk ⟨ls, hsl, hll, hlc⟩
      refine .sub (.nameC rfl (by walk_at "m") (.binop (.binop (.binop (.sub (.nameC rfl (by walk_at "m") (.cInt fun t3 => .itemL (by walk_at "m") (by decide) (by decide) hu7 (.cInt fun t6 => .divN (b := 7) (by decide) (by omega) (by decide) rfl fun t7 => .binop (.cInt fun t8 => .name (.tail _ (.head _)) (.head _) (.powI (by omega) (by omega) (by decide) fun t9 => ?_))))))))))
      rw [pow3]
      refine .divN (pow3_ne k) (by omega) (pow3_le (by omega)) rfl fun t10 => .cInt fun t11 => .modN (b := 3) (by decide) rfl fun t12 => ?_
      obtain ⟨c, hc, hcc⟩ := letter (z := z) (i := ds[7] / 7 / 3 ^ k % 3) (Nat.mod_lt _ (by decide))
      refine .itemM (by omega) (by omega) (by rw [Int.toNat_natCast]; exact hc) fun t13 => ⟨⟨ls ++ [[c]], hsl.snoc [c] t13, by simp [hll], fun l hl => ?_⟩, .refl _⟩
      rcases List.mem_append.mp hl with hl | hl
      · exact hlc l hl
      · exact ⟨c, by simpa using hl, hcc⟩
    obtain ⟨ls, hsl, hll, hlc⟩ := hF
    obtain ⟨g1, g2, g3⟩ := flat_ones hlc
    refine .itemsNil (.joinL (.head _) hsl (by rw [g3]; simp; omega) fun ttx => .stl (by walk_at "u") (by walk_at "ul") ?_)
    rw [joinM_nil]
    have htl : ls.flatten.length ≤ 6 := by omega
    generalize ls.flatten = tx at htl
    clear hsl hll hlc g1 g2 g3
    -- the words
    have hne : lso ≠ [] := by rintro rfl; simp at hlo
    have hw4 : ∀ w ∈ lso, w.length ≤ 4 := fun w hw => (hwo w hw).1
    have hwl : ∀ w ∈ lso, ∀ c ∈ w, c = 97 ∨ c = 98 ∨ c = z := fun w hw => (hwo w hw).2
    have hl6 : lso.length ≤ 6 := by omega
    have hsol := hso.len
    have Wd := words_dd hne hzs hwl
    have hmu := mu_dd hl6 hw4
    have hbl : b.length ≤ 1 := by rcases hb with rfl | rfl | rfl <;> simp
    refine .weaken (S₀ := (ow, .list vso) :: (L, .ns [(Str.ofString "behind", some (.str (mk b) tb)), (Str.ofString "owned", some (.ref ow)), (Str.ofString "text", some (.str (mk tx) ttx)), (Str.ofString "pattern", none), (Str.ofString "choices", none), (Str.ofString "place", none), (Str.ofString "due", none), (Str.ofString "size", none)]) :: S) ?_ (by walk_at "s")
    refine .sCons (.sAssign (.callName (.glob (gOpt B.toBase) (.withFnKw (fOpt B.toBase) (.itemsCons (.name (by walk_at "m") (by walk_at "m") (.itemsNil (.name (by walk_at "m") (by walk_at "m") (.regexOpt B (R.mono (by decide)) (.head _) hso Wd (by omega) (by omega) (by omega) fun tp => .stl (by walk_at "u") (by walk_at "ul") ?_)))))))))
    -- the same words from behind, each twice
    have hso2 := hso.reverse.append hso
    have hpe : pat (lso.reverse ++ lso) b = pat lso b := by
      unfold pat
      rw [srt_dd_eq (a := lso.reverse ++ lso) (b := lso) fun k => by simp]
    have hse : srt (dd (lso.reverse ++ lso)) = srt (dd lso) := srt_dd_eq fun k => by simp
    refine .sCons (.sIf (.tcmp (.callName (.glob (gOpt B.toBase) (.withFnKw (fOpt B.toBase) (.itemsCons (.binop (.sub (.name (by walk_at "m") (by walk_at "m") (.eSlice (.partN (.partN (.partS (.unop (.cInt fun t3 => .negI fun t4 => fun sl => .slLRev (.head _) (by walk_at "m") (fun l2 => .name (by walk_at "m") (by walk_at "m") (.addL (.head _) (by walk_at "m") (fun l3 => ?_) (by simp; omega))) (by omega))))))))))))))) )
    refine .itemsNil (.name (by walk_at "m") (by walk_at "m") (.regexOpt B (R.mono (by decide)) (.head _) hso2 (hse ▸ Wd) (by rw [hse]; omega) (by simp; omega) (by omega) fun tp2 => .name (by walk_at "m") (by walk_at "m") (.neM ⟨_, rfl, ite_neg (by rw [hpe]; simp) (.sNil ?_)⟩)))
    refine .weaken (S₀ := (ow, .list vso) :: (L, .ns [(Str.ofString "behind", some (.str (mk b) tb)), (Str.ofString "owned", some (.ref ow)), (Str.ofString "text", some (.str (mk tx) ttx)), (Str.ofString "pattern", some (.str (mk (pat lso b)) tp)), (Str.ofString "choices", none), (Str.ofString "place", none), (Str.ofString "due", none), (Str.ofString "size", none)]) :: S) ?_ (.cons _ (.cons _ (.cons _ (.refl _))))
    have hsz := shw_len 40 _ z Wd (by omega)
    have hcl := cl_le 40 _ z Wd (by omega)
    have hnb := nb_le 40 _ z Wd (by omega)
    have hruns := runs_pat (rxT 40 (srt (dd lso))) b hb (by omega)
    have hpat : pat lso b = 40 :: (shw (rxT 40 (srt (dd lso))) ++ 41 :: b) := by simp [pat]
    rw [← hpat] at hruns
    have hpl : (pat lso b).length ≤ 800 := by rw [hpat]; simp; omega
    generalize hG : wordS b (den (rxT 40 (srt (dd lso)))) = G at hruns
    generalize hJ : cl (rxT 40 (srt (dd lso))) + 1 = J at hruns
    have hJ40 : J ≤ 31 := by omega
    refine .sCons (.sAssign (.callName (.glob (gParsed B.toBase) (.withFn (fParsed B.toBase) (.itemsCons (.name (by walk_at "m") (by walk_at "m") (.itemsNil (.parsed B.toBase (R.mono (by decide)) hruns hpl fun ch rows X hch hcm hrl => ?_))))))))
    refine .perm ?_ (List.perm_append_comm_assoc X [(ow, _), (L, _)] S)
    refine .stl (by walk_at "u") (by walk_at "ul") ?_
    refine .sCons (.sFor (.callName (.glob (gRange B.toBase) (.withT (.itemsCons (.binop (.callName (.glob (gLen B.toBase) (.withB (.itemsCons (.name (by walk_at "m") (by walk_at "m") (.itemsNil (.lenM (fun t3 => .cInt fun t4 => .addI fun t5 => ?_) (by omega)))))))))))))) 
    rw [show ((tx.length : Int) + 1) = ((tx.length + 1 : Nat) : Int) from by omega]
    refine .itemsNil (.range1 fun r t6 t7 => .iterR (.head _) (small_range (tx.length + 1) (by omega)) (size_range _) fun it => ?_)
    refine ⟨tx.length + 1, _, _, _, [(it, .obj (rngObj 0 ((tx.length + 1 : Nat) : Int) 1))], _, fun i S' => ∃ vpl vdu vsz, S' = (ow, .list vso) :: (L, .ns [(Str.ofString "behind", some (.str (mk b) tb)), (Str.ofString "owned", some (.ref ow)), (Str.ofString "text", some (.str (mk tx) ttx)), (Str.ofString "pattern", some (.str (mk (pat lso b)) tp)), (Str.ofString "choices", some (.ref ch)), (Str.ofString "place", vpl), (Str.ofString "due", vdu), (Str.ofString "size", vsz)]) :: (X ++ S),
      Iter.range (a := 0) (c := 1) (n := tx.length + 1) (it := it) R.handled, ?_, rfl, .cons_cons _ (.cons _ (.refl _)), ⟨_, _, _, rfl⟩⟩
    constructor
    · intros; trivial
    · rintro pl hpl2 v Y S' ⟨⟨upl, rfl⟩, rfl⟩ ⟨vpl, vdu, vsz, rfl⟩
      rw [show (0 + (pl : Int) * 1) = (pl : Int) from by omega]
      refine .goName (.asName (.stl (by walk_at "u") (by walk_at "ul") ?_))
      refine .sCons (.sAssign (.mkList (.itemsNil ⟨by decide, fun du => .stl (by walk_at "u") (by walk_at "ul") ?_⟩)))
      have htd : (tx.drop pl).length = tx.length - pl := List.length_drop
      have hm4 : min 4 (tx.drop pl).length ≤ 4 := by omega
      refine .sCons (.sFor (.callName (.glob (gRange B.toBase) (.withT (.itemsCons (.callName (.glob (gMin B.toBase) (.withB (.itemsCons (.cInt fun t3 => .itemsCons (.binop (.callName (.glob (gLen B.toBase) (.withB (.itemsCons (.name (by walk_at "m") (by walk_at "m") (.itemsNil (.lenM (fun t4 => .name (by walk_at "m") (by walk_at "m") (.subI fun t5 => .itemsNil (.minI R.handled fun t6 => ?_))) (by omega)))))))))))))))))))
      rw [show (min 4 ((tx.length : Int) - (pl : Int))) = ((min 4 (tx.drop pl).length : Nat) : Int) from by rw [htd]; omega]
      generalize hmm : min 4 (tx.drop pl).length = m4 at hm4
      refine .itemsCons (.unop (.cInt fun t8 => .negI fun t9 => .itemsCons (.unop (.cInt fun t10 => .negI fun t11 => .itemsNil (.range3 (fun r2 => .iterR (.head _) (small_down m4 (by omega)) (size_down m4) fun it3 => ?_) (by omega) (by omega))))))
      refine ⟨m4 + 1, _, _, _, [(it3, .obj (rngObj (m4 : Int) ((m4 + 1 : Nat) : Int) (-1)))], _, fun i S' => ∃ vsz vsd, NL vsd ((dueL lso b (tx.drop pl) m4 i).map (pl + ·)) ∧ i ≤ m4 + 1 ∧ S' = (du, .list vsd) :: (it, .obj (rngObj (0 + (pl + 1 : Nat) * 1) ((tx.length + 1 : Nat) - (pl + 1 : Nat)) 1)) :: (ow, .list vso) :: (L, .ns [(Str.ofString "behind", some (.str (mk b) tb)), (Str.ofString "owned", some (.ref ow)), (Str.ofString "text", some (.str (mk tx) ttx)), (Str.ofString "pattern", some (.str (mk (pat lso b)) tp)), (Str.ofString "choices", some (.ref ch)), (Str.ofString "place", some (.int (pl : Int) upl)), (Str.ofString "due", some (.ref du)), (Str.ofString "size", vsz)]) :: (X ++ S),
        Iter.range (a := (m4 : Int)) (c := -1) (n := m4 + 1) (it := it3) R.handled, ?_, ?_, .cons_cons _ (.cons _ (.refl _)), ⟨_, [], .nil, by omega, rfl⟩⟩
      · constructor
        · intros; trivial
        · rintro i hi2 v Y S' ⟨⟨usz, rfl⟩, rfl⟩ ⟨vsz2, vsd, hnd, _, rfl⟩
          rw [show ((m4 : Int) + (i : Int) * (-1)) = ((m4 - i : Nat) : Int) from by omega]
          generalize hs : m4 - i = s at *
          have hdl : (dueL lso b (tx.drop pl) m4 i).length ≤ 10 := by
            unfold dueL
            rw [List.length_map]
            have := (List.filter_sublist (p := okAt lso b (tx.drop pl)) (l := (List.range i).map fun j => m4 - j)).length_le
            simp at this; omega
          have hvd := hnd.1
          rw [List.length_map] at hvd
          refine .goName (.asName (.stl (by walk_at "u") (by walk_at "ul") ?_))
          have hsl : s ≤ 4 := by omega
          have e1 : (List.drop pl tx).take s = (tx.drop pl).take (pl + s - pl) := by rw [show pl + s - pl = s from by omega]
          have e2 : ((tx.drop pl).drop s).take b.length = (tx.drop (pl + s)).take (pl + s + b.length - (pl + s)) := by rw [List.drop_drop, show pl + s + b.length - (pl + s) = b.length from by omega]
          have hsucc := dueL_succ lso b (tx.drop pl) m4 i
          rw [hs] at hsucc
          refine .sCons (.sIf (.tbool (.andCons (.tcmp (.sub (.name (by walk_at "m") (by walk_at "m") (.eSlice (.partS (.name (by walk_at "m") (by walk_at "m") (.partS (.binop (.name (by walk_at "m") (by walk_at "m") (.name (by walk_at "m") (by walk_at "m") (.addI fun t12 => ?_))))))))))))))
          rw [show ((pl : Int) + (s : Int)) = ((pl + s : Nat) : Int) from by omega]
          refine .partN fun sl => .slMid (i := pl) (j := pl + s) (.head _) (by omega) fun t13 => .name (by walk_at "m") (by walk_at "m") (.inLS (.tail _ (.tail _ (.tail _ (.tail _ (.head _))))) hso ⟨_, rfl, ?_⟩)
          rw [any_mk, ← e1]
          by_cases c1 : (tx.drop pl).take s ∈ lso
          · refine ite_pos (by simpa using c1) ?_
            refine .weaken (S₀ := (it3, .obj (rngObj ((m4 : Int) + ((i + 1 : Nat) : Int) * (-1)) (((m4 + 1 : Nat) : Int) - ((i + 1 : Nat) : Int)) (-1))) :: (du, .list vsd) :: (it, .obj (rngObj (0 + (pl + 1 : Nat) * 1) ((tx.length + 1 : Nat) - (pl + 1 : Nat)) 1)) :: (ow, .list vso) :: (L, .ns [(Str.ofString "behind", some (.str (mk b) tb)), (Str.ofString "owned", some (.ref ow)), (Str.ofString "text", some (.str (mk tx) ttx)), (Str.ofString "pattern", some (.str (mk (pat lso b)) tp)), (Str.ofString "choices", some (.ref ch)), (Str.ofString "place", some (.int (pl : Int) upl)), (Str.ofString "due", some (.ref du)), (Str.ofString "size", some (.int (s : Int) usz))]) :: (X ++ S)) ?_ (List.sublist_cons_self _ _)
            refine .andCons (.tcmp (.sub (.name (by walk_at "m") (by walk_at "m") (.eSlice (.partS (.binop (.name (by walk_at "m") (by walk_at "m") (.name (by walk_at "m") (by walk_at "m") (.addI fun t14 => ?_)))))))))
            rw [show ((pl : Int) + (s : Int)) = ((pl + s : Nat) : Int) from by omega]
            refine .partS (.binop (.binop (.name (by walk_at "m") (by walk_at "m") (.name (by walk_at "m") (by walk_at "m") (.addI fun t15 => .callName (.glob (gLen B.toBase) (.withB (.itemsCons (.name (by walk_at "m") (by walk_at "m") (.itemsNil (.lenM (fun t16 => .addI fun t17 => ?_) (by omega))))))))))))
            rw [show ((pl : Int) + (s : Int) + (b.length : Int)) = ((pl + s + b.length : Nat) : Int) from by omega]
            refine .partN fun sl2 => .slMid (i := pl + s) (j := pl + s + b.length) (.head _) (by omega) fun t18 => .name (by walk_at "m") (by walk_at "m") (.eqM ⟨_, rfl, ?_⟩)
            rw [← e2]
            by_cases c2 : ((tx.drop pl).drop s).take b.length = b
            · have hok : okAt lso b (tx.drop pl) s = true := by simp only [okAt, Bool.and_eq_true, decide_eq_true_eq]; exact ⟨c1, c2⟩
              rw [hok, if_pos rfl] at hsucc
              refine ite_pos (by simpa using c2) (.andNil ?_)
              refine ite_pos rfl ?_
              refine .sCons (.sAppend (.name (by walk_at "m") (by walk_at "m") ⟨_, rfl, ⟨_, by walk_at "m"⟩, .binop (.binop (.name (by walk_at "m") (by walk_at "m") (.name (by walk_at "m") (by walk_at "m") (.addI fun t19 => .callName (.glob (gLen B.toBase) (.withB (.itemsCons (.name (by walk_at "m") (by walk_at "m") (.itemsNil (.lenM (fun t20 => .addI fun t21 => ⟨vsd, _, .there (.there .here), by omega, .sNil (.sNil ⟨[_], _, rfl, .cons _ (.refl _), _, _, ?_, by omega, rfl⟩)⟩) (by omega)))))))))))⟩))
              rw [hsucc, List.map_append]
              have := hnd.snoc (k := pl + (s + b.length)) (t := t21)
              simpa [Int.add_assoc] using this
            · have hok : okAt lso b (tx.drop pl) s = false := by
                simp only [okAt, Bool.and_eq_false_iff, decide_eq_false_iff_not]; exact .inr c2
              rw [hok, if_neg (by decide), List.append_nil] at hsucc
              refine ite_neg (by simpa using c2) ?_
              refine ite_neg (by decide) (.sNil (.sNil ⟨[_], _, rfl, .cons _ (.refl _), _, _, ?_, by omega, rfl⟩))
              rw [hsucc]; exact hnd
          · have hok : okAt lso b (tx.drop pl) s = false := by
              simp only [okAt, Bool.and_eq_false_iff, decide_eq_false_iff_not]; exact .inl c1
            rw [hok, if_neg (by decide), List.append_nil] at hsucc
            refine ite_neg (by simpa using c1) ?_
            refine ite_neg (by decide) (.sNil (.sNil ⟨[_], _, rfl, .cons _ (.refl _), _, _, ?_, by omega, rfl⟩))
            rw [hsucc]; exact hnd
        · rintro S' ⟨vsz2, vsd, hnd, _, rfl⟩
          have hdue := due_eq (b := b) (t := tx.drop pl) hne hzs hwl hl6 hw4
          rw [hG, hmm] at hdue
          refine .sCons (.sIf (.tcmp (.callName (.glob (gWays B.toBase) (.withFn (fWays B.toBase) (.itemsCons (.name (by walk_at "m") (by walk_at "m") (.itemsCons (.name (by walk_at "m") (by walk_at "m") (.itemsCons (.name (by walk_at "m") (by walk_at "m") (.itemsNil (ways_ok J B.toBase (R.mono (by omega)) hch hrl hcm (fun x hx => .tail _ (.tail _ (.tail _ (.tail _ (List.mem_append_left _ hx))))) (by omega) fun rr vsr hnr => .name (by walk_at "m") (by walk_at "m") ?_)))))))))))))
          rw [hdue] at hnr
          refine .neL hu (.head _) (.tail _ (.head _)) hnr hnd ⟨_, rfl, ite_neg (by decide) (.sNil (.sNil ⟨[_], _, rfl, .cons _ (.cons _ (.refl _)), _, _, _, rfl⟩))⟩
      · rw [show ((m4 : Int) + (0 : Nat) * (-1)) = (m4 : Int) from by omega]
        rfl
    · rintro S' ⟨vpl, vdu, vsz, rfl⟩
      exact .sCons (.sRet (.cBool (h _)))
end
end Mine
-- part Z
namespace Mine
open PySem PySem.Calls PySem.W PyProof.Rows
/-- the end of the law's call -/
def EndOk (c : ClaimW) (args : List WData) (base : Heap) (s₁ : Shared) (r : Result) (s' : Shared) : Prop :=
  r = .ok (.ret (.bool true)) ∧ c.post args (.bool true) args = true ∧ (∀ b o, base.get? b = some o → s'.heap.get? b = some o) ∧ s'.os = s₁.os ∧ AllBare s'.gens
theorem my_post {M : Model} {A : Around} {cd : Code} {s s₁ : Shared} {cw : ClaimW} {cl : Str → Option Addr} {mean : ExcName → Option Value} {args : List WData} {tabs : List (Addr × Addr)} (hT : TabsAt tabs s₁.heap) (hr : ∀ a x, cw.raises a x = false)
    (h : codeAny M A cd (fun r s' => EndOk cw args (ghostOf s₁.heap tabs) s₁ r s' ∧ GrownAll tabs s'.heap) s) : codeAny M A cd (GoodWG cw cl mean args s₁) s :=
  codeAny_mono h fun r s' ⟨⟨hres, hpost, hk, hos, hg⟩, hgr⟩ => by
    have keep : ∀ b o, b ∉ tabs.map (·.2) → s₁.heap.get? b = some o → s'.heap.get? b = some o := fun b o hb e => hk b o (ghost_ne e hb)
    have grown : ∀ b o, b ∈ tabs.map (·.2) → s₁.heap.get? b = some o → isCodeTable s₁.heap b ∧ o = tabObj #[] ∧ ∃ ps, s'.heap.get? b = some (tabObj ps) := fun b o hb e => by
      obtain ⟨q, hq, rfl⟩ := List.mem_map.mp hb
      have e2 := (hT q hq).2
      rw [e] at e2
      exact ⟨((hT q hq).1.tab (hT q hq).2).isCodeTable, Option.some.inj e2, hgr.get q hq⟩
    refine ⟨.inl ⟨.bool true, .bool true, [], hres, fun cls => hr _ _, .bool _, hpost, fun _ => ⟨List.nodup_nil, fun a ha => by cases ha⟩⟩, ⟨fun b o e => ?_, fun b o e => ?_⟩, hos, hg⟩
    · by_cases hb : b ∈ tabs.map (·.2)
      · obtain ⟨ht, rfl, ps, hP⟩ := grown b o hb e
        exact .inr (.inl ⟨ht, rfl, #[], ps, rfl, by rw [Array.empty_append]; exact hP⟩)
      · exact .inl (keep b o hb e)
    · by_cases hb : b ∈ tabs.map (·.2)
      · obtain ⟨_, _, ps, hP⟩ := grown b o hb e
        exact ⟨_, hP⟩
      · exact ⟨o, keep b o hb e⟩
theorem mapOf_nones (l : List (Str × Option Value)) (h : ∀ p ∈ l, p.2 = none) (x : Str) : mapOf l x = none := by
  unfold mapOf
  cases e : l.lookup x with
  | none => rfl
  | some v =>
    have : ∃ p ∈ l, p.2 = v := by
      clear h
      induction l with
      | nil => cases e
      | cons p l ih =>
        rw [List.lookup_cons] at e
        split at e
        · exact ⟨p, .head _, by injection e⟩
        · obtain ⟨q, hq, he⟩ := ih e
          exact ⟨q, .tail _ hq, he⟩
    obtain ⟨p, hp, rfl⟩ := this
    rw [h p hp]; rfl
def lawNs : List (Str × Option Value) := [(Str.ofString "behind", none), (Str.ofString "owned", none), (Str.ofString "text", none), (Str.ofString "pattern", none), (Str.ofString "choices", none), (Str.ofString "place", none), (Str.ofString "due", none), (Str.ofString "size", none)]
/-- the call of the law -/
theorem lawRun {w : World} {prog : Program} {base : Heap} {L fa sc : Addr} {cd : Value} {s : Shared} {mg mb m : Str → Option Value} {vs : List Value} {ns : List Int} {o1 o2 o3 o4 : Obj} {bm : Addr} {ob : Obj}
    (hsg : s.gens = #[]) (X : (hd.heap_39 w.params).In base) (hg : base.Ns mainGlobals mg) (hb : base.Ns builtinsNs mb) (hbb : ∀ x : Str, x ≠ "__name__" → mb x = bootBuiltins x) (nl : base.NoLimit)
    (hb1 : mg "__builtins__" = some (.ref bm)) (hb2 : bm ≠ builtinsNs) (hb3 : base.get? bm = some ob) (hb4 : ob.cls = .type "module") (hb5 : ob.dict = some builtinsNs) (hb6 : ob.data = .plain)
    (h56 : CodeHd base 56 52) (h178 : CodeHd base 178 176) (F : Fr base L s.heap m) (hm : ∀ x, m x = none)
    (N : News base L s.heap [(L + 1 + 1 + 1 + 1, o4), (L + 1 + 1 + 1, o3), (L + 1 + 1, o2), (L + 1, o1), (52, tabObj #[]), (176, tabObj #[])]) (hL : 176 < L)
    (c1 : o1.data = .cell (some (.ref sc))) (c2 : o2.data = .cell none) (c3 : o3.data = .cell none) (c4 : o4.data = .cell none)
    (hsc : base.IsList sc vs.toArray) (hi : IntsAre vs ns) (hlen : vs.length ≤ 63) :
    wpAny (model prog w) (callerA.deeper (envOfC (Str.ofString "law") xLaw.1.scope L fa cd)) (execs lawStmts (envOfC (Str.ofString "law") xLaw.1.scope L fa cd))
      (fun fl s' => fl = .ret (.bool true) ∧ (∀ b o, base.get? b = some o → s'.heap.get? b = some o) ∧ s'.os = s.os ∧ AllBare s'.gens ∧ GrownAll [(56, 52), (178, 176)] s'.heap) NoE s := by
  let C : Cx := { prog, w, base, os := s.os, tabs := tabsL, ng := 0 }
  have B : Base2 C := { frag := X, g := ⟨mg, hg⟩, b := ⟨mb, hb, hbb⟩, nolimit := nl, hb := ⟨mg, bm, ob, hg, hb1, hb2, hb3, hb4, hb5, hb6⟩, tb := rfl, h56 := h56, h178 := h178 }
  have n4 := N _ (.head _)
  have n3 := N _ (.tail _ (.head _))
  have n2 := N _ (.tail _ (.tail _ (.head _)))
  have n1 := N _ (.tail _ (.tail _ (.tail _ (.head _))))
  have t1 := N _ (.tail _ (.tail _ (.tail _ (.tail _ (.head _)))))
  have t2 := N _ (.tail _ (.tail _ (.tail _ (.tail _ (.tail _ (.head _))))))
  have hLn : base.get? L = none := by
    cases e : base.get? L with
    | none => rfl
    | some o => exact absurd (Nat.lt_of_lt_of_le (Heap.lt_size e) F.above) (Nat.lt_irrefl _)
  have tab : ∀ {P : Addr} {qs : List (Pos × Str)}, s.heap.get? P = some (tabObj #[]) → TabOk s.heap P qs := fun {P qs} e => ⟨#[], e, trivial, fun x hx c hc => by cases hc⟩
  have hns : m = mapOf lawNs := by
    funext x
    rw [hm, mapOf_nones]
    intro p hp
    simp only [lawNs, List.mem_cons, List.not_mem_nil, or_false] at hp
    rcases hp with rfl | rfl | rfl | rfl | rfl | rfl | rfl | rfl <;> rfl
  have far : ∀ a, 176 < a → ∀ x ∈ tabsL, a ≠ x.1 := by
    intro a ha x hx
    simp only [tabsL, List.mem_cons, List.not_mem_nil, or_false] at hx
    rcases hx with rfl | rfl <;> (rintro rfl; exact absurd ha (by decide))
  have G : Good C (callerA.deeper (envOfC (Str.ofString "law") xLaw.1.scope L fa cd)) ((L, .ns lawNs) :: (L + 1, .cell (some (.ref sc))) :: (L + 2, .cell none) :: (L + 3, .cell none) :: (L + 4, .cell none) :: []) s :=
    { keep := F.keep
      os := rfl
      gens := ⟨AllBare.of_eq hsg, Nat.zero_le _⟩
      tabs := fun x hx => by
        simp only [C, tabsL, List.mem_cons, List.not_mem_nil, or_false] at hx
        rcases hx with rfl | rfl
        · exact ⟨t1.2.2, tab t1.1⟩
        · exact ⟨t2.2.2, tab t2.1⟩
      frames := ⟨[envOfC (Str.ofString "law") xLaw.1.scope L fa cd], rfl, fun env' he => by
        have he : env' = _ := List.mem_singleton.mp he
        subst he
        obtain ⟨o, es, ep, e1, e2, _⟩ := F.ns
        exact ⟨by show ScopeKind.function ≠ ScopeKind.module; decide, L, o, es, ep, rfl, hLn, e1, e2⟩⟩
      sat := fun p hp => by
        simp only [List.mem_cons, List.not_mem_nil, or_false] at hp
        rcases hp with rfl | rfl | rfl | rfl | rfl
        · exact ⟨hLn, far _ hL, by show s.heap.Ns L (mapOf lawNs); rw [← hns]; exact F.ns, by decide⟩
        · exact ⟨n1.2.2, far _ (Nat.lt_add_right 1 hL), o1, n1.1, c1⟩
        · exact ⟨n2.2.2, far _ (Nat.lt_add_right 2 hL), o2, n2.1, c2⟩
        · exact ⟨n3.2.2, far _ (Nat.lt_add_right 3 hL), o3, n3.1, c3⟩
        · exact ⟨n4.2.2, far _ (Nat.lt_add_right 4 hL), o4, n4.1, c4⟩
      nodup := by
        have : ∀ n : Nat, ([n, n + 1, n + 2, n + 3, n + 4] : List Nat).Nodup := by intro n; simp
        exact this L
      plain := fun p hp => by
        simp only [List.mem_cons, List.not_mem_nil, or_false] at hp
        rcases hp with rfl | rfl | rfl | rfl | rfl <;> trivial }
  refine wpAny_mono ((W.lawBody (C := C) (Q := fun fl S' => fl = .ret (.bool true)) B ⟨rfl, by show 1 + claimMargin + 1 + 540 < recursionLimit; decide, by show 4 + 3 + 8 * 540 < cLine; decide⟩ (by show 4 + 3 < cLine; decide) hsc hi hlen (fun _ => rfl)).1 s G) (fun fl s' ⟨S', G', e⟩ => ⟨e, G'.keep, G'.os, G'.gens.1, ?_⟩) (fun _ _ x => x)
  have q1 := (G'.tabs _ (.head _)).2
  have q2 := (G'.tabs _ (.tail _ (.head _))).2
  obtain ⟨p1, e1, _⟩ := q1
  obtain ⟨p2, e2, _⟩ := q2
  exact ⟨⟨p1, e1⟩, ⟨p2, e2⟩, trivial⟩
theorem same_true : same (WData.bool true) (WData.bool true) = true := by first | rfl | decide | simp [same]
theorem post_ok (as : List WData) : PySem.Challenge.rw_af5022_01.row.claim.post as (.bool true) as = true := by
  unfold OpenLaw.row
  unfold PySem.Challenge.rw_af5022_01
  simp only [RowW.claim]
  have h1 : WShape.has [] (WData.bool true) WShape.bool = true := by first | rfl | decide
  rw [h1, Bool.true_and]
  simp only [WTm.holds, WTm.value, same_true]
end Mine
open PySem PySem.Calls PySem.W PyProof.Rows
set_option maxHeartbeats 8000000 in
theorem PySem.Challenge.cw_af5022_01_holds : PySem.Challenge.rw_af5022_01.Holds := by
  exact Mine.hd (by w_strict (
  k_fill
  intro w s₀ s₁ mg mb G Y fa o pm cd doc dV kV ho hd1 hcd hD hmg hg args vals as hpre hlay hrd hwl hlo
  have KX := km_in_of Y
  km_tabs Y
  have X := (Ground.X G).1
  have V := (Ground.X G).2
  refine Ground.open G ?_
  intro T B D TE TW
  try (refine guard_noD D (by decide +kernel) ?_; clear D)
  km_lay T hmg ho hd1 cd
  clear hmg
  wrow_args hpre hlay hrd hwl hlo
  all_goals (
    first | refine callC_kw (enter_call ?_) | refine enter_call ?_
    w_top on
    refine Mine.my_post hT9 (fun _ _ => rfl) ?_
    w_call any ho hd1 hcd hD T F
    clear hd1
    kn_ghosts F T
    k_drop
    rename_i hh tk w4 w3 w2 w1 c4 c3 c2 c1 X0 XX TT KK FF cH NN ll
    obtain ⟨bm, ob, hb1, hb2, hb3, hb4, hb5, hb6⟩ := Top.bmain TT
    refine wpAny_mono (Mine.lawRun (L := s₁.heap.objs.size) (m := fun _ => none) hg XX (Top.g TT) (Top.b TT) (Top.builtins TT) (Top.nolimit TT) hb1 hb2 hb3 hb4 hb5 hb6 cH codeHd ?_ (fun _ => rfl) NN ll.2 ?_ ?_ ?_ ?_ lifted (by assumption) ?_) (fun fl s' h => ?_) (fun _ _ x => x.elim)
    · exact FF
    · exact c1
    · exact c2
    · exact c3
    · exact c4
    · have h9 := IntsAre.length (by assumption)
      omega
    · obtain ⟨rfl, h1, h2, h3, h4⟩ := h
      exact ⟨⟨rfl, Mine.post_ok _, h1, h2, h3⟩, h4⟩)))

