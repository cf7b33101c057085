import PyProof.Rows.All
import Wide.All
import OpenK.AllK
import Wide.FinOn
import Lean
import PySem.Challenge.RW_sr0043_01
set_option Elab.async false
set_option maxRecDepth 100000
set_option linter.all false
section TextHd
open PySem PySem.W PyProof.Rows PySem.Calls PySem.Spec
set_option maxHeartbeats 0
namespace Mine
noncomputable abbrev pw : Program := PySem.Challenge.rw_sr0043_01.row.prog
noncomputable def vw : Program := { pw with main := { pw.main with body := [1, 2, 3, 4, 5, 6, 8, 10, 11, 12, 13, 14, 16, 17, 18, 19, 20, 21].filterMap (pw.main.body[·]?) } }
noncomputable abbrev tbs : List (Addr × Addr) := [(34, 30), (41, 37)]
noncomputable def chkK (K : Frag) : Bool := codeHdIn K 34 30 && codeHdIn K 41 37 && decide (tabIn K "_int2digits" = some (34, 30)) && decide (tabIn K "_digits2int" = some (41, 37))
noncomputable def fragAt (h : Heap) (as : List Addr) : Frag := as.filterMap fun a => (h.get? a).map fun o => (a, o)
theorem fragAt_in (h : Heap) : ∀ as : List Addr, (fragAt h as).In h
  | [], a, o, e => by cases e
  | b :: as, a, o, e => by
    unfold fragAt at e
    rw [List.filterMap_cons] at e
    cases hb : h.get? b with
    | none => rw [hb] at e; exact fragAt_in h as a o e
    | some o' =>
      rw [hb] at e
      by_cases q : a = b
      · subst q
        have := List.lookup_cons_self (k := a) (b := o') (es := fragAt h as)
        rw [show ((a, o') :: fragAt h as).lookup a = some o from e] at this
        cases this; exact hb
      · have e2 : ((b, o') :: fragAt h as).lookup a = some o := e
        rw [List.lookup_cons, show (a == b) = false from beq_eq_false_iff_ne.mpr q] at e2
        exact fragAt_in h as a o e2
structure Makers (h : Heap) (K : Frag) : Prop where
  In : K.In h
  ok : chkK K = true
  ta : h.get? 30 = some (tabObj #[])
  tb : h.get? 37 = some (tabObj #[])
noncomputable def hook : Hook where
  α := Bool × Option Obj × Option Obj
  obs := fun s => (chkK (fragAt s.heap [mainGlobals, 34, 35, 41, 42]), s.heap.get? 30, s.heap.get? 37)
  val := fun _ => (true, some (tabObj #[]), some (tabObj #[]))
  says := fun _ h => ∃ K, Makers h K
  of := fun _ s x => ⟨_, fragAt_in s.heap _, (Prod.mk.inj x).1, (Prod.mk.inj (Prod.mk.inj x).2).1, (Prod.mk.inj (Prod.mk.inj x).2).2⟩
  keeps := fun _ _ _ x k => x.elim fun K y => ⟨K, y.In.keeps k, y.ok, k _ _ y.ta, k _ _ y.tb⟩
noncomputable abbrev seenXt (s : Shared) : Bool := xlAt vw [] s && recOk (RowW.records PySem.Challenge.rw_sr0043_01.row.toRowW) s
theorem left : LeftO pw vw [] seenXt hook.obs hook.val 1146 := by intro w; kernel_rfl
theorem said : PySem.Challenge.rw_sr0043_01.wellSaid = true := by kernel_rfl
theorem Makers.chk {h : Heap} {K : Frag} (m : Makers h K) : ((codeHdIn K 34 30 = true ∧ codeHdIn K 41 37 = true) ∧ tabIn K "_int2digits" = some (34, 30)) ∧ tabIn K "_digits2int" = some (41, 37) :=
  ⟨⟨Bool.and_eq_true_iff.mp (Bool.and_eq_true_iff.mp (Bool.and_eq_true_iff.mp m.ok).1).1, of_decide_eq_true (Bool.and_eq_true_iff.mp (Bool.and_eq_true_iff.mp m.ok).1).2⟩, of_decide_eq_true (Bool.and_eq_true_iff.mp m.ok).2⟩
theorem Makers.tabs {h : Heap} {K : Frag} (m : Makers h K) : TabsAt tbs h :=
  List.forall_mem_cons.mpr ⟨⟨codeHd_of_K m.In m.chk.1.1.1, m.ta⟩, List.forall_mem_cons.mpr ⟨⟨codeHd_of_K m.In m.chk.1.1.2, m.tb⟩, fun _ h => nomatch h⟩⟩
end Mine
end TextHd

section TextA1
open PySem PySem.W PyProof.Rows PySem.Calls PySem.Spec
namespace Mine

/-- abstract values -/
inductive AV where
  | none | bool (b : Bool) | int (i : Int) | str (x : Str) | byt (a : Array UInt8)
  | ints (l : List Int) | list (l : List AV) | tup (l : List AV) | range (a b c : Int) | box | fn (i : Nat)

structure RP where
  P : Addr → Prop
  D : Addr
  F : Nat → Value
  B : Prop

noncomputable abbrev big : Nat := 2 ^ 20

noncomputable abbrev PL (h : Heap) (l : Addr) (vs : List Value) : Prop := ∃ n, h.get? l = some { cls := .type "list", data := .seq vs.toArray n }
mutual
noncomputable def Rel (R : RP) (h : Heap) : AV → Value → Prop
  | .none, v => v = .none
  | .bool b, v => v = .bool b
  | .int i, v => ∃ t, v = .int i t
  | .str x, v => ∃ t, v = .str x t ∧ x.length ≤ big
  | .byt a, v => ∃ t, v = .bytes a t ∧ a.size ≤ big
  | .ints ns, v => ∃ l vs, v = .ref l ∧ R.P l ∧ h.IsList l vs.toArray ∧ IntsAre vs ns ∧ ns.length ≤ big
  | .list xs, v => ∃ l vs, v = .ref l ∧ R.P l ∧ PL h l vs ∧ RelL R h xs vs ∧ xs.length ≤ big
  | .tup xs, v => ∃ l vs, v = .ref l ∧ R.P l ∧ IsTup h l vs.toArray ∧ RelL R h xs vs ∧ xs.length ≤ big
  | .range a b c, v => ∃ l t u w, v = .ref l ∧ R.P l ∧ IsRange h l a b c t u w
  | .box, v => R.B ∧ v = .ref R.D
  | .fn i, v => ∃ q o fd, v = .ref q ∧ R.P q ∧ h.get? q = some o ∧ o.data = .func fd ∧ v = R.F i
noncomputable def RelL (R : RP) (h : Heap) : List AV → List Value → Prop
  | [], vs => vs = []
  | x :: xs, vs => ∃ v r, vs = v :: r ∧ Rel R h x v ∧ RelL R h xs r
end

noncomputable def IsDat (o : Obj) : Prop := (∃ xs n, o.data = .seq xs n) ∨ (o.cls = .type "range" ∧ ∃ f, o.data = .fields f) ∨ (∃ fd, o.data = .func fd)

theorem isList_at {h h' : Heap} {a : Addr} {its : Array Value} (x : h.IsList a its) (k : ∀ o, IsDat o → h.get? a = some o → h'.get? a = some o) : h'.IsList a its :=
  let ⟨o, e, c, n, d⟩ := x; ⟨o, k o (.inl ⟨_, _, d⟩) e, c, n, d⟩
theorem isTup_at {h h' : Heap} {a : Addr} {its : Array Value} (x : IsTup h a its) (k : ∀ o, IsDat o → h.get? a = some o → h'.get? a = some o) : IsTup h' a its :=
  let ⟨o, e, c, n, d⟩ := x; ⟨o, k o (.inl ⟨_, _, d⟩) e, c, n, d⟩

mutual
theorem Rel.mono {R R' : RP} {h h' : Heap} (hD : R.B → R'.B ∧ R'.D = R.D) (hF : R'.F = R.F) (hP : ∀ l, R.P l → (∃ o, h.get? l = some o ∧ IsDat o) → R'.P l)
    (k : ∀ b o, R.P b → IsDat o → h.get? b = some o → h'.get? b = some o) : ∀ {a : AV} {v : Value}, Rel R h a v → Rel R' h' a v
  | .none, _, x => x
  | .bool _, _, x => x
  | .int _, _, x => x
  | .str _, _, x => x
  | .byt _, _, x => x
  | .box, _, x => by unfold Rel at x ⊢; exact ⟨(hD x.1).1, by rw [(hD x.1).2]; exact x.2⟩
  | .fn i, _, x => by
    unfold Rel at x ⊢
    obtain ⟨q, o, fd, e, p, g, d, r⟩ := x
    exact ⟨q, o, fd, e, hP q p ⟨o, g, .inr (.inr ⟨fd, d⟩)⟩, k q o p (.inr (.inr ⟨fd, d⟩)) g, d, by rw [hF]; exact r⟩
  | .range a b c, _, x => by
    unfold Rel at x ⊢
    obtain ⟨l, t, u, w, e, p, r⟩ := x
    exact ⟨l, t, u, w, e, hP l p ⟨_, r, .inr (.inl ⟨rfl, _, rfl⟩)⟩, k l _ p (.inr (.inl ⟨rfl, _, rfl⟩)) r⟩
  | .ints ns, _, x => by
    unfold Rel at x ⊢
    obtain ⟨l, vs, e, p, hl, r⟩ := x
    obtain ⟨o, ho, hc, n, hd⟩ := id hl
    exact ⟨l, vs, e, hP l p ⟨o, ho, .inl ⟨_, _, hd⟩⟩, isList_at hl fun o d e => k l o p d e, r⟩
  | .list xs, _, x => by
    unfold Rel at x ⊢
    obtain ⟨l, vs, e, p, ⟨n, hl⟩, r, z⟩ := x
    exact ⟨l, vs, e, hP l p ⟨_, hl, .inl ⟨_, _, rfl⟩⟩, ⟨n, k l _ p (.inl ⟨_, _, rfl⟩) hl⟩, RelL.mono hD hF hP k r, z⟩
  | .tup xs, _, x => by
    unfold Rel at x ⊢
    obtain ⟨l, vs, e, p, hl, r, z⟩ := x
    obtain ⟨o, ho, hc, n, hd⟩ := id hl
    exact ⟨l, vs, e, hP l p ⟨o, ho, .inl ⟨_, _, hd⟩⟩, isTup_at hl fun o d e => k l o p d e, RelL.mono hD hF hP k r, z⟩
theorem RelL.mono {R R' : RP} {h h' : Heap} (hD : R.B → R'.B ∧ R'.D = R.D) (hF : R'.F = R.F) (hP : ∀ l, R.P l → (∃ o, h.get? l = some o ∧ IsDat o) → R'.P l)
    (k : ∀ b o, R.P b → IsDat o → h.get? b = some o → h'.get? b = some o) : ∀ {xs : List AV} {vs : List Value}, RelL R h xs vs → RelL R' h' xs vs
  | [], _, x => x
  | _ :: _, _, x => by
    unfold RelL at x ⊢
    obtain ⟨v, r, e, a, b⟩ := x
    exact ⟨v, r, e, Rel.mono hD hF hP k a, RelL.mono hD hF hP k b⟩
end

theorem RelL.length {R : RP} {h : Heap} : ∀ {xs : List AV} {vs : List Value}, RelL R h xs vs → vs.length = xs.length
  | [], _, x => by unfold RelL at x; rw [x]; rfl
  | _ :: _, _, x => by
    unfold RelL at x
    obtain ⟨v, r, e, _, b⟩ := x
    rw [e, List.length_cons, List.length_cons, RelL.length b]
theorem RelL.get {R : RP} {h : Heap} : ∀ {xs : List AV} {vs : List Value}, RelL R h xs vs → ∀ {i : Nat} {a : AV}, xs[i]? = some a → ∃ v, vs[i]? = some v ∧ Rel R h a v
  | [], _, _, _, _, e => by simp at e
  | x :: xs, _, H, i, a, e => by
    unfold RelL at H
    obtain ⟨v, r, rfl, p, q⟩ := H
    cases i with
    | zero => simp at e; subst e; exact ⟨v, rfl, p⟩
    | succ i => simp at e; obtain ⟨u, e1, e2⟩ := RelL.get q e; exact ⟨u, by simpa using e1, e2⟩
theorem RelL.append {R : RP} {h : Heap} : ∀ {xs ys : List AV} {vs ws : List Value}, RelL R h xs vs → RelL R h ys ws → RelL R h (xs ++ ys) (vs ++ ws)
  | [], _, _, _, x, y => by unfold RelL at x; subst x; exact y
  | _ :: _, _, _, _, x, y => by
    unfold RelL at x
    obtain ⟨v, r, rfl, p, q⟩ := x
    show RelL R h (_ :: (_ ++ _)) (v :: (r ++ _))
    unfold RelL
    exact ⟨v, _, rfl, p, RelL.append q y⟩
theorem RelL.one {R : RP} {h : Heap} {a : AV} {v : Value} (x : Rel R h a v) : RelL R h [a] [v] := by
  unfold RelL; exact ⟨v, [], rfl, x, by unfold RelL; rfl⟩
theorem RelL.cons {R : RP} {h : Heap} {a : AV} {v : Value} {xs : List AV} {vs : List Value} (x : Rel R h a v) (y : RelL R h xs vs) : RelL R h (a :: xs) (v :: vs) := by
  unfold RelL; exact ⟨v, vs, rfl, x, y⟩
theorem RelL.nil {R : RP} {h : Heap} : RelL R h [] [] := by unfold RelL; rfl
theorem RelL.ints {R : RP} {h : Heap} : ∀ {ns : List Int} {vs : List Value}, IntsAre vs ns → RelL R h (ns.map .int) vs
  | _, _, .nil => RelL.nil
  | _, _, .cons n t r => RelL.cons (by unfold Rel; exact ⟨t, rfl⟩) (RelL.ints r)

noncomputable def asInts : List AV → Option (List Int)
  | [] => some []
  | .int i :: r => match asInts r with
    | some l => some (i :: l)
    | none => none
  | _ :: _ => none
theorem asInts_are {R : RP} {h : Heap} : ∀ {xs : List AV} {ns : List Int} {vs : List Value}, asInts xs = some ns → RelL R h xs vs → IntsAre vs ns
  | [], ns, vs, e, x => by unfold RelL at x; subst x; simp [asInts] at e; subst e; exact .nil
  | .int i :: r, ns, vs, e, x => by
    unfold RelL at x
    obtain ⟨v, q, rfl, p, y⟩ := x
    unfold Rel at p
    obtain ⟨t, rfl⟩ := p
    unfold asInts at e
    split at e
    · rename_i l hl
      cases e
      exact .cons _ _ (asInts_are hl y)
    · cases e
  | .none :: _, _, _, e, _ => by simp [asInts] at e
  | .bool _ :: _, _, _, e, _ => by simp [asInts] at e
  | .str _ :: _, _, _, e, _ => by simp [asInts] at e
  | .byt _ :: _, _, _, e, _ => by simp [asInts] at e
  | .ints _ :: _, _, _, e, _ => by simp [asInts] at e
  | .list _ :: _, _, _, e, _ => by simp [asInts] at e
  | .tup _ :: _, _, _, e, _ => by simp [asInts] at e
  | .range .. :: _, _, _, e, _ => by simp [asInts] at e
  | .box :: _, _, _, e, _ => by simp [asInts] at e
  | .fn _ :: _, _, _, e, _ => by simp [asInts] at e

/-- the fixed ground of a run -/
structure Cx where
  prog : Program
  w : World
  gh : Heap
  mg : Str → Option Value
  mb : Str → Option Value
  z1 : Addr
  c1 : Addr
  p1 : Pos
  q1 : Str
  z2 : Addr
  c2 : Addr
  p2 : Pos
  q2 : Str
  F : Nat → Value

noncomputable def TabSt (h : Heap) (z c : Addr) (p : Pos) (q : Str) : Prop :=
  CodeHd h c z ∧ (h.get? z = some (tabObj #[]) ∨ ∃ c', h.get? z = some (tabObj #[rawInt p.line, rawInt p.col, .ref c']) ∧ h.CodeRec (.ref c') q)

structure Good (c : Cx) (h : Heap) : Prop where
  keep : ∀ b o, c.gh.get? b = some o → h.get? b = some o
  t1 : TabSt h c.z1 c.c1 c.p1 c.q1
  t2 : TabSt h c.z2 c.c2 c.p2 c.q2

noncomputable def Ext (c : Cx) (h h' : Heap) : Prop := ∀ b o, b ≠ c.z1 → b ≠ c.z2 → h.get? b = some o → h'.get? b = some o
noncomputable abbrev Keep (h h' : Heap) : Prop := ∀ b o, h.get? b = some o → h'.get? b = some o

theorem Keep.ext {c : Cx} {h h' : Heap} (k : Keep h h') : Ext c h h' := fun b o _ _ e => k b o e
theorem Ext.refl (c : Cx) (h : Heap) : Ext c h h := fun _ _ _ _ e => e
theorem Ext.trans {c : Cx} {h h' h'' : Heap} (x : Ext c h h') (y : Ext c h' h'') : Ext c h h'' := fun b o n1 n2 e => y b o n1 n2 (x b o n1 n2 e)
theorem Keep.trans {h h' h'' : Heap} (x : Keep h h') (y : Keep h' h'') : Keep h h'' := fun b o e => y b o (x b o e)
theorem TabSt.keep {h h' : Heap} {z c : Addr} {p : Pos} {q : Str} (x : TabSt h z c p q) (k : Keep h h') : TabSt h' z c p q :=
  ⟨x.1.keeps k, x.2.elim (fun e => .inl (k _ _ e)) fun ⟨c', e, r⟩ => .inr ⟨c', k _ _ e, r.keeps k⟩⟩
theorem Good.keeps {c : Cx} {h h' : Heap} (x : Good c h) (k : Keep h h') : Good c h' := ⟨fun b o e => k b o (x.keep b o e), x.t1.keep k, x.t2.keep k⟩
theorem keep_push (h : Heap) (o : Obj) : Keep h (h.push o) := fun _ _ e => Heap.get?_push_of_some _ e
theorem TabSt.at {h : Heap} {z c : Addr} {p : Pos} {q : Str} (x : TabSt h z c p q) : ∃ ps, h.get? z = some (tabObj ps) := x.2.elim (fun e => ⟨_, e⟩) fun ⟨_, e, _⟩ => ⟨_, e⟩
theorem Good.ne1 {c : Cx} {h : Heap} (x : Good c h) {b : Addr} {o : Obj} (e : h.get? b = some o) (hn : ∀ ps, o ≠ tabObj ps) : b ≠ c.z1 := fun q => by
  obtain ⟨ps, hp⟩ := x.t1.at
  rw [q, hp] at e; cases e; exact hn _ rfl
theorem Good.ne2 {c : Cx} {h : Heap} (x : Good c h) {b : Addr} {o : Obj} (e : h.get? b = some o) (hn : ∀ ps, o ≠ tabObj ps) : b ≠ c.z2 := fun q => by
  obtain ⟨ps, hp⟩ := x.t2.at
  rw [q, hp] at e; cases e; exact hn _ rfl
theorem Ext.get {c : Cx} {h h' : Heap} (x : Ext c h h') (g : Good c h) {b : Addr} {o : Obj} (e : h.get? b = some o) (hn : ∀ ps, o ≠ tabObj ps) : h'.get? b = some o :=
  x b o (g.ne1 e hn) (g.ne2 e hn) e
theorem dat_ne {o : Obj} (d : IsDat o) : ∀ ps, o ≠ tabObj ps := fun ps e => by
  subst e
  rcases d with ⟨_, _, e⟩ | ⟨e, _⟩ | ⟨_, e⟩ <;> cases e
theorem Ext.dat {c : Cx} {h h' : Heap} (x : Ext c h h') (g : Good c h) {b : Addr} {o : Obj} (d : IsDat o) (e : h.get? b = some o) : h'.get? b = some o := x.get g e (dat_ne d)
theorem Rel.ext {c : Cx} {R : RP} {h h' : Heap} {a : AV} {v : Value} (r : Rel R h a v) (g : Good c h) (x : Ext c h h') : Rel R h' a v :=
  r.mono (fun b => ⟨b, rfl⟩) rfl (fun _ p _ => p) fun _ _ _ d e => x.dat g d e
theorem RelL.ext {c : Cx} {R : RP} {h h' : Heap} {a : List AV} {v : List Value} (r : RelL R h a v) (g : Good c h) (x : Ext c h h') : RelL R h' a v :=
  r.mono (fun b => ⟨b, rfl⟩) rfl (fun _ p _ => p) fun _ _ _ d e => x.dat g d e
theorem ns_ext {c : Cx} {h h' : Heap} (x : Ext c h h') (g : Good c h) {a : Addr} {m : Str → Option Value} (n : h.Ns a m) : h'.Ns a m := by
  obtain ⟨o, es, ep, e, d, r⟩ := n
  exact ⟨o, es, ep, x.get g e (fun ps q => by rw [q] at d; cases d), d, r⟩
theorem cell_ext {c : Cx} {h h' : Heap} (x : Ext c h h') (g : Good c h) {a : Addr} {v : Option Value} (n : h.IsCell a v) : h'.IsCell a v := by
  obtain ⟨o, e, d⟩ := n
  exact ⟨o, x.get g e (fun ps q => by rw [q] at d; cases d), d⟩
/-- what is not there in the later heap was not there before -/
theorem Ext.none {c : Cx} {h h' : Heap} (x : Ext c h h') (g' : Good c h') {l : Addr} (e : h'.get? l = none) : h.get? l = none := by
  cases q : h.get? l with
  | none => rfl
  | some o =>
    by_cases n1 : l = c.z1
    · obtain ⟨ps, hp⟩ := g'.t1.at; rw [n1, hp] at e; cases e
    · by_cases n2 : l = c.z2
      · obtain ⟨ps, hp⟩ := g'.t2.at; rw [n2, hp] at e; cases e
      · rw [x l o n1 n2 q] at e; cases e

/-- a name of the frame at hand -/
noncomputable def NameAt (R : RP) (env : Env) (h : Heap) (x : Str) (a : AV) : Prop := ∃ v, Rel R h a v ∧
  ((env.kindOf x = some .local ∧ ∃ m, h.Ns env.locals m ∧ m x = some v) ∨
   ((env.kindOf x = some .cell ∨ env.kindOf x = some .free) ∧ ∃ c, env.cells.lookup x = some c ∧ h.IsCell c (some v)))
theorem NameAt.ext {c : Cx} {R : RP} {env : Env} {h h' : Heap} {x : Str} {a : AV} (n : NameAt R env h x a) (g : Good c h) (k : Ext c h h') : NameAt R env h' x a := by
  obtain ⟨v, r, n⟩ := n
  refine ⟨v, r.ext g k, ?_⟩
  rcases n with ⟨q, m, a, b⟩ | ⟨q, c', a, b⟩
  · exact .inl ⟨q, m, ns_ext k g a, b⟩
  · exact .inr ⟨q, c', a, cell_ext k g b⟩

noncomputable abbrev Sto := List (Option AV)
noncomputable def EnvR (R : RP) (env : Env) (h : Heap) (nm : List Str) (ρ : Sto) : Prop := ∀ (i : Nat) (a : AV) (x : Str), ρ[i]? = some (some a) → nm[i]? = some x → NameAt R env h x a
theorem EnvR.ext {c : Cx} {R : RP} {env : Env} {h h' : Heap} {nm : List Str} {ρ : Sto} (N : EnvR R env h nm ρ) (g : Good c h) (k : Ext c h h') : EnvR R env h' nm ρ :=
  fun (i : Nat) (a : AV) (x : Str) e1 e2 => (N i a x e1 e2).ext g k

structure EnvOk (env : Env) (sc : Scope) : Prop where
  hsc : env.scope = sc
  kind : sc.kind = .function
  inj : ∀ x y a, env.cells.lookup x = some a → env.cells.lookup y = some a → x = y
  cel : ∀ x, sc.names.lookup x = some .cell ∨ sc.names.lookup x = some .free → ∃ c, env.cells.lookup x = some c
  gl : env.globals = mainGlobals
  bl : env.builtins = builtinsNs

noncomputable def BoxIs (R : RP) (h : Heap) (μ : Option (List Int)) : Prop := ∀ ns, μ = some ns → ∃ vs, PL h R.D vs ∧ IntsAre vs ns ∧ ns.length ≤ big
theorem BoxIs.ext {c : Cx} {R : RP} {h h' : Heap} {μ : Option (List Int)} (n : BoxIs R h μ) (g : Good c h) (k : Ext c h h') : BoxIs R h' μ := fun ns e => by
  obtain ⟨vs, ⟨n, hl⟩, r⟩ := n ns e
  exact ⟨vs, ⟨n, k.dat g (.inl ⟨_, _, rfl⟩) hl⟩, r⟩
theorem PL.isList {h : Heap} {l : Addr} {vs : List Value} (x : PL h l vs) : h.IsList l vs.toArray := let ⟨n, e⟩ := x; ⟨_, e, rfl, n, rfl⟩
theorem PL.new (h : Heap) (vs : List Value) : PL (h.push { cls := .type "list", data := .seq vs.toArray }) h.objs.size vs := ⟨0, Heap.get?_push_size _ rfl⟩
end Mine
end TextA1

section TextA2
open PySem PySem.W PyProof.Rows PySem.Calls PySem.Spec
namespace Mine

inductive Tg where
  | one (i : Nat) (p : Pos)
  | two (i j : Nat) (pi pj : Pos) (k : Nat) (p : Pos)

inductive Blt where
  | len | sum | min | sorted | bytes | list | int | abs | divmod | range | enum | rev
inductive Met where
  | bitLength | lower | decode

inductive X where
  | cst (c : Const) (k : Nat) (p : Pos)
  | var (i : Nat) (p : Pos)
  | gcs (i : Nat) (p : Pos)
  | gfn (i : Nat) (p : Pos)
  | bin (o : Operator) (l r : X) (p : Pos)
  | neg (e : X) (p : Pos)
  | cmp (o : CmpOp) (l r : X) (p : Pos)
  | bor (l r : X) (p : Pos)
  | ban (a b c : X) (p : Pos)
  | not (e : X) (p : Pos)
  | ife (t b o : X) (p : Pos)
  | idx (e i : X) (p : Pos)
  | sli (e lo hi st : X) (q p : Pos)
  | lst (es : X) (p : Pos)
  | tup (es : X) (k : Nat) (p : Pos)
  | com (elt : X) (t : Tg) (it cnd : X) (sc : Scope) (fv : List Nat) (p : Pos)
  | com2 (elt : X) (t : Tg) (it : X) (t2 : Tg) (it2 : X) (sc : Scope) (fv : List Nat) (p : Pos)
  | cal (f as : X) (p : Pos)
  | blt (b : Blt) (q : Pos) (as : X) (p : Pos)
  | met (m : Met) (o : X) (q : Pos) (as : X) (p : Pos)
  | nil | cons (h t : X)

noncomputable def Blt.name : Blt → Str
  | .len => "len" | .sum => "sum" | .min => "min" | .sorted => "sorted" | .bytes => "bytes" | .list => "list" | .int => "int" | .abs => "abs" | .divmod => "divmod" | .range => "range" | .enum => "enumerate" | .rev => "reversed"
noncomputable def Blt.val : Blt → Value
  | .len => .builtin "len" | .sum => .builtin "sum" | .min => .builtin "min" | .sorted => .builtin "sorted" | .bytes => .type "bytes" | .list => .type "list" | .int => .type "int" | .abs => .builtin "abs"
  | .divmod => .builtin "divmod" | .range => .type "range" | .enum => .type "enumerate" | .rev => .type "reversed"
noncomputable def Met.name : Met → Str
  | .bitLength => "bit_length" | .lower => "lower" | .decode => "decode"

/-- the names of a text: its own by number; the module's constants; the module's functions -/
structure Nms where
  nm : List Str
  gc : List Str
  gf : List Str

noncomputable def isNil : X → Bool
  | .nil => true
  | _ => false
section
variable (T : Nms)
noncomputable def nmOf (l : List Str) (i : Nat) : Str := (l[i]?).getD (Str.ofString "?")
noncomputable def denT : Tg → Expr
  | .one i p => .Name (nmOf T.nm i) p
  | .two i j pi pj k p => .Tuple [.Name (nmOf T.nm i) pi, .Name (nmOf T.nm j) pj] k p
mutual
noncomputable def den : X → Expr
  | .cst c k p => .Constant c k p
  | .var i p => .Name (nmOf T.nm i) p
  | .gcs i p => .Name (nmOf T.gc i) p
  | .gfn i p => .Name (nmOf T.gf i) p
  | .bin o l r p => .BinOp (den l) o (den r) p
  | .neg e p => .UnaryOp .USub (den e) p
  | .cmp o l r p => .Compare (den l) [o] [den r] p
  | .bor l r p => .BoolOp .Or [den l, den r] p
  | .ban a b c p => .BoolOp .And [den a, den b, den c] p
  | .not e p => .UnaryOp .Not (den e) p
  | .ife t b o p => .IfExp (den t) (den b) (den o) p
  | .idx e i p => .Subscript (den e) (den i) p
  | .sli e lo hi st q p => .Subscript (den e) (.Slice (if isNil lo then none else some (den lo)) (if isNil hi then none else some (den hi)) (if isNil st then none else some (den st)) q) p
  | .lst es p => .List (denL es) p
  | .tup es k p => .Tuple (denL es) k p
  | .com elt t it cnd sc _ p => .ListComp (den elt) [⟨denT T t, den it, denL cnd, 0⟩] sc p
  | .com2 elt t it t2 it2 sc _ p => .ListComp (den elt) [⟨denT T t, den it, [], 0⟩, ⟨denT T t2, den it2, [], 0⟩] sc p
  | .cal f as p => .Call (den f) (denL as) [] p
  | .blt b q as p => .Call (.Name b.name q) (denL as) [] p
  | .met m o q as p => .Call (.Attribute (den o) m.name q) (denL as) [] p
  | .nil => .Constant .none 0 ⟨0, 0, 0, 0⟩
  | .cons _ _ => .Constant .none 0 ⟨0, 0, 0, 0⟩
noncomputable def denL : X → List Expr
  | .cons h t => den h :: denL t
  | _ => []
end
end

noncomputable def asList : AV → Option (List AV)
  | .list l => some l
  | .ints l => some (l.map .int)
  | _ => none
noncomputable def intsOf : AV → Option (List Int)
  | .ints l => some l
  | .list l => asInts l
  | _ => none
noncomputable def rangeLen (a b c : Int) : Nat := (Builtin.Range.rangeSize a b c).toNat
noncomputable def rangeL (a c : Int) : Nat → List AV
  | 0 => []
  | n + 1 => .int a :: rangeL (a + c) c n
noncomputable def itemsOf : AV → Option (List AV)
  | .list l => some l
  | .ints l => some (l.map .int)
  | .range a b c => if Builtin.Range.small a b c = true then some (rangeL a c (rangeLen a b c)) else none
  | _ => none

noncomputable def small (a : Int) : Bool := decide (a.natAbs < 2 ^ 62)
noncomputable def bytesOf : List AV → Option (List (Array UInt8))
  | [] => some []
  | .byt a :: r => match bytesOf r with
    | some l => some (a :: l)
    | none => none
  | _ :: _ => none
noncomputable def iv : AV → Option Int
  | .int i => some i
  | _ => none
noncomputable def yv : AV → Option (Array UInt8)
  | .byt i => some i
  | _ => none
noncomputable def lv : AV → Option (List AV)
  | .list i => some i
  | _ => none
noncomputable def sv : AV → Option Str
  | .str i => some i
  | _ => none
noncomputable def ifO {α : Type} (p : Prop) [Decidable p] (x : α) : Option α := if p then some x else none
noncomputable def int2 (f : Int → Int → Option AV) (a b : AV) : Option AV := (iv a).bind fun x => (iv b).bind fun y => f x y
noncomputable def addV (a b : AV) : Option AV := match a with
  | .int x => (iv b).bind fun y => some (.int (x + y))
  | .byt x => (yv b).bind fun y => ifO (x.size + y.size ≤ 1000) (.byt (x ++ y))
  | .list x => (lv b).bind fun y => ifO (x.length + y.length ≤ 1000) (.list (x ++ y))
  | _ => none
noncomputable def evBin (o : Operator) (a b : AV) : Option AV := match o with
  | .Add => addV a b
  | .Sub => int2 (fun a b => some (.int (a - b))) a b
  | .Mult => int2 (fun a b => ifO (small b = true ∨ small a = true) (.int (a * b))) a b
  | .FloorDiv => int2 (fun a b => ifO (b ≠ 0 ∧ small b = true) (.int (a.fdiv b))) a b
  | .Mod => int2 (fun a b => ifO (b ≠ 0) (.int (a.fmod b))) a b
  | .LShift => int2 (fun a n => ifO (0 ≤ n ∧ n ≤ 1000000 ∧ small a = true) (.int (a * 2 ^ n.toNat))) a b
  | .RShift => int2 (fun a n => ifO (0 ≤ n) (.int (a.fdiv (2 ^ n.toNat)))) a b
  | .Pow => int2 (fun a n => ifO (0 ≤ n ∧ n ≤ 1000000 ∧ small a = true) (.int (a ^ n.toNat))) a b
  | .BitXor => int2 (fun a b => some (.int (Builtin.bitXor a b))) a b
  | _ => none
noncomputable def isNone : AV → Option Bool
  | .none => some true
  | .list _ => some false
  | _ => none
/-- two lists: of ints, of bytes -/
noncomputable def eqLists (a b : AV) : Option Bool := match intsOf a, intsOf b with
  | some x, some y => some (decide (x = y))
  | _, _ => match a, b with
    | .list x, .list y => match bytesOf x, bytesOf y with
      | some u, some v => some (decide (u = v))
      | _, _ => none
    | _, _ => none
noncomputable def cmp2 (f : Int → Int → Bool) (a b : AV) : Option Bool := (iv a).bind fun x => (iv b).bind fun y => some (f x y)
noncomputable def evEq (a b : AV) : Option Bool := match a with
  | .int x => (iv b).bind fun y => some (x == y)
  | .str x => (sv b).bind fun y => some (x == y)
  | a => eqLists a b
noncomputable def evNe (a b : AV) : Option Bool := match a with
  | .int x => (iv b).bind fun y => some (x != y)
  | a => (eqLists a b).map (! ·)
noncomputable def isN : AV → Option Unit
  | .none => some ()
  | _ => none
noncomputable def evCmp (o : CmpOp) (a b : AV) : Option Bool := match o with
  | .Eq => evEq a b
  | .NotEq => evNe a b
  | .Lt => cmp2 (fun x y => decide (x < y)) a b
  | .LtE => cmp2 (fun x y => decide (x ≤ y)) a b
  | .Gt => cmp2 (fun x y => decide (x > y)) a b
  | .Is => (isN b).bind fun _ => isNone a
  | _ => none
noncomputable def truth : AV → Option Bool
  | .bool b => some b
  | .int i => some (i != 0)
  | .str x => some (x.length != 0)
  | .list l => some (!l.isEmpty)
  | .ints l => some (!l.isEmpty)
  | _ => none
noncomputable def evNeg (a : AV) : Option AV := (iv a).bind fun i => some (.int (-i))
noncomputable def itemAt (x : Str) (i : Int) : Option Str := (seqIndex? i x.length).bind fun k => (x.cps[k]?).map fun c => ⟨#[c]⟩
noncomputable def evIdx (μ : Option (List Int)) (a b : AV) : Option AV := (iv b).bind fun i => match a with
  | .list l => (ifO (0 ≤ i ∧ i < 2 ^ 62) ()).bind fun _ => l[i.toNat]?
  | .ints l => (ifO (0 ≤ i ∧ i < 2 ^ 62) ()).bind fun _ => (l[i.toNat]?).map .int
  | .box => (ifO (0 ≤ i ∧ i < 2 ^ 62) ()).bind fun _ => μ.bind fun l => (l[i.toNat]?).map .int
  | .str x => (ifO (small i = true) ()).bind fun _ => (itemAt x i).map .str
  | _ => none
/-- a slice's part: nothing, None, an int -/
noncomputable def partOf : AV → Option (Option Int)
  | .none => some none
  | .int i => some (some i)
  | _ => none
noncomputable def pick {α : Type} (items : List α) (lo hi st : Option Int) : List α :=
  (sliceRange (sliceBounds lo hi st items.length).1 (sliceBounds lo hi st items.length).2.1 (sliceBounds lo hi st items.length).2.2).filterMap fun x => items[x]?
noncomputable def evSli (x lo hi st : AV) : Option AV := (partOf lo).bind fun a => (partOf hi).bind fun b => match x with
  | .ints l => (partOf st).bind fun c => ifO (c ≠ some 0) (.ints (pickNums l a b c))
  | .list l => (partOf st).bind fun c => ifO (c ≠ some 0) (.list (pick l a b c))
  | .str x => (isN st).bind fun _ => some (.str (Txt.slice x a b))
  | .byt x => (isN st).bind fun _ => ifO (KBy.whole x a b = false) (.byt (KBy.picked x a b))
  | _ => none
noncomputable def minL : List Int → Int → Int
  | [], m => m
  | x :: r, m => minL r (if x < m then x else m)
noncomputable def insertI (a : Int) : List Int → List Int
  | [] => [a]
  | b :: r => if a ≤ b then a :: b :: r else b :: insertI a r
noncomputable def sortI : List Int → List Int
  | [] => []
  | a :: r => insertI a (sortI r)
noncomputable def sumI : List Int → Int
  | [] => 0
  | a :: r => a + sumI r
noncomputable def one1 {α β : Type} (f : α → Option β) : List α → Option β
  | [a] => f a
  | _ => none
noncomputable def two2 {α β : Type} (f : α → α → Option β) : List α → Option β
  | [a, b] => f a b
  | _ => none
noncomputable def three3 {α β : Type} (f : α → α → α → Option β) : List α → Option β
  | [a, b, c] => f a b c
  | _ => none
noncomputable def lenOf : AV → Option AV
  | .list l => some (.int l.length)
  | .ints l => some (.int l.length)
  | .str x => some (.int x.length)
  | _ => none
noncomputable def rng3 : AV → Option (Int × Int × Int)
  | .range a b c => some (a, b, c)
  | _ => none
noncomputable def minE (a : AV) : Option AV := (intsOf a).bind fun l => match l with
  | x :: r => some (.int (minL r x))
  | [] => none
noncomputable def evRange : List AV → Option AV
  | [b] => (iv b).bind fun b => some (.range 0 b 1)
  | [a, b] => (iv a).bind fun a => (iv b).bind fun b => some (.range a b 1)
  | [a, b, c] => (iv a).bind fun a => (iv b).bind fun b => (iv c).bind fun c => ifO (c ≠ 0 ∧ small c = true) (.range a b c)
  | _ => none
noncomputable def min2E : List AV → Option AV
  | [a] => minE a
  | [a, b] => int2 (fun a b => some (.int (if b < a then b else a))) a b
  | _ => none
noncomputable def evB (b : Blt) (l : List AV) : Option AV := match b with
  | .len => one1 lenOf l
  | .sum => one1 (fun a => (intsOf a).bind fun l => some (.int (l.foldl (· + ·) 0))) l
  | .min => min2E l
  | .sorted => one1 (fun a => (intsOf a).bind fun l => ifO (l.length < 64) (.list ((sortI l).map .int))) l
  | .bytes => one1 (fun a => (intsOf a).bind fun l => ifO (l.all (fun n => decide (0 ≤ n) && decide (n < 256)) = true ∧ l.length ≤ 1000) (.byt (byteArr l))) l
  | .list => one1 (fun a => (rng3 a).bind fun p => ifO (Builtin.Range.small p.1 p.2.1 p.2.2 = true ∧ rangeLen p.1 p.2.1 p.2.2 ≤ 1000) (.list (rangeL p.1 p.2.2 (rangeLen p.1 p.2.1 p.2.2)))) l
  | .int => one1 (fun a => (iv a).bind fun a => some (.int a)) l
  | .abs => one1 (fun a => (iv a).bind fun a => some (.int (if a < 0 then -a else a))) l
  | .divmod => two2 (int2 fun a b => ifO (b ≠ 0 ∧ small b = true) (.tup [.int (a.fdiv b), .int (a.fmod b)])) l
  | .range => evRange l
  | _ => none
/-- the length of the box, or as ever -/
noncomputable def lenX (μ : Option (List Int)) : AV → Option AV
  | .box => μ.map fun l => .int l.length
  | a => lenOf a
noncomputable def evBx (μ : Option (List Int)) (b : Blt) (l : List AV) : Option AV := match b with
  | .len => one1 (lenX μ) l
  | b => evB b l
noncomputable def asciiStr (a : Array UInt8) : Option Str := if a.all (fun c => decide (c.toNat < 128)) ∧ 0 < a.size ∧ a.size ≤ 1000 then some ⟨a.map (·.toNat)⟩ else none
noncomputable def nil0 {β : Type} (x : Option β) : List AV → Option β
  | [] => x
  | _ => none
noncomputable def evM (m : Met) (a : AV) (l : List AV) : Option AV := match m with
  | .bitLength => (iv a).bind fun a => nil0 (some (.int (Builtin.Int.intBits a))) l
  | .lower => (sv a).bind fun x => nil0 (ifO ((Txt.lower x).length ≤ 1000) (.str (Txt.lower x))) l
  | .decode => (yv a).bind fun a => one1 (fun e => (sv e).bind fun e => (ifO ((e == Str.ofString "ascii") = true) ()).bind fun _ => (asciiStr a).map .str) l

noncomputable def mask (fv : List Nat) : Nat → Sto → Sto
  | _, [] => []
  | k, x :: r => (if fv.contains k then x else none) :: mask fv (k + 1) r
noncomputable def setT : Tg → AV → Sto → Option Sto
  | .one i _, a, ρ => if i < ρ.length then some (ρ.set i (some a)) else none
  | .two i j _ _ _ _, .tup [a, b], ρ => if i < ρ.length ∧ j < ρ.length ∧ i ≠ j then some ((ρ.set i (some a)).set j (some b)) else none
  | _, _, _ => none
noncomputable def mapO {α β : Type} (f : α → Option β) : List α → Option (List β)
  | [] => some []
  | a :: r => match f a with
    | some b => match mapO f r with
      | some l => some (b :: l)
      | none => none
    | none => none
noncomputable def catO {α β : Type} (f : α → Option (List β)) : List α → Option (List β)
  | [] => some []
  | a :: r => match f a with
    | some b => match catO f r with
      | some l => some (b ++ l)
      | none => none
    | none => none
noncomputable def stepF (t : Tg) (cdv : Sto → Option Bool) (elv : Sto → Option AV) (ρ : Sto) (a : AV) : Option (List AV) := match setT t a ρ with
  | some ρ' => match cdv ρ' with
    | some true => match elv ρ' with
      | some b => some [b]
      | none => none
    | some false => some []
    | none => none
  | none => none
noncomputable def step2F (t t2 : Tg) (srv : Sto → Option (List AV)) (elv : Sto → Option AV) (ρ : Sto) (a : AV) : Option (List AV) := match setT t a ρ with
  | some ρ' => match srv ρ' with
    | some ys => catO (stepF t2 (fun _ => some true) elv ρ') ys
    | none => none
  | none => none
noncomputable def cstOf : Const → Option AV
  | .none => some .none
  | .bool b => some (.bool b)
  | .int i => some (.int i)
  | .str x => if x.length ≤ 1000 then some (.str x) else none
  | .bytes b => if b.length ≤ 1000 then some (.byt b.toArray) else none
  | _ => none
noncomputable def enumL (k : Nat) : List AV → List AV
  | [] => []
  | a :: r => .tup [.int k, a] :: enumL (k + 1) r

/-- what is read of the module -/
structure Env0 where
  gc : List AV
  Φ : Nat → List AV → Option AV

noncomputable def hdOf : X → Sto → Option Nat
  | .gfn i _, _ => if i < 90 then some i else none
  | .var j _, ρ => match (ρ[j]?).join with
    | some (.fn i) => some i
    | _ => none
  | _, _ => none
noncomputable def isVar : X → Bool
  | .var .. => true
  | _ => false
noncomputable def isRef : AV → Bool
  | .list _ => true
  | .ints _ => true
  | .tup _ => true
  | .range .. => true
  | .box => true
  | _ => false

noncomputable def orE (t : Option Bool) (a k : Option AV) : Option AV := match t with
  | some true => a
  | some false => k
  | none => none
noncomputable def orT (t k : Option Bool) : Option Bool := match t with
  | some true => some true
  | some false => k
  | none => none
noncomputable def andT (t k : Option Bool) : Option Bool := match t with
  | some true => k
  | some false => some false
  | none => none
noncomputable def srcB (b : Blt) (l : List AV) : Option (List AV) := match b with
  | .enum => (one1 lv l).bind fun l => some (enumL 0 l)
  | .rev => (one1 lv l).bind fun l => some l.reverse
  | .range => (evB .range l).bind itemsOf
  | _ => none
section
variable (G : Env0) (μ : Option (List Int))
mutual
noncomputable def ev : X → Sto → Option AV
  | .cst c _ _, _ => cstOf c
  | .var i _, ρ => (ρ[i]?).join
  | .gcs i _, _ => G.gc[i]?
  | .gfn _ _, _ => none
  | .bin o l r _, ρ => (ev l ρ).bind fun a => (ev r ρ).bind fun b => evBin o a b
  | .neg e _, ρ => (ev e ρ).bind evNeg
  | .cmp o l r _, ρ => (ev l ρ).bind fun a => (ev r ρ).bind fun b => (evCmp o a b).map .bool
  | .bor l r _, ρ => (ev l ρ).bind fun a => orE (truth a) (some a) (ev r ρ)
  | .ban _ _ _ _, _ => none
  | .not _ _, _ => none
  | .ife t b o _, ρ => orE (tv t ρ) (ev b ρ) (ev o ρ)
  | .idx e i _, ρ => (ev e ρ).bind fun a => (ev i ρ).bind fun k => evIdx μ a k
  | .sli e lo hi st _ _, ρ => (ev e ρ).bind fun a => (ev lo ρ).bind fun l => (ev hi ρ).bind fun h => (ev st ρ).bind fun s => evSli a l h s
  | .lst es _, ρ => (evs es ρ).bind fun l => ifO (l.length ≤ 1000) (.list l)
  | .tup es _ _, ρ => (evs es ρ).bind fun l => ifO (l.length ≤ 1000) (.tup l)
  | .com elt t it cnd _ fv _, ρ => (src it ρ).bind fun xs => (catO (stepF t (fun ρ' => cd cnd ρ') (fun ρ' => ev elt ρ') (mask fv 0 ρ)) xs).bind fun l => ifO (xs.length ≤ 1000) (.list l)
  | .com2 elt t it t2 it2 _ fv _, ρ => (src it ρ).bind fun xs => (catO (step2F t t2 (fun ρ' => src it2 ρ') (fun ρ' => ev elt ρ') (mask fv 0 ρ)) xs).bind fun l => ifO (l.length ≤ 1000) (.list l)
  | .cal f as _, ρ => (hdOf f ρ).bind fun i => (evs as ρ).bind fun l => G.Φ i l
  | .blt b _ as _, ρ => (evs as ρ).bind fun l => evBx μ b l
  | .met m o _ as _, ρ => (ev o ρ).bind fun a => (evs as ρ).bind fun l => evM m a l
  | .nil, _ => some .none
  | .cons _ _, _ => none
noncomputable def evs : X → Sto → Option (List AV)
  | .nil, _ => some []
  | .cons h t, ρ => (ev h ρ).bind fun a => (evs t ρ).bind fun l => some (a :: l)
  | _, _ => none
/-- a test -/
noncomputable def tv : X → Sto → Option Bool
  | .not e _, ρ => (tv e ρ).map (! ·)
  | .bor l r _, ρ => orT (tv l ρ) (tv r ρ)
  | .ban a b c _, ρ => andT (tv a ρ) (andT (tv b ρ) (tv c ρ))
  | .cmp o l r _, ρ => (ev l ρ).bind fun a => (ev r ρ).bind fun b => evCmp o a b
  | .cst c _ _, _ => (cstOf c).bind truth
  | .var i _, ρ => ((ρ[i]?).join).bind truth
  | .sli e lo hi st _ _, ρ => ((ev e ρ).bind fun a => (ev lo ρ).bind fun l => (ev hi ρ).bind fun h => (ev st ρ).bind fun s => evSli a l h s).bind truth
  | _, _ => none
/-- what a comprehension or a loop goes over -/
noncomputable def src : X → Sto → Option (List AV)
  | .blt b _ as _, ρ => (evs as ρ).bind fun l => srcB b l
  | .var i _, ρ => ((ρ[i]?).join).bind asList
  | _, _ => none
noncomputable def cd : X → Sto → Option Bool
  | .nil, _ => some true
  | .cons c t, ρ => if isNil t = true then tv c ρ else none
  | _, _ => none
end
end
theorem bindS {α β : Type} {x : Option α} {f : α → Option β} {b : β} (h : x.bind f = some b) : ∃ a, x = some a ∧ f a = some b := by
  cases x with
  | none => cases h
  | some a => exact ⟨a, rfl, h⟩
theorem bindI {α β : Type} {x : Option α} {f : α → Option β} {a : α} {b : β} (h1 : x = some a) (h2 : f a = some b) : x.bind f = some b := by rw [h1]; exact h2
theorem andI {a b : Bool} (h1 : a = true) (h2 : b = true) : (a && b) = true := by rw [h1, h2]; rfl
theorem mapS {α β : Type} {x : Option α} {f : α → β} {b : β} (h : x.map f = some b) : ∃ a, x = some a ∧ f a = b := by
  cases x with
  | none => cases h
  | some a => exact ⟨a, rfl, Option.some.inj h⟩
theorem and2 {a b : Bool} (h : (a && b) = true) : a = true ∧ b = true := by
  cases a
  · cases h
  · exact ⟨rfl, h⟩
theorem noS {α : Type} {a : α} {P : Prop} (h : (none : Option α) = some a) : P := nomatch h
theorem ifS {α : Type} {p : Prop} [Decidable p] {x a : α} (h : ifO p x = some a) : p ∧ a = x := by
  unfold ifO at h
  by_cases q : p
  · rw [if_pos q] at h; exact ⟨q, (Option.some.inj h).symm⟩
  · rw [if_neg q] at h; cases h
theorem ifO_pos {α : Type} {p : Prop} [Decidable p] {x : α} (h : p) : ifO p x = some x := if_pos h
theorem ivS {a : AV} {i : Int} (h : iv a = some i) : a = .int i := by cases a <;> first | exact noS h | exact congrArg AV.int (Option.some.inj h)
theorem svS {a : AV} {i : Str} (h : sv a = some i) : a = .str i := by cases a <;> first | exact noS h | exact congrArg AV.str (Option.some.inj h)
theorem yvS {a : AV} {i : Array UInt8} (h : yv a = some i) : a = .byt i := by cases a <;> first | exact noS h | exact congrArg AV.byt (Option.some.inj h)
theorem lvS {a : AV} {i : List AV} (h : lv a = some i) : a = .list i := by cases a <;> first | exact noS h | exact congrArg AV.list (Option.some.inj h)
theorem isNS {a : AV} {i : Unit} (h : isN a = some i) : a = .none := by cases a <;> first | exact noS h | rfl
theorem rng3S {a : AV} {x y z : Int} (h : rng3 a = some (x, y, z)) : a = .range x y z := by
  cases a <;> first | exact noS h | (cases h; rfl)
theorem int2S {f : Int → Int → Option AV} {a b c : AV} (h : int2 f a b = some c) : ∃ x y, a = .int x ∧ b = .int y ∧ f x y = some c := by
  obtain ⟨x, h1, h⟩ := bindS h
  obtain ⟨y, h2, h⟩ := bindS h
  exact ⟨x, y, ivS h1, ivS h2, h⟩
theorem cmp2S {f : Int → Int → Bool} {a b : AV} {c : Bool} (h : cmp2 f a b = some c) : ∃ x y, a = .int x ∧ b = .int y ∧ c = f x y := by
  obtain ⟨x, h1, h⟩ := bindS h
  obtain ⟨y, h2, h⟩ := bindS h
  exact ⟨x, y, ivS h1, ivS h2, (Option.some.inj h).symm⟩
theorem one1S {α β : Type} {f : α → Option β} {l : List α} {b : β} (h : one1 f l = some b) : ∃ a, l = [a] ∧ f a = some b := by
  rcases l with _ | ⟨a, _ | ⟨c, l⟩⟩
  · exact noS h
  · exact ⟨a, rfl, h⟩
  · exact noS h
theorem two2S {α β : Type} {f : α → α → Option β} {l : List α} {b : β} (h : two2 f l = some b) : ∃ a c, l = [a, c] ∧ f a c = some b := by
  rcases l with _ | ⟨a, _ | ⟨c, _ | ⟨d, l⟩⟩⟩
  · exact noS h
  · exact noS h
  · exact ⟨a, c, rfl, h⟩
  · exact noS h
theorem nil0S {β : Type} {x : Option β} {l : List AV} {b : β} (h : nil0 x l = some b) : l = [] ∧ x = some b := by
  cases l
  · exact ⟨rfl, h⟩
  · exact noS h
theorem orES {t : Option Bool} {a k : Option AV} {c : AV} (h : orE t a k = some c) : (t = some true ∧ a = some c) ∨ (t = some false ∧ k = some c) := by
  rcases t with _ | _ | _
  · exact noS h
  · exact .inr ⟨rfl, h⟩
  · exact .inl ⟨rfl, h⟩
theorem orTS {t k : Option Bool} {c : Bool} (h : orT t k = some c) : (t = some true ∧ c = true) ∨ (t = some false ∧ k = some c) := by
  rcases t with _ | _ | _
  · exact noS h
  · exact .inr ⟨rfl, h⟩
  · exact .inl ⟨rfl, (Option.some.inj h).symm⟩
theorem andTS {t k : Option Bool} {c : Bool} (h : andT t k = some c) : (t = some true ∧ k = some c) ∨ (t = some false ∧ c = false) := by
  rcases t with _ | _ | _
  · exact noS h
  · exact .inr ⟨rfl, (Option.some.inj h).symm⟩
  · exact .inl ⟨rfl, h⟩
end Mine
end TextA2

section TextA3
open PySem PySem.W PyProof.Rows PySem.Calls PySem.Spec
namespace Mine

structure Room (A : Around) (n : Nat) : Prop where
  hd : A.handled = none
  dp : A.depth + n < 900
  un : A.units + 100 * n < 9000
theorem Room.units {A : Around} {n : Nat} (r : Room A (n + 1)) : A.units + 64 < cLine := by have := r.un; have : cLine = 9900 := rfl; omega

section
variable {c : Cx} {A : Around} {E : Value → Shared → Prop} {s : Shared} {R : RP} {n : Nat}

noncomputable def Post (c : Cx) (R : RP) (s : Shared) (r : AV) (Q : Value → Shared → Prop) : Prop :=
  ∀ v h' tk, Ext c s.heap h' → Good c h' → Rel R h' r v → Q v { s with heap := h', toks := tk }

theorem Post.scalar {r : AV} {Q : Value → Shared → Prop} (p : Post c R s r Q) (g : Good c s.heap) {v : Value} (tk : Nat) (x : Rel R s.heap r v) : Q v { s with toks := tk } :=
  p v s.heap tk (Ext.refl _ _) g x
theorem Post.push {r : AV} {Q : Value → Shared → Prop} (p : Post c R s r Q) (g : Good c s.heap) {v : Value} (o : Obj) (tk : Nat) (x : Rel R (s.heap.push o) r v) : Q v { s with heap := s.heap.push o, toks := tk } :=
  p v _ tk (keep_push _ _).ext (g.keeps (keep_push _ _)) x
theorem Post.keep {r : AV} {Q : Value → Shared → Prop} (p : Post c R s r Q) (g : Good c s.heap) {v : Value} {h' : Heap} (k : Keep s.heap h') (tk : Nat) (x : Rel R h' r v) : Q v { s with heap := h', toks := tk } :=
  p v _ tk k.ext (g.keeps k) x

theorem rel_int {h : Heap} {i : Int} {t : Tok} : Rel R h (.int i) (.int i t) := by unfold Rel; exact ⟨t, rfl⟩
theorem rel_str {h : Heap} {x : Str} {t : Tok} (l : x.length ≤ big) : Rel R h (.str x) (.str x t) := by unfold Rel; exact ⟨t, rfl, l⟩
theorem rel_byt {h : Heap} {x : Array UInt8} {t : Tok} (l : x.size ≤ big) : Rel R h (.byt x) (.bytes x t) := by unfold Rel; exact ⟨t, rfl, l⟩
theorem rel_bool {h : Heap} {b : Bool} : Rel R h (.bool b) (.bool b) := by unfold Rel; rfl
theorem rel_none {h : Heap} : Rel R h .none .none := by unfold Rel; rfl

theorem fresh_size (fr : ∀ l, s.heap.get? l = none → R.P l) : R.P s.heap.objs.size := fr _ (Heap.get?_none_of_le (Nat.le_refl _))
theorem RelL.keepR {h h' : Heap} {xs : List AV} {vs : List Value} (x : RelL R h xs vs) (k : Keep h h') : RelL R h' xs vs := x.mono (fun b => ⟨b, rfl⟩) rfl (fun _ p _ => p) fun b o _ _ e => k b o e
theorem Rel.keepR {h h' : Heap} {a : AV} {v : Value} (x : Rel R h a v) (k : Keep h h') : Rel R h' a v := x.mono (fun b => ⟨b, rfl⟩) rfl (fun _ p _ => p) fun b o _ _ e => k b o e

theorem rel_newList {h : Heap} {xs : List AV} {vs : List Value} (p : R.P h.objs.size) (x : RelL R h xs vs) (l : xs.length ≤ big) : Rel R (h.push { cls := .type "list", data := .seq vs.toArray }) (.list xs) (.ref h.objs.size) := by
  unfold Rel; exact ⟨_, vs, rfl, p, PL.new h vs, x.keepR (keep_push _ _), l⟩
theorem rel_newTup {h : Heap} {xs : List AV} {vs : List Value} (p : R.P h.objs.size) (x : RelL R h xs vs) (l : xs.length ≤ big) : Rel R (h.push { cls := .type "tuple", data := .seq vs.toArray }) (.tup xs) (.ref h.objs.size) := by
  unfold Rel; exact ⟨_, vs, rfl, p, ⟨_, Heap.get?_push_size _ rfl, rfl, _, rfl⟩, x.keepR (keep_push _ _), l⟩

theorem small_lt {a : Int} (h : small a = true) : a.natAbs < 2 ^ 62 := by unfold small at h; exact of_decide_eq_true h
theorem intBits_small {a : Int} (h : a.natAbs < 2 ^ 62) : Builtin.Int.intBits a ≤ 64 := intBits_le_iff.mpr (by omega)
theorem div_small {a b : Int} (h : small b = true) : Builtin.divisionGoesByPylong a b = false := PyProof.noPylong_of_log2 (by
  have := small_lt h
  by_cases e : b.natAbs = 0
  · rw [e]; decide
  · have := (Nat.log2_lt e).2 this; omega)
theorem mul_ok_r {a b : Int} (h : small b = true) : IntMulOk a b := by
  unfold IntMulOk
  have := intBits_small (small_lt h)
  have e : shortFactorBits = 64 := rfl
  rw [e]
  simp only [Bool.and_eq_true, decide_eq_true_eq, not_and]
  intro x y
  omega
theorem mul_ok_l {a b : Int} (h : small a = true) : IntMulOk a b := by
  unfold IntMulOk
  have := intBits_small (small_lt h)
  have e : shortFactorBits = 64 := rfl
  rw [e]
  simp only [Bool.and_eq_true, decide_eq_true_eq, not_and]
  intro x y
  omega

theorem Rel.plL {R : RP} {h : Heap} {xs : List AV} {v : Value} (x : Rel R h (.list xs) v) : ∃ l vs, v = .ref l ∧ R.P l ∧ PL h l vs ∧ RelL R h xs vs ∧ xs.length ≤ big := by unfold Rel at x; exact x
theorem Rel.plI {R : RP} {h : Heap} {xs : List Int} {v : Value} (x : Rel R h (.ints xs) v) : ∃ l vs, v = .ref l ∧ R.P l ∧ h.IsList l vs.toArray ∧ IntsAre vs xs ∧ xs.length ≤ big := by unfold Rel at x; exact x
theorem Rel.i {R : RP} {h : Heap} {i : Int} {v : Value} (x : Rel R h (.int i) v) : ∃ t, v = .int i t := by unfold Rel at x; exact x
theorem Rel.st {R : RP} {h : Heap} {i : Str} {v : Value} (x : Rel R h (.str i) v) : ∃ t, v = .str i t ∧ i.length ≤ big := by unfold Rel at x; exact x
theorem Rel.y {R : RP} {h : Heap} {i : Array UInt8} {v : Value} (x : Rel R h (.byt i) v) : ∃ t, v = .bytes i t ∧ i.size ≤ big := by unfold Rel at x; exact x
theorem Rel.nn {R : RP} {h : Heap} {v : Value} (x : Rel R h .none v) : v = .none := by unfold Rel at x; exact x
theorem Rel.b {R : RP} {h : Heap} {b : Bool} {v : Value} (x : Rel R h (.bool b) v) : v = .bool b := by unfold Rel at x; exact x

theorem Post.int {i : Int} {Q : Value → Shared → Prop} (p : Post c R s (.int i) Q) (g : Good c s.heap) (t tk : Nat) : Q (.int i t) { s with toks := tk } := p.scalar g tk rel_int

theorem bin_ok {o : Operator} {a b r : AV} {va vb : Value} {Q : Value → Shared → Prop} (h : evBin o a b = some r) (g : Good c s.heap) (fr : ∀ l, s.heap.get? l = none → R.P l)
    (ra : Rel R s.heap a va) (rb : Rel R s.heap b vb) (p : Post c R s r Q) : wpAny (model c.prog c.w) A (binaryOp o va vb) Q E s := by
  cases o with
  | Add =>
    cases a <;> first | exact noS h | skip
    · obtain ⟨y, h1, h⟩ := bindS (x := iv b) h
      cases ivS h1; cases h
      obtain ⟨t, rfl⟩ := ra.i; obtain ⟨u, rfl⟩ := rb.i
      exact add_int (p.int g _ _)
    · obtain ⟨y, h1, h⟩ := bindS (x := yv b) h
      cases yvS h1
      obtain ⟨q, rfl⟩ := ifS h
      obtain ⟨t, rfl, za⟩ := ra.y; obtain ⟨u, rfl, zb⟩ := rb.y
      exact KBy.add_bytes (by omega) fun t' k => p.scalar g k (rel_byt (by rw [Array.size_append]; unfold big; omega))
    · obtain ⟨y, h1, h⟩ := bindS (x := lv b) h
      cases lvS h1
      obtain ⟨q, rfl⟩ := ifS h
      obtain ⟨l, vs, rfl, pl, ⟨n, hl⟩, hr, z⟩ := ra.plL; obtain ⟨l2, ws, rfl, pl2, ⟨n2, hl2⟩, hr2, z2⟩ := rb.plL
      have e1 := hr.length
      have e2 := hr2.length
      refine P.add_list (items := vs.toArray) (items2 := ws.toArray) hl hl2 (p.push g _ s.toks ?_) ?_
      · rw [List.append_toArray]
        exact rel_newList (fresh_size fr) (hr.append hr2) (by rw [List.length_append]; unfold big; omega)
      · simp only [List.size_toArray]
        have : sizeLine = 16777216 := rfl
        omega
  | Sub =>
    obtain ⟨x, y, rfl, rfl, h⟩ := int2S h
    obtain ⟨t, rfl⟩ := ra.i; obtain ⟨u, rfl⟩ := rb.i; cases h
    exact sub_int (p.int g _ _)
  | Mult =>
    obtain ⟨x, y, rfl, rfl, h⟩ := int2S h
    obtain ⟨q, rfl⟩ := ifS h
    obtain ⟨t, rfl⟩ := ra.i; obtain ⟨u, rfl⟩ := rb.i
    exact mul_int (p.int g _ _) (q.elim mul_ok_r mul_ok_l)
  | FloorDiv =>
    obtain ⟨x, y, rfl, rfl, h⟩ := int2S h
    obtain ⟨q, rfl⟩ := ifS h
    obtain ⟨t, rfl⟩ := ra.i; obtain ⟨u, rfl⟩ := rb.i
    exact floordiv_int q.1 (p.int g _ _) (.inl (div_small q.2))
  | Mod =>
    obtain ⟨x, y, rfl, rfl, h⟩ := int2S h
    obtain ⟨q, rfl⟩ := ifS h
    obtain ⟨t, rfl⟩ := ra.i; obtain ⟨u, rfl⟩ := rb.i
    exact mod_int' q (p.int g _ _)
  | LShift =>
    obtain ⟨x, y, rfl, rfl, h⟩ := int2S h
    obtain ⟨q, rfl⟩ := ifS h
    obtain ⟨t, rfl⟩ := ra.i; obtain ⟨u, rfl⟩ := rb.i
    exact lshift_int_small q.1 q.2.1 (by have := small_lt q.2.2; omega) (p.int g _ _)
  | RShift =>
    obtain ⟨x, y, rfl, rfl, h⟩ := int2S h
    obtain ⟨q, rfl⟩ := ifS h
    obtain ⟨t, rfl⟩ := ra.i; obtain ⟨u, rfl⟩ := rb.i
    exact rshift_int q (p.int g _ _)
  | Pow =>
    obtain ⟨x, y, rfl, rfl, h⟩ := int2S h
    obtain ⟨q, rfl⟩ := ifS h
    obtain ⟨t, rfl⟩ := ra.i; obtain ⟨u, rfl⟩ := rb.i
    exact pow_int_small q.1 q.2.1 (by have := small_lt q.2.2; omega) (p.int g _ _)
  | BitXor =>
    obtain ⟨x, y, rfl, rfl, h⟩ := int2S h
    obtain ⟨t, rfl⟩ := ra.i; obtain ⟨u, rfl⟩ := rb.i; cases h
    exact xor_int (p.int g _ _)
  | _ => exact noS h
end
end Mine
end TextA3

section TextA4
open PySem PySem.W PyProof.Rows PySem.Calls PySem.Spec
namespace Mine
section
variable {c : Cx} {A : Around} {E : Value → Shared → Prop} {s : Shared} {R : RP} {n : Nat}

theorem eqAt_bytes {A : Around} {s : Shared} (a b : Array UInt8) (t u : Tok) : SeqAt.EqAt A s (.bytes a t) (.bytes b u) (a.toList == b.toList) := fun prog w E Q h => by
  unfold eqBool
  refine wpAny_holding ?_
  refine wpAny_ite_split (fun hab => ?_) (fun _ => ?_)
  · have e : a = b := by have := eq_of_beq hab; injection this
    subst e
    exact wpAny_bind (wpAny_rule (wpAny_pure (by simpa using h)))
  · exact wpAny_bind (eq_bytes (A := A) (wpAny_truthy_bool h))

theorem bytesOf_at : ∀ {xs : List AV} {us : List (Array UInt8)} {h : Heap} {vs : List Value}, bytesOf xs = some us → RelL R h xs vs → vs.length = us.length ∧ ∀ j (h1 : j < us.length), ∃ t, vs[j]? = some (.bytes us[j] t)
  | [], us, h, vs, e, x => by unfold RelL at x; subst x; simp [bytesOf] at e; subst e; exact ⟨rfl, fun j h1 => absurd h1 (by simp)⟩
  | .byt a :: r, us, h, vs, e, x => by
    unfold RelL at x
    obtain ⟨v, q, rfl, p, y⟩ := x
    obtain ⟨t, rfl, _⟩ := p.y
    unfold bytesOf at e
    split at e
    · rename_i l hl
      cases e
      obtain ⟨i1, i2⟩ := bytesOf_at hl y
      refine ⟨by rw [List.length_cons, List.length_cons, i1], fun j h1 => ?_⟩
      cases j with
      | zero => exact ⟨t, rfl⟩
      | succ j => exact i2 j (by simpa using h1)
    · cases e
  | .none :: _, _, _, _, e, _ => by simp [bytesOf] at e
  | .bool _ :: _, _, _, _, e, _ => by simp [bytesOf] at e
  | .str _ :: _, _, _, _, e, _ => by simp [bytesOf] at e
  | .int _ :: _, _, _, _, e, _ => by simp [bytesOf] at e
  | .ints _ :: _, _, _, _, e, _ => by simp [bytesOf] at e
  | .list _ :: _, _, _, _, e, _ => by simp [bytesOf] at e
  | .tup _ :: _, _, _, _, e, _ => by simp [bytesOf] at e
  | .range .. :: _, _, _, _, e, _ => by simp [bytesOf] at e
  | .box :: _, _, _, _, e, _ => by simp [bytesOf] at e
  | .fn _ :: _, _, _, _, e, _ => by simp [bytesOf] at e

theorem intsOf_at {a : AV} {ns : List Int} {h : Heap} {v : Value} (e : intsOf a = some ns) (x : Rel R h a v) : ∃ l vs, v = .ref l ∧ h.IsList l vs.toArray ∧ IntsAre vs ns ∧ ns.length ≤ big := by
  unfold intsOf at e
  split at e
  · obtain ⟨l, vs, rfl, _, hl, hi, z⟩ := x.plI; cases e; exact ⟨l, vs, rfl, hl, hi, z⟩
  · obtain ⟨l, vs, rfl, _, hl, hi, z⟩ := x.plL
    have := asInts_are e hi
    exact ⟨l, vs, rfl, hl.isList, this, by rw [← IntsAre.length this, hi.length]; exact z⟩
  · cases e

theorem all_eq {us ws : List (Array UInt8)} (e : us.length = ws.length) : (List.range us.length).all (fun j => (us.getD j #[]).toList == (ws.getD j #[]).toList) = decide (us = ws) := by
  rw [Bool.eq_iff_iff, decide_eq_true_iff, List.all_eq_true]
  constructor
  · intro h
    refine List.ext_getElem e fun i h1 h2 => ?_
    have := h i (List.mem_range.2 h1)
    rw [beq_iff_eq] at this
    simp only [List.getD_eq_getElem?_getD, List.getElem?_eq_getElem h1, List.getElem?_eq_getElem h2, Option.getD_some] at this
    exact Array.toList_inj.mp this
  · intro h
    subst h
    intro x _
    exact beq_self_eq_true _

theorem eqLists_ok {a b : AV} {r : Bool} {va vb : Value} {Q : Value → Shared → Prop} (rm : Room A (n + 1)) (h : eqLists a b = some r) (ra : Rel R s.heap a va) (rb : Rel R s.heap b vb) (ng : Bool)
    (p : Q (.bool (if ng then !r else r)) s) : wpAny (model c.prog c.w) A (compareOp (if ng then .NotEq else .Eq) va vb) Q E s := by
  unfold eqLists at h
  split at h
  · rename_i x y hx hy
    obtain ⟨l, vs, rfl, hl, hi, z⟩ := intsOf_at hx ra
    obtain ⟨l2, vs2, rfl, hl2, hi2, z2⟩ := intsOf_at hy rb
    cases h
    cases ng
    · exact ke_eq_ints hl hl2 hi hi2 rm.units p
    · exact ke_ne_ints hl hl2 hi hi2 rm.units p
  · split at h
    · split at h
      · rename_i hu hv
        obtain ⟨l, vs, rfl, _, hl, hi, z⟩ := ra.plL
        obtain ⟨l2, vs2, rfl, _, hl2, hi2, z2⟩ := rb.plL
        obtain ⟨e1, f1⟩ := bytesOf_at hu hi
        obtain ⟨e2, f2⟩ := bytesOf_at hv hi2
        rename_i us ws _ _
        cases h
        have hun : A.units < cLine := by have := rm.units; omega
        by_cases e : us.length = ws.length
        · have he : ∀ j (h1 : j < vs.toArray.size) (h2 : j < vs2.toArray.size), SeqAt.EqAt A.in1 s vs.toArray[j] vs2.toArray[j] ((us.getD j #[]).toList == (ws.getD j #[]).toList) := by
            intro j h1 h2
            simp only [List.size_toArray] at h1 h2
            obtain ⟨t, ht⟩ := f1 j (by omega)
            obtain ⟨u, hu⟩ := f2 j (by omega)
            rw [List.getElem?_eq_getElem h1] at ht
            rw [List.getElem?_eq_getElem h2] at hu
            simp only [Option.some.injEq] at ht hu
            simp only [List.getElem_toArray, ht, hu]
            have q1 : us.getD j #[] = us[j]'(by omega) := by simp [List.getD, List.getElem?_eq_getElem (show j < us.length by omega)]
            have q2 : ws.getD j #[] = ws[j]'(by omega) := by simp [List.getD, List.getElem?_eq_getElem (show j < ws.length by omega)]
            rw [q1, q2]
            exact eqAt_bytes _ _ _ _
          have q : (List.range vs.toArray.size).all (fun j => (us.getD j #[]).toList == (ws.getD j #[]).toList) = decide (us = ws) := by
            rw [List.size_toArray, e1]; exact all_eq e
          cases ng
          · exact SeqAt.RcAt.lists hl.isList hl2.isList (by simp; omega) hun he c.prog c.w E Q (by rw [q]; exact p)
          · exact SeqAt.RcNeAt.lists hl.isList hl2.isList (by simp; omega) hun he c.prog c.w E Q (by rw [q]; exact p)
        · have q : decide (us = ws) = false := decide_eq_false fun x => e (by rw [x])
          rw [q] at p
          cases ng
          · exact SeqAt.RcAt.lists_lengths hl.isList hl2.isList (by simp; omega) hun c.prog c.w E Q p
          · exact SeqAt.RcNeAt.lists_lengths hl.isList hl2.isList (by simp; omega) hun c.prog c.w E Q p
      · cases h
    · cases h

theorem cmp_ok {o : CmpOp} {a b : AV} {r : Bool} {va vb : Value} {Q : Value → Shared → Prop} (rm : Room A (n + 1)) (h : evCmp o a b = some r)
    (ra : Rel R s.heap a va) (rb : Rel R s.heap b vb) (p : Q (.bool r) s) : wpAny (model c.prog c.w) A (compareOp o va vb) Q E s := by
  cases o with
  | Eq =>
    have gen : eqLists a b = some r → wpAny (model c.prog c.w) A (compareOp .Eq va vb) Q E s := fun q => eqLists_ok rm q ra rb false p
    cases a <;> first | exact gen h | skip
    · obtain ⟨y, h1, h⟩ := bindS (x := iv b) h
      cases ivS h1; cases h
      obtain ⟨t, rfl⟩ := ra.i; obtain ⟨u, rfl⟩ := rb.i; exact eq_int p
    · obtain ⟨y, h1, h⟩ := bindS (x := sv b) h
      cases svS h1; cases h
      obtain ⟨t, rfl, _⟩ := ra.st; obtain ⟨u, rfl, _⟩ := rb.st; exact eq_str p
  | NotEq =>
    have gen : (eqLists a b).map (! ·) = some r → wpAny (model c.prog c.w) A (compareOp .NotEq va vb) Q E s := fun q => by
      obtain ⟨d, q2, rfl⟩ := mapS q
      exact eqLists_ok rm q2 ra rb true p
    cases a <;> first | exact gen h | skip
    obtain ⟨y, h1, h⟩ := bindS (x := iv b) h
    cases ivS h1; cases h
    obtain ⟨t, rfl⟩ := ra.i; obtain ⟨u, rfl⟩ := rb.i; exact ne_int p
  | Lt =>
    obtain ⟨x, y, rfl, rfl, rfl⟩ := cmp2S h
    obtain ⟨t, rfl⟩ := ra.i; obtain ⟨u, rfl⟩ := rb.i; exact lt_int p
  | LtE =>
    obtain ⟨x, y, rfl, rfl, rfl⟩ := cmp2S h
    obtain ⟨t, rfl⟩ := ra.i; obtain ⟨u, rfl⟩ := rb.i; exact le_int p
  | Gt =>
    obtain ⟨x, y, rfl, rfl, rfl⟩ := cmp2S h
    obtain ⟨t, rfl⟩ := ra.i; obtain ⟨u, rfl⟩ := rb.i; exact gt_int p
  | Is =>
    obtain ⟨_, h1, h⟩ := bindS (x := isN b) h
    cases isNS h1
    rw [rb.nn]
    refine is_none ?_
    cases a <;> first | exact noS h | skip
    · rw [ra.nn]; cases h; exact p
    · obtain ⟨l, vs, rfl, _⟩ := ra.plL; cases h; exact p
  | _ => exact noS h

theorem truth_ok {a : AV} {r : Bool} {v : Value} {Q : Bool → Shared → Prop} (h : truth a = some r) (ra : Rel R s.heap a v) (p : ∀ tk, Q r { s with toks := tk }) : wpAny (model c.prog c.w) A (truthy v) Q E s := by
  unfold truth at h
  split at h
  · rw [ra.b]; cases h; exact wpAny_truthy_bool (p s.toks)
  · obtain ⟨t, rfl⟩ := ra.i; cases h; exact truthy_int (p s.toks)
  · rename_i x
    obtain ⟨t, rfl, z⟩ := ra.st; cases h
    refine P.truthy_str (by have : big = 1048576 := rfl; omega) ?_
    have e : ((x.length : Int) != 0) = (x.length != 0) := by
      rw [Bool.eq_iff_iff]; simp
    rw [e]; exact p _
  · rename_i xs
    obtain ⟨l, vs, rfl, _, hl, hr, z⟩ := ra.plL; cases h
    refine wpAny_truthy_list hl.isList (by rw [List.size_toArray, hr.length]; have : big = 1048576 := rfl; omega) ?_
    have e : vs.toArray.isEmpty = xs.isEmpty := by
      have := hr.length
      rw [List.isEmpty_toArray]
      cases xs <;> cases vs <;> simp_all
    rw [e]; exact p _
  · rename_i xs
    obtain ⟨l, vs, rfl, _, hl, hr, z⟩ := ra.plI; cases h
    have hlen := IntsAre.length hr
    refine wpAny_truthy_list hl (by rw [List.size_toArray, hlen]; have : big = 1048576 := rfl; omega) ?_
    have e : vs.toArray.isEmpty = xs.isEmpty := by
      rw [List.isEmpty_toArray]
      cases xs <;> cases vs <;> simp_all
    rw [e]; exact p _
  · cases h

theorem neg_ok {a r : AV} {v : Value} {Q : Value → Shared → Prop} (h : evNeg a = some r) (g : Good c s.heap) (ra : Rel R s.heap a v) (p : Post c R s r Q) : wpAny (model c.prog c.w) A (unaryOp .USub v) Q E s := by
  obtain ⟨i, h1, h⟩ := bindS (x := iv a) h
  cases ivS h1; cases h
  obtain ⟨t, rfl⟩ := ra.i
  exact neg_int (p.int g _ _)
end
end Mine
end TextA4

section TextA5
open PySem PySem.W PyProof.Rows PySem.Calls PySem.Spec
namespace Mine
theorem are_arr : ∀ {vs : List Value} {ns : List Int}, IntsAre vs ns → ∃ xs : List (Int × Tok), vs = xs.map (fun p => Value.int p.1 p.2) ∧ ns = xs.map (·.1)
  | _, _, .nil => ⟨[], rfl, rfl⟩
  | _, _, .cons n t r => let ⟨xs, e1, e2⟩ := are_arr r; ⟨(n, t) :: xs, by rw [e1]; rfl, by rw [e2]; rfl⟩

theorem minL_le : ∀ (r : List Int) (x : Int), minL r x ≤ x ∧ (∀ y ∈ r, minL r x ≤ y) ∧ (minL r x = x ∨ minL r x ∈ r)
  | [], x => ⟨Int.le_refl _, fun _ h => absurd h (by simp), .inl rfl⟩
  | a :: r, x => by
    unfold minL
    obtain ⟨h1, h2, h3⟩ := minL_le r (if a < x then a else x)
    refine ⟨?_, ?_, ?_⟩
    · split at h1 <;> rename_i q <;> simp only [q, if_true, if_false] <;> omega
    · intro y hy
      rcases List.mem_cons.1 hy with rfl | hy
      · split at h1 <;> rename_i q <;> simp only [q, if_true, if_false] <;> omega
      · exact h2 y hy
    · rcases h3 with h3 | h3
      · by_cases q : a < x
        · rw [if_pos q] at h3 ⊢; exact .inr (by rw [h3]; exact List.mem_cons_self)
        · rw [if_neg q] at h3 ⊢; exact .inl h3
      · exact .inr (List.mem_cons_of_mem _ h3)

theorem insertI_perm (a : Int) : ∀ l : List Int, (insertI a l).Perm (a :: l)
  | [] => .refl _
  | b :: r => by
    unfold insertI
    split
    · exact .refl _
    · exact ((insertI_perm a r).cons b).trans (.swap a b r)
theorem sortI_perm : ∀ l : List Int, (sortI l).Perm l
  | [] => .refl _
  | a :: r => (insertI_perm a (sortI r)).trans ((sortI_perm r).cons a)
theorem insertI_pw (a : Int) : ∀ {l : List Int}, l.Pairwise (· ≤ ·) → (insertI a l).Pairwise (· ≤ ·)
  | [], _ => by simp [insertI]
  | b :: r, h => by
    unfold insertI
    split
    · rename_i q
      refine List.pairwise_cons.2 ⟨fun y hy => ?_, h⟩
      rcases List.mem_cons.1 hy with rfl | hy
      · exact q
      · exact Int.le_trans q ((List.pairwise_cons.1 h).1 y hy)
    · rename_i q
      refine List.pairwise_cons.2 ⟨fun y hy => ?_, insertI_pw a (List.pairwise_cons.1 h).2⟩
      rcases List.mem_cons.1 ((insertI_perm a r).subset hy) with rfl | hy
      · omega
      · exact (List.pairwise_cons.1 h).1 y hy
theorem sortI_pw : ∀ l : List Int, (sortI l).Pairwise (· ≤ ·)
  | [] => .nil
  | a :: r => insertI_pw a (sortI_pw r)
theorem sorted_unique : ∀ {a b : List Int}, a.Perm b → a.Pairwise (· ≤ ·) → b.Pairwise (· ≤ ·) → a = b
  | [], b, p, _, _ => by rw [List.nil_perm.1 p]
  | x :: a, [], p, _, _ => by simp at p
  | x :: a, y :: b, p, h1, h2 => by
    have e : x = y := by
      have hx := p.subset (List.mem_cons_self (a := x) (l := a))
      have hy := p.symm.subset (List.mem_cons_self (a := y) (l := b))
      rcases List.mem_cons.1 hx with e | hx
      · exact e
      · rcases List.mem_cons.1 hy with e | hy
        · exact e.symm
        · have q1 := (List.pairwise_cons.1 h2).1 x hx
          have q2 := (List.pairwise_cons.1 h1).1 y hy
          omega
    subst e
    rw [sorted_unique p.cons_inv (List.pairwise_cons.1 h1).2 (List.pairwise_cons.1 h2).2]

theorem preSum_foldl (ns : List Int) : ∀ k, k ≤ ns.length → preSum (fun i => ns.getD i 0) k = (ns.take k).foldl (· + ·) 0
  | 0, _ => by simp [preSum]
  | k + 1, h => by
    have h' : k < ns.length := h
    rw [preSum, preSum_foldl ns k (by omega), List.take_add_one, List.foldl_append, List.getElem?_eq_getElem h']
    simp [List.getD, List.getElem?_eq_getElem h']

theorem are_get {vs : List Value} {ns : List Int} (h : IntsAre vs ns) {i : Nat} {v : Value} (e : vs[i]? = some v) : ∃ t, v = .int (ns.getD i 0) t := by
  obtain ⟨xs, rfl, rfl⟩ := are_arr h
  rw [List.getElem?_map] at e
  cases q : xs[i]? with
  | none => rw [q] at e; cases e
  | some p => rw [q] at e; cases e; exact ⟨p.2, by simp [List.getD, q]⟩
theorem rangeL_length (c : Int) : ∀ (n : Nat) (a : Int), (rangeL a c n).length = n
  | 0, _ => rfl
  | n + 1, a => by rw [rangeL, List.length_cons, rangeL_length c n]
theorem rangeL_rel {R : RP} {h : Heap} (c : Int) : ∀ (n : Nat) (a : Int) (vs : List Value), vs.length = n → (∀ (i : Nat) (v : Value), vs[i]? = some v → ∃ t, v = Value.int (a + i * c) t) → RelL R h (rangeL a c n) vs
  | 0, a, vs, e, _ => by rw [List.length_eq_zero_iff.1 e]; exact RelL.nil
  | n + 1, a, [], e, _ => by simp at e
  | n + 1, a, v :: vs, e, H => by
    obtain ⟨t, rfl⟩ := H 0 v rfl
    refine RelL.cons (by unfold Rel; exact ⟨t, by simp⟩) (rangeL_rel c n (a + c) vs (by simpa using e) fun i w q => ?_)
    obtain ⟨u, rfl⟩ := H (i + 1) w (by simpa using q)
    exact ⟨u, by congr 1; rw [Int.natCast_add, Int.add_mul]; simp; omega⟩

section
variable {c : Cx} {A : Around} {E : Value → Shared → Prop} {s : Shared} {R : RP} {n : Nat}

theorem iter_list {l : Addr} {items : Array Value} {Q : Value → Shared → Prop} {M : Program} {w : World} (hl : s.heap.IsList l items)
    (h : ∀ s₂ : Shared, s₂ = { s with heap := s.heap.push { cls := .type "list_iterator", data := .fields #[.ref l, .int 0 0] } } →
      (s₂.heap.IsListIter s.heap.objs.size l 0 ∧ s₂.heap.IsList l items) → (∀ b ∈ [s.heap.objs.size, l], b < s₂.heap.objs.size) → l ≠ s.heap.objs.size → Q (.ref s.heap.objs.size) s₂) :
    wpAny (model M w) A (pyIter (.ref l)) Q E s := by
  have hlt : l < s.heap.objs.size := by obtain ⟨_, e, _⟩ := hl; exact Heap.lt_size e
  refine wpAny_pyIter_list hl (h _ rfl ⟨⟨_, Heap.get?_push_size _ rfl, rfl, rfl⟩, hl.push _⟩ (fun b hb => ?_) (Nat.ne_of_lt hlt))
  show b < (s.heap.push _).objs.size
  rw [Heap.size_push]
  rcases List.mem_cons.mp hb with rfl | hb
  · exact Nat.lt_succ_self _
  · rcases List.mem_cons.mp hb with rfl | hb
    · exact Nat.lt_succ_of_lt hlt
    · cases hb

theorem sum_ok {l : Addr} {vs : List Value} {ns : List Int} {Q : Value → Shared → Prop} (hh : A.handled = none) (hl : s.heap.IsList l vs.toArray) (hi : IntsAre vs ns)
    (h : ∀ h' t tk, Keep s.heap h' → Q (.int (ns.foldl (· + ·) 0) t) { s with heap := h', toks := tk }) : wpAny (model c.prog c.w) A (call (.builtin "sum") [.ref l]) Q E s := by
  refine call_sum_walkAnyS (iter_list hl fun s₂ e st hfp hne => ?_)
  subst e
  refine ⟨_, _, _, _, _, _, _, fun i => ns.getD i 0, rfl, (Walks.list (A := A.in1) hh _ l hne vs.toArray).toS, st, hfp, fun i v q => are_get hi (by simpa using q), fun s' t' m => ?_⟩
  have e1 : vs.toArray.size = ns.length := by rw [List.size_toArray]; exact IntsAre.length hi
  rw [e1, preSum_foldl ns _ (Nat.le_refl _), List.take_length]
  obtain ⟨m1, m2, m3, m4, m5⟩ := m
  obtain ⟨hp', gs', d', tk', os'⟩ := s'
  simp only at m2 m3 m4 m1
  subst m2 m3 m4
  exact h hp' t' tk' (old_kept m1)

theorem min_ok {l : Addr} {vs : List Value} {ns : List Int} {x : Int} {Q : Value → Shared → Prop} (hh : A.handled = none) (hl : s.heap.IsList l vs.toArray) (hi : IntsAre vs (x :: ns))
    (h : ∀ h' t tk, Keep s.heap h' → Q (.int (minL ns x) t) { s with heap := h', toks := tk }) : wpAny (model c.prog c.w) A (call (.builtin "min") [.ref l]) Q E s := by
  obtain ⟨xs, rfl, e2⟩ := are_arr hi
  have q : (xs.map fun p => Value.int p.1 p.2).toArray = intItems xs.toArray := by simp [intItems]
  rw [q] at hl
  have hlen : xs.length = ns.length + 1 := by have := congrArg List.length e2; simpa using this.symm
  refine min_intList hh hl (by simp; omega) fun v h' tk hv hk => ?_
  obtain ⟨t, rfl⟩ := intItems_at hv
  have hnum : ∀ j, numAt xs.toArray j = (x :: ns).getD j 0 := fun j => by
    rw [e2]; simp [numAt, List.getD, List.getElem?_map]
  obtain ⟨b1, b2⟩ := argBest_lt (numAt xs.toArray) (xs.toArray.size - 1)
  have e : numAt xs.toArray (argBest (fun i j => decide (numAt xs.toArray i < numAt xs.toArray j)) (xs.toArray.size - 1)) = minL ns x := by
    obtain ⟨m1, m2, m3⟩ := minL_le ns x
    have sz : xs.toArray.size - 1 = ns.length := by simp; omega
    rw [sz] at b1 b2 ⊢
    generalize argBest (fun i j => decide (numAt xs.toArray i < numAt xs.toArray j)) ns.length = k at b1 b2 ⊢
    have u1 : minL ns x ≤ numAt xs.toArray k := by
      rw [hnum]
      cases k with
      | zero => exact m1
      | succ k => simp only [List.getD_cons_succ]; rw [List.getD_eq_getElem?_getD, List.getElem?_eq_getElem (by omega), Option.getD_some]; exact m2 _ (List.getElem_mem _)
    have u2 : numAt xs.toArray k ≤ minL ns x := by
      rcases m3 with m3 | m3
      · rw [m3]; have := b2 0 (by omega); rw [hnum 0] at this; exact this
      · obtain ⟨j, hj, e⟩ := List.getElem_of_mem m3
        have := b2 (j + 1) (by omega)
        rw [hnum (j + 1)] at this
        simp only [List.getD_cons_succ] at this
        rw [List.getD_eq_getElem?_getD, List.getElem?_eq_getElem hj, Option.getD_some, e] at this
        exact this
    omega
  rw [e]
  exact h h' t tk hk

theorem sorted_ok {l : Addr} {vs : List Value} {ns : List Int} {Q : Value → Shared → Prop} (g : Good c s.heap) (fr : ∀ l, s.heap.get? l = none → R.P l) (hl : s.heap.IsList l vs.toArray) (hi : IntsAre vs ns) (z : ns.length < 64)
    (p : Post c R s (.list ((sortI ns).map .int)) Q) : wpAny (model c.prog c.w) A (call (.builtin "sorted") [.ref l]) Q E s := by
  refine sorted_ints hl hi (by rw [IntsAre.length hi]; exact z) fun out ns' a1 a2 a3 => ?_
  have e := sorted_unique (a2.trans (sortI_perm ns).symm) a3 (sortI_pw ns)
  obtain ⟨e', he⟩ := sortedAll_at s.heap vs out
  refine p.keep g (fun _ _ => sortedAll_old) s.toks ?_
  unfold Rel
  refine ⟨_, out.toList, rfl, fr _ (Heap.get?_none_of_le (Nat.le_succ _)), ⟨_, he⟩, ?_, ?_⟩
  · rw [← e]; exact RelL.ints a1
  · rw [List.length_map, ← e, a2.length_eq]; have : big = 1048576 := rfl; omega
end
end Mine
end TextA5

section TextA6
open PySem PySem.W PyProof.Rows PySem.Calls PySem.Spec
namespace Mine
section
variable {c : Cx} {A : Around} {E : Value → Shared → Prop} {s : Shared} {R : RP} {n : Nat}
theorem RelL.inv1 {h : Heap} {a : AV} {vs : List Value} (x : RelL R h [a] vs) : ∃ v, vs = [v] ∧ Rel R h a v := by
  unfold RelL at x; obtain ⟨v, r, rfl, p, q⟩ := x; unfold RelL at q; subst q; exact ⟨v, rfl, p⟩
theorem RelL.inv2 {h : Heap} {a b : AV} {vs : List Value} (x : RelL R h [a, b] vs) : ∃ v w, vs = [v, w] ∧ Rel R h a v ∧ Rel R h b w := by
  unfold RelL at x; obtain ⟨v, r, rfl, p, q⟩ := x; obtain ⟨w, rfl, q2⟩ := RelL.inv1 q; exact ⟨v, w, rfl, p, q2⟩
theorem RelL.inv3 {h : Heap} {a b d : AV} {vs : List Value} (x : RelL R h [a, b, d] vs) : ∃ v w u, vs = [v, w, u] ∧ Rel R h a v ∧ Rel R h b w ∧ Rel R h d u := by
  unfold RelL at x; obtain ⟨v, r, rfl, p, q⟩ := x; obtain ⟨w, u, rfl, q2⟩ := RelL.inv2 q; exact ⟨v, w, u, rfl, p, q2⟩
theorem RelL.inv0 {h : Heap} {vs : List Value} (x : RelL R h [] vs) : vs = [] := by unfold RelL at x; exact x

theorem blt_ok {b : Blt} {l : List AV} {vs : List Value} {r : AV} {Q : Value → Shared → Prop} (rm : Room A (n + 1)) (h : evB b l = some r) (g : Good c s.heap) (fr : ∀ l, s.heap.get? l = none → R.P l) (x : RelL R s.heap l vs)
    (p : Post c R s r Q) : wpAny (model c.prog c.w) A (call b.val vs) Q E s := by
  have hb : big = 1048576 := rfl
  have hsl : sizeLine = 16777216 := rfl
  cases b with
  | len =>
    obtain ⟨a, rfl, h⟩ := one1S h
    obtain ⟨v, rfl, y⟩ := x.inv1
    cases a <;> first | exact noS h | skip
    · obtain ⟨t, rfl, z⟩ := y.st
      cases h
      exact P.len_str (by omega) (p.int g _ _)
    · obtain ⟨a, ws, rfl, _, hl, hr, z⟩ := y.plI
      cases h
      have e := IntsAre.length hr
      refine call_len_list hl (by rw [List.size_toArray]; omega) ?_
      rw [List.size_toArray, e]
      exact p.int g _ _
    · obtain ⟨a, ws, rfl, _, hl, hr, z⟩ := y.plL
      cases h
      have e := hr.length
      refine call_len_list hl.isList (by rw [List.size_toArray]; omega) ?_
      rw [List.size_toArray, e]
      exact p.int g _ _
  | sum =>
    obtain ⟨a, rfl, h⟩ := one1S h
    obtain ⟨v, rfl, y⟩ := x.inv1
    obtain ⟨ns, q, h⟩ := bindS h
    obtain ⟨a, ws, rfl, hl, hi, z⟩ := intsOf_at q y
    cases h
    exact sum_ok rm.hd hl hi fun h' t tk k => p.keep g k tk rel_int
  | min =>
    rcases l with _ | ⟨a, _ | ⟨b, _ | ⟨d, l⟩⟩⟩
    · exact noS h
    · obtain ⟨v, rfl, y⟩ := x.inv1
      obtain ⟨ns, q, h⟩ := bindS (x := intsOf a) h
      obtain ⟨a, ws, rfl, hl, hi, z⟩ := intsOf_at q y
      cases ns
      · exact noS h
      · cases h
        exact min_ok rm.hd hl hi fun h' t tk k => p.keep g k tk rel_int
    · obtain ⟨v, w, rfl, y, y2⟩ := x.inv2
      obtain ⟨i, j, rfl, rfl, h⟩ := int2S h
      obtain ⟨t, rfl⟩ := y.i; obtain ⟨u, rfl⟩ := y2.i
      cases h
      refine min_two_ints rm.hd fun h' tk k => ?_
      split
      · rename_i q; rw [if_pos q] at p; exact p.keep g k tk rel_int
      · rename_i q; rw [if_neg q] at p; exact p.keep g k tk rel_int
    · exact noS h
  | sorted =>
    obtain ⟨a, rfl, h⟩ := one1S h
    obtain ⟨v, rfl, y⟩ := x.inv1
    obtain ⟨ns, q, h⟩ := bindS h
    obtain ⟨a, ws, rfl, hl, hi, z⟩ := intsOf_at q y
    obtain ⟨q2, rfl⟩ := ifS h
    exact sorted_ok g fr hl hi q2 p
  | bytes =>
    obtain ⟨a, rfl, h⟩ := one1S h
    obtain ⟨v, rfl, y⟩ := x.inv1
    obtain ⟨ns, q, h⟩ := bindS h
    obtain ⟨a, ws, rfl, hl, hi, z⟩ := intsOf_at q y
    obtain ⟨⟨q2, q3⟩, rfl⟩ := ifS h
    refine call_bytes_ints hl hi (fun k hk => ?_) (by rw [IntsAre.length hi]; omega) rm.hd fun h' t tk k => p.keep g k tk (rel_byt ?_)
    · have := List.all_eq_true.1 q2 k hk
      simp only [Bool.and_eq_true, decide_eq_true_eq] at this
      exact this
    · simp [byteArr]; omega
  | list =>
    obtain ⟨av, rfl, h⟩ := one1S h
    obtain ⟨v, rfl, y⟩ := x.inv1
    obtain ⟨⟨a, b, d⟩, q, h⟩ := bindS h
    obtain rfl := rng3S q
    obtain ⟨⟨q1, q2⟩, rfl⟩ := ifS h
    unfold Rel at y
    obtain ⟨l, t, u, w, rfl, _, hr⟩ := y
    have hnn : Builtin.Range.rangeSize a b d = (rangeLen a b d : Int) := by
      unfold rangeLen
      have : 0 ≤ Builtin.Range.rangeSize a b d := by
        unfold Builtin.Range.rangeSize
        split
        · split
          · have := Int.ediv_nonneg (a := b - a - 1) (b := d) (by omega) (by omega); omega
          · exact Int.le_refl _
        · split
          · have := Int.ediv_nonneg (a := a - b - 1) (b := -d) (by omega) (by omega); omega
          · exact Int.le_refl _
      omega
    refine call_list_range rm.hd hr q1 hnn (Nat.le_trans q2 (by decide)) fun h' tk acc c' k e io => p.keep g k tk ?_
    unfold Rel
    refine ⟨_, acc.toList, rfl, fresh_size fr, ⟨c', by simpa using e⟩, rangeL_rel d _ a _ (by simpa using io.1) (fun i v q => io.2 i v (by simpa using q)), ?_⟩
    rw [rangeL_length]; exact Nat.le_trans q2 (by decide)
  | int =>
    obtain ⟨a, rfl, h⟩ := one1S h
    obtain ⟨v, rfl, y⟩ := x.inv1
    obtain ⟨i, q, h⟩ := bindS h
    cases ivS q; cases h
    obtain ⟨t, rfl⟩ := y.i
    exact call_int_int (p.scalar g s.toks rel_int)
  | abs =>
    obtain ⟨a, rfl, h⟩ := one1S h
    obtain ⟨v, rfl, y⟩ := x.inv1
    obtain ⟨i, q, h⟩ := bindS h
    cases ivS q; cases h
    obtain ⟨t, rfl⟩ := y.i
    exact call_abs_int fun u tk => p.int g _ _
  | divmod =>
    obtain ⟨a, b, rfl, h⟩ := two2S h
    obtain ⟨v, w, rfl, y, y2⟩ := x.inv2
    obtain ⟨i, j, rfl, rfl, h⟩ := int2S h
    obtain ⟨q, rfl⟩ := ifS h
    obtain ⟨t, rfl⟩ := y.i; obtain ⟨u, rfl⟩ := y2.i
    refine divmod_int q.1 ?_ (.inl (div_small q.2))
    exact p.push g _ _ (rel_newTup (vs := [_, _]) (fresh_size fr) (RelL.cons rel_int (RelL.cons rel_int RelL.nil)) (by simp; omega))
  | range =>
    rcases l with _ | ⟨a, _ | ⟨b, _ | ⟨d, _ | ⟨e, l⟩⟩⟩⟩
    · exact noS h
    · obtain ⟨v, rfl, y⟩ := x.inv1
      obtain ⟨i, q, h⟩ := bindS (x := iv a) h
      cases ivS q; cases h
      obtain ⟨t, rfl⟩ := y.i
      refine call_range_1 (p.push g _ _ ?_)
      unfold Rel
      exact ⟨_, _, _, _, rfl, fresh_size fr, Heap.get?_push_size _ rfl⟩
    · obtain ⟨v, w, rfl, y, y2⟩ := x.inv2
      obtain ⟨i, q, h⟩ := bindS (x := iv a) h
      obtain ⟨j, q2, h⟩ := bindS (x := iv b) h
      cases ivS q; cases ivS q2; cases h
      obtain ⟨t, rfl⟩ := y.i; obtain ⟨u, rfl⟩ := y2.i
      refine call_range_2 (p.push g _ _ ?_)
      unfold Rel
      exact ⟨_, _, _, _, rfl, fresh_size fr, Heap.get?_push_size _ rfl⟩
    · obtain ⟨v, w, v3, rfl, y, y2, y3⟩ := x.inv3
      obtain ⟨i, q, h⟩ := bindS (x := iv a) h
      obtain ⟨j, q2, h⟩ := bindS (x := iv b) h
      obtain ⟨k, q3, h⟩ := bindS (x := iv d) h
      cases ivS q; cases ivS q2; cases ivS q3
      obtain ⟨q4, rfl⟩ := ifS h
      obtain ⟨t, rfl⟩ := y.i; obtain ⟨u, rfl⟩ := y2.i; obtain ⟨u3, rfl⟩ := y3.i
      refine call_range_3 q4.1 (p.push g _ _ ?_) (.inl (div_small q4.2))
      unfold Rel
      exact ⟨_, _, _, _, rfl, fresh_size fr, Heap.get?_push_size _ rfl⟩
    · exact noS h
  | enum => exact noS h
  | rev => exact noS h

theorem sub_plain {slice : Expr} (h : ∀ a b d q, slice ≠ .Slice a b d q) (o i : Value) : subscripted slice false o i = operate [o, i] (getItem o i) := by
  unfold subscripted
  split
  · exact absurd rfl (h _ _ _ _)
  · rename_i e; cases e
  · rfl

theorem idx_ok {μ : Option (List Int)} {value slice : Expr} {a i r : AV} {va vi : Value} {Q : Value → Shared → Prop} (hs : ∀ a b d q, slice ≠ .Slice a b d q) (h : evIdx μ a i = some r) (g : Good c s.heap)
    (bx : BoxIs R s.heap μ) (ra : Rel R s.heap a va) (ri : Rel R s.heap i vi) (p : Post c R s r Q) : wpAny (model c.prog c.w) A (subscriptTail value slice va vi) Q E s := by
  replace h := bindS (x := iv i) h
  obtain ⟨i', q0, h⟩ := h
  cases ivS q0
  obtain ⟨t, rfl⟩ := ri.i
  cases a <;> first | exact noS h | skip
  · rename_i x'
    obtain ⟨_, q, h⟩ := bindS h
    obtain ⟨q, _⟩ := ifS q
    obtain ⟨y, hy, rfl⟩ := mapS h
    obtain ⟨t, rfl, z⟩ := ra.st
    obtain ⟨k, q1, hy⟩ := bindS hy
    obtain ⟨d, e1, rfl⟩ := mapS hy
    refine tail_any (typeIs_str _ _ _) F.slot_str_getitem.lookup (getItem_str (c := d) (by have := small_lt q; simp; omega) (by rw [q1]; exact e1) ?_) (sub_plain hs _ _)
    exact p.scalar g _ (rel_str (by show (1 : Nat) ≤ big; decide))
  · obtain ⟨_, q, h⟩ := bindS h
    obtain ⟨q, _⟩ := ifS q
    obtain ⟨k, hk, rfl⟩ := mapS h
    obtain ⟨l, vs, rfl, _, hl, hr, z⟩ := ra.plI
    obtain ⟨v, e, rv⟩ := (RelL.ints (R := R) (h := s.heap) hr).get (i := i'.toNat) (a := .int k) (by rw [List.getElem?_map, hk]; rfl)
    exact tail_any hl.typeIs slot_list_getitem.lookup (wpAny_getItem_list hl q.1 (by omega) (by simpa using e) (p.scalar g s.toks rv)) (sub_plain hs _ _)
  · obtain ⟨_, q, h⟩ := bindS h
    obtain ⟨q, _⟩ := ifS q
    obtain ⟨l, vs, rfl, _, hl, hr, z⟩ := ra.plL
    obtain ⟨v, e, rv⟩ := hr.get h
    exact tail_any hl.isList.typeIs slot_list_getitem.lookup (wpAny_getItem_list hl.isList q.1 (by omega) (by simpa using e) (p.scalar g s.toks rv)) (sub_plain hs _ _)
  · obtain ⟨_, q, h⟩ := bindS h
    obtain ⟨q, _⟩ := ifS q
    obtain ⟨l, hm, h⟩ := bindS h
    subst hm
    obtain ⟨k, hk, rfl⟩ := mapS h
    unfold Rel at ra
    obtain ⟨_, rfl⟩ := ra
    obtain ⟨vs, hl, hi, z⟩ := bx l rfl
    obtain ⟨v, e, rv⟩ := (RelL.ints (R := R) (h := s.heap) hi).get (i := i'.toNat) (a := .int k) (by rw [List.getElem?_map, hk]; rfl)
    exact tail_any hl.isList.typeIs slot_list_getitem.lookup (wpAny_getItem_list hl.isList q.1 (by omega) (by simpa using e) (p.scalar g s.toks rv)) (sub_plain hs _ _)
end
end Mine
end TextA6

section TextA7
open PySem PySem.W PyProof.Rows PySem.Calls PySem.Spec
namespace Mine
section
variable {c : Cx} {A : Around} {E : Value → Shared → Prop} {s : Shared} {R : RP} {n : Nat}
theorem sub_slice (a b d : Option Expr) (q : Pos) (o i : Value) : ∃ ops, subscripted (.Slice a b d q) false o i = operate ops (getItem o i) := by
  unfold subscripted
  split
  · exact ⟨_, rfl⟩
  · rename_i e _; cases e
  · exact ⟨_, rfl⟩
theorem RelL.filt {h : Heap} {xs : List AV} {vs : List Value} (r : RelL R h xs vs) : ∀ l : List Nat, RelL R h (l.filterMap fun i => xs[i]?) (l.filterMap fun i => vs[i]?)
  | [] => RelL.nil
  | i :: l => by
    rw [List.filterMap_cons, List.filterMap_cons]
    have e := r.length
    by_cases q : i < xs.length
    · obtain ⟨v, e1, rv⟩ := r.get (i := i) (a := xs[i]) (List.getElem?_eq_getElem q)
      rw [List.getElem?_eq_getElem q, e1]
      exact RelL.cons rv (RelL.filt r l)
    · rw [List.getElem?_eq_none (by omega), List.getElem?_eq_none (by omega)]
      exact RelL.filt r l
theorem RelL.pick {h : Heap} {xs : List AV} {vs : List Value} (r : RelL R h xs vs) (lo hi st : Option Int) : RelL R h (pick xs lo hi st) (slicePick vs.toArray lo hi st).toList := by
  unfold slicePick Mine.pick
  simp only [List.size_toArray, r.length, List.getElem?_toArray]
  exact r.filt _
theorem partOf_is {h : Heap} {a : AV} {o : Option Int} {v : Value} (e : partOf a = some o) (r : Rel R h a v) : IsPart v o := by
  unfold partOf at e
  split at e
  · rw [r.nn]; cases e; exact .none
  · obtain ⟨t, rfl⟩ := r.i; cases e; exact .int _ _
  · cases e
theorem rel_newL {h : Heap} {xs : List AV} {its : Array Value} (p : R.P h.objs.size) (x : RelL R h xs its.toList) (l : xs.length ≤ big) : Rel R (h.push { cls := .type "list", data := .seq its }) (.list xs) (.ref h.objs.size) := by
  have := rel_newList p x l
  simpa using this
theorem keptH_keep (h : Heap) : KeptH (fun h' => Keep h h') := fun _ _ k b o e => Heap.get?_push_of_some _ (k b o e)

theorem sli_ok {value : Expr} {lo hi st : Option Expr} {q : Pos} {a al ah as r : AV} {va vl vh vs : Value} {Q : Value → Shared → Prop} (h : evSli a al ah as = some r) (g : Good c s.heap) (fr : ∀ l, s.heap.get? l = none → R.P l)
    (ra : Rel R s.heap a va) (rl : Rel R s.heap al vl) (rh : Rel R s.heap ah vh) (rs : Rel R s.heap as vs) (p : Post c R s r Q) :
    wpAny (model c.prog c.w) A (subscriptTail value (.Slice lo hi st q) va (.ref s.heap.objs.size)) Q E { s with heap := s.heap.push { cls := .type "slice", data := .fields #[vl, vh, vs] } } := by
  have hb : big = 1048576 := rfl
  have hsl : sizeLine = 16777216 := rfl
  have k1 : Keep s.heap (s.heap.push { cls := .type "slice", data := .fields #[vl, vh, vs] }) := keep_push _ _
  have fr1 : R.P (s.heap.push { cls := .type "slice", data := .fields #[vl, vh, vs] }).objs.size := fr _ (Heap.get?_none_of_le (by rw [Heap.size_push]; exact Nat.le_succ _))
  obtain ⟨ops, ho⟩ := sub_slice lo hi st q va (.ref s.heap.objs.size)
  replace h := bindS (x := partOf al) h
  obtain ⟨a', q1, h⟩ := h
  replace h := bindS (x := partOf ah) h
  obtain ⟨b, q2, h⟩ := h
  cases a <;> first | exact noS h | skip
  · obtain ⟨u, q3, h⟩ := bindS h
    cases isNS q3
    cases h
    obtain ⟨t, rfl, z⟩ := ra.st
    obtain rfl := rs.nn
    have hp : ∀ h' t' k, Keep s.heap h' → Q (.str (Txt.slice _ a' b) t') { s with heap := h', toks := k } := fun h' t' k kk => p.keep g kk k (rel_str (Nat.le_trans (Txt.slice_le _ _ _) z))
    refine (fun (x : ItemOn (model c.prog c.w) A E _ _ Q _) => let ⟨_, _, x1, x2, x3⟩ := x; tail_any x2 x1 x3 ho) ?_
    cases partOf_is q1 rl <;> cases partOf_is q2 rh
    · exact SBH.sliceItem_nn (P := Keep s.heap) (keptH_keep _) (fun _ _ e => e) hp (by omega)
    · exact SBH.sliceItem_ns (P := Keep s.heap) (keptH_keep _) (fun _ _ e => e) hp (by omega)
    · exact SBH.sliceItem_sn (P := Keep s.heap) (keptH_keep _) (fun _ _ e => e) hp (by omega)
    · exact SBH.sliceItem_ss (P := Keep s.heap) (keptH_keep _) (fun _ _ e => e) hp (by omega)
  · obtain ⟨u, q3, h⟩ := bindS h
    cases isNS q3
    obtain ⟨q4, rfl⟩ := ifS h
    obtain ⟨t, rfl, z⟩ := ra.y
    obtain rfl := rs.nn
    refine tail_any (typeIs_bytes _ _ _) FB.slot_bytes_getitem.lookup (getItem_meets (typeIs_bytes _ _ _) (by decide) FB.slot_bytes_getitem FB.entry_bytes_getitem (FB.args_bytes_getitem_2 _ _) (KBy.meets_slice _ t _ (partOf_is q1 rl) (partOf_is q2 rh) q4)
      ⟨Heap.IsSliceOf.new _ _ _ _, Nat.le_trans (KBc.size_picked_le _ a' b) (by omega), p.keep g k1 _ (rel_byt (Nat.le_trans (KBc.size_picked_le _ a' b) z))⟩) ho
  · obtain ⟨d, q3, h⟩ := bindS h
    obtain ⟨q4, rfl⟩ := ifS h
    obtain ⟨l, ws, rfl, _, hl, hi, z⟩ := ra.plI
    refine tail_any (hl.push _).typeIs slot_list_getitem.lookup (wpAny_getItem_list_slice (hl.push _) (Heap.IsSliceOf.new ..) (partOf_is q1 rl) (partOf_is q2 rh) (partOf_is q3 rs) q4 ?_ (by rw [List.size_toArray, IntsAre.length hi]; omega)) ho
    refine p.keep g (k1.trans (keep_push _ _)) s.toks ?_
    unfold Rel
    refine ⟨_, (slicePick ws.toArray a' b d).toList, rfl, fr1, ?_, IntsAre.pick hi a' b d, Nat.le_trans (length_pickNums_le hi a' b d) z⟩
    have := (PL.new (s.heap.push { cls := .type "slice", data := .fields #[vl, vh, vs] }) (slicePick ws.toArray a' b d).toList).isList
    simpa using this
  · obtain ⟨d, q3, h⟩ := bindS h
    obtain ⟨q4, rfl⟩ := ifS h
    obtain ⟨l, ws, rfl, _, hl, hi, z⟩ := ra.plL
    have e := hi.length
    refine tail_any (hl.isList.push _).typeIs slot_list_getitem.lookup (wpAny_getItem_list_slice (hl.isList.push _) (Heap.IsSliceOf.new ..) (partOf_is q1 rl) (partOf_is q2 rh) (partOf_is q3 rs) q4 ?_ (by rw [List.size_toArray]; omega)) ho
    have hp := hi.pick a' b d
    refine p.keep g (k1.trans (keep_push _ _)) s.toks (rel_newL fr1 (hp.keepR k1) ?_)
    have h1 := hp.length
    have h2 := slicePick_size_le ws.toArray a' b d
    simp only [Array.length_toList, List.size_toArray] at h1 h2
    omega
end
end Mine
end TextA7

section TextA8
open PySem PySem.W PyProof.Rows PySem.Calls PySem.Spec
namespace Mine
open PySem.Builtin PySem.Builtin.Str
theorem forIn_run {β : Type} (f : Nat → β → Sem (ForInStep β)) (I : Nat → β) (N : Nat) (hs : ∀ x k, k < N → f x (I k) = pure (.yield (I (k + 1)))) : ∀ (l : List Nat) (k : Nat), l.length + k = N → forIn l (I k) f = (pure (I N) : Sem β)
  | [], k, e => by simp at e; subst e; rfl
  | x :: l, k, e => by
    rw [List.forIn_cons, hs x k (by simp at e; omega)]
    exact forIn_run f I N hs l (k + 1) (by simp at e; omega)
theorem ascii_run (id : String) (b : Array UInt8) (h : ∀ k, k < b.size → (b.getD k 0).toNat < 128) (hz : b.size ≤ 1000) : _codecs.runDecoder id _codecs.asciiDecoder none true b 0 [] = pure (b.map (·.toNat), b.size) := by
  unfold _codecs.runDecoder
  have hsl : sizeLine = 16777216 := rfl
  simp only [Std.Legacy.Range.forIn_eq_forIn_range', Std.Legacy.Range.size]
  refine Eq.trans (congrArg (fun (z : Sem (Nat × Array Nat × _codecs.Faults)) => z >>= fun s => (pure (s.2.1, s.1) : Sem _)) (forIn_run _ (fun k => (k, ((List.range k).map fun j => (b.getD j 0).toNat).toArray, ({ } : _codecs.Faults))) b.size (fun x k hk => ?_) _ 0 (by simp))) ?_
  · have hs : ((List.range k).map fun j => (b.getD j 0).toNat).toArray.size = k := by simp
    show (if ((List.range k).map fun j => (b.getD j 0).toNat).toArray.size > sizeLine then _ else _) = _
    rw [if_neg (by rw [hs]; omega)]
    show (if k ≥ b.size then _ else _) = _
    rw [if_neg (by omega)]
    have hf : _codecs.asciiDecoder.find true b k = .text [(b.getD k 0).toNat] (k + 1) := by
      show (if (b.getD k 0).toNat < 128 then _ else _) = _
      rw [if_pos (h k hk)]; rfl
    rw [hf]
    show pure (ForInStep.yield (k + 1, ((List.range k).map fun j => (b.getD j 0).toNat).toArray ++ [(b.getD k 0).toNat].toArray, _)) = _
    have e : ((List.range k).map fun j => (b.getD j 0).toNat).toArray ++ [(b.getD k 0).toNat].toArray = ((List.range (k + 1)).map fun j => (b.getD j 0).toNat).toArray := by
      rw [List.range_succ]; simp
    rw [e]
  · show (pure (((List.range b.size).map fun j => (b.getD j 0).toNat).toArray, b.size) : Sem (Array Nat × Nat)) = pure _
    have e : ((List.range b.size).map fun j => (b.getD j 0).toNat).toArray = b.map (·.toNat) := by
      apply Array.ext
      · simp
      · intro i h1 h2
        simp at h1 h2
        simp [Array.getD, h1]
    rw [e]
noncomputable def meetsA (b : Array UInt8) (x : Str) : Prop := ∀ id, _codecs.runDecoder id _codecs.asciiDecoder none true b 0 [] = pure (x.cps, b.size)
theorem roadA {id : String} {b : Array UInt8} : _codecs.decodeRoad id b (PySem.Str.ofString "ascii") none [] = (_codecs.runDecoder id _codecs.asciiDecoder none true b 0 [] >>= fun r => mkStr ⟨r.1⟩) := by kernel_rfl
theorem meets_textA {b : Array UInt8} {t : Tok} {x : PySem.Str} {t1 t2 : Tok} {d : PySem.Str} (hd : meetsA b x) :
    Meets («_codecs.decode.text» ⟨[.bytes b t, .str (PySem.Str.ofString "ascii") t1, .none, .str d t2], []⟩) (fun _ R s => x.length ≤ sizeLine ∧ R (.ok (.ret (.str x s.toks))) { s with toks := s.toks + 1 }) := by
  refine .of_wp fun prog w A R s hS => ?_
  obtain ⟨hsz, h⟩ := hS
  show wpAny _ _ (Bytes.bytesLike _ (.bytes b t) >>= fun r => _) _ _ s
  refine wpAny_bind (wpAny_of_eq KBd.like_eq ?_)
  refine wpAny_bind (wpAny_of_eq KBd.held_eq ?_)
  show wpAny _ _ (_codecs.decodeRoad _ b (PySem.Str.ofString "ascii") none [] >>= fun v => _) _ _ s
  rw [roadA, hd]
  refine wpAny_bind (wpAny_bind (wpAny_pure ?_))
  exact wpAny_mkStr (wpAny_pure ⟨_, rfl, h⟩) hsz
theorem entryA {c : UInt8} {cs : List UInt8} {t u : Tok} : «bytes.decode» ⟨[.bytes (c :: cs).toArray t, .str (PySem.Str.ofString "ascii") u], []⟩ = (mkStr (PySem.Str.ofString "utf-8") >>= fun _ => mkStr (PySem.Str.ofString "ascii") >>= fun e => mkStr (PySem.Str.ofString "bytes.decode") >>= fun d =>
    call (.builtin "_codecs.decode.text") [.bytes (c :: cs).toArray t, e, .none, d] >>= fun v => ret v) := by kernel_rfl
theorem meets_decodeA {c : UInt8} {cs : List UInt8} {t u : Tok} {x : PySem.Str} (hd : meetsA (c :: cs).toArray x) :
    Meets («bytes.decode» ⟨[.bytes (c :: cs).toArray t, .str (PySem.Str.ofString "ascii") u], []⟩) (fun _ R s => x.length ≤ sizeLine ∧ ∀ t' k, R (.ok (.ret (.str x t'))) { s with toks := k }) := by
  refine .of_wp fun prog w A R s hS => ?_
  obtain ⟨hsz, h⟩ := hS
  rw [entryA]
  refine wpAny_bind (wpAny_mkStr ?_ (by decide))
  refine wpAny_bind (wpAny_mkStr ?_ (by decide))
  refine wpAny_bind (wpAny_mkStr ?_ (by decide))
  exact wpAny_bind (call_function_meets KBd.kind_text KBd.plain_text KBd.entry_text (KBd.args_text _ _ _ _) (meets_textA hd) ⟨hsz, wpAny_pure ⟨_, rfl, h _ _⟩⟩)
theorem args_decode2 (a b : Value) : argsOk "bytes.decode" ⟨[a, b], []⟩ := by
  unfold argsOk; rw [signature?_of (id := "bytes.decode") (n := ['e', 'd', 'o', 'c', 'e', 'd']) (o := ['s', 'e', 't', 'y', 'b']) (by kernel_rfl) FB.owner_bytes]; kernel_rfl

section
variable {c : Cx} {A : Around} {E : Value → Shared → Prop} {s : Shared} {R : RP} {n : Nat}
noncomputable def Met.id : Met → String
  | .bitLength => "int.bit_length" | .lower => "str.lower" | .decode => "bytes.decode"
theorem decode_ok {b : Array UInt8} {t u : Tok} {x : Str} {Q : Value → Shared → Prop} (h : asciiStr b = some x) (g : Good c s.heap) (p : Post c R s (.str x) Q) :
    wpAny (model c.prog c.w) A (call (.builtin "bytes.decode") [.bytes b t, .str (PySem.Str.ofString "ascii") u]) Q E s := by
  unfold asciiStr at h
  split at h
  · rename_i q
    obtain ⟨q1, q2, q3⟩ := q
    cases h
    have hd : meetsA b ⟨b.map (·.toNat)⟩ := fun id => ascii_run id b (fun k hk => by
      have := Array.all_eq_true.1 q1 k hk
      simpa [Array.getD, hk] using this) q3
    have hl : (⟨b.map (·.toNat)⟩ : Str).length ≤ 1000 := by show (b.map (·.toNat)).size ≤ 1000; simpa using q3
    obtain ⟨l⟩ := b
    cases l with
    | nil => simp at q2
    | cons c cs => exact call_meets FB.slot_bytes_decode (typeIs_bytes _ _ _) FB.entry_bytes_decode (args_decode2 _ _) (meets_decodeA hd) ⟨by have : sizeLine = 16777216 := rfl; omega, fun t' k => p.scalar g k (rel_str (by unfold big; omega))⟩
  · cases h
theorem met_get {m : Met} {a r : AV} {l : List AV} {v : Value} {pl : Sem Bool} {Q : Value × List Value → Shared → Prop} (h : evM m a l = some r) (ra : Rel R s.heap a v) (p : Q (.builtin m.id, [v]) s) : wpAny (model c.prog c.w) A (getMethod v m.name pl) Q E s := by
  cases m with
  | bitLength =>
    obtain ⟨i, q, h⟩ := bindS h
    cases ivS q
    obtain ⟨t, rfl⟩ := ra.i; exact getMethod_int_bit_length p
  | lower =>
    obtain ⟨i, q, h⟩ := bindS h
    cases svS q
    obtain ⟨t, rfl, _⟩ := ra.st; exact GM.lower p
  | decode =>
    obtain ⟨i, q, h⟩ := bindS h
    cases yvS q
    obtain ⟨t, rfl, _⟩ := ra.y; exact KBd.method p
theorem met_call {m : Met} {a r : AV} {l : List AV} {v : Value} {vs : List Value} {Q : Value → Shared → Prop} (h : evM m a l = some r) (g : Good c s.heap) (ra : Rel R s.heap a v) (rl : RelL R s.heap l vs) (p : Post c R s r Q) :
    wpAny (model c.prog c.w) A (call (.builtin m.id) (v :: vs)) Q E s := by
  cases m with
  | bitLength =>
    obtain ⟨i, q, h⟩ := bindS h
    cases ivS q
    obtain ⟨rfl, h⟩ := nil0S h
    obtain ⟨t, rfl⟩ := ra.i; obtain rfl := rl.inv0; cases h
    exact call_int_bit_length (p.int g _ _)
  | lower =>
    obtain ⟨x, q, h⟩ := bindS h
    cases svS q
    obtain ⟨rfl, h⟩ := nil0S h
    obtain ⟨q, rfl⟩ := ifS h
    obtain ⟨t, rfl, z⟩ := ra.st; obtain rfl := rl.inv0
    have hsl : sizeLine = 16777216 := rfl
    have hf : tooLong (Txt.lower x).length = false := by unfold tooLong; simp; omega
    exact call_gives F.slot_str_lower (typeIs_str _ _ _) F.entry_str_lower (F.args_str_lower_1 _) (gives_str_lower _ t hf) ⟨fit_le hf, p.scalar g _ (rel_str (by unfold big; exact Nat.le_trans q (by decide)))⟩
  | decode =>
    obtain ⟨b, q, h⟩ := bindS h
    cases yvS q
    obtain ⟨e, rfl, h⟩ := one1S h
    obtain ⟨e', q2, h⟩ := bindS h
    cases svS q2
    obtain ⟨_, q3, h⟩ := bindS h
    obtain ⟨q3, _⟩ := ifS q3
    obtain ⟨x, hx, rfl⟩ := mapS h
    obtain ⟨t, rfl, z⟩ := ra.y
    obtain ⟨w, rfl, y⟩ := rl.inv1
    obtain ⟨u, rfl, z2⟩ := y.st
    rw [eq_of_beq q3]
    exact decode_ok hx g p
end
end Mine
end TextA8

section TextA9
open PySem PySem.W PyProof.Rows PySem.Calls PySem.Spec
namespace Mine
structure Pre (c : Cx) (R : RP) (env : Env) (nm : List Str) (s : Shared) (ρ : Sto) (μ : Option (List Int)) : Prop where
  g : Good c s.heap
  er : EnvR R env s.heap nm ρ
  bx : BoxIs R s.heap μ
  fr : ∀ l, s.heap.get? l = none → R.P l
  pd : ∀ l, R.P l → l ≠ R.D
  dl : ∃ o, s.heap.get? R.D = some o
  ff : ∀ i, i < 90 → R.F i = c.F i
  ci : ∀ x a, env.cells.lookup x = some a → ∃ v, s.heap.IsCell a v

noncomputable def CallOK (c : Cx) (n : Nat) (f : Value) (l : List AV) (r : AV) : Prop := ∀ (A : Around) (E : Value → Shared → Prop) (s : Shared) (vs : List Value) (R : RP) (Q : Value → Shared → Prop), Room A n → Good c s.heap → (∀ l, s.heap.get? l = none → R.P l) →
  RelL R s.heap l vs → Post c R s r Q → wpAny (model c.prog c.w) A (call f vs) Q E s

structure CxOk (c : Cx) (T : Nms) (G : Env0) (n : Nat) (R : RP) : Prop where
  ng : c.gh.Ns mainGlobals c.mg
  nb : c.gh.Ns builtinsNs c.mb
  hgc : ∀ (i : Nat) (a : AV) (x : Str), G.gc[i]? = some a → T.gc[i]? = some x → ∃ v, c.mg x = some v ∧ ∀ R h, Rel R h a v
  hgf : ∀ (i : Nat) (x : Str), T.gf[i]? = some x → c.mg x = some (c.F i) ∧ ∃ q o fd, c.F i = .ref q ∧ c.gh.get? q = some o ∧ o.data = .func fd
  hbl : ∀ b : Blt, c.mg b.name = none ∧ c.mb b.name = some b.val
  calls : ∀ i l r, G.Φ i l = some r → CallOK c n (R.F i) l r

section
variable {c : Cx} {A : Around} {E : Value → Shared → Prop} {s : Shared} {R : RP} {n : Nat} {env : Env} {sc : Scope} {T : Nms} {G : Env0} {ρ : Sto} {μ : Option (List Int)}
theorem BoxIs.ext' {c : Cx} {R : RP} {h h' : Heap} {μ : Option (List Int)} (n : BoxIs R h μ) (g : Good c h) (k : Ext c h h') : BoxIs R h' μ := n.ext g k
theorem dl_ext {h h' : Heap} {D : Addr} (x : ∃ o, h.get? D = some o) (g' : Good c h') (k : Ext c h h') : ∃ o, h'.get? D = some o := by
  obtain ⟨o, e⟩ := x
  by_cases q1 : D = c.z1
  · obtain ⟨ps, e⟩ := g'.t1.at; exact ⟨_, q1 ▸ e⟩
  · by_cases q2 : D = c.z2
    · obtain ⟨ps, e⟩ := g'.t2.at; exact ⟨_, q2 ▸ e⟩
    · exact ⟨o, k _ _ q1 q2 e⟩
theorem Pre.ext {nm : List Str} (p : Pre c R env nm s ρ μ) {h' : Heap} (tk : Nat) (k : Ext c s.heap h') (g' : Good c h') : Pre c R env nm { s with heap := h', toks := tk } ρ μ where
  g := g'
  er := p.er.ext p.g k
  bx := p.bx.ext p.g k
  fr := fun l e => p.fr l (k.none g' e)
  pd := p.pd
  dl := dl_ext p.dl g' k
  ff := p.ff
  ci := fun x a e => let ⟨v, hv⟩ := p.ci x a e; ⟨v, cell_ext k p.g hv⟩

noncomputable def okName (x : Str) : Bool := !(x == Str.ofString "__debug__") && !(x == Str.ofString "__classdict__")
theorem okName1 {x : Str} (h : okName x = true) : (x == Str.ofString "__debug__") = false := by unfold okName at h; simp at h; simpa using h.1
theorem okName2 {x : Str} (h : okName x = true) : (x == Str.ofString "__classdict__") = false := by unfold okName at h; simp at h; simpa using h.2

theorem name_ok {x : Str} {pos : Pos} {a : AV} {Q : Value → Shared → Prop} (ok : EnvOk env sc) (hx : okName x = true) (g : Good c s.heap) (h : NameAt R env s.heap x a) (p : Post c R s a Q) : wpAny (model c.prog c.w) A (eval (.Name x pos) env) Q E s := by
  have hk : env.scope.kind = .function := by rw [ok.hsc]; exact ok.kind
  obtain ⟨v, r, h⟩ := h
  have q := p.scalar g s.toks r
  refine wpAny_Name ?_ (okName1 hx)
  rcases h with ⟨q1, m, q2, q3⟩ | ⟨q1 | q1, cc, q2, q3⟩
  · exact wpAny_loadName_local hk q1 q2 q3 q
  · exact wpAny_loadName_cell hk q1 q2 q3 q
  · exact wpAny_loadName_free hk q1 q2 q3 q (okName2 hx)
theorem kindOf_eq (ok : EnvOk env sc) (x : Str) : env.kindOf x = sc.names.lookup x := by
  unfold Env.kindOf; rw [ok.hsc]
theorem glob_ok {x : Str} {pos : Pos} {v : Value} {Q : Value → Shared → Prop} (C : CxOk c T G n R) (ok : EnvOk env sc) (hx : okName x = true) (hs : sc.names.lookup x = some .globalImplicit) (g : Good c s.heap) (hv : c.mg x = some v) (p : Q v s) :
    wpAny (model c.prog c.w) A (eval (.Name x pos) env) Q E s := by
  refine Name_function_global (by rw [ok.hsc]; exact ok.kind) (by rw [kindOf_eq ok]; exact hs) (loadGlobal_global (mg := c.mg) ?_ hv p) (okName1 hx)
  rw [ok.gl]
  exact C.ng.keeps g.keep
theorem builtin_ok {b : Blt} {pos : Pos} {Q : Value → Shared → Prop} (C : CxOk c T G n R) (ok : EnvOk env sc) (hs : sc.names.lookup b.name = some .globalImplicit) (g : Good c s.heap) (p : Q b.val s) :
    wpAny (model c.prog c.w) A (eval (.Name b.name pos) env) Q E s := by
  refine Name_function_global (by rw [ok.hsc]; exact ok.kind) (by rw [kindOf_eq ok]; exact hs) (loadGlobal_builtin (mg := c.mg) (mb := c.mb) ?_ (C.hbl b).1 ?_ (C.hbl b).2 p) (by cases b <;> decide)
  · rw [ok.gl]; exact C.ng.keeps g.keep
  · rw [ok.bl]; exact C.nb.keeps g.keep
end

noncomputable abbrev KB (wr : List Addr) (h h' : Heap) : Prop := ∀ b o, b ∉ wr → h.get? b = some o → h'.get? b = some o
noncomputable def NotCode (o : Obj) : Prop := ∀ vs q t, o.data = .fields vs → vs[1]? ≠ some (.str q t)
structure It (c : Cx) (A : Around) (R : RP) (h₁ : Heap) (I : Addr) (fp wr : List Addr) (xs : List AV) (tgt : Expr) (St : Nat → Heap → Prop) (Mid : Nat → Value → Heap → Prop) : Prop where
  frame : ∀ i h h', St i h → (∀ b ∈ fp, ∀ o, h.get? b = some o → h'.get? b = some o) → St i h'
  item : ∀ (i : Nat) (s : Shared) (Q : Option Value → Shared → Prop) (E : Value → Shared → Prop), i < xs.length → St i s.heap → (∀ b o, R.P b → IsDat o → h₁.get? b = some o → s.heap.get? b = some o) → (∀ l, s.heap.get? l = none → R.P l) →
    (∀ v h' tk a, xs[i]? = some a → Rel R h' a v → KB wr s.heap h' → Mid i v h' → Q (some v) { s with heap := h', toks := tk }) → wpAny (model c.prog c.w) A (pyNext (.ref I)) Q E s
  go : ∀ (i : Nat) (v : Value) (s : Shared) (Q : Unit → Shared → Prop) (E : Value → Shared → Prop), Mid i v s.heap → (∀ h', St (i + 1) h' → KB wr s.heap h' → Q () { s with heap := h' }) → wpAny (model c.prog c.w) A (letOwnedTupleGo tgt (.ref I) v) Q E s
  done : ∀ (s : Shared) (Q : Option Value → Shared → Prop) (E : Value → Shared → Prop), St xs.length s.heap → (∀ h' tk, KB wr s.heap h' → Q none { s with heap := h', toks := tk }) → wpAny (model c.prog c.w) A (pyNext (.ref I)) Q E s
  self : ∀ i (s : Shared) (Q : Value → Shared → Prop) (E : Value → Shared → Prop), St i s.heap → Q (.ref I) s → wpAny (model c.prog c.w) A (pyIter (.ref I)) Q E s
  live : ∀ i h, St i h → ∀ b ∈ wr, ∃ o, h.get? b = some o ∧ NotCode o
  liveM : ∀ i v h, Mid i v h → ∀ b ∈ wr, ∃ o, h.get? b = some o ∧ NotCode o

section
variable {c : Cx} {A : Around} {E : Value → Shared → Prop} {s : Shared} {R : RP} {h₁ : Heap} {I : Addr} {fp wr : List Addr} {xs : List AV} {St : Nat → Heap → Prop}
theorem It.ofWalks {n : Nat} {P : Nat → Value → Prop} {tgt : Expr} (W : Walks c.prog c.w A I fp wr n P St) (hn : n = xs.length) (hP : ∀ i v, i < n → P i v → ∃ a, xs[i]? = some a ∧ Rel R h₁ a v) (pw : ∀ b ∈ wr, ¬ R.P b) (lv : ∀ i h, St i h → ∀ b ∈ wr, ∃ o, h.get? b = some o ∧ NotCode o)
    (hg : ∀ (i : Nat) (v : Value) (s : Shared) (Q : Unit → Shared → Prop) (E : Value → Shared → Prop), St (i + 1) s.heap → Q () s → wpAny (model c.prog c.w) A (letOwnedTupleGo tgt (.ref I) v) Q E s) :
    It c A R h₁ I fp wr xs tgt St (fun i _ h => St (i + 1) h) where
  frame := W.frame
  item := fun i s Q E hi hst k _ hQ => W.item i s Q E (by omega) hst fun v h' tk hp hst' hk => by
    obtain ⟨a, e, r⟩ := hP i v (by omega) hp
    exact hQ v h' tk a e (r.mono (fun b => ⟨b, rfl⟩) rfl (fun _ p _ => p) fun b o pb d e => hk b o (fun m => pw b m pb) (k b o pb d e)) hk hst'
  go := fun i v s Q E hm hQ => hg i v s Q E hm (hQ s.heap hm fun _ _ _ e => e)
  done := fun s Q E hst hQ => W.done s Q E (by rw [hn]; exact hst) hQ
  self := W.self
  live := lv
  liveM := fun i _ h m => lv (i + 1) h m
theorem go_name {x : Str} {p : Pos} {it v : Value} {Q : Unit → Shared → Prop} (h : Q () s) : wpAny (model c.prog c.w) A (letOwnedTupleGo (.Name x p) it v) Q E s := wpAny_of_eq (a := ()) rfl h
theorem go_list {es : List Expr} {k : Nat} {p : Pos} {l : Addr} {i : Nat} {v : Value} {Q : Unit → Shared → Prop} (hit : s.heap.IsListIter I l i) (h : Q () s) : wpAny (model c.prog c.w) A (letOwnedTupleGo (.Tuple es k p) (.ref I) v) Q E s := by
  cases v with
  | ref T => exact wpAny_letOwnedTupleGo_listiter hit h
  | _ => exact wpAny_of_eq (a := ()) rfl h
end
end Mine
end TextA9

section TextA10
open PySem PySem.W PyProof.Rows PySem.Calls PySem.Spec
namespace Mine
theorem nc_list {h : Heap} {I l : Addr} {i : Nat} (x : h.IsListIter I l i) : ∃ o, h.get? I = some o ∧ NotCode o := by
  obtain ⟨o, e, _, d⟩ := x
  exact ⟨o, e, fun vs q t e' => by rw [d] at e'; cases e'; simp⟩
theorem nc_rev {h : Heap} {I l : Addr} {i : Int} (x : h.IsRevIter I l i) : ∃ o, h.get? I = some o ∧ NotCode o := by
  obtain ⟨o, e, _, d⟩ := x
  exact ⟨o, e, fun vs q t e' => by rw [d] at e'; cases e'; simp [rawInt]⟩
theorem nc_range {h : Heap} {I : Addr} {a b d : Int} (x : IsRangeIter h I a b d) : ∃ o, h.get? I = some o ∧ NotCode o :=
  ⟨_, x, fun vs q t e' => by cases e'; simp [rawInt]⟩
theorem nc_enum {h : Heap} {I it : Addr} {i : Int} {v : Value} (x : IsEnum h I it i v) : ∃ o, h.get? I = some o ∧ NotCode o :=
  ⟨_, x, fun vs q t e' => by cases e'; simp⟩
theorem nc_enumO {h : Heap} {I it a : Addr} {i : Int} {v : Value} (x : IsEnumOut h I it i v a) : ∃ o, h.get? I = some o ∧ NotCode o :=
  ⟨_, x, fun vs q t e' => by cases e'; simp⟩
theorem fo_list {h : Heap} {I l : Addr} {i : Nat} (x : h.IsListIter I l i) : ∃ o, h.get? I = some o ∧ (∀ es n, o.data ≠ .dict es n) ∧ (∀ v, o.data ≠ .cell v) := by
  obtain ⟨o, e, _, d⟩ := x
  exact ⟨o, e, (fun _ _ q => by rw [d] at q; cases q), (fun _ q => by rw [d] at q; cases q)⟩
theorem fo_rev {h : Heap} {I l : Addr} {i : Int} (x : h.IsRevIter I l i) : ∃ o, h.get? I = some o ∧ (∀ es n, o.data ≠ .dict es n) ∧ (∀ v, o.data ≠ .cell v) := by
  obtain ⟨o, e, _, d⟩ := x
  exact ⟨o, e, (fun _ _ q => by rw [d] at q; cases q), (fun _ q => by rw [d] at q; cases q)⟩
theorem fo_is {h : Heap} {I : Addr} {its : Array Value} (x : h.IsList I its) : ∃ o, h.get? I = some o ∧ (∀ es n, o.data ≠ .dict es n) ∧ (∀ v, o.data ≠ .cell v) := by
  obtain ⟨o, e, _, _, d⟩ := x
  exact ⟨o, e, (fun _ _ q => by rw [d] at q; cases q), (fun _ q => by rw [d] at q; cases q)⟩
structure SrcOk (c : Cx) (A : Around) (R : RP) (xs : List AV) (tgt : Expr) (h : Heap) (I : Addr) (h₂ : Heap) (fp wr : List Addr) (St : Nat → Heap → Prop) (Mid : Nat → Value → Heap → Prop) : Prop where
  ext : Ext c h h₂
  g : Good c h₂
  wn : ∀ b ∈ wr, h.get? b = none
  ws : ∀ b ∈ wr, ∃ o, h₂.get? b = some o
  hfp : ∀ b ∈ fp, b ≠ c.z1 ∧ b ≠ c.z2 ∧ b ≠ R.D ∧ b < h₂.objs.size
  hfo : ∀ b ∈ fp, ∃ o, h₂.get? b = some o ∧ (∀ es n, o.data ≠ .dict es n) ∧ (∀ v, o.data ≠ .cell v)
  hfq : ∀ b ∈ fp, b ∈ wr ∨ R.P b
  hst : St 0 h₂
  it : ∀ R' : RP, (R.B → R'.B ∧ R'.D = R.D) → R'.F = R.F → (∀ l, R.P l → (∃ o, h₂.get? l = some o) → l ∉ wr → R'.P l) → (∀ l ∈ wr, ¬ R'.P l) → It c A R' h₂ I fp wr xs tgt St Mid
noncomputable def SrcP (c : Cx) (A : Around) (R : RP) (xs : List AV) (tgt : Expr) (s : Shared) (it : Value) (s₂ : Shared) : Prop :=
  ∃ I h₂ tk fp wr St Mid, it = .ref I ∧ s₂ = { s with heap := h₂, toks := tk } ∧ SrcOk c A R xs tgt s.heap I h₂ fp wr St Mid
noncomputable def Tgt (tgt : Expr) : Prop := (∃ x p, tgt = .Name x p) ∨ (∃ es k p, tgt = .Tuple es k p)
section
variable {c : Cx} {A : Around} {E : Value → Shared → Prop} {s : Shared} {R : RP} {n : Nat}
theorem lt_ne {h : Heap} {a b : Addr} {o : Obj} (e : h.get? a = some o) (f : h.get? b = none) : b ≠ a := fun q => by rw [q, e] at f; cases f
theorem Good.z1s {h : Heap} (g : Good c h) : ∃ o, h.get? c.z1 = some o := let ⟨_, e⟩ := g.t1.at; ⟨_, e⟩
theorem Good.z2s {h : Heap} (g : Good c h) : ∃ o, h.get? c.z2 = some o := let ⟨_, e⟩ := g.t2.at; ⟨_, e⟩
/-- a fresh address -/
theorem fresh_ok {h : Heap} (g : Good c h) (dl : ∃ o, h.get? R.D = some o) {b : Addr} (e : h.get? b = none) : b ≠ c.z1 ∧ b ≠ c.z2 ∧ b ≠ R.D :=
  let ⟨_, e1⟩ := g.z1s; let ⟨_, e2⟩ := g.z2s; let ⟨_, e3⟩ := dl; ⟨lt_ne e1 e, lt_ne e2 e, lt_ne e3 e⟩
theorem list_ok {h : Heap} (g : Good c h) (pd : ∀ l, R.P l → l ≠ R.D) {l : Addr} {o : Obj} (p : R.P l) (e : h.get? l = some o) (d : IsDat o) : l ≠ c.z1 ∧ l ≠ c.z2 ∧ l ≠ R.D :=
  ⟨g.ne1 e (dat_ne d), g.ne2 e (dat_ne d), pd l p⟩
theorem isList_dat {h : Heap} {l : Addr} {its : Array Value} (x : h.IsList l its) : ∃ o, h.get? l = some o ∧ IsDat o := let ⟨o, e, _, n, d⟩ := x; ⟨o, e, .inl ⟨_, _, d⟩⟩
theorem relL_at {h : Heap} {xs : List AV} {vs : List Value} (r : RelL R h xs vs) {i : Nat} {v : Value} (e : vs[i]? = some v) : ∃ a, xs[i]? = some a ∧ Rel R h a v := by
  have hl := r.length
  have hi : i < xs.length := by
    rw [← hl]; exact (List.getElem?_eq_some_iff.1 e).1
  obtain ⟨w, e1, rw'⟩ := r.get (List.getElem?_eq_getElem hi)
  rw [e] at e1; cases e1
  exact ⟨_, List.getElem?_eq_getElem hi, rw'⟩
theorem mono' {R' : RP} {h h₂ : Heap} {wr : List Addr} {xs : List AV} {vs : List Value} (r : RelL R h xs vs) (hD : R.B → R'.B ∧ R'.D = R.D) (hF : R'.F = R.F) (k : Keep h h₂) (wn : ∀ b ∈ wr, h.get? b = none)
    (hp : ∀ l, R.P l → (∃ o, h₂.get? l = some o) → l ∉ wr → R'.P l) : RelL R' h₂ xs vs :=
  r.mono hD hF (fun l p ⟨o, e, _⟩ => hp l p ⟨o, k l o e⟩ fun m => by rw [wn l m] at e; cases e) fun b o _ _ e => k b o e

theorem src_list {l : Addr} {vs : List Value} {xs : List AV} {tgt : Expr} {Q : Value → Shared → Prop} (rm : Room A (n + 1)) (g : Good c s.heap) (pd : ∀ l, R.P l → l ≠ R.D) (dl : ∃ o, s.heap.get? R.D = some o) (ht : Tgt tgt) (hp : R.P l)
    (hl : s.heap.IsList l vs.toArray) (r : RelL R s.heap xs vs) (h : ∀ it s₂, SrcP c A R xs tgt s it s₂ → Q it s₂) : wpAny (model c.prog c.w) A (pyIter (.ref l)) Q E s := by
  refine iter_list hl fun s₂ e st hfp hne => ?_
  subst e
  obtain ⟨o, ho, hd⟩ := isList_dat hl
  have hN : s.heap.get? s.heap.objs.size = none := Heap.get?_none_of_le (Nat.le_refl _)
  have k : Keep s.heap (s.heap.push { cls := .type "list_iterator", data := .fields #[.ref l, .int 0 0] }) := keep_push _ _
  refine h _ _ ⟨_, _, s.toks, [s.heap.objs.size, l], [s.heap.objs.size], (fun i h => h.IsListIter s.heap.objs.size l i ∧ h.IsList l vs.toArray), (fun i _ h => h.IsListIter s.heap.objs.size l (i + 1) ∧ h.IsList l vs.toArray), rfl, rfl, k.ext, g.keeps k, by simp [hN], ?_, ?_, (fun b hb => (by simpa using hb : b = s.heap.objs.size ∨ b = l).elim (fun q => by rw [q]; exact fo_list st.1) (fun q => by rw [q]; exact fo_is st.2)), (fun b hb => (by simpa using hb : b = s.heap.objs.size ∨ b = l).elim (fun q => .inl (by simp [q])) (fun q => .inr (by rw [q]; exact hp))), st, ?_⟩
  · intro b hb; simp at hb; subst hb; exact ⟨_, Heap.get?_push_size _ rfl⟩
  · intro b hb
    simp at hb
    rcases hb with rfl | rfl
    · have := fresh_ok g dl hN; exact ⟨this.1, this.2.1, this.2.2, hfp _ (by simp)⟩
    · have := list_ok g pd hp ho hd; exact ⟨this.1, this.2.1, this.2.2, hfp _ (by simp)⟩
  · intro R' hD hF h1 h2
    have r' := mono' r hD hF k (wr := [s.heap.objs.size]) (by simp [hN]) h1
    refine It.ofWalks (Walks.list rm.hd s.heap.objs.size l hne vs.toArray) (by rw [List.size_toArray, r.length]) (fun i v _ e => relL_at r' (by simpa using e)) h2 (fun i h st b hb => by simp at hb; subst hb; exact nc_list st.1) ?_
    intro i v s Q E hst hq
    rcases ht with ⟨x, p, rfl⟩ | ⟨es, k, p, rfl⟩
    · exact go_name hq
    · exact go_list hst.1 hq

theorem src_rev {l : Addr} {vs : List Value} {xs : List AV} {x : Str} {p : Pos} {Q : Value → Shared → Prop} (rm : Room A (n + 1)) (g : Good c s.heap) (pd : ∀ l, R.P l → l ≠ R.D) (dl : ∃ o, s.heap.get? R.D = some o) (hp : R.P l)
    (hl : s.heap.IsList l vs.toArray) (r : RelL R s.heap xs vs) (h : ∀ it s₂, SrcP c A R xs.reverse (.Name x p) s it s₂ → Q it s₂) : wpAny (model c.prog c.w) A (call (.type "reversed") [.ref l]) (fun it s₁ => wpAny (model c.prog c.w) A (pyIter it) Q E s₁) E s := by
  refine call_reversed_list hl ?_
  obtain ⟨o, ho, hd⟩ := isList_dat hl
  have hN : s.heap.get? s.heap.objs.size = none := Heap.get?_none_of_le (Nat.le_refl _)
  have hne : l ≠ s.heap.objs.size := (lt_ne ho hN).symm
  have k : Keep s.heap (s.heap.push (revObj l (↑vs.toArray.size - 1))) := keep_push _ _
  have hit : (s.heap.push (revObj l (↑vs.toArray.size - 1))).IsRevIter s.heap.objs.size l ((vs.toArray.size : Int) - 1) := ⟨_, Heap.get?_push_size _ rfl, rfl, rfl⟩
  refine wpAny_pyIter_revIter hit ?_
  refine h _ _ ⟨_, _, s.toks, [s.heap.objs.size, l], [s.heap.objs.size], (fun i h => i ≤ vs.toArray.size ∧ h.IsRevIter s.heap.objs.size l ((vs.toArray.size : Int) - 1 - (i : Int)) ∧ h.IsList l vs.toArray),
    (fun i _ h => (i + 1) ≤ vs.toArray.size ∧ h.IsRevIter s.heap.objs.size l ((vs.toArray.size : Int) - 1 - ((i + 1 : Nat) : Int)) ∧ h.IsList l vs.toArray), rfl, rfl, k.ext, g.keeps k, by simp [hN], ?_, ?_, (fun b hb => (by simpa using hb : b = s.heap.objs.size ∨ b = l).elim (fun q => by rw [q]; exact fo_rev hit) (fun q => by rw [q]; exact fo_is (hl.push _))), (fun b hb => (by simpa using hb : b = s.heap.objs.size ∨ b = l).elim (fun q => .inl (by simp [q])) (fun q => .inr (by rw [q]; exact hp))), ?_, ?_⟩
  · intro b hb; simp at hb; subst hb; exact ⟨_, Heap.get?_push_size _ rfl⟩
  · intro b hb
    simp at hb
    rcases hb with rfl | rfl
    · have := fresh_ok g dl hN; exact ⟨this.1, this.2.1, this.2.2, Heap.lt_size (Heap.get?_push_size _ rfl)⟩
    · have := list_ok g pd hp ho hd; exact ⟨this.1, this.2.1, this.2.2, Heap.lt_size (k _ _ ho)⟩
  · exact ⟨Nat.zero_le _, by simpa using hit, hl.push _⟩
  · intro R' hD hF h1 h2
    have r' := mono' r hD hF k (wr := [s.heap.objs.size]) (by simp [hN]) h1
    refine It.ofWalks (Walks.listRev rm.hd s.heap.objs.size l hne vs.toArray) (by rw [List.size_toArray, r.length, List.length_reverse]) (fun i v hi e => ?_) h2 (fun i h st b hb => by simp at hb; subst hb; exact nc_rev st.2.1) (fun i v s Q E _ hq => go_name hq)
    have e' : vs[vs.length - 1 - i]? = some v := by simpa using e
    obtain ⟨a, e1, e2⟩ := relL_at r' e'
    have hi' : i < xs.length := by rw [← r.length]; simpa using hi
    refine ⟨a, ?_, e2⟩
    rw [List.getElem?_reverse hi', ← r.length]
    exact e1

theorem rangeL_get (d : Int) : ∀ (n : Nat) (a : Int) (i : Nat), i < n → (rangeL a d n)[i]? = some (.int (a + i * d))
  | 0, _, _, h => absurd h (by omega)
  | n + 1, a, 0, _ => by simp [rangeL]
  | n + 1, a, i + 1, h => by
    rw [rangeL, List.getElem?_cons_succ, rangeL_get d n (a + d) i (by omega)]
    congr 2; rw [Int.natCast_add, Int.add_mul]; simp; omega
theorem rangeSize_len (a b d : Int) : Builtin.Range.rangeSize a b d = (rangeLen a b d : Int) := by
  unfold rangeLen
  have : 0 ≤ Builtin.Range.rangeSize a b d := by
    unfold Builtin.Range.rangeSize
    split
    · split
      · have := Int.ediv_nonneg (a := b - a - 1) (b := d) (by omega) (by omega); omega
      · exact Int.le_refl _
    · split
      · have := Int.ediv_nonneg (a := a - b - 1) (b := -d) (by omega) (by omega); omega
      · exact Int.le_refl _
  omega

theorem src_range {l : Addr} {a b d : Int} {t u w : Tok} {x : Str} {p : Pos} {Q : Value → Shared → Prop} (rm : Room A (n + 1)) (g : Good c s.heap) (dl : ∃ o, s.heap.get? R.D = some o)
    (hl : IsRange s.heap l a b d t u w) (hs : Builtin.Range.small a b d = true) (h : ∀ it s₂, SrcP c A R (rangeL a d (rangeLen a b d)) (.Name x p) s it s₂ → Q it s₂) : wpAny (model c.prog c.w) A (pyIter (.ref l)) Q E s := by
  refine wpAny_pyIter_range hl hs ?_
  have hN : s.heap.get? s.heap.objs.size = none := Heap.get?_none_of_le (Nat.le_refl _)
  have k : Keep s.heap (s.heap.push { cls := .type "range_iterator", data := .fields #[rawInt a, rawInt (Builtin.Range.rangeSize a b d), rawInt d] }) := keep_push _ _
  have W := Walks.range (prog := c.prog) (w := c.w) rm.hd s.heap.objs.size a d (rangeLen a b d)
  refine h _ _ ⟨_, _, s.toks, [s.heap.objs.size], [s.heap.objs.size], (fun i h => IsRangeIter h s.heap.objs.size (a + (i : Nat) * d) ((rangeLen a b d : Int) - (i : Nat)) d),
    (fun i _ h => IsRangeIter h s.heap.objs.size (a + ((i + 1 : Nat) : Int) * d) ((rangeLen a b d : Int) - ((i + 1 : Nat) : Int)) d), rfl, rfl, k.ext, g.keeps k, by simp [hN], ?_, ?_, (fun b hb => by rw [show b = s.heap.objs.size from by simpa using hb]; exact ⟨_, Heap.get?_push_size _ rfl, (fun _ _ e => by cases e), (fun _ e => by cases e)⟩), (fun b hb => .inl hb), ?_, ?_⟩
  · intro b hb; simp at hb; subst hb; exact ⟨_, Heap.get?_push_size _ rfl⟩
  · intro b hb
    simp at hb
    subst hb
    have := fresh_ok g dl hN; exact ⟨this.1, this.2.1, this.2.2, Heap.lt_size (Heap.get?_push_size _ rfl)⟩
  · have : IsRangeIter (s.heap.push { cls := .type "range_iterator", data := .fields #[rawInt a, rawInt (Builtin.Range.rangeSize a b d), rawInt d] }) s.heap.objs.size a (rangeLen a b d) d := by
      rw [rangeSize_len]; exact Heap.get?_push_size _ rfl
    simpa using this
  · intro R' hD hF h1 h2
    refine It.ofWalks W (by rw [rangeL_length]) (fun i v hi e => ?_) h2 (fun i h st b hb => by simp at hb; subst hb; exact nc_range st) (fun i v s Q E _ hq => go_name hq)
    obtain ⟨t, rfl⟩ := e
    exact ⟨_, rangeL_get d _ a i hi, rel_int⟩

theorem enumL_get : ∀ (xs : List AV) (k i : Nat), (enumL k xs)[i]? = (xs[i]?).map fun a => .tup [.int ((k + i : Nat) : Int), a]
  | [], _, _ => by simp [enumL]
  | x :: xs, k, 0 => by simp [enumL]
  | x :: xs, k, i + 1 => by
    rw [enumL, List.getElem?_cons_succ, enumL_get xs (k + 1) i, List.getElem?_cons_succ]
    rw [show k + 1 + i = k + (i + 1) from by omega]
theorem enumL_length : ∀ (xs : List AV) (k : Nat), (enumL k xs).length = xs.length
  | [], _ => rfl
  | x :: xs, k => by rw [enumL, List.length_cons, enumL_length xs, List.length_cons]

theorem It.ofWalksT {h₁ : Heap} {I : Addr} {fp wr : List Addr} {xs : List AV} {St : Nat → Heap → Prop} {Pt : Nat → Array Value → Prop} {Md : Nat → Addr → Heap → Prop} {es : List Expr} {kk : Nat} {p : Pos} {n : Nat} (W : WalksT c.prog c.w A I fp wr n Pt St Md) (hn : n = xs.length)
    (hP : ∀ i vals, i < n → Pt i vals → ∃ ys, xs[i]? = some (.tup ys) ∧ RelL R h₁ ys vals.toList ∧ ys.length ≤ big) (pw : ∀ b ∈ wr, ¬ R.P b) (lv : ∀ i h, St i h → ∀ b ∈ wr, ∃ o, h.get? b = some o ∧ NotCode o) (lm : ∀ i T h, Md i T h → ∀ b ∈ wr, ∃ o, h.get? b = some o ∧ NotCode o) : It c A R h₁ I fp wr xs (.Tuple es kk p) St (fun i v h => ∃ T, v = .ref T ∧ Md i T h) where
  frame := W.frame
  item := fun i s Q E hi hst k fr hQ => W.item i s Q E (by omega) hst fun T vals h' tk hp hT hl hm hk => by
    obtain ⟨ys, e, r, z⟩ := hP i vals (by omega) hp
    refine hQ (.ref T) h' tk _ e ?_ hk ⟨T, rfl, hm⟩
    unfold Rel
    exact ⟨T, vals.toList, rfl, fr T (Heap.get?_none_of_le hT), hl, r.mono (fun b => ⟨b, rfl⟩) rfl (fun _ p _ => p) (fun b o pb d e => hk b o (fun m => pw b m pb) (k b o pb d e)), z⟩
  go := fun i v s Q E hm hQ => by
    obtain ⟨T, rfl, hm⟩ := hm
    exact W.go es kk p i T s Q E hm hQ
  done := fun s Q E hst hQ => W.done s Q E (by rw [hn]; exact hst) hQ
  self := W.self
  live := lv
  liveM := fun i _ h ⟨T, _, m⟩ => lm i T h m

theorem src_enum {l : Addr} {vs : List Value} {xs : List AV} {es : List Expr} {kk : Nat} {p : Pos} {Q : Value → Shared → Prop} (rm : Room A (n + 1)) (g : Good c s.heap) (pd : ∀ l, R.P l → l ≠ R.D) (dl : ∃ o, s.heap.get? R.D = some o) (hp : R.P l)
    (hl : s.heap.IsList l vs.toArray) (r : RelL R s.heap xs vs) (h : ∀ it s₂, SrcP c A R (enumL 0 xs) (.Tuple es kk p) s it s₂ → Q it s₂) : wpAny (model c.prog c.w) A (call (.type "enumerate") [.ref l]) (fun it s₁ => wpAny (model c.prog c.w) A (pyIter it) Q E s₁) E s := by
  refine call_enumerate_list hl fun h' he hi hsz k => ?_
  refine wpAny_pyIter_enum he ?_
  obtain ⟨o, ho, hd⟩ := isList_dat hl
  have hN : s.heap.get? s.heap.objs.size = none := Heap.get?_none_of_le (Nat.le_refl _)
  have hN1 : s.heap.get? (s.heap.objs.size + 1) = none := Heap.get?_none_of_le (Nat.le_succ _)
  have hne : l ≠ s.heap.objs.size := (lt_ne ho hN).symm
  have hne1 : l ≠ s.heap.objs.size + 1 := (lt_ne ho hN1).symm
  have W := WalksT.enumerateD (Draws.list (prog := c.prog) (w := c.w) (A := A.in1) rm.hd s.heap.objs.size l hne vs.toArray) (s.heap.objs.size + 1) (Nat.succ_ne_self _) (by simp; exact fun e => hne1 e.symm) (by simp)
  refine h _ _ ⟨_, h', s.toks, _, _, _, _, rfl, rfl, Keep.ext k, g.keeps k, ?_, ?_, ?_, (fun b hb => (by simpa using hb : b = s.heap.objs.size + 1 ∨ b = s.heap.objs.size ∨ b = l).elim (fun q => by rw [q]; exact ⟨_, he, (fun _ _ e => by cases e), (fun _ e => by cases e)⟩) (fun q => q.elim (fun q => by rw [q]; exact fo_list hi) (fun q => by rw [q]; exact fo_is (isList_at hl fun _ _ e => k _ _ e)))), (fun b hb => (by simpa using hb : b = s.heap.objs.size + 1 ∨ b = s.heap.objs.size ∨ b = l).elim (fun q => .inl (by simp [q])) (fun q => q.elim (fun q => .inl (by simp [q])) (fun q => .inr (by rw [q]; exact hp)))), ⟨⟨_, he⟩, hi, isList_at hl fun _ _ e => k _ _ e⟩, fun R' hD hF h1 h2 => It.ofWalksT W (by rw [List.size_toArray, enumL_length, r.length]) (fun i vals hlt hP => ?_) h2 (fun i h st b hb => (by simpa using hb : b = s.heap.objs.size + 1 ∨ b = s.heap.objs.size).elim (fun q => q ▸ (let ⟨_, e⟩ := st.1; nc_enum e)) (fun q => q ▸ nc_list st.2.1)) (fun i T h st b hb => (by simpa using hb : b = s.heap.objs.size + 1 ∨ b = s.heap.objs.size).elim (fun q => q ▸ (let ⟨_, e⟩ := st.1; nc_enumO e)) (fun q => q ▸ nc_list st.2.1.1))⟩
  · intro b hb; simp at hb; rcases hb with rfl | rfl
    · exact hN1
    · exact hN
  · intro b hb; simp at hb; rcases hb with rfl | rfl
    · exact ⟨_, he⟩
    · obtain ⟨o, e, _⟩ := hi; exact ⟨o, e⟩
  · intro b hb
    simp at hb
    rcases hb with rfl | rfl | rfl
    · have := fresh_ok g dl hN1; exact ⟨this.1, this.2.1, this.2.2, Heap.lt_size he⟩
    · have := fresh_ok g dl hN; obtain ⟨_, e, _⟩ := hi; exact ⟨this.1, this.2.1, this.2.2, Heap.lt_size e⟩
    · have := list_ok g pd hp ho hd; exact ⟨this.1, this.2.1, this.2.2, Heap.lt_size (k _ _ ho)⟩
  · obtain ⟨t, x, e, rfl⟩ := hP
    have r' := mono' r hD hF k (wr := [s.heap.objs.size + 1, s.heap.objs.size]) (by simp [hN, hN1]) h1
    obtain ⟨a, e1, e2⟩ := relL_at r' (i := i) (by simpa using e)
    refine ⟨_, by rw [enumL_get, e1]; rfl, ?_, ?_⟩
    · exact RelL.cons (by rw [Nat.zero_add]; exact rel_int) (RelL.cons e2 RelL.nil)
    · simp; decide
end
end Mine
end TextA10

section TextA11
open PySem PySem.W PyProof.Rows PySem.Calls PySem.Spec
namespace Mine
noncomputable abbrev KBP (W : Addr → Prop) (h h' : Heap) : Prop := ∀ b o, ¬ W b → h.get? b = some o → h'.get? b = some o
section
variable {c : Cx} {A : Around} {E : Value → Shared → Prop} {s : Shared} {R : RP} {n : Nat}
theorem TabSt.but {h h' : Heap} {z cc : Addr} {p : Pos} {q : Str} {W : Addr → Prop} (x : TabSt h z cc p q) (x' : CodeHd h' cc z) (hz : ¬ W z) (hn : ∀ b o, W b → h.get? b = some o → NotCode o) (k : KBP W h h') : TabSt h' z cc p q :=
  ⟨x', x.2.elim (fun e => .inl (k _ _ hz e)) fun ⟨c', e, r⟩ => .inr ⟨c', k _ _ hz e, by
    obtain ⟨d, o, vs, t, e1, e2, e3, e4⟩ := r
    exact ⟨d, o, vs, t, e1, k _ _ (fun w => hn _ _ w e2 vs q t e3 e4) e2, e3, e4⟩⟩⟩
theorem codeHd_at {h h' : Heap} {c P : Addr} (x : CodeHd h c P) (k : ∀ o, h.get? c = some o → h'.get? c = some o) : CodeHd h' c P := by
  obtain ⟨o, vs, file, tf, flags, tg, inF, text, tt, e, r⟩ := x
  exact ⟨o, vs, file, tf, flags, tg, inF, text, tt, k _ e, r⟩
theorem Good.but {h h' : Heap} {W : Addr → Prop} (g : Good c h) (hw : ∀ b, W b → c.gh.get? b = none ∧ b ≠ c.z1 ∧ b ≠ c.z2) (hn : ∀ b o, W b → h.get? b = some o → NotCode o) (h1 : ¬ W c.c1) (h2 : ¬ W c.c2) (k : KBP W h h') : Good c h' where
  keep := fun b o e => k b o (fun w => by rw [(hw b w).1] at e; cases e) (g.keep b o e)
  t1 := g.t1.but (codeHd_at g.t1.1 fun o e => k _ _ h1 e) (fun w => (hw _ w).2.1 rfl) hn k
  t2 := g.t2.but (codeHd_at g.t2.1 fun o e => k _ _ h2 e) (fun w => (hw _ w).2.2 rfl) hn k
theorem nc_seq {o : Obj} {xs : Array Value} {n : Nat} (h : o.data = .seq xs n) : NotCode o := fun vs q t e => by rw [h] at e; cases e
theorem nc_dict {o : Obj} {es : Array DictEntry} {n : Nat} (h : o.data = .dict es n) : NotCode o := fun vs q t e => by rw [h] at e; cases e
theorem nc_cell {o : Obj} {v : Option Value} (h : o.data = .cell v) : NotCode o := fun vs q t e => by rw [h] at e; cases e
/-- addresses that the machine's own records do not use -/
structure Own (c : Cx) (b : Addr) : Prop where
  gh : c.gh.get? b = none
  n1 : b ≠ c.z1
  n2 : b ≠ c.z2
  m1 : b ≠ c.c1
  m2 : b ≠ c.c2
theorem Own.fresh {h : Heap} (g : Good c h) {b : Addr} (e : h.get? b = none) : Own c b := by
  obtain ⟨_, e1⟩ := g.z1s
  obtain ⟨_, e2⟩ := g.z2s
  obtain ⟨_, _, _, _, _, _, _, _, _, e3, _⟩ := g.t1.1
  obtain ⟨_, _, _, _, _, _, _, _, _, e4, _⟩ := g.t2.1
  refine ⟨?_, lt_ne e1 e, lt_ne e2 e, lt_ne e3 e, lt_ne e4 e⟩
  cases q : c.gh.get? b with
  | none => rfl
  | some o => rw [g.keep b o q] at e; cases e
theorem Good.own {h h' : Heap} {W : Addr → Prop} (g : Good c h) (hw : ∀ b, W b → Own c b) (hn : ∀ b o, W b → h.get? b = some o → NotCode o) (k : KBP W h h') : Good c h' :=
  g.but (fun b w => ⟨(hw b w).gh, (hw b w).n1, (hw b w).n2⟩) hn (fun w => (hw _ w).m1 rfl) (fun w => (hw _ w).m2 rfl) k

noncomputable def slotOf (env : Env) (sc : Scope) (x : Str) : Addr := if sc.names.lookup x = some .local then env.locals else (env.cells.lookup x).getD 0
noncomputable def SlotAt (env : Env) (sc : Scope) (h : Heap) (x : Str) : Prop := (sc.names.lookup x = some .local ∧ ∃ m, h.Ns env.locals m) ∨ (sc.names.lookup x = some .cell ∧ ∃ cc v, env.cells.lookup x = some cc ∧ h.IsCell cc v)
theorem SlotAt.nc {env : Env} {sc : Scope} {h : Heap} {x : Str} (S : SlotAt env sc h x) : ∀ b o, b = slotOf env sc x → h.get? b = some o → NotCode o ∧ ¬ IsDat o := by
  intro b o e e2
  subst e
  unfold slotOf at e2
  rcases S with ⟨q, m, o', es, ep, e1, d, _⟩ | ⟨q, cc, v, q2, o', e1, d⟩
  · rw [if_pos q, e1] at e2; cases e2
    exact ⟨nc_dict d, fun | .inl ⟨_, _, x⟩ => by rw [d] at x; cases x | .inr (.inl ⟨_, _, x⟩) => by rw [d] at x; cases x | .inr (.inr ⟨_, x⟩) => by rw [d] at x; cases x⟩
  · rw [if_neg (by rw [q]; decide), q2] at e2
    simp only [Option.getD_some] at e2
    rw [e1] at e2; cases e2
    exact ⟨nc_cell d, fun | .inl ⟨_, _, x⟩ => by rw [d] at x; cases x | .inr (.inl ⟨_, _, x⟩) => by rw [d] at x; cases x | .inr (.inr ⟨_, x⟩) => by rw [d] at x; cases x⟩
theorem SlotAt.live {env : Env} {sc : Scope} {h : Heap} {x : Str} (S : SlotAt env sc h x) : ∃ o, h.get? (slotOf env sc x) = some o := by
  unfold slotOf
  rcases S with ⟨q, m, o', es, ep, e1, d, _⟩ | ⟨q, cc, v, q2, o', e1, d⟩
  · rw [if_pos q]; exact ⟨_, e1⟩
  · rw [if_neg (by rw [q]; decide), q2]; exact ⟨_, e1⟩

noncomputable def EnvInj (env : Env) : Prop := ∀ x y a, env.cells.lookup x = some a → env.cells.lookup y = some a → x = y

theorem store_ok {env : Env} {sc : Scope} {nm : List Str} {ρ : Sto} {x : Str} {i : Nat} {a : AV} {v : Value} {Q : Unit → Shared → Prop} (ok : EnvOk env sc) (inj : EnvInj env) (g : Good c s.heap) (S : SlotAt env sc s.heap x) (ow : Own c (slotOf env sc x))
    (er : EnvR R env s.heap nm ρ) (rv : Rel R s.heap a v) (hi : nm[i]? = some x) (nd : ∀ j : Nat, nm[j]? = some x → j = i)
    (h : ∀ h' tk, KBP (· = slotOf env sc x) s.heap h' → Good c h' → EnvR R env h' nm (ρ.set i (some a)) → SlotAt env sc h' x → (∃ o, h'.get? (slotOf env sc x) = some o) → Q () { s with heap := h', toks := tk }) : wpAny (model c.prog c.w) A (storeName env x v) Q E s := by
  have hk : env.scope.kind = .function := by rw [ok.hsc]; exact ok.kind
  have hnc := S.nc
  have relk : ∀ {h' : Heap}, KBP (· = slotOf env sc x) s.heap h' → ∀ {a : AV} {v : Value}, Rel R s.heap a v → Rel R h' a v := fun k a v r =>
    r.mono (fun b => ⟨b, rfl⟩) rfl (fun _ p _ => p) fun b o _ d e => k b o (fun w => (hnc b o w e).2 d) e
  have fin : ∀ h' tk, KBP (· = slotOf env sc x) s.heap h' → NameAt R env h' x a → (∀ y, y ≠ x → ∀ b, NameAt R env s.heap y b → NameAt R env h' y b) → SlotAt env sc h' x → Q () { s with heap := h', toks := tk } := fun h' tk k na oth S' => by
    refine h h' tk k (g.own (fun b (w : b = _) => by rw [w]; exact ow) (fun b o w e => (hnc b o w e).1) k) ?_ S' S'.live
    intro j b y e1 e2
    by_cases q : j = i
    · subst q
      rw [hi] at e2; cases e2
      rw [List.getElem?_set] at e1
      simp only [if_true] at e1
      split at e1
      · cases e1; exact na
      · cases e1
    · rw [List.getElem?_set_ne (Ne.symm q)] at e1
      exact oth y (fun e => q (nd j (e ▸ e2))) b (er j b y e1 e2)
  rcases S with ⟨q, m, hm⟩ | ⟨q, cc, w, q2, hc⟩
  · have sl : slotOf env sc x = env.locals := by unfold slotOf; rw [if_pos q]
    refine wpAny_storeName_local (by rw [kindOf_eq ok]; exact q) hm (fun h' hn' hs' => ?_) (by rw [hk]; rfl)
    have k : KBP (· = slotOf env sc x) s.heap h' := fun b o nb e => hs'.extBut b o (fun e' => nb (by rw [sl]; exact e')) e
    refine fin h' _ k ⟨v, relk k rv, .inl ⟨by rw [kindOf_eq ok]; exact q, _, hn', by simp⟩⟩ (fun y hy b ⟨u, ru, nu⟩ => ⟨u, relk k ru, ?_⟩) (.inl ⟨q, _, hn'⟩)
    rcases nu with ⟨q1, m1, n1, n2⟩ | ⟨q1, c1, n1, n2⟩
    · refine .inl ⟨q1, _, hn', ?_⟩
      rw [if_neg hy]
      have : m1 = m := by
        obtain ⟨o1, es1, ep1, e1, d1, _, f1⟩ := n1
        obtain ⟨o2, es2, ep2, e2, d2, _, f2⟩ := hm
        rw [e1] at e2; cases e2; rw [d1] at d2; cases d2
        funext z; rw [← f1, ← f2]
      rw [← this]; exact n2
    · refine .inr ⟨q1, c1, n1, n2.sameBut hs' fun e => ?_⟩
      obtain ⟨o1, e1, d1⟩ := n2
      obtain ⟨o2, es2, ep2, e2, d2, _⟩ := hm
      rw [e, e2] at e1; cases e1; rw [d1] at d2; cases d2
  · have sl : slotOf env sc x = cc := by unfold slotOf; rw [if_neg (by rw [q]; decide), q2]; rfl
    refine wpAny_storeName_cell hk (by rw [kindOf_eq ok]; exact q) q2 hc fun h' hc' hs' => ?_
    have k : KBP (· = slotOf env sc x) s.heap h' := fun b o nb e => hs'.extBut b o (fun e' => nb (by rw [sl]; exact e')) e
    refine fin h' s.toks k ⟨v, relk k rv, .inr ⟨.inl (by rw [kindOf_eq ok]; exact q), cc, q2, hc'⟩⟩ (fun y hy b ⟨u, ru, nu⟩ => ⟨u, relk k ru, ?_⟩) (.inr ⟨q, cc, _, q2, hc'⟩)
    rcases nu with ⟨q1, m1, n1, n2⟩ | ⟨q1, c1, n1, n2⟩
    · refine .inl ⟨q1, m1, n1.sameBut hs' fun e => ?_, n2⟩
      obtain ⟨o1, e1, d1⟩ := hc
      obtain ⟨o2, es2, ep2, e2, d2, _⟩ := n1
      rw [e, e1] at e2; cases e2; rw [d1] at d2; cases d2
    · exact .inr ⟨q1, c1, n1, n2.sameBut hs' fun e => hy (inj y x cc (e ▸ n1) q2)⟩
end
end Mine
end TextA11

section TextA12
open PySem PySem.W PyProof.Rows PySem.Calls PySem.Spec
namespace Mine
noncomputable def Tg.ix : Tg → List Nat
  | .one i _ => [i]
  | .two i j _ _ _ _ => [i, j]
/-- each name of the list has its own number -/
noncomputable def nodupB : List Str → Bool
  | [] => true
  | x :: r => !(r.contains x) && nodupB r
theorem nodupB_get : ∀ {nm : List Str}, nodupB nm = true → ∀ {i j : Nat} {x : Str}, nm[i]? = some x → nm[j]? = some x → j = i
  | [], _, _, _, _, e, _ => by simp at e
  | y :: r, h, i, j, x, e1, e2 => by
    unfold nodupB at h
    simp only [Bool.and_eq_true, Bool.not_eq_true', List.contains_eq_mem, decide_eq_false_iff_not] at h
    cases i with
    | zero => cases j with
      | zero => rfl
      | succ j => simp at e1 e2; subst e1; exact absurd (List.mem_of_getElem? e2) h.1
    | succ i => cases j with
      | zero => simp at e1 e2; subst e2; exact absurd (List.mem_of_getElem? e1) h.1
      | succ j => simp at e1 e2; rw [nodupB_get h.2 e1 e2]
section
variable {c : Cx} {A : Around} {E : Value → Shared → Prop} {s : Shared} {R : RP} {n : Nat} {env : Env} {sc : Scope} {T : Nms}
theorem nmOf_get {l : List Str} {i : Nat} (h : i < l.length) : l[i]? = some (nmOf l i) := by
  unfold nmOf; rw [List.getElem?_eq_getElem h]; rfl
structure Slots (c : Cx) (T : Nms) (env : Env) (sc : Scope) (ix : List Nat) (h : Heap) : Prop where
  at_ : ∀ i ∈ ix, SlotAt env sc h (nmOf T.nm i)
  own : ∀ i ∈ ix, Own c (slotOf env sc (nmOf T.nm i))
theorem SlotAt.keep {h h' : Heap} {x : Str} (S : SlotAt env sc h x) (k : ∀ b o, h.get? b = some o → (∀ es n, o.data = .dict es n → b = slotOf env sc x → h'.get? b = some o) → h'.get? b = some o) : True := trivial
/-- the slots live on when the tables grow -/
theorem SlotAt.ext {h h' : Heap} {x : Str} (S : SlotAt env sc h x) (g : Good c h) (k : Ext c h h') : SlotAt env sc h' x := by
  rcases S with ⟨q, m, hm⟩ | ⟨q, cc, v, q2, hc⟩
  · exact .inl ⟨q, m, ns_ext k g hm⟩
  · exact .inr ⟨q, cc, v, q2, cell_ext k g hc⟩
theorem Slots.ext {ix : List Nat} {h h' : Heap} (S : Slots c T env sc ix h) (g : Good c h) (k : Ext c h h') : Slots c T env sc ix h' := ⟨fun i hi => (S.at_ i hi).ext g k, S.own⟩
theorem SlotAt.keeps {h h' : Heap} {x : Str} (S : SlotAt env sc h x) (k : Keep h h') : SlotAt env sc h' x := by
  rcases S with ⟨q, m, hm⟩ | ⟨q, cc, v, q2, hc⟩
  · exact .inl ⟨q, m, hm.keeps k⟩
  · exact .inr ⟨q, cc, v, q2, hc.keeps k⟩
/-- a slot lives on when another slot is written -/
theorem SlotAt.other {h h' : Heap} {x y : Str} (inj : EnvInj env) (S : SlotAt env sc h x) (Sy : SlotAt env sc h y) (Sy' : SlotAt env sc h' y) (k : KBP (· = slotOf env sc y) h h') : SlotAt env sc h' x := by
  by_cases e : slotOf env sc x = slotOf env sc y
  · rcases S with ⟨q, m, hm⟩ | ⟨q, cc, v, q2, hc⟩
    · rcases Sy' with ⟨p, m', hm'⟩ | ⟨p, cc', v', p2, hc'⟩
      · exact .inl ⟨q, m', hm'⟩
      · rcases Sy with ⟨p', m', hm'⟩ | ⟨p', cd, v', p2', hc'⟩
        · rw [p] at p'; cases p'
        · have e1 : slotOf env sc x = env.locals := by unfold slotOf; rw [if_pos q]
          have e2 : slotOf env sc y = cd := by unfold slotOf; rw [if_neg (by rw [p]; decide), p2']; rfl
          obtain ⟨o1, es, ep, f1, d1, _⟩ := hm
          obtain ⟨o2, f2, d2⟩ := hc'
          rw [← e2, ← e, e1, f1] at f2; cases f2; rw [d1] at d2; cases d2
    · rcases Sy with ⟨p', m', hm'⟩ | ⟨p', cd, v', p2', hc'⟩
      · have e1 : slotOf env sc y = env.locals := by unfold slotOf; rw [if_pos p']
        have e2 : slotOf env sc x = cc := by unfold slotOf; rw [if_neg (by rw [q]; decide), q2]; rfl
        obtain ⟨o1, es, ep, f1, d1, _⟩ := hm'
        obtain ⟨o2, f2, d2⟩ := hc
        rw [← e2, e, e1, f1] at f2; cases f2; rw [d1] at d2; cases d2
      · have e1 : slotOf env sc y = cd := by unfold slotOf; rw [if_neg (by rw [p']; decide), p2']; rfl
        have e2 : slotOf env sc x = cc := by unfold slotOf; rw [if_neg (by rw [q]; decide), q2]; rfl
        have exy : x = y := inj x y cc q2 (by rw [p2', ← e1, ← e, e2])
        rw [exy]; exact Sy'
  · rcases S with ⟨q, m, o, es, ep, f1, r⟩ | ⟨q, cc, v, q2, o, f1, d⟩
    · refine .inl ⟨q, m, o, es, ep, k _ _ (fun w => e ?_) f1, r⟩
      unfold slotOf; rw [if_pos q]; exact w
    · refine .inr ⟨q, cc, v, q2, o, k _ _ (fun w => e ?_) f1, d⟩
      show slotOf env sc x = _
      unfold slotOf at w ⊢; rw [if_neg (by rw [q]; decide), q2]; exact w

theorem tgt_ok {t : Tg} {a : AV} {v : Value} {ρ ρ' : Sto} {Q : Unit → Shared → Prop} (hA : A.handled = none) (ok : EnvOk env sc) (inj : EnvInj env) (nd : nodupB T.nm = true) (hix : ∀ i ∈ t.ix, i < T.nm.length) (g : Good c s.heap)
    (S : Slots c T env sc t.ix s.heap) (er : EnvR R env s.heap T.nm ρ) (rv : Rel R s.heap a v) (hs : setT t a ρ = some ρ')
    (h : ∀ h' tk, KBP (fun b => ∃ i ∈ t.ix, b = slotOf env sc (nmOf T.nm i)) s.heap h' → Good c h' → EnvR R env h' T.nm ρ' → Slots c T env sc t.ix h' → (∀ i ∈ t.ix, ∃ o, h'.get? (slotOf env sc (nmOf T.nm i)) = some o) → Q () { s with heap := h', toks := tk }) :
    wpAny (model c.prog c.w) A (assign (denT T t) env v) Q E s := by
  cases t with
  | one i p =>
    have hi : i < T.nm.length := hix i (by simp [Tg.ix])
    rw [show setT (.one i p) a ρ = if i < ρ.length then some (ρ.set i (some a)) else none from rfl] at hs
    split at hs
    · cases hs
      refine wpAny_assign_Name (store_ok ok inj g (S.at_ i (by simp [Tg.ix])) (S.own i (by simp [Tg.ix])) er rv (nmOf_get hi) (fun j e => nodupB_get nd (nmOf_get hi) e) fun h' tk k g' er' S' lv => ?_)
      refine h h' tk (fun b o nb e => k b o (fun w => nb ⟨i, by simp [Tg.ix], w⟩) e) g' er' ⟨fun j hj => ?_, S.own⟩ fun j hj => ?_
      · simp [Tg.ix] at hj; subst hj; exact S'
      · simp [Tg.ix] at hj; subst hj; exact lv
    · cases hs
  | two i j pi pj k p =>
    have hi : i < T.nm.length := hix i (by simp [Tg.ix])
    have hj : j < T.nm.length := hix j (by simp [Tg.ix])
    unfold setT at hs
    split at hs
    · rename_i x; cases x
    · rename_i x
      cases x
      split at hs
      · rename_i q
        cases hs
        unfold Rel at rv
        obtain ⟨l, vs, rfl, hp, ht, hr, z⟩ := rv
        obtain ⟨v1, v2, rfl, r1, r2⟩ := hr.inv2
        refine wpAny_assign_Tuple hA ht rfl rfl fun h1 k1 => ?_
        have kk : Keep s.heap h1 := fun b o e => k1 b o (Nat.ne_of_lt (Heap.lt_size e)) e
        show wpAny _ _ (assignInOrder [assign (.Name _ pi) env, assign (.Name _ pj) env] [v1, v2]) _ _ _
        refine assignInOrder_cons (wpAny_assign_Name ?_)
        refine store_ok (s := { s with heap := h1 }) ok inj (g.keeps kk) ((S.at_ i (by simp [Tg.ix])).keeps kk) (S.own i (by simp [Tg.ix])) (er.ext g kk.ext) (r1.keepR kk) (nmOf_get hi) (fun j e => nodupB_get nd (nmOf_get hi) e) fun h2 tk2 k2 g2 er2 S2 lv2 => ?_
        have Sj2 := SlotAt.other inj ((S.at_ j (by simp [Tg.ix])).keeps kk) ((S.at_ i (by simp [Tg.ix])).keeps kk) S2 k2
        have r2' : Rel R h2 _ v2 := (r2.keepR kk).mono (fun b => ⟨b, rfl⟩) rfl (fun _ p _ => p) fun b o _ d e => k2 b o (fun w => (((S.at_ i (by simp [Tg.ix])).keeps kk).nc b o w e).2 d) e
        refine assignInOrder_cons (wpAny_assign_Name ?_)
        refine store_ok (s := { s with heap := h2, toks := tk2 }) ok inj g2 Sj2 (S.own j (by simp [Tg.ix])) er2 r2' (nmOf_get hj) (fun j' e => nodupB_get nd (nmOf_get hj) e) fun h3 tk3 k3 g3 er3 S3 lv3 => ?_
        have Si3 := SlotAt.other inj S2 Sj2 S3 k3
        refine assignInOrder_nil (h h3 tk3 (fun b o nb e => k3 b o (fun w => nb ⟨j, by simp [Tg.ix], w⟩) (k2 b o (fun w => nb ⟨i, by simp [Tg.ix], w⟩) (kk b o e))) g3 er3 ⟨fun m hm => ?_, S.own⟩ fun m hm => ?_)
        · simp [Tg.ix] at hm; rcases hm with rfl | rfl
          · exact Si3
          · exact S3
        · simp [Tg.ix] at hm; rcases hm with rfl | rfl
          · exact Si3.live
          · exact lv3
      · cases hs
    · cases hs
end
end Mine
end TextA12

section TextA13
open PySem PySem.W PyProof.Rows PySem.Calls PySem.Spec
namespace Mine
theorem look_cons {α : Type} {x y : Str} {v : α} {l : List (Str × α)} : ((y, v) :: l).lookup x = if x = y then some v else l.lookup x := by
  rw [List.lookup_cons]
  by_cases h : x = y
  · subst h; simp
  · rw [if_neg h, beq_eq_false_iff_ne.2 h]
theorem cells_not : ∀ (names : List (Str × NameKind)) (n : Nat) (acc : List (Str × Addr)) (x : Str), (x, NameKind.cell) ∉ names → (cellsFrom n names acc).lookup x = acc.lookup x
  | [], _, _, _, _ => rfl
  | (y, k) :: r, n, acc, x, h => by
    have hr : (x, NameKind.cell) ∉ r := fun m => h (List.mem_cons_of_mem _ m)
    unfold cellsFrom
    split
    · rename_i hk
      rw [cells_not r _ _ _ hr, look_cons, if_neg]
      rintro rfl
      have : k = .cell := by simpa using hk
      exact h (this ▸ List.mem_cons_self)
    · exact cells_not r _ _ _ hr
theorem cells_own : ∀ (names : List (Str × NameKind)) (h : Heap) (acc : List (Str × Addr)) (x : Str), (x, NameKind.cell) ∈ names →
    ∃ a, (cellsFrom h.objs.size names acc).lookup x = some a ∧ (pushCells h names).IsCell a none ∧ h.objs.size ≤ a
  | [], _, _, _, m => by simp at m
  | (y, k) :: r, h, acc, x, m => by
    unfold cellsFrom pushCells
    split
    · rename_i hk
      by_cases hr : (x, NameKind.cell) ∈ r
      · obtain ⟨a, e1, e2, e3⟩ := cells_own r (h.push { cls := .type "cell", data := .cell none }) ((y, h.objs.size) :: acc) x hr
        rw [Heap.size_push] at e1 e3
        exact ⟨a, e1, e2, by omega⟩
      · have e : x = y := by
          rcases List.mem_cons.1 m with e | e
          · cases e; rfl
          · exact absurd e hr
        subst e
        refine ⟨h.objs.size, ?_, ?_, Nat.le_refl _⟩
        · rw [cells_not r _ _ _ hr, look_cons, if_pos rfl]
        · exact ⟨_, pushCells_keeps _ _ _ _ (Heap.get?_push_size _ rfl), rfl⟩
    · rename_i hk
      have hr : (x, NameKind.cell) ∈ r := by
        rcases List.mem_cons.1 m with e | e
        · cases e; exact absurd rfl hk
        · exact e
      exact cells_own r h acc x hr
theorem cells_inj : ∀ (names : List (Str × NameKind)) (n : Nat) (acc : List (Str × Addr)), (∀ x y a, acc.lookup x = some a → acc.lookup y = some a → x = y) → (∀ x a, acc.lookup x = some a → a < n) →
    ∀ x y a, (cellsFrom n names acc).lookup x = some a → (cellsFrom n names acc).lookup y = some a → x = y
  | [], _, _, i, _ => i
  | (z, k) :: r, n, acc, i, l => by
    unfold cellsFrom
    split
    · refine cells_inj r (n + 1) ((z, n) :: acc) (fun x y a e1 e2 => ?_) fun x a e => ?_
      · rw [look_cons] at e1 e2
        split at e1 <;> split at e2
        · rename_i p q; rw [p, q]
        · cases e1; exact absurd (l _ _ e2) (Nat.lt_irrefl _)
        · cases e2; exact absurd (l _ _ e1) (Nat.lt_irrefl _)
        · exact i x y a e1 e2
      · rw [look_cons] at e
        split at e
        · cases e; exact Nat.lt_succ_self _
        · exact Nat.lt_succ_of_lt (l _ _ e)
    · exact cells_inj r n acc i l
/-- every cell of the new frame stands in the heap -/
theorem cells_all : ∀ (names : List (Str × NameKind)) (h : Heap) (acc : List (Str × Addr)), (∀ x a, acc.lookup x = some a → ∃ v, h.IsCell a v) →
    ∀ x a, (cellsFrom h.objs.size names acc).lookup x = some a → ∃ v, (pushCells h names).IsCell a v
  | [], _, _, i => i
  | (z, k) :: r, h, acc, i => by
    unfold cellsFrom pushCells
    split
    · have := cells_all r (h.push { cls := .type "cell", data := .cell none }) ((z, h.objs.size) :: acc) (fun x a e => ?_)
      · rwa [Heap.size_push] at this
      · rw [look_cons] at e
        split at e
        · cases e; exact ⟨none, _, Heap.get?_push_size _ rfl, rfl⟩
        · obtain ⟨v, hv⟩ := i x a e; exact ⟨v, hv.keeps fun b o e => Heap.get?_push_of_some _ e⟩
    · exact cells_all r h acc i

theorem closure_run {env : Env} : ∀ (names : List (Str × NameKind)) (acc : List (Str × Addr)), (∀ x, (x, NameKind.free) ∈ names → ∃ a, env.cells.lookup x = some a) → (∀ x a, acc.lookup x = some a → env.cells.lookup x = some a) →
    ∃ cl, (forIn names acc (fun (p : Str × NameKind) (cs : List (Str × Addr)) => if (p.2 == NameKind.free) = true then (do let a ← cellOf env p.1; pure (ForInStep.yield ((p.1, a) :: cs))) else pure (ForInStep.yield cs)) : Sem _) = pure cl ∧
      (∀ x a, cl.lookup x = some a → env.cells.lookup x = some a) ∧ (∀ x, (x, NameKind.free) ∈ names ∨ (∃ a, acc.lookup x = some a) → ∃ a, cl.lookup x = some a)
  | [], acc, _, i => ⟨acc, rfl, i, fun x h => h.elim (fun m => absurd m (by simp)) id⟩
  | (z, k) :: r, acc, h, i => by
    rw [List.forIn_cons]
    dsimp only
    by_cases hk : (k == NameKind.free) = true
    · have hk' : k = .free := by simpa using hk
      subst hk'
      obtain ⟨a, ha⟩ := h z List.mem_cons_self
      obtain ⟨cl, e1, e2, e3⟩ := closure_run r ((z, a) :: acc) (fun x m => h x (List.mem_cons_of_mem _ m)) (fun x b e => by
        rw [look_cons] at e
        split at e
        · rename_i q; cases e; rw [q]; exact ha
        · exact i x b e)
      refine ⟨cl, ?_, e2, fun x hx => e3 x ?_⟩
      · rw [if_pos hk]
        have : cellOf env z = pure a := by unfold cellOf; rw [ha]
        rw [this]
        exact e1
      · by_cases q : x = z
        · right; exact ⟨a, by rw [look_cons, if_pos q]⟩
        · rcases hx with hx | ⟨b, hb⟩
          · rcases List.mem_cons.1 hx with e | e
            · cases e; exact absurd rfl q
            · exact .inl e
          · right; exact ⟨b, by rw [look_cons, if_neg q]; exact hb⟩
    · obtain ⟨cl, e1, e2, e3⟩ := closure_run r acc (fun x m => h x (List.mem_cons_of_mem _ m)) i
      refine ⟨cl, ?_, e2, fun x hx => e3 x ?_⟩
      · rw [if_neg hk]; exact e1
      · rcases hx with hx | hx
        · rcases List.mem_cons.1 hx with e | e
          · cases e; exact absurd rfl hk
          · exact .inl e
        · exact .inr hx
theorem closure_ok {env : Env} {scope : Scope} (h : ∀ x, (x, NameKind.free) ∈ scope.names → ∃ a, env.cells.lookup x = some a) :
    ∃ cl, closureFor scope env = pure cl ∧ (∀ x a, cl.lookup x = some a → env.cells.lookup x = some a) ∧ (∀ x, (x, NameKind.free) ∈ scope.names → ∃ a, cl.lookup x = some a) := by
  obtain ⟨cl, e1, e2, e3⟩ := closure_run scope.names [] h (fun x a e => by simp at e)
  refine ⟨cl, ?_, e2, fun x m => e3 x (.inl m)⟩
  unfold closureFor
  have := congrArg (· >>= fun cs => (pure cs : Sem _)) e1
  exact this

theorem newComp_env {M : Model} {A : Around} {E : Value → Shared → Prop} {s : Shared} {scope : Scope} {globals : Addr} {cl : List (Str × Addr)} {qual : Str} {env : Env} {Q : Env → Shared → Prop}
    (h : Q { scope := scope, locals := s.heap.objs.size, globals := globals, cells := cellsFrom (s.heap.objs.size + 1) scope.names cl, qual := qual, func := none, code := env.code, frame := env.frame, builtins := env.builtins }
      { s with heap := pushCells (s.heap.push { cls := .type "dict", data := .dict #[] }) scope.names }) : wpAny M A (newFunctionEnv scope globals cl [] qual none .none (some env)) Q E s := by
  simp only [newFunctionEnv, Option.isSome_some, if_true]
  refine wpAny_bind (wpAny_alloc ?_)
  refine wpAny_bind (wpAny_layCells _ (fun name kind cells => by cases kind == NameKind.cell <;> simp) _ _ _ _ ?_)
  rw [show ({ s with heap := s.heap.push { cls := .type "dict", data := .dict #[] } } : Shared).heap.objs.size = s.heap.objs.size + 1 from Heap.size_push ..]
  refine wpAny_bind ?_
  rw [List.forIn_nil]
  exact wpAny_pure (wpAny_pure h)

noncomputable def relS (sc' sc : Scope) : Scope := { sc' with names := sc'.names.map fun (n, k) => if (k == .free && sc.kind == .function && sc.names.lookup n == some .cell) then (n, .cell) else (n, k) }
theorem relabel_eq {env : Env} {sc sc' : Scope} (ok : EnvOk env sc) : relabel sc' env = relS sc' sc := by
  unfold relabel relS
  have : ∀ n, env.kindOf n = sc.names.lookup n := fun n => kindOf_eq ok n
  simp only [this, ok.hsc]
theorem relS_lookup (sc' sc : Scope) (x : Str) : (relS sc' sc).names.lookup x = (sc'.names.lookup x).map fun k => if (k == .free && sc.kind == .function && sc.names.lookup x == some .cell) then .cell else k := by
  unfold relS
  dsimp only
  induction sc'.names with
  | nil => rfl
  | cons p r ih =>
    obtain ⟨y, k⟩ := p
    rw [List.map_cons]
    by_cases h : x = y
    · subst h
      dsimp only
      split
      · rename_i hc; rw [look_cons, look_cons, if_pos rfl, if_pos rfl, Option.map_some, if_pos hc]
      · rename_i hc; rw [look_cons, look_cons, if_pos rfl, if_pos rfl, Option.map_some, if_neg hc]
    · dsimp only
      split
      · rw [look_cons, look_cons, if_neg h, if_neg h]; exact ih
      · rw [look_cons, look_cons, if_neg h, if_neg h]; exact ih
end Mine
end TextA13

section TextA14
open PySem PySem.W PyProof.Rows PySem.Calls PySem.Spec
namespace Mine
noncomputable def compWf (nm : List Str) (sc sc' : Scope) (t : Tg) (fv : List Nat) : Bool :=
  decide (sc'.kind = .function)
  && sc'.names.all (fun p => match p.2 with
    | .local => decide (sc'.names.lookup p.1 = some .local)
    | .free => decide (sc.names.lookup p.1 = some .cell) || decide (sc.names.lookup p.1 = some .free)
    | _ => true)
  && fv.all (fun i => decide (i < nm.length) && decide ((nmOf nm i, NameKind.free) ∈ sc'.names) && decide (sc'.names.lookup (nmOf nm i) = some .free) && decide ((nmOf nm i, NameKind.cell) ∉ sc'.names))
  && t.ix.all (fun i => decide (i < nm.length) && (decide (sc'.names.lookup (nmOf nm i) = some .local) || decide (sc'.names.lookup (nmOf nm i) = some .cell)))
structure CompWf (nm : List Str) (sc sc' : Scope) (t : Tg) (fv : List Nat) : Prop where
  kind : sc'.kind = .function
  loc : ∀ x, (x, NameKind.local) ∈ sc'.names → sc'.names.lookup x = some .local
  fre : ∀ x, (x, NameKind.free) ∈ sc'.names → sc.names.lookup x = some .cell ∨ sc.names.lookup x = some .free
  fv : ∀ i ∈ fv, i < nm.length ∧ (nmOf nm i, NameKind.free) ∈ sc'.names ∧ sc'.names.lookup (nmOf nm i) = some .free ∧ (nmOf nm i, NameKind.cell) ∉ sc'.names
  ix : ∀ i ∈ t.ix, i < nm.length ∧ (sc'.names.lookup (nmOf nm i) = some .local ∨ sc'.names.lookup (nmOf nm i) = some .cell)
theorem compWf_ok {nm : List Str} {sc sc' : Scope} {t : Tg} {fv : List Nat} (h : compWf nm sc sc' t fv = true) : CompWf nm sc sc' t fv := by
  unfold compWf at h
  simp only [Bool.and_eq_true, decide_eq_true_eq, List.all_eq_true, Bool.or_eq_true] at h
  obtain ⟨⟨⟨h1, h2⟩, h3⟩, h4⟩ := h
  refine ⟨h1, fun x m => ?_, fun x m => ?_, fun i m => ?_, fun i m => ?_⟩
  · have := h2 _ m; simpa using this
  · have := h2 _ m; simpa using this
  · have := h3 i m; exact ⟨this.1.1.1, this.1.1.2, this.1.2, this.2⟩
  · exact h4 i m
theorem mask_get (fv : List Nat) : ∀ (ρ : Sto) (k i : Nat) (a : AV), (mask fv k ρ)[i]? = some (some a) → (k + i) ∈ fv ∧ ρ[i]? = some (some a)
  | [], _, _, _, e => by simp [mask] at e
  | x :: r, k, 0, a, e => by
    simp only [mask, List.getElem?_cons_zero, Option.some.injEq] at e
    split at e
    · rename_i h; exact ⟨by simpa using h, by simp [e]⟩
    · cases e
  | x :: r, k, i + 1, a, e => by
    simp only [mask, List.getElem?_cons_succ] at e
    obtain ⟨h1, h2⟩ := mask_get fv r (k + 1) i a e
    exact ⟨by rw [show k + (i + 1) = k + 1 + i from by omega]; exact h1, by simpa using h2⟩

section
variable {c : Cx} {A : Around} {E : Value → Shared → Prop} {s : Shared} {R : RP} {n : Nat} {env : Env} {sc : Scope} {T : Nms} {ρ : Sto} {μ : Option (List Int)}
theorem compLoop_ok {elt target iter : Expr} {ifs : List Expr} {scope : Scope} {pos : Pos} {it acc : Value} {env : Env} {RR : Result → Shared → Prop} (I : Nat → Shared → Prop)
    (turn : ∀ n s, I n s → ∀ E', wpAny (model c.prog c.w) A (pyNext it) (fun r s₁ => match r with
      | none => RR (.ok .next) s₁
      | some v => wpAny (model c.prog c.w) A (letOwnedTupleGo target it v) (fun _ s₁' => wpAny (model c.prog c.w) A (assign target env v) (fun _ s₂ =>
          wpAny (model c.prog c.w) A (forIn ifs true fun c r => if r = true then do let ok ← isTrue c env (eval c env); pure (ForInStep.yield ok) else pure (ForInStep.yield r)) (fun ok s₃ =>
            if ok = true then wpAny (model c.prog c.w) A (eval elt env) (fun x s₄ =>
              wpAny (model c.prog c.w) A (call (.builtin "list.append") [acc, x]) (fun _ s₅ => ∃ m, m < n ∧ I m s₅) E' s₄) E' s₃
            else ∃ m, m < n ∧ I m s₃) E' s₂) E' s₁') E' s₁) E' s)
    (n : Nat) (h : I n s) : codeAny (model c.prog c.w) A (.compLoop (.ListComp elt [⟨target, iter, ifs, 0⟩] scope pos) 0 it acc env) RR s := by
  refine codeAny_loop rfl I (fun n s hI => ?_) n h
  show wpAny _ A ((compTurn (.ListComp elt [⟨target, iter, ifs, 0⟩] scope pos) 0 it acc env).onRaise (fun x => do noteFrame x env; theTreesLotGoes x)) _ _ s
  refine wpAny_noted ?_
  rw [compTurn_list]
  refine wpAny_bind (wpAny_standAt (wpAny_bind (wpAny_mono (turn n s hI _) (fun r s₁ h₁ => ?_) fun _ _ h' => h')))
  cases r with
  | none => exact wpAny_pure h₁
  | some v =>
    refine wpAny_bind (wpAny_mono h₁ (fun _ s₁' h₁' => ?_) fun _ _ h' => h')
    refine wpAny_bind (wpAny_mono h₁' (fun _ s₂ h₂ => wpAny_bind (wpAny_mono h₂ (fun ok s₃ h₃ => ?_) fun _ _ h' => h')) fun _ _ h' => h')
    cases ok with
    | false => exact wpAny_pure ⟨rfl, h₃⟩
    | true =>
      exact wpAny_bind (wpAny_bind (wpAny_mono h₃ (fun x s₄ h₄ => wpAny_bind (wpAny_mono h₄ (fun _ s₅ h₅ => wpAny_pure (wpAny_pure ⟨rfl, h₅⟩)) fun _ _ h' => h')) fun _ _ h' => h'))

/-- the state in a comprehension's loop -/
structure CI (c : Cx) (T : Nms) (cenv : Env) (scR : Scope) (R' : RP) (ix : List Nat) (wr : List Addr) (a₀ : Addr) (h₂ : Heap) (dn : List AV) (h : Heap) : Prop where
  g : Good c h
  x : ∀ b o, b ≠ c.z1 → b ≠ c.z2 → b ∉ wr → h₂.get? b = some o → h.get? b = some o
  acc : ∃ vs, PL h a₀ vs ∧ RelL R' h dn vs
  sl : Slots c T cenv scR ix h
  ns : ∃ m, h.Ns cenv.locals m
  ci : ∀ x a, cenv.cells.lookup x = some a → ∃ v, h.IsCell a v
  lw : ∀ b ∈ wr, ∃ o, h.get? b = some o
variable {cenv : Env} {scR : Scope} {R' : RP} {ix : List Nat} {wr : List Addr} {a₀ : Addr} {h₂ h h' : Heap} {dn : List AV}
structure CS (c : Cx) (T : Nms) (cenv : Env) (scR : Scope) (R' : RP) (ix : List Nat) (wr : List Addr) (a₀ : Addr) (h₂ : Heap) : Prop where
  g : Good c h₂
  pa : ∀ l, R'.P l → l ≠ a₀ ∧ l ∉ wr
  fa : h₂.get? a₀ = none
  fC : h₂.get? cenv.locals = none
  Ca : cenv.locals ≠ a₀
  fs : ∀ i ∈ ix, h₂.get? (slotOf cenv scR (nmOf T.nm i)) = none ∧ slotOf cenv scR (nmOf T.nm i) ≠ a₀
  wo : ∀ b ∈ wr, Own c b
  ws : ∀ b ∈ wr, ∃ o, h₂.get? b = some o
  ok : EnvOk cenv scR

theorem Own.ofFresh {h : Heap} (g : Good c h) {b : Addr} (e : h.get? b = none) : Own c b := Own.fresh g e
theorem CS.aw (S : CS c T cenv scR R' ix wr a₀ h₂) : a₀ ∉ wr := fun m => by obtain ⟨o, e⟩ := S.ws _ m; rw [S.fa] at e; cases e
theorem CS.Cw (S : CS c T cenv scR R' ix wr a₀ h₂) : cenv.locals ∉ wr := fun m => by obtain ⟨o, e⟩ := S.ws _ m; rw [S.fC] at e; cases e
theorem CS.sw (S : CS c T cenv scR R' ix wr a₀ h₂) {i : Nat} (hi : i ∈ ix) : slotOf cenv scR (nmOf T.nm i) ∉ wr := fun m => by obtain ⟨o, e⟩ := S.ws _ m; rw [(S.fs i hi).1] at e; cases e
theorem CI.ext (S : CS c T cenv scR R' ix wr a₀ h₂) (x : CI c T cenv scR R' ix wr a₀ h₂ dn h) (g' : Good c h') (k : Ext c h h') : CI c T cenv scR R' ix wr a₀ h₂ dn h' where
  g := g'
  x := fun b o n1 n2 n3 e => k b o n1 n2 (x.x b o n1 n2 n3 e)
  acc := let ⟨vs, ⟨n, e⟩, r⟩ := x.acc; ⟨vs, ⟨n, k.dat x.g (.inl ⟨_, _, rfl⟩) e⟩, r.ext x.g k⟩
  sl := x.sl.ext x.g k
  ns := let ⟨m, hm⟩ := x.ns; ⟨m, ns_ext k x.g hm⟩
  ci := fun y a e => let ⟨v, hv⟩ := x.ci y a e; ⟨v, cell_ext k x.g hv⟩
  lw := fun b hb => let ⟨o, e⟩ := x.lw b hb; ⟨o, k b o (S.wo b hb).n1 (S.wo b hb).n2 e⟩
theorem CI.wrote (S : CS c T cenv scR R' ix wr a₀ h₂) (x : CI c T cenv scR R' ix wr a₀ h₂ dn h) (k : KB wr h h') (nc : ∀ b ∈ wr, ∃ o, h.get? b = some o ∧ NotCode o) (lw : ∀ b ∈ wr, ∃ o, h'.get? b = some o)
    (hcw : ∀ y a, cenv.cells.lookup y = some a → a ∉ wr) : CI c T cenv scR R' ix wr a₀ h₂ dn h' where
  g := x.g.own (W := (· ∈ wr)) S.wo (fun b o w e => let ⟨o', e', q⟩ := nc b w; by rw [e] at e'; cases e'; exact q) k
  x := fun b o n1 n2 n3 e => k b o n3 (x.x b o n1 n2 n3 e)
  acc := let ⟨vs, ⟨n, e⟩, r⟩ := x.acc; ⟨vs, ⟨n, k _ _ S.aw e⟩, r.mono (fun b => ⟨b, rfl⟩) rfl (fun _ p _ => p) fun b o p _ e => k b o (S.pa b p).2 e⟩
  sl := ⟨fun i hi => by
    have : slotOf cenv scR (nmOf T.nm i) ∉ wr := S.sw hi
    rcases x.sl.at_ i hi with ⟨q, m, o, es, ep, e, r⟩ | ⟨q, cc, v, q2, o, e, d⟩
    · exact .inl ⟨q, m, o, es, ep, k _ _ S.Cw e, r⟩
    · exact .inr ⟨q, cc, v, q2, o, k _ _ (hcw _ _ q2) e, d⟩, x.sl.own⟩
  ns := let ⟨m, o, es, ep, e, r⟩ := x.ns; ⟨m, o, es, ep, k _ _ S.Cw e, r⟩
  ci := fun y a e => let ⟨v, o, e1, d⟩ := x.ci y a e; ⟨v, o, k _ _ (hcw _ _ e) e1, d⟩
  lw := lw
theorem CI.slot (S : CS c T cenv scR R' ix wr a₀ h₂) (x : CI c T cenv scR R' ix wr a₀ h₂ dn h) (k : KBP (fun b => ∃ i ∈ ix, b = slotOf cenv scR (nmOf T.nm i)) h h') (g' : Good c h') (sl : Slots c T cenv scR ix h') : CI c T cenv scR R' ix wr a₀ h₂ dn h' where
  g := g'
  x := fun b o n1 n2 n3 e => k b o (fun ⟨i, hi, w⟩ => by rw [w, (S.fs i hi).1] at e; cases e) (x.x b o n1 n2 n3 e)
  acc := let ⟨vs, ⟨n, e⟩, r⟩ := x.acc; ⟨vs, ⟨n, k _ _ (fun ⟨i, hi, w⟩ => (S.fs i hi).2 w.symm) e⟩, r.mono (fun b => ⟨b, rfl⟩) rfl (fun _ p _ => p) fun b o p d e => k b o (fun ⟨i, hi, w⟩ => ((x.sl.at_ i hi).nc b o w e).2 d) e⟩
  sl := sl
  ns := by
    obtain ⟨m, o, es, ep, e, r⟩ := x.ns
    by_cases w : ∃ i ∈ ix, cenv.locals = slotOf cenv scR (nmOf T.nm i)
    · obtain ⟨i, hi, w⟩ := w
      rcases sl.at_ i hi with ⟨q, m, hm⟩ | ⟨q, cc, v, q2, hc⟩
      · exact ⟨m, hm⟩
      · rcases x.sl.at_ i hi with ⟨q', m, hm⟩ | ⟨q', cc', v, q2', o1, hc, d⟩
        · rw [q] at q'; cases q'
        · have : slotOf cenv scR (nmOf T.nm i) = cc' := by unfold slotOf; rw [if_neg (by rw [q']; decide), q2']; rfl
          rw [w, this, hc] at e; cases e; rw [d] at r; cases r.1
    · exact ⟨m, o, es, ep, k _ _ w e, r⟩
  ci := fun y a e => by
    obtain ⟨v, o, e1, d⟩ := x.ci y a e
    by_cases w : ∃ i ∈ ix, a = slotOf cenv scR (nmOf T.nm i)
    · obtain ⟨i, hi, w⟩ := w
      rcases sl.at_ i hi with ⟨q, m, o2, es, ep, f1, f2, f3⟩ | ⟨q, cc, v, q2, hc⟩
      · rcases x.sl.at_ i hi with ⟨q', m', o3, es', ep', g1, g2, g3⟩ | ⟨q', cc', v, q2', o1, hc, d⟩
        · have : slotOf cenv scR (nmOf T.nm i) = cenv.locals := by unfold slotOf; rw [if_pos q]
          rw [w, this, g1] at e1; cases e1; rw [g2] at d; cases d
        · rw [q] at q'; cases q'
      · have : slotOf cenv scR (nmOf T.nm i) = cc := by unfold slotOf; rw [if_neg (by rw [q]; decide), q2]; rfl
        exact ⟨v, by rw [w, this]; exact hc⟩
    · exact ⟨v, o, k _ _ w e1, d⟩
  lw := fun b hb => let ⟨o, e⟩ := x.lw b hb; ⟨o, k b o (fun ⟨i, hi, w⟩ => S.sw hi (w ▸ hb)) e⟩
theorem CI.app {a : AV} {v : Value} (S : CS c T cenv scR R' ix wr a₀ h₂) (x : CI c T cenv scR R' ix wr a₀ h₂ dn h) {vs : List Value} (r : RelL R' h dn vs) (rv : Rel R' h a v) (pl : PL h' a₀ (vs ++ [v])) (hp : PL h a₀ vs) (k : Heap.SameBut a₀ h h') :
    CI c T cenv scR R' ix wr a₀ h₂ (dn ++ [a]) h' := by
  have kk : KBP (· = a₀) h h' := fun b o nb e => k.extBut b o nb e
  have own : Own c a₀ := Own.fresh S.g S.fa
  obtain ⟨n, ha⟩ := hp
  exact {
    g := x.g.own (W := (· = a₀)) (fun b w => w ▸ own) (fun b o w e => by rw [w, ha] at e; cases e; exact nc_seq rfl) kk
    x := fun b o n1 n2 n3 e => kk b o (fun w => by rw [w, S.fa] at e; cases e) (x.x b o n1 n2 n3 e)
    acc := ⟨_, pl, (r.append (RelL.one rv)).mono (fun b => ⟨b, rfl⟩) rfl (fun _ p _ => p) fun b o p _ e => kk b o (S.pa b p).1 e⟩
    sl := ⟨fun i hi => (by
      rcases x.sl.at_ i hi with ⟨q, m, hm⟩ | ⟨q, cc, w, q2, o, e, d⟩
      · exact .inl ⟨q, m, hm.sameBut k S.Ca⟩
      · refine .inr ⟨q, cc, w, q2, o, kk _ _ (fun w => ?_) e, d⟩
        rw [w, ha] at e
        cases e
        exact nomatch d : SlotAt cenv scR h' (nmOf T.nm i)), x.sl.own⟩
    ns := let ⟨m, hm⟩ := x.ns; ⟨m, hm.sameBut k S.Ca⟩
    ci := fun y b e => by
      obtain ⟨w, o, e1, d⟩ := x.ci y b e
      exact ⟨w, o, kk _ _ (fun w => by rw [w, ha] at e1; cases e1; cases d) e1, d⟩
    lw := fun b hb => let ⟨o, e⟩ := x.lw b hb; ⟨o, kk b o (fun w => S.aw (w ▸ hb)) e⟩ }
end
end Mine
end TextA14

section TextA15
open PySem PySem.W PyProof.Rows PySem.Calls PySem.Spec
namespace Mine
noncomputable def cutR (R : RP) (a : Addr) (wr : List Addr) : RP := { P := fun l => R.P l ∧ l ≠ a ∧ l ∉ wr, D := R.D, F := R.F, B := R.B }
theorem pushCells_size : ∀ (names : List (Str × NameKind)) (h : Heap), h.objs.size ≤ (pushCells h names).objs.size
  | [], _ => Nat.le_refl _
  | (_, k) :: r, h => by
    unfold pushCells
    split
    · exact Nat.le_trans (by rw [Heap.size_push]; exact Nat.le_succ _) (pushCells_size r _)
    · exact pushCells_size r h
section
variable {c : Cx} {A : Around} {E : Value → Shared → Prop} {s : Shared} {R : RP} {n : Nat} {env : Env} {sc : Scope} {T : Nms} {ρ : Sto} {μ : Option (List Int)}

theorem relS_target {sc' sc : Scope} {x : Str} (h : sc'.names.lookup x = some .local ∨ sc'.names.lookup x = some .cell) : (relS sc' sc).names.lookup x = sc'.names.lookup x := by
  rw [relS_lookup]
  rcases h with h | h <;> rw [h] <;> rfl
theorem relS_free {sc' sc : Scope} {x : Str} (h : sc'.names.lookup x = some .free) : (relS sc' sc).names.lookup x = some .cell ∨ (relS sc' sc).names.lookup x = some .free := by
  rw [relS_lookup, h, Option.map_some]
  split
  · exact .inl rfl
  · exact .inr rfl

theorem comp_core {elt iter : Expr} {ifs : List Expr} {t : Tg} {sc' : Scope} {fv : List Nat} {pos : Pos} {xs ys : List AV} {cdv : Sto → Option Bool} {elv : Sto → Option AV} {RR : Value → Addr → Result → Shared → Prop}
    {I : Addr} {h₂ : Heap} {tk₂ : Nat} {fp wr : List Addr} {St : Nat → Heap → Prop} {Mid : Nat → Value → Heap → Prop} {cl : List (Str × Addr)}
    (ok : EnvOk env sc) (P : Pre c R env T.nm s ρ μ) (rm : Room A (n + 1)) (wf : CompWf T.nm sc sc' t fv) (nd : nodupB T.nm = true)
    (hcl1 : ∀ x a, cl.lookup x = some a → env.cells.lookup x = some a) (hcl2 : ∀ x, (x, NameKind.free) ∈ sc'.names → ∃ a, cl.lookup x = some a)
    (src : SrcOk c A R xs (denT T t) s.heap I h₂ fp wr St Mid)
    (hcd : ∀ (R' : RP) (cenv : Env) (s' : Shared) (ρ' : Sto) (b : Bool) (E' : Value → Shared → Prop) (Q : Bool → Shared → Prop), R'.F = R.F → EnvOk cenv (relS sc' sc) → Pre c R' cenv T.nm s' ρ' μ → cdv ρ' = some b →
      (∀ h' tk, Ext c s'.heap h' → Good c h' → Q b { s' with heap := h', toks := tk }) → wpAny (model c.prog c.w) A (forIn ifs true fun c r => if r = true then do let ok ← isTrue c cenv (eval c cenv); pure (ForInStep.yield ok) else pure (ForInStep.yield r)) Q E' s')
    (hel : ∀ (R' : RP) (cenv : Env) (s' : Shared) (ρ' : Sto) (r : AV) (E' : Value → Shared → Prop) (Q : Value → Shared → Prop), R'.F = R.F → EnvOk cenv (relS sc' sc) → Pre c R' cenv T.nm s' ρ' μ → elv ρ' = some r → Post c R' s' r Q → wpAny (model c.prog c.w) A (eval elt cenv) Q E' s')
    (hc : catO (stepF t cdv elv (mask fv 0 ρ)) xs = some ys) (hz : xs.length ≤ 1000)
    (fin : ∀ acc C h tk m, s.heap.get? C = none → Ext c s.heap h → Good c h → Rel R h (.list ys) acc → h.Ns C m → RR acc C (.ok .next) { s with heap := h, toks := tk }) :
    wpAny (model c.prog c.w) A (newList []) (fun acc s₃ => wpAny (model c.prog c.w) A (newFunctionEnv sc' env.globals cl [] env.qual none .none (some env)) (fun cenv s₄ =>
      codeAny (model c.prog c.w) A (.compStart (.ListComp elt [⟨denT T t, iter, ifs, 0⟩] sc' pos) 0 (.ref I) acc { cenv with scope := relabel sc' env }) (RR acc cenv.locals) s₄) E s₃) E { s with heap := h₂, toks := tk₂ } := by
  refine wpAny_newList ?_ (Nat.zero_le _)
  refine newComp_env ?_
  rw [relabel_eq ok]
  dsimp only
  have hsz : (h₂.push { cls := .type "list", data := .seq ([] : List Value).toArray }).objs.size = h₂.objs.size + 1 := Heap.size_push ..
  have hsz2 : ((h₂.push { cls := .type "list", data := .seq ([] : List Value).toArray }).push { cls := .type "dict", data := .dict #[] }).objs.size = h₂.objs.size + 1 + 1 := by rw [Heap.size_push, hsz]
  rw [hsz]
  generalize hcenv : ({ scope := relS sc' sc, locals := h₂.objs.size + 1, globals := env.globals, cells := cellsFrom (h₂.objs.size + 1 + 1) sc'.names cl, qual := env.qual, func := none, code := env.code, frame := env.frame, builtins := env.builtins } : Env) = cenv
  have eL : cenv.locals = h₂.objs.size + 1 := by rw [← hcenv]
  have eC : cenv.cells = cellsFrom (h₂.objs.size + 1 + 1) sc'.names cl := by rw [← hcenv]
  have gone : ∀ {a : Addr}, h₂.objs.size ≤ a → h₂.get? a = none := fun ha => Heap.get?_none_of_le ha
  have old : ∀ x a, cl.lookup x = some a → ∃ v, h₂.IsCell a v := fun x a e => let ⟨v, hv⟩ := P.ci x a (hcl1 x a e); ⟨v, cell_ext src.ext P.g hv⟩
  have oldlt : ∀ x a, cl.lookup x = some a → a < h₂.objs.size := fun x a e => let ⟨v, hv⟩ := old x a e; hv.lt
  generalize hh3 : pushCells ((h₂.push { cls := .type "list", data := .seq ([] : List Value).toArray }).push { cls := .type "dict", data := .dict #[] }) sc'.names = h₃
  have k3 : Keep h₂ h₃ := fun b o e => by rw [← hh3]; exact pushCells_keeps _ _ _ _ (Heap.get?_push_of_some _ (Heap.get?_push_of_some _ e))
  have own : ∀ x, (x, NameKind.cell) ∈ sc'.names → ∃ a, cenv.cells.lookup x = some a ∧ h₃.IsCell a none ∧ h₂.objs.size + 1 + 1 ≤ a := fun x m => by
    have := cells_own sc'.names ((h₂.push { cls := .type "list", data := .seq ([] : List Value).toArray }).push { cls := .type "dict", data := .dict #[] }) cl x m
    rw [hsz2, hh3, ← eC] at this; exact this
  have nown : ∀ x, (x, NameKind.cell) ∉ sc'.names → cenv.cells.lookup x = cl.lookup x := fun x m => by rw [eC]; exact cells_not _ _ _ _ m
  have hCw : ∀ y a, cenv.cells.lookup y = some a → a ∉ wr := fun y a e m => by
    obtain ⟨o, e2⟩ := src.ws a m
    by_cases q : (y, NameKind.cell) ∈ sc'.names
    · obtain ⟨a', e1, _, hle⟩ := own y q
      rw [e] at e1; cases e1
      rw [gone (Nat.le_trans (Nat.le_succ _) (Nat.le_trans (Nat.le_succ _) hle))] at e2; cases e2
    · rw [nown y q] at e
      obtain ⟨v, o', e3, _⟩ := P.ci y a (hcl1 y a e)
      rw [src.wn a m] at e3; cases e3
  have ok' : EnvOk cenv (relS sc' sc) := by
    refine ⟨by rw [← hcenv], wf.kind, ?_, ?_, by rw [← hcenv]; exact ok.gl, by rw [← hcenv]; exact ok.bl⟩
    · rw [eC]
      exact cells_inj _ _ _ (fun x y a e1 e2 => ok.inj x y a (hcl1 x a e1) (hcl1 y a e2)) fun x a e => Nat.lt_succ_of_lt (Nat.lt_succ_of_lt (oldlt x a e))
    · intro x hx
      by_cases q : (x, NameKind.cell) ∈ sc'.names
      · obtain ⟨a, e, _⟩ := own x q; exact ⟨a, e⟩
      · rw [nown x q]
        refine hcl2 x ?_
        rw [relS_lookup] at hx
        cases hl : sc'.names.lookup x with
        | none => rw [hl] at hx; simp at hx
        | some k =>
          have hm := mem_of_lookup hl
          cases k with
          | free => exact hm
          | cell => exact absurd hm q
          | _ => rw [hl] at hx; simp at hx
  have slot : ∀ i ∈ t.ix, SlotAt cenv (relS sc' sc) h₃ (nmOf T.nm i) ∧ h₂.objs.size + 1 ≤ slotOf cenv (relS sc' sc) (nmOf T.nm i) := fun i hi => by
    obtain ⟨_, hk⟩ := wf.ix i hi
    have hr := relS_target (sc := sc) hk
    rcases hk with hk | hk
    · have nsC : h₃.Ns cenv.locals fun _ => none := by
        rw [eL, ← hh3]
        have := Heap.Ns.new (h₂.push { cls := .type "list", data := .seq ([] : List Value).toArray }) (.type "dict")
        rw [hsz] at this
        exact this.keeps (pushCells_keeps _ _)
      refine ⟨.inl ⟨by rw [hr]; exact hk, _, nsC⟩, ?_⟩
      unfold slotOf; rw [if_pos (by rw [hr]; exact hk), eL]; exact Nat.le_refl _
    · obtain ⟨a, e1, e2, e3⟩ := own _ (mem_of_lookup hk)
      refine ⟨.inr ⟨by rw [hr]; exact hk, a, none, e1, e2⟩, ?_⟩
      unfold slotOf; rw [if_neg (by rw [hr, hk]; decide), e1]; exact Nat.le_trans (Nat.le_succ _) e3
  have S : CS c T cenv (relS sc' sc) (cutR R h₂.objs.size wr) t.ix wr h₂.objs.size h₂ := {
    g := src.g
    pa := fun l p => p.2
    fa := gone (Nat.le_refl _)
    fC := by rw [eL]; exact gone (Nat.le_succ _)
    Ca := by rw [eL]; exact Nat.succ_ne_self _
    fs := fun i hi => ⟨gone (Nat.le_trans (Nat.le_succ _) (slot i hi).2), Nat.ne_of_gt (slot i hi).2⟩
    wo := fun b hb => Own.fresh P.g (src.wn b hb)
    ws := src.ws
    ok := ok' }
  have E1 : ∀ {dn h}, CI c T cenv (relS sc' sc) (cutR R h₂.objs.size wr) t.ix wr h₂.objs.size h₂ dn h → Ext c s.heap h := fun x b o n1 n2 e =>
    x.x b o n1 n2 (fun m => by rw [src.wn b m] at e; cases e) (src.ext b o n1 n2 e)
  have it := src.it (cutR R h₂.objs.size wr) (fun b => ⟨b, rfl⟩) rfl (fun l p ⟨o, e⟩ nw => ⟨p, (fun q => by rw [q, gone (Nat.le_refl _)] at e; cases e), nw⟩) (fun l m p => p.2.2 m)
  have mer : ∀ {dn : List AV} {h : Heap}, CI c T cenv (relS sc' sc) (cutR R h₂.objs.size wr) t.ix wr h₂.objs.size h₂ dn h →
      EnvR (cutR R h₂.objs.size wr) cenv h T.nm (mask fv 0 ρ) := fun {dn h} x i a y e1 e2 => by
    obtain ⟨m1, m2⟩ := mask_get fv ρ 0 i a e1
    rw [Nat.zero_add] at m1
    obtain ⟨w1, w2, w3, w4⟩ := wf.fv i m1
    have ey : y = nmOf T.nm i := by have := nmOf_get w1; rw [e2] at this; exact Option.some.inj this
    subst ey
    obtain ⟨v, rv, hv⟩ := P.er i a _ m2 e2
    have rel' : Rel (cutR R h₂.objs.size wr) _ a v := rv.mono (R := R) (R' := cutR R h₂.objs.size wr) (h' := h) (fun b => ⟨b, rfl⟩) rfl (fun l p ⟨o, e, hd⟩ => ⟨p, (fun q => by
      have := gone (Nat.le_refl h₂.objs.size)
      rw [← q, src.ext.dat P.g hd e] at this; cases this), (fun q => by rw [src.wn l q] at e; cases e)⟩) fun b o _ d e => (E1 x).dat P.g d e
    refine ⟨v, rel', .inr ?_⟩
    rcases hv with ⟨q1, _⟩ | ⟨q1, cc, q2, q3⟩
    · rw [kindOf_eq ok] at q1
      rcases wf.fre _ w2 with q | q <;> (rw [q] at q1; cases q1)
    · refine ⟨by rw [kindOf_eq ok']; exact relS_free w3, cc, ?_, cell_ext (E1 x) P.g q3⟩
      rw [nown _ w4]
      obtain ⟨a', ha'⟩ := hcl2 _ w2
      rw [ha']
      exact (hcl1 _ _ ha').symm.trans q2
  have pre : ∀ {dn h tk ρ'}, CI c T cenv (relS sc' sc) (cutR R h₂.objs.size wr) t.ix wr h₂.objs.size h₂ dn h →
      EnvR (cutR R h₂.objs.size wr) cenv h T.nm ρ' →
      Pre c (cutR R h₂.objs.size wr) cenv T.nm { s with heap := h, toks := tk } ρ' μ := fun x er => {
    g := x.g
    er := er
    bx := fun ns e => P.bx.ext P.g (E1 x) ns e
    fr := fun l e => ⟨P.fr l ((E1 x).none x.g e), (fun q => by obtain ⟨_, ⟨_, ha⟩, _⟩ := x.acc; rw [q, ha] at e; cases e), (fun q => by obtain ⟨_, ha⟩ := x.lw l q; rw [ha] at e; cases e)⟩
    pd := fun l p => P.pd l p.1
    dl := dl_ext P.dl x.g (E1 x)
    ff := P.ff
    ci := x.ci }
  have fps : ∀ b ∈ fp, b ≠ h₂.objs.size ∧ ∀ i ∈ t.ix, b ≠ slotOf cenv (relS sc' sc) (nmOf T.nm i) := fun b hb =>
    ⟨Nat.ne_of_lt (src.hfp b hb).2.2.2, fun i hi => Nat.ne_of_lt (Nat.lt_of_lt_of_le (src.hfp b hb).2.2.2 (Nat.le_trans (Nat.le_succ _) (slot i hi).2))⟩
  have hz2 : sizeLine = 16777216 := rfl
  have loop : ∀ (i : Nat) (h : Heap) (tk : Nat) (dn rest : List AV), i ≤ xs.length → St i h → CI c T cenv (relS sc' sc) (cutR R h₂.objs.size wr) t.ix wr h₂.objs.size h₂ dn h → catO (stepF t cdv elv (mask fv 0 ρ)) (xs.drop i) = some rest → dn ++ rest = ys → dn.length ≤ i →
      codeAny (model c.prog c.w) A (.compLoop (.ListComp elt [⟨denT T t, iter, ifs, 0⟩] sc' pos) 0 (.ref I) (.ref h₂.objs.size) cenv) (RR (.ref h₂.objs.size) cenv.locals) { s with heap := h, toks := tk } := by
    intro i h tk dn rest hi hst hci hrest hys hle
    refine compLoop_ok (fun m s' => ∃ i h tk dn rest, m = xs.length - i ∧ s' = { s with heap := h, toks := tk } ∧ i ≤ xs.length ∧ St i h ∧ CI c T cenv (relS sc' sc) (cutR R h₂.objs.size wr) t.ix wr h₂.objs.size h₂ dn h ∧
      catO (stepF t cdv elv (mask fv 0 ρ)) (xs.drop i) = some rest ∧ dn ++ rest = ys ∧ dn.length ≤ i) ?_ (xs.length - i) ⟨i, h, tk, dn, rest, rfl, rfl, hi, hst, hci, hrest, hys, hle⟩
    clear hi hst hci hrest hys hle
    rintro m s' ⟨i, h, tk, dn, rest, rfl, rfl, hi, hst, hci, hrest, hys, hle⟩ E'
    have nc := it.live i h hst
    by_cases hlt : i < xs.length
    · have hdrop : xs.drop i = xs[i] :: xs.drop (i + 1) := List.drop_eq_getElem_cons hlt
      refine it.item i _ _ E' hlt hst (fun b o p d e => ?_) (fun l e => (pre (tk := tk) hci (mer hci)).fr l e) fun v h' tk' a ha ra k hm => ?_
      · exact hci.x b o (src.g.ne1 e (dat_ne d)) (src.g.ne2 e (dat_ne d)) p.2.2 e
      rw [List.getElem?_eq_getElem hlt] at ha
      cases ha
      have nm := it.liveM i v h' hm
      have hci1 := hci.wrote S k nc (fun b hb => let ⟨o, e, _⟩ := nm b hb; ⟨o, e⟩) hCw
      dsimp only
      refine it.go i v { s with heap := h', toks := tk' } _ E' hm fun h'' hst2 k2 => ?_
      have nl := it.live (i + 1) h'' hst2
      have hci2 := hci1.wrote S k2 nm (fun b hb => let ⟨o, e, _⟩ := nl b hb; ⟨o, e⟩) hCw
      have ra2 : Rel (cutR R h₂.objs.size wr) h'' xs[i] v := ra.mono (fun b => ⟨b, rfl⟩) rfl (fun _ p _ => p) fun b o (p : (cutR R h₂.objs.size wr).P b) _ e => k2 b o p.2.2 e
      rw [hdrop] at hrest
      unfold catO at hrest
      cases hf : stepF t cdv elv (mask fv 0 ρ) xs[i] with
      | none => rw [hf] at hrest; cases hrest
      | some b =>
        rw [hf] at hrest
        cases hr : catO (stepF t cdv elv (mask fv 0 ρ)) (xs.drop (i + 1)) with
        | none => rw [hr] at hrest; cases hrest
        | some rest' =>
          rw [hr] at hrest
          simp only [Option.some.injEq] at hrest
          subst hrest
          unfold stepF at hf
          cases hset : setT t xs[i] (mask fv 0 ρ) with
          | none => rw [hset] at hf; cases hf
          | some ρ' =>
            rw [hset] at hf
            dsimp only at hf
            refine tgt_ok (s := { s with heap := h'', toks := tk' }) rm.hd ok' ok'.inj nd (fun j hj => (wf.ix j hj).1) hci2.g hci2.sl (mer hci2) ra2 hset fun h3 tk3 k3 g3 er3 sl3 lv3 => ?_
            have hci3 := hci2.slot S k3 g3 sl3
            have hst3 : St (i + 1) h3 := it.frame _ _ _ hst2 fun b hb o e => k3 b o (fun ⟨j, hj, w⟩ => (fps b hb).2 j hj w) e
            cases hcv : cdv ρ' with
            | none => rw [hcv] at hf; cases hf
            | some ck =>
              rw [hcv] at hf
              refine hcd (cutR R h₂.objs.size wr) cenv { s with heap := h3, toks := tk3 } ρ' ck E' _ rfl ok' (pre hci3 er3) hcv fun h4 tk4 x4 g4 => ?_
              have hci4 := hci3.ext S g4 x4
              have hst4 : St (i + 1) h4 := it.frame _ _ _ hst3 fun b hb o e => x4 b o (src.hfp b hb).1 (src.hfp b hb).2.1 e
              cases ck with
              | false =>
                simp only [Option.some.injEq] at hf
                subst hf
                simp only [Bool.false_eq_true, if_false]
                exact ⟨xs.length - (i + 1), by omega, i + 1, h4, tk4, dn, rest', rfl, rfl, hlt, hst4, hci4, hr, by simpa using hys, by omega⟩
              | true =>
                simp only [if_true]
                cases hev : elv ρ' with
                | none => simp only [hev] at hf; cases hf
                | some r =>
                  simp only [hev, Option.some.injEq] at hf
                  subst hf
                  refine hel (cutR R h₂.objs.size wr) cenv { s with heap := h4, toks := tk4 } ρ' r E' _ rfl ok' (pre hci4 (er3.ext g3 x4)) hev fun u h5 tk5 x5 g5 ru => ?_
                  have hci5 := hci4.ext S g5 x5
                  have hst5 : St (i + 1) h5 := it.frame _ _ _ hst4 fun b hb o e => x5 b o (src.hfp b hb).1 (src.hfp b hb).2.1 e
                  obtain ⟨vs, hpl, hrl⟩ := hci5.acc
                  have hlen := hrl.length
                  refine wpAny_list_append_plain (l := h₂.objs.size) (items := vs.toArray) (x := u) hpl (fun h6 hp6 hs6 => ?_) (by rw [List.size_toArray]; omega)
                  have hp6' : PL h6 h₂.objs.size (vs ++ [u]) := by
                    obtain ⟨n6, e6⟩ := hp6
                    exact ⟨n6, by rw [e6, List.push_toArray]⟩
                  have hci6 := hci5.app S hrl ru hp6' hpl hs6
                  have hst6 : St (i + 1) h6 := it.frame _ _ _ hst5 fun b hb o e => hs6.extBut b o (fps b hb).1 e
                  exact ⟨xs.length - (i + 1), by omega, i + 1, h6, tk5, dn ++ [r], rest', rfl, rfl, hlt, hst6, hci6, hr, by rw [← hys]; simp, by simp; omega⟩
    · have hi' : i = xs.length := by omega
      subst hi'
      refine it.done _ _ E' hst fun h' tk' k => ?_
      dsimp only
      rw [List.drop_length] at hrest
      simp only [catO, Option.some.injEq] at hrest
      subst hrest
      rw [List.append_nil] at hys
      subst hys
      obtain ⟨vs, ⟨n, ha⟩, hrl⟩ := hci.acc
      obtain ⟨m, o, es, ep, e1, r1⟩ := hci.ns
      have gE : Good c h' := hci.g.own (W := (· ∈ wr)) S.wo (fun b o w e => let ⟨o', e', q⟩ := nc b w; by rw [e] at e'; cases e'; exact q) k
      refine fin _ _ h' tk' m (by rw [eL]; exact src.ext.none src.g (gone (Nat.le_succ _))) (fun b o n1 n2 e => k b o (fun mm => by rw [src.wn b mm] at e; cases e) (E1 hci b o n1 n2 e)) gE ?_ ⟨o, es, ep, k _ _ S.Cw e1, r1⟩
      unfold Rel
      refine ⟨h₂.objs.size, vs, rfl, P.fr _ (src.ext.none src.g (gone (Nat.le_refl _))), ⟨n, k _ _ S.aw ha⟩, hrl.mono (R := cutR R h₂.objs.size wr) (R' := R) (fun b => ⟨b, rfl⟩) rfl (fun _ p _ => p.1) fun b o (p : (cutR R h₂.objs.size wr).P b) _ e => k b o p.2.2 e, ?_⟩
      have : big = 1048576 := rfl
      omega
  have hci0 : CI c T cenv (relS sc' sc) (cutR R h₂.objs.size wr) t.ix wr h₂.objs.size h₂ [] h₃ := {
    g := src.g.keeps k3
    x := fun b o _ _ _ e => k3 b o e
    acc := ⟨[], ⟨0, by rw [← hh3]; exact pushCells_keeps _ _ _ _ (Heap.get?_push_of_some _ (Heap.get?_push_size _ rfl))⟩, RelL.nil⟩
    sl := ⟨fun i hi => (slot i hi).1, fun i hi => Own.fresh src.g (gone (Nat.le_trans (Nat.le_succ _) (slot i hi).2))⟩
    ns := by
      refine ⟨fun _ => none, ?_⟩
      rw [eL, ← hh3]
      have := Heap.Ns.new (h₂.push { cls := .type "list", data := .seq ([] : List Value).toArray }) (.type "dict")
      rw [hsz] at this
      exact this.keeps (pushCells_keeps _ _)
    ci := fun y a e => by
      by_cases q : (y, NameKind.cell) ∈ sc'.names
      · obtain ⟨a', e1, e2, _⟩ := own y q
        rw [e] at e1; cases e1; exact ⟨_, e2⟩
      · rw [nown y q] at e
        obtain ⟨v, hv⟩ := old y a e
        exact ⟨v, hv.keeps k3⟩
    lw := fun b hb => let ⟨o, e⟩ := src.ws b hb; ⟨o, k3 b o e⟩ }
  have hst0 : St 0 h₃ := it.frame _ _ _ src.hst fun b _ o e => k3 b o e
  have l0 := fun tk => loop 0 h₃ tk [] ys (Nat.zero_le _) hst0 hci0 (by simpa using hc) rfl (Nat.zero_le _)
  rw [← eL]
  exact codeAny_compStart_list (l0 _) (it.self 0 { s with heap := h₃, toks := tk₂ } _ _ hst0 (l0 _))
end
end Mine
end TextA15

section TextD1
open PySem PySem.W PyProof.Rows PySem.Calls PySem.Spec
namespace Mine
section
variable {c : Cx} {A : Around} {E : Value → Shared → Prop} {s : Shared}
theorem compTurn_outer (elt t1 i1 t2 i2 : Expr) (sc : Scope) (pos : Pos) (it acc : Value) (env : Env) :
    compTurn (.ListComp elt [⟨t1, i1, [], 0⟩, ⟨t2, i2, [], 0⟩] sc pos) 0 it acc env = (do
      standAt i1.pos
      match ← pyNext it with
      | none => pure (.done .next)
      | some v =>
        letOwnedTupleGo t1 it v
        assign t1 env v
        let x ← eval i2 env
        standAt i2.pos
        let x ← foldedSetIterable i2 env x
        let _ ← runOwn (.compStart (.ListComp elt [⟨t1, i1, [], 0⟩, ⟨t2, i2, [], 0⟩] sc pos) 1 (← holding [x] (pyIter x)) acc env) env
        again (.compLoop (.ListComp elt [⟨t1, i1, [], 0⟩, ⟨t2, i2, [], 0⟩] sc pos) 0 it acc env)) := by rfl
theorem compTurn_inner (elt t1 i1 t2 i2 : Expr) (sc : Scope) (pos : Pos) (it acc : Value) (env : Env) :
    compTurn (.ListComp elt [⟨t1, i1, [], 0⟩, ⟨t2, i2, [], 0⟩] sc pos) 1 it acc env = (do
      standAt i2.pos
      match ← pyNext it with
      | none => pure (.done .next)
      | some v =>
        letOwnedTupleGo t2 it v
        assign t2 env v
        (do let _ ← call (.builtin "list.append") [acc, ← eval elt env])
        again (.compLoop (.ListComp elt [⟨t1, i1, [], 0⟩, ⟨t2, i2, [], 0⟩] sc pos) 1 it acc env)) := by rfl
theorem compOuter_ok {elt t1 i1 t2 i2 : Expr} {scope : Scope} {pos : Pos} {it acc : Value} {env : Env} {RR : Result → Shared → Prop} (I : Nat → Shared → Prop) (hf : ∀ x, foldedSetIterable i2 env x = pure x)
    (turn : ∀ n s, I n s → ∀ E', wpAny (model c.prog c.w) A (pyNext it) (fun r s₁ => match r with
      | none => RR (.ok .next) s₁
      | some v => wpAny (model c.prog c.w) A (letOwnedTupleGo t1 it v) (fun _ s₁' => wpAny (model c.prog c.w) A (assign t1 env v) (fun _ s₂ =>
          wpAny (model c.prog c.w) A (eval i2 env) (fun x s₃ => wpAny (model c.prog c.w) A (pyIter x) (fun it2 s₄ =>
            ∀ Er : Value → Shared → Prop, codeAny (model c.prog c.w) A (.compStart (.ListComp elt [⟨t1, i1, [], 0⟩, ⟨t2, i2, [], 0⟩] scope pos) 1 it2 acc env) (fun r s₅ => match r with | .ok _ => ∃ m, m < n ∧ I m s₅ | .error e => Er e s₅) s₄) E' s₃) E' s₂) E' s₁') E' s₁) E' s)
    (n : Nat) (h : I n s) : codeAny (model c.prog c.w) A (.compLoop (.ListComp elt [⟨t1, i1, [], 0⟩, ⟨t2, i2, [], 0⟩] scope pos) 0 it acc env) RR s := by
  refine codeAny_loop rfl I (fun n s hI => ?_) n h
  show wpAny _ A ((compTurn (.ListComp elt [⟨t1, i1, [], 0⟩, ⟨t2, i2, [], 0⟩] scope pos) 0 it acc env).onRaise (fun x => do noteFrame x env; theTreesLotGoes x)) _ _ s
  refine wpAny_noted ?_
  rw [compTurn_outer]
  refine wpAny_bind (wpAny_standAt (wpAny_bind (wpAny_mono (turn n s hI _) (fun r s₁ h₁ => ?_) fun _ _ h' => h')))
  cases r with
  | none => exact wpAny_pure h₁
  | some v =>
    refine wpAny_bind (wpAny_mono h₁ (fun _ s₁' h₁' => ?_) fun _ _ h' => h')
    refine wpAny_bind (wpAny_mono h₁' (fun _ s₂ h₂ => ?_) fun _ _ h' => h')
    refine wpAny_bind (wpAny_mono h₂ (fun x s₃ h₃ => ?_) fun _ _ h' => h')
    refine wpAny_bind (wpAny_standAt (wpAny_bind (wpAny_of_eq (hf x) ?_)))
    refine wpAny_bind (wpAny_holding (wpAny_mono h₃ (fun it2 s₄ h₄ => ?_) fun _ _ h' => h'))
    exact wpAny_bind (wpAny_runOwn (codeAny_mono (h₄ _) fun r s₅ h₅ => by
      cases r with
      | ok f => exact wpAny_pure ⟨rfl, h₅⟩
      | error e => exact h₅))
theorem compInner_ok {elt t1 i1 t2 i2 : Expr} {scope : Scope} {pos : Pos} {it acc : Value} {env : Env} {RR : Result → Shared → Prop} (I : Nat → Shared → Prop)
    (turn : ∀ n s, I n s → ∀ E', wpAny (model c.prog c.w) A (pyNext it) (fun r s₁ => match r with
      | none => RR (.ok .next) s₁
      | some v => wpAny (model c.prog c.w) A (letOwnedTupleGo t2 it v) (fun _ s₁' => wpAny (model c.prog c.w) A (assign t2 env v) (fun _ s₂ =>
          wpAny (model c.prog c.w) A (eval elt env) (fun x s₃ => wpAny (model c.prog c.w) A (call (.builtin "list.append") [acc, x]) (fun _ s₅ => ∃ m, m < n ∧ I m s₅) E' s₃) E' s₂) E' s₁') E' s₁) E' s)
    (n : Nat) (h : I n s) : codeAny (model c.prog c.w) A (.compLoop (.ListComp elt [⟨t1, i1, [], 0⟩, ⟨t2, i2, [], 0⟩] scope pos) 1 it acc env) RR s := by
  refine codeAny_loop rfl I (fun n s hI => ?_) n h
  show wpAny _ A ((compTurn (.ListComp elt [⟨t1, i1, [], 0⟩, ⟨t2, i2, [], 0⟩] scope pos) 1 it acc env).onRaise (fun x => do noteFrame x env; theTreesLotGoes x)) _ _ s
  refine wpAny_noted ?_
  rw [compTurn_inner]
  refine wpAny_bind (wpAny_standAt (wpAny_bind (wpAny_mono (turn n s hI _) (fun r s₁ h₁ => ?_) fun _ _ h' => h')))
  cases r with
  | none => exact wpAny_pure h₁
  | some v =>
    refine wpAny_bind (wpAny_mono h₁ (fun _ s₁' h₁' => ?_) fun _ _ h' => h')
    refine wpAny_bind (wpAny_mono h₁' (fun _ s₂ h₂ => ?_) fun _ _ h' => h')
    exact wpAny_bind (wpAny_bind (wpAny_mono h₂ (fun x s₃ h₃ => wpAny_bind (wpAny_mono h₃ (fun _ s₅ h₅ => wpAny_pure (wpAny_pure ⟨rfl, h₅⟩)) fun _ _ h' => h')) fun _ _ h' => h'))
theorem compStart1_ok {elt t1 i1 t2 i2 : Expr} {scope : Scope} {pos : Pos} {it acc : Value} {env : Env} {RR : Result → Shared → Prop}
    (h0 : codeAny (model c.prog c.w) A (.compLoop (.ListComp elt [⟨t1, i1, [], 0⟩, ⟨t2, i2, [], 0⟩] scope pos) 1 it acc env) RR s)
    (h : ∀ E', wpAny (model c.prog c.w) A (pyIter it) (fun it' s' => codeAny (model c.prog c.w) A (.compLoop (.ListComp elt [⟨t1, i1, [], 0⟩, ⟨t2, i2, [], 0⟩] scope pos) 1 it' acc env) RR s') E' s) :
    codeAny (model c.prog c.w) A (.compStart (.ListComp elt [⟨t1, i1, [], 0⟩, ⟨t2, i2, [], 0⟩] scope pos) 1 it acc env) RR s := by
  refine codeAny_of_tree ?_
  show wpAny _ _ ((compStart (.ListComp elt [⟨t1, i1, [], 0⟩, ⟨t2, i2, [], 0⟩] scope pos) 1 it acc env).onRaise (fun x => do noteFrame x env; standAt theWindowsPlace)) _ _ s
  refine wpAny_notedAt ?_
  unfold compStart
  show wpAny _ _ (ask >>= _) _ _ s
  refine wpAny_bind (wpAny_askSetting (wpAny_ite ?_))
  split
  · first
      | exact wpAny_bind (wpAny_pure (wpAny_pure (And.intro rfl h0)))
      | exact wpAny_pure (And.intro rfl h0)
  · first
      | exact wpAny_bind (wpAny_rule (wpAny_bind (wpAny_standAt (wpAny_bind (wpAny_mono (h _) (fun it' s' h' => wpAny_pure (And.intro rfl h')) fun _ _ x => x)))))
      | (refine wpAny_bind (wpAny_rule ?_); show wpAny _ _ (standAt i2.pos >>= _) _ _ s; exact wpAny_bind (wpAny_standAt (wpAny_bind (wpAny_mono (h _) (fun it' s' h' => wpAny_pure (And.intro rfl h')) fun _ _ x => x))))
end
end Mine
end TextD1

section TextD2
open PySem PySem.W PyProof.Rows PySem.Calls PySem.Spec
namespace Mine
noncomputable def cut2 (R : RP) (wr : List Addr) : RP := { P := fun l => R.P l ∧ l ∉ wr, D := R.D, F := R.F, B := R.B }
section
variable {c : Cx} {A : Around} {E : Value → Shared → Prop} {s : Shared} {R : RP} {n : Nat} {env : Env} {sc : Scope} {T : Nms} {ρ : Sto} {μ : Option (List Int)}
variable {cenv : Env} {scR : Scope} {R1 : RP} {ix : List Nat} {wr wr2 : List Addr} {a₀ : Addr} {h₂ h3 h h' : Heap} {dn : List AV}
/-- what the inner iterator may not be -/
structure Off (c : Cx) (T : Nms) (cenv : Env) (scR : Scope) (ix : List Nat) (wr wr2 : List Addr) (a₀ : Addr) (h₂ : Heap) : Prop where
  a : a₀ ∉ wr2
  C : cenv.locals ∉ wr2
  cl : ∀ y a, cenv.cells.lookup y = some a → a ∉ wr2
  old : ∀ b o, b ∉ wr → h₂.get? b = some o → b ∉ wr2
  w : ∀ b ∈ wr, b ∉ wr2
  own : ∀ b ∈ wr2, Own c b
theorem CI.off (x : CI c T cenv scR R1 ix wr a₀ h₂ dn h3) (g : Good c h3) (wn : ∀ b ∈ wr2, h3.get? b = none) : Off c T cenv scR ix wr wr2 a₀ h₂ where
  a := fun m => by obtain ⟨_, ⟨_, e⟩, _⟩ := x.acc; rw [wn _ m] at e; cases e
  C := fun m => by obtain ⟨_, o, _, _, e, _⟩ := x.ns; rw [wn _ m] at e; cases e
  cl := fun y a e m => by obtain ⟨v, o, e', _⟩ := x.ci y a e; rw [wn _ m] at e'; cases e'
  old := fun b o nw e m => by
    have ow := Own.fresh g (wn b m)
    have := x.x b o ow.n1 ow.n2 nw e
    rw [wn b m] at this; cases this
  w := fun b hb m => by obtain ⟨o, e⟩ := x.lw b hb; rw [wn b m] at e; cases e
  own := fun b m => Own.fresh g (wn b m)
theorem CI.w2 (O : Off c T cenv scR ix wr wr2 a₀ h₂) (x : CI c T cenv scR (cut2 R1 wr2) ix wr a₀ h₂ dn h) (k : KB wr2 h h') (nc : ∀ b ∈ wr2, ∃ o, h.get? b = some o ∧ NotCode o) : CI c T cenv scR (cut2 R1 wr2) ix wr a₀ h₂ dn h' where
  g := x.g.own (W := (· ∈ wr2)) O.own (fun b o w e => let ⟨o', e', q⟩ := nc b w; by rw [e] at e'; cases e'; exact q) k
  x := fun b o n1 n2 n3 e => k b o (O.old b o n3 e) (x.x b o n1 n2 n3 e)
  acc := let ⟨vs, ⟨n, e⟩, r⟩ := x.acc; ⟨vs, ⟨n, k _ _ O.a e⟩, r.mono (fun b => ⟨b, rfl⟩) rfl (fun _ p _ => p) fun b o (p : (cut2 R1 wr2).P b) _ e => k b o p.2 e⟩
  sl := ⟨fun i hi => by
    rcases x.sl.at_ i hi with ⟨q, m, o, es, ep, e, r⟩ | ⟨q, cc, v, q2, o, e, d⟩
    · exact .inl ⟨q, m, o, es, ep, k _ _ O.C e, r⟩
    · exact .inr ⟨q, cc, v, q2, o, k _ _ (O.cl _ _ q2) e, d⟩, x.sl.own⟩
  ns := let ⟨m, o, es, ep, e, r⟩ := x.ns; ⟨m, o, es, ep, k _ _ O.C e, r⟩
  ci := fun y a e => let ⟨v, o, e1, d⟩ := x.ci y a e; ⟨v, o, k _ _ (O.cl _ _ e) e1, d⟩
  lw := fun b hb => let ⟨o, e⟩ := x.lw b hb; ⟨o, k b o (O.w b hb) e⟩
theorem er_w2 {nm : List Str} {ρ : Sto} (O : Off c T cenv scR ix wr wr2 a₀ h₂) (er : EnvR (cut2 R1 wr2) cenv h nm ρ) (k : KB wr2 h h') : EnvR (cut2 R1 wr2) cenv h' nm ρ := fun i a x e1 e2 => by
  obtain ⟨v, r, nv⟩ := er i a x e1 e2
  refine ⟨v, r.mono (fun b => ⟨b, rfl⟩) rfl (fun _ p _ => p) fun b o (p : (cut2 R1 wr2).P b) _ e => k b o p.2 e, ?_⟩
  rcases nv with ⟨q, m, ⟨o, es, ep, f1, f2⟩, e⟩ | ⟨q, cc, e, ⟨o, f1, f2⟩⟩
  · exact .inl ⟨q, m, ⟨o, es, ep, k _ _ O.C f1, f2⟩, e⟩
  · exact .inr ⟨q, cc, e, ⟨o, k _ _ (O.cl _ _ e) f1, f2⟩⟩
end
end Mine
end TextD2

section TextD3
open PySem PySem.W PyProof.Rows PySem.Calls PySem.Spec
namespace Mine
section
variable {c : Cx} {A : Around} {E : Value → Shared → Prop} {s : Shared} {R : RP} {n : Nat} {env : Env} {sc : Scope} {T : Nms} {ρ : Sto} {μ : Option (List Int)}
variable {cenv : Env} {scR : Scope} {R1 : RP} {wr : List Addr} {a₀ : Addr} {h₂ h3 h h' : Heap} {dn : List AV}
theorem CI.wid2 {ix : List Nat} {wr2 : List Addr} (x : CI c T cenv scR (cut2 R1 wr2) ix wr a₀ h₂ dn h) : CI c T cenv scR R1 ix wr a₀ h₂ dn h := { x with acc := let ⟨vs, p, r⟩ := x.acc; ⟨vs, p, r.mono (R := cut2 R1 wr2) (R' := R1) (fun b => ⟨b, rfl⟩) rfl (fun _ p _ => p.1) fun _ _ _ _ e => e⟩ }
theorem CS.cut {ix : List Nat} (S : CS c T cenv scR R1 ix wr a₀ h₂) (wr2 : List Addr) : CS c T cenv scR (cut2 R1 wr2) ix wr a₀ h₂ := { S with pa := fun l p => S.pa l p.1 }

theorem inner_ok {elt e1 e2 : Expr} {i1 i2 : Nat} {p1 p2 pos : Pos} {scope : Scope} {ys2 new : List AV} {elv : Sto → Option AV} {ρ1 : Sto} {K : Result → Shared → Prop} {SP : Heap → Prop} {fp : List Addr}
    {I2 : Addr} {h₂' : Heap} {tk₂ : Nat} {fp2 wr2 : List Addr} {St2 : Nat → Heap → Prop} {Mid2 : Nat → Value → Heap → Prop}
    (S : CS c T cenv scR R1 [i1, i2] wr a₀ h₂) (rm : Room A (n + 1)) (nd : nodupB T.nm = true) (lt2 : i2 < T.nm.length)
    (x3 : CI c T cenv scR R1 [i1, i2] wr a₀ h₂ dn h3) (er3 : EnvR R1 cenv h3 T.nm ρ1) (hn : ∀ a : AV, ρ1[i2]? ≠ some (some a)) (sp3 : SP h3)
    (src2 : SrcOk c A R1 ys2 (denT T (.one i2 p2)) h3 I2 h₂' fp2 wr2 St2 Mid2)
    (frame1 : ∀ h h', SP h → (∀ b ∈ fp, ∀ o, h.get? b = some o → h'.get? b = some o) → SP h')
    (hfp : ∀ b ∈ fp, b ≠ c.z1 ∧ b ≠ c.z2 ∧ b ≠ a₀ ∧ (∀ i ∈ [i1, i2], b ≠ slotOf cenv scR (nmOf T.nm i)) ∧ ∃ o, h3.get? b = some o)
    (hpre : ∀ {dn h tk ρ'}, CI c T cenv scR R1 [i1, i2] wr a₀ h₂ dn h → EnvR R1 cenv h T.nm ρ' → Pre c R1 cenv T.nm { s with heap := h, toks := tk } ρ' μ)
    (hel : ∀ (R' : RP) (s' : Shared) (ρ' : Sto) (r : AV) (E' : Value → Shared → Prop) (Q : Value → Shared → Prop), R'.F = R1.F → Pre c R' cenv T.nm s' ρ' μ → elv ρ' = some r → Post c R' s' r Q → wpAny (model c.prog c.w) A (eval elt cenv) Q E' s')
    (hc : catO (stepF (.one i2 p2) (fun _ => some true) elv ρ1) ys2 = some new) (hz : (dn ++ new).length ≤ 1000)
    (fin : ∀ h tk, SP h → CI c T cenv scR R1 [i1, i2] wr a₀ h₂ (dn ++ new) h → K (.ok .next) { s with heap := h, toks := tk }) :
    codeAny (model c.prog c.w) A (.compStart (.ListComp elt [⟨denT T (.one i1 p1), e1, [], 0⟩, ⟨denT T (.one i2 p2), e2, [], 0⟩] scope pos) 1 (.ref I2) (.ref a₀) cenv) K { s with heap := h₂', toks := tk₂ } := by
  have O := x3.off x3.g src2.wn
  have S2 := S.cut wr2
  have hsl : sizeLine = 16777216 := rfl
  have it2 := src2.it (cut2 R1 wr2) (fun b => ⟨b, rfl⟩) rfl (fun l p _ nw => ⟨p, nw⟩) (fun l m p => p.2 m)
  have fpw : ∀ b ∈ fp, b ∉ wr2 := fun b hb m => by obtain ⟨_, _, _, _, o, e⟩ := hfp b hb; rw [src2.wn b m] at e; cases e
  -- the start
  have x0 : CI c T cenv scR (cut2 R1 wr2) [i1, i2] wr a₀ h₂ dn h₂' := by
    have x := x3.ext S src2.g src2.ext
    obtain ⟨vs, hp, r⟩ := x3.acc
    exact { x with acc := ⟨vs, by obtain ⟨n, e⟩ := hp; exact ⟨n, src2.ext.dat x3.g (.inl ⟨_, _, rfl⟩) e⟩, r.mono (R := R1) (R' := cut2 R1 wr2) (fun b => ⟨b, rfl⟩) rfl (fun l p ⟨o, e, _⟩ => ⟨p, fun m => by rw [src2.wn l m] at e; cases e⟩) fun b o _ d e => src2.ext.dat x3.g d e⟩ }
  have fp2s : ∀ b ∈ fp2, b ≠ a₀ ∧ ∀ i ∈ [i1, i2], b ≠ slotOf cenv scR (nmOf T.nm i) := fun b hb => ⟨fun w => by
    rcases src2.hfq b hb with m | m
    · exact O.a (w ▸ m)
    · exact (S.pa b m).1 w, fun i hi w => by
    obtain ⟨o, e, d1, d2⟩ := src2.hfo b hb
    unfold slotOf at w
    rcases x0.sl.at_ i hi with ⟨q, m, o', es, ep, e', d, _⟩ | ⟨q, cc, v, q2, o', e', d⟩
    · rw [if_pos q] at w; rw [w, e'] at e; cases e; exact d1 _ _ d
    · rw [if_neg (by rw [q]; decide), q2] at w
      have w' : b = cc := w
      rw [w', e'] at e; cases e; exact d2 _ d⟩
  have er0 : EnvR (cut2 R1 wr2) cenv h₂' T.nm ρ1 := fun i a x e1 e2 => by
    obtain ⟨v, r, nv⟩ := er3 i a x e1 e2
    refine ⟨v, r.mono (R := R1) (R' := cut2 R1 wr2) (fun b => ⟨b, rfl⟩) rfl (fun l p ⟨o, e, _⟩ => ⟨p, fun m => by rw [src2.wn l m] at e; cases e⟩) fun b o _ d e => src2.ext.dat x3.g d e, ?_⟩
    rcases nv with ⟨q, m, hm, e⟩ | ⟨q, cc, e, hc⟩
    · exact .inl ⟨q, m, ns_ext src2.ext x3.g hm, e⟩
    · exact .inr ⟨q, cc, e, cell_ext src2.ext x3.g hc⟩
  have sp0 : SP h₂' := frame1 _ _ sp3 fun b hb o e => src2.ext b o (hfp b hb).1 (hfp b hb).2.1 e
  have loop : codeAny (model c.prog c.w) A (.compLoop (.ListComp elt [⟨denT T (.one i1 p1), e1, [], 0⟩, ⟨denT T (.one i2 p2), e2, [], 0⟩] scope pos) 1 (.ref I2) (.ref a₀) cenv) K { s with heap := h₂', toks := tk₂ } := by
    refine compInner_ok (fun m s' => ∃ k h tk dn' rest, m = ys2.length - k ∧ s' = { s with heap := h, toks := tk } ∧ k ≤ ys2.length ∧ St2 k h ∧ SP h ∧ CI c T cenv scR (cut2 R1 wr2) [i1, i2] wr a₀ h₂ dn' h ∧ EnvR (cut2 R1 wr2) cenv h T.nm ρ1 ∧
      (∀ b o, (cut2 R1 wr2).P b → IsDat o → h₂'.get? b = some o → h.get? b = some o) ∧
      catO (stepF (.one i2 p2) (fun _ => some true) elv ρ1) (ys2.drop k) = some rest ∧ dn' ++ rest = dn ++ new) ?_ ys2.length
      ⟨0, h₂', tk₂, dn, new, rfl, rfl, Nat.zero_le _, src2.hst, sp0, x0, er0, fun _ _ _ _ e => e, by simpa using hc, rfl⟩
    rintro m s' ⟨k, h, tk, dn', rest, rfl, rfl, hk, st, sp, x, er, dd, hrest, hys⟩ E'
    have nc := it2.live k h st
    by_cases hlt : k < ys2.length
    · have hdrop : ys2.drop k = ys2[k] :: ys2.drop (k + 1) := List.drop_eq_getElem_cons hlt
      have P0 := hpre (tk := tk) x.wid2 (fun i a y e1 e2 => let ⟨v, r, nv⟩ := er i a y e1 e2; ⟨v, r.mono (R := cut2 R1 wr2) (R' := R1) (fun b => ⟨b, rfl⟩) rfl (fun _ p _ => p.1) (fun _ _ _ _ e => e), nv⟩)
      refine it2.item k _ _ E' hlt st dd (fun l e => ⟨P0.fr l e, fun m => by obtain ⟨o, e', _⟩ := nc l m; rw [e'] at e; cases e⟩) fun v h1 tk1 a ha ra k1 hm => ?_
      rw [List.getElem?_eq_getElem hlt] at ha
      cases ha
      have nm := it2.liveM k v h1 hm
      have x1 := x.w2 O k1 nc
      have er1 := er_w2 O er k1
      dsimp only
      refine it2.go k v { s with heap := h1, toks := tk1 } _ E' hm fun h4 st4 k4 => ?_
      have x4 := x1.w2 O k4 nm
      have er4 := er_w2 O er1 k4
      have ra4 : Rel (cut2 R1 wr2) h4 ys2[k] v := ra.mono (fun b => ⟨b, rfl⟩) rfl (fun _ p _ => p) fun b o (p : (cut2 R1 wr2).P b) _ e => k4 b o p.2 e
      have dd4 : ∀ b o, (cut2 R1 wr2).P b → IsDat o → h₂'.get? b = some o → h4.get? b = some o := fun b o p d e => k4 b o p.2 (k1 b o p.2 (dd b o p d e))
      have sp4 : SP h4 := frame1 _ _ sp fun b hb o e => k4 b o (fpw b hb) (k1 b o (fpw b hb) e)
      rw [hdrop] at hrest
      unfold catO at hrest
      cases hf : stepF (.one i2 p2) (fun _ => some true) elv ρ1 ys2[k] with
      | none => rw [hf] at hrest; cases hrest
      | some b =>
        rw [hf] at hrest
        cases hr : catO (stepF (.one i2 p2) (fun _ => some true) elv ρ1) (ys2.drop (k + 1)) with
        | none => rw [hr] at hrest; cases hrest
        | some rest' =>
          rw [hr] at hrest
          simp only [Option.some.injEq] at hrest
          subst hrest
          unfold stepF at hf
          rw [show setT (.one i2 p2) ys2[k] ρ1 = if i2 < ρ1.length then some (ρ1.set i2 (some ys2[k])) else none from rfl] at hf
          split at hf
          · rename_i ρ2 hset
            split at hset
            · cases hset
              dsimp only at hf
              cases hev : elv (ρ1.set i2 (some ys2[k])) with
              | none => rw [hev] at hf; cases hf
              | some r =>
                rw [hev] at hf
                simp only [Option.some.injEq] at hf
                subst hf
                refine wpAny_assign_Name (store_ok (s := { s with heap := h4, toks := tk1 }) S.ok S.ok.inj x4.g (x4.sl.at_ i2 (by simp)) (x4.sl.own i2 (by simp)) er4 ra4 (nmOf_get lt2) (fun j e => nodupB_get nd (nmOf_get lt2) e) fun h5 tk5 k5 g5 er5 S5 lv5 => ?_)
                have sl5 : Slots c T cenv scR [i1, i2] h5 := ⟨fun i hi => SlotAt.other S.ok.inj (x4.sl.at_ i hi) (x4.sl.at_ i2 (by simp)) S5 k5, x4.sl.own⟩
                have k5' : KBP (fun b => ∃ i ∈ [i1, i2], b = slotOf cenv scR (nmOf T.nm i)) h4 h5 := fun b o nb e => k5 b o (fun w => nb ⟨i2, by simp, w⟩) e
                have x5 := x4.slot S2 k5' g5 sl5
                have st5 : St2 (k + 1) h5 := it2.frame _ _ _ st4 fun b hb o e => k5 b o (fun w => (fp2s b hb).2 i2 (by simp) w) e
                have sp5 : SP h5 := frame1 _ _ sp4 fun b hb o e => k5 b o (fun w => (hfp b hb).2.2.2.1 i2 (by simp) w) e
                have nc5 := it2.live (k + 1) h5 st5
                have P5 : Pre c (cut2 R1 wr2) cenv T.nm { s with heap := h5, toks := tk5 } (ρ1.set i2 (some ys2[k])) μ := by
                  have P := hpre (tk := tk5) x5.wid2 (ρ' := ρ1.set i2 (some ys2[k])) (fun i a y e1 e2 => let ⟨v, r, nv⟩ := er5 i a y e1 e2; ⟨v, r.mono (R := cut2 R1 wr2) (R' := R1) (fun b => ⟨b, rfl⟩) rfl (fun _ p _ => p.1) (fun _ _ _ _ e => e), nv⟩)
                  exact { g := P.g, er := er5, bx := P.bx, fr := fun l e => ⟨P.fr l e, fun m => by obtain ⟨o, e', _⟩ := nc5 l m; rw [show h5.get? l = none from e] at e'; cases e'⟩, pd := fun l p => P.pd l p.1, dl := P.dl, ff := P.ff, ci := P.ci }
                refine hel (cut2 R1 wr2) { s with heap := h5, toks := tk5 } _ r E' _ rfl P5 hev fun u h6 tk6 x56 g6 ru => ?_
                have x6 := x5.ext S2 g6 x56
                have st6 : St2 (k + 1) h6 := it2.frame _ _ _ st5 fun b hb o e => x56 b o (src2.hfp b hb).1 (src2.hfp b hb).2.1 e
                have sp6 : SP h6 := frame1 _ _ sp5 fun b hb o e => x56 b o (hfp b hb).1 (hfp b hb).2.1 e
                obtain ⟨vs, hpl, hrl⟩ := x6.acc
                have hlen := hrl.length
                have hl2 : dn'.length ≤ 1000 := by rw [← hys] at hz; simp at hz; omega
                refine wpAny_list_append_plain (l := a₀) (items := vs.toArray) hpl (fun h7 hp7 hs7 => ?_) (by rw [List.size_toArray]; omega)
                have hp7' : PL h7 a₀ (vs ++ [u]) := by obtain ⟨n7, e7⟩ := hp7; exact ⟨n7, by rw [e7, List.push_toArray]⟩
                have x7 := x6.app S2 hrl ru hp7' hpl hs7
                have st7 : St2 (k + 1) h7 := it2.frame _ _ _ st6 fun b hb o e => hs7.extBut b o (fp2s b hb).1 e
                have sp7 : SP h7 := frame1 _ _ sp6 fun b hb o e => hs7.extBut b o (hfp b hb).2.2.1 e
                have er6 : EnvR (cut2 R1 wr2) cenv h6 T.nm (ρ1.set i2 (some ys2[k])) := EnvR.ext er5 g5 x56
                have er7 : EnvR (cut2 R1 wr2) cenv h7 T.nm ρ1 := fun i a y e1 e2 => by
                  have hne : i ≠ i2 := fun w => hn a (w ▸ e1)
                  obtain ⟨v', r', nv⟩ := er6 i a y (by rw [List.getElem?_set_ne (Ne.symm hne)]; exact e1) e2
                  obtain ⟨n6, eA⟩ := hpl
                  refine ⟨v', r'.mono (fun b => ⟨b, rfl⟩) rfl (fun _ p _ => p) fun b o (p : (cut2 R1 wr2).P b) _ e => hs7.extBut b o (S2.pa b p).1 e, ?_⟩
                  rcases nv with ⟨q, m, hm, e⟩ | ⟨q, cc, e, hc⟩
                  · exact .inl ⟨q, m, hm.sameBut hs7 (fun w => by obtain ⟨o, _, _, f1, d, _⟩ := hm; rw [w, eA] at f1; cases f1; cases d), e⟩
                  · exact .inr ⟨q, cc, e, hc.sameBut hs7 (fun w => by obtain ⟨o, f1, d⟩ := hc; rw [w, eA] at f1; cases f1; cases d)⟩
                have dd7 : ∀ b o, (cut2 R1 wr2).P b → IsDat o → h₂'.get? b = some o → h7.get? b = some o := fun b o p d e => hs7.extBut b o (S2.pa b p).1 (x56.dat g5 d (k5 b o (fun w => ((x4.sl.at_ i2 (by simp)).nc b o w (dd4 b o p d e)).2 d) (dd4 b o p d e)))
                exact ⟨ys2.length - (k + 1), by omega, k + 1, h7, tk6, dn' ++ [r], rest', rfl, rfl, hlt, st7, sp7, x7, er7, dd7, hr, by rw [← hys]; simp⟩
            · cases hset
          · cases hf
    · have hk' : k = ys2.length := by omega
      subst hk'
      refine it2.done _ _ E' st fun h1 tk1 k1 => ?_
      dsimp only
      rw [List.drop_length] at hrest
      simp only [catO, Option.some.injEq] at hrest
      subst hrest
      rw [List.append_nil] at hys
      have x1 := x.w2 O k1 nc
      rw [hys] at x1
      exact fin h1 tk1 (frame1 _ _ sp fun b hb o e => k1 b o (fpw b hb) e) x1.wid2
  exact compStart1_ok loop fun E' => it2.self 0 { s with heap := h₂', toks := tk₂ } _ E' src2.hst loop
end
end Mine
end TextD3

section TextD4
open PySem PySem.W PyProof.Rows PySem.Calls PySem.Spec
namespace Mine
section
variable {c : Cx} {A : Around} {E : Value → Shared → Prop} {s : Shared} {R : RP} {n : Nat} {env : Env} {sc : Scope} {T : Nms} {ρ : Sto} {μ : Option (List Int)}
theorem comp2_core {elt e1 e2 : Expr} {i1 i2 : Nat} {p1 p2 : Pos} {sc' : Scope} {fv : List Nat} {pos : Pos} {xs ys : List AV} {srv : Sto → Option (List AV)} {elv : Sto → Option AV} {RR : Value → Addr → Result → Shared → Prop}
    {I : Addr} {h₂ : Heap} {tk₂ : Nat} {fp wr : List Addr} {St : Nat → Heap → Prop} {Mid : Nat → Value → Heap → Prop} {cl : List (Str × Addr)}
    (ok : EnvOk env sc) (P : Pre c R env T.nm s ρ μ) (rm : Room A (n + 1)) (wf : CompWf T.nm sc sc' (.one i1 p1) fv) (wf2 : CompWf T.nm sc sc' (.one i2 p2) fv) (ne : i1 ≠ i2) (nd : nodupB T.nm = true) (hf2 : ∀ env x, foldedSetIterable e2 env x = pure x)
    (hcl1 : ∀ x a, cl.lookup x = some a → env.cells.lookup x = some a) (hcl2 : ∀ x, (x, NameKind.free) ∈ sc'.names → ∃ a, cl.lookup x = some a)
    (src : SrcOk c A R xs (denT T (.one i1 p1)) s.heap I h₂ fp wr St Mid)
    (hsr : ∀ (R' : RP) (cenv : Env) (s' : Shared) (ρ' : Sto) (zs : List AV) (E' : Value → Shared → Prop) (Q : Value → Shared → Prop), R'.F = R.F → EnvOk cenv (relS sc' sc) → Pre c R' cenv T.nm s' ρ' μ → srv ρ' = some zs →
      (∀ it s₂, SrcP c A R' zs (denT T (.one i2 p2)) s' it s₂ → Q it s₂) → wpAny (model c.prog c.w) A (eval e2 cenv) (fun x s₁ => wpAny (model c.prog c.w) A (pyIter x) Q E' s₁) E' s')
    (hel : ∀ (R' : RP) (cenv : Env) (s' : Shared) (ρ' : Sto) (r : AV) (E' : Value → Shared → Prop) (Q : Value → Shared → Prop), R'.F = R.F → EnvOk cenv (relS sc' sc) → Pre c R' cenv T.nm s' ρ' μ → elv ρ' = some r → Post c R' s' r Q → wpAny (model c.prog c.w) A (eval elt cenv) Q E' s')
    (hc : catO (step2F (.one i1 p1) (.one i2 p2) srv elv (mask fv 0 ρ)) xs = some ys) (hz : ys.length ≤ 1000)
    (fin : ∀ acc C h tk m, s.heap.get? C = none → Ext c s.heap h → Good c h → Rel R h (.list ys) acc → h.Ns C m → RR acc C (.ok .next) { s with heap := h, toks := tk }) :
    wpAny (model c.prog c.w) A (newList []) (fun acc s₃ => wpAny (model c.prog c.w) A (newFunctionEnv sc' env.globals cl [] env.qual none .none (some env)) (fun cenv s₄ =>
      codeAny (model c.prog c.w) A (.compStart (.ListComp elt [⟨denT T (.one i1 p1), e1, [], 0⟩, ⟨denT T (.one i2 p2), e2, [], 0⟩] sc' pos) 0 (.ref I) acc { cenv with scope := relabel sc' env }) (RR acc cenv.locals) s₄) E s₃) E { s with heap := h₂, toks := tk₂ } := by
  have hIX : ∀ i ∈ [i1, i2], i < T.nm.length ∧ (sc'.names.lookup (nmOf T.nm i) = some .local ∨ sc'.names.lookup (nmOf T.nm i) = some .cell) := fun i hi => by
    simp at hi
    rcases hi with rfl | rfl
    · exact wf.ix i (by simp [Tg.ix])
    · exact wf2.ix i (by simp [Tg.ix])
  refine wpAny_newList ?_ (Nat.zero_le _)
  refine newComp_env ?_
  rw [relabel_eq ok]
  dsimp only
  have hsz : (h₂.push { cls := .type "list", data := .seq ([] : List Value).toArray }).objs.size = h₂.objs.size + 1 := Heap.size_push ..
  have hsz2 : ((h₂.push { cls := .type "list", data := .seq ([] : List Value).toArray }).push { cls := .type "dict", data := .dict #[] }).objs.size = h₂.objs.size + 1 + 1 := by rw [Heap.size_push, hsz]
  rw [hsz]
  generalize hcenv : ({ scope := relS sc' sc, locals := h₂.objs.size + 1, globals := env.globals, cells := cellsFrom (h₂.objs.size + 1 + 1) sc'.names cl, qual := env.qual, func := none, code := env.code, frame := env.frame, builtins := env.builtins } : Env) = cenv
  have eL : cenv.locals = h₂.objs.size + 1 := by rw [← hcenv]
  have eC : cenv.cells = cellsFrom (h₂.objs.size + 1 + 1) sc'.names cl := by rw [← hcenv]
  have gone : ∀ {a : Addr}, h₂.objs.size ≤ a → h₂.get? a = none := fun ha => Heap.get?_none_of_le ha
  have old : ∀ x a, cl.lookup x = some a → ∃ v, h₂.IsCell a v := fun x a e => let ⟨v, hv⟩ := P.ci x a (hcl1 x a e); ⟨v, cell_ext src.ext P.g hv⟩
  have oldlt : ∀ x a, cl.lookup x = some a → a < h₂.objs.size := fun x a e => let ⟨v, hv⟩ := old x a e; hv.lt
  generalize hh3 : pushCells ((h₂.push { cls := .type "list", data := .seq ([] : List Value).toArray }).push { cls := .type "dict", data := .dict #[] }) sc'.names = h₃
  have k3 : Keep h₂ h₃ := fun b o e => by rw [← hh3]; exact pushCells_keeps _ _ _ _ (Heap.get?_push_of_some _ (Heap.get?_push_of_some _ e))
  have own : ∀ x, (x, NameKind.cell) ∈ sc'.names → ∃ a, cenv.cells.lookup x = some a ∧ h₃.IsCell a none ∧ h₂.objs.size + 1 + 1 ≤ a := fun x m => by
    have := cells_own sc'.names ((h₂.push { cls := .type "list", data := .seq ([] : List Value).toArray }).push { cls := .type "dict", data := .dict #[] }) cl x m
    rw [hsz2, hh3, ← eC] at this; exact this
  have nown : ∀ x, (x, NameKind.cell) ∉ sc'.names → cenv.cells.lookup x = cl.lookup x := fun x m => by rw [eC]; exact cells_not _ _ _ _ m
  have hCw : ∀ y a, cenv.cells.lookup y = some a → a ∉ wr := fun y a e m => by
    obtain ⟨o, e2⟩ := src.ws a m
    by_cases q : (y, NameKind.cell) ∈ sc'.names
    · obtain ⟨a', e1, _, hle⟩ := own y q
      rw [e] at e1; cases e1
      rw [gone (Nat.le_trans (Nat.le_succ _) (Nat.le_trans (Nat.le_succ _) hle))] at e2; cases e2
    · rw [nown y q] at e
      obtain ⟨v, o', e3, _⟩ := P.ci y a (hcl1 y a e)
      rw [src.wn a m] at e3; cases e3
  have ok' : EnvOk cenv (relS sc' sc) := by
    refine ⟨by rw [← hcenv], wf.kind, ?_, ?_, by rw [← hcenv]; exact ok.gl, by rw [← hcenv]; exact ok.bl⟩
    · rw [eC]
      exact cells_inj _ _ _ (fun x y a e1 e2 => ok.inj x y a (hcl1 x a e1) (hcl1 y a e2)) fun x a e => Nat.lt_succ_of_lt (Nat.lt_succ_of_lt (oldlt x a e))
    · intro x hx
      by_cases q : (x, NameKind.cell) ∈ sc'.names
      · obtain ⟨a, e, _⟩ := own x q; exact ⟨a, e⟩
      · rw [nown x q]
        refine hcl2 x ?_
        rw [relS_lookup] at hx
        cases hl : sc'.names.lookup x with
        | none => rw [hl] at hx; simp at hx
        | some k =>
          have hm := mem_of_lookup hl
          cases k with
          | free => exact hm
          | cell => exact absurd hm q
          | _ => rw [hl] at hx; simp at hx
  have slot : ∀ i ∈ [i1, i2], SlotAt cenv (relS sc' sc) h₃ (nmOf T.nm i) ∧ h₂.objs.size + 1 ≤ slotOf cenv (relS sc' sc) (nmOf T.nm i) := fun i hi => by
    obtain ⟨_, hk⟩ := hIX i hi
    have hr := relS_target (sc := sc) hk
    rcases hk with hk | hk
    · have nsC : h₃.Ns cenv.locals fun _ => none := by
        rw [eL, ← hh3]
        have := Heap.Ns.new (h₂.push { cls := .type "list", data := .seq ([] : List Value).toArray }) (.type "dict")
        rw [hsz] at this
        exact this.keeps (pushCells_keeps _ _)
      refine ⟨.inl ⟨by rw [hr]; exact hk, _, nsC⟩, ?_⟩
      unfold slotOf; rw [if_pos (by rw [hr]; exact hk), eL]; exact Nat.le_refl _
    · obtain ⟨a, e1, e2, e3⟩ := own _ (mem_of_lookup hk)
      refine ⟨.inr ⟨by rw [hr]; exact hk, a, none, e1, e2⟩, ?_⟩
      unfold slotOf; rw [if_neg (by rw [hr, hk]; decide), e1]; exact Nat.le_trans (Nat.le_succ _) e3
  have S : CS c T cenv (relS sc' sc) (cutR R h₂.objs.size wr) [i1, i2] wr h₂.objs.size h₂ := {
    g := src.g
    pa := fun l p => p.2
    fa := gone (Nat.le_refl _)
    fC := by rw [eL]; exact gone (Nat.le_succ _)
    Ca := by rw [eL]; exact Nat.succ_ne_self _
    fs := fun i hi => ⟨gone (Nat.le_trans (Nat.le_succ _) (slot i hi).2), Nat.ne_of_gt (slot i hi).2⟩
    wo := fun b hb => Own.fresh P.g (src.wn b hb)
    ws := src.ws
    ok := ok' }
  have E1 : ∀ {dn h}, CI c T cenv (relS sc' sc) (cutR R h₂.objs.size wr) [i1, i2] wr h₂.objs.size h₂ dn h → Ext c s.heap h := fun x b o n1 n2 e =>
    x.x b o n1 n2 (fun m => by rw [src.wn b m] at e; cases e) (src.ext b o n1 n2 e)
  have it := src.it (cutR R h₂.objs.size wr) (fun b => ⟨b, rfl⟩) rfl (fun l p ⟨o, e⟩ nw => ⟨p, (fun q => by rw [q, gone (Nat.le_refl _)] at e; cases e), nw⟩) (fun l m p => p.2.2 m)
  have mer : ∀ {dn : List AV} {h : Heap}, CI c T cenv (relS sc' sc) (cutR R h₂.objs.size wr) [i1, i2] wr h₂.objs.size h₂ dn h →
      EnvR (cutR R h₂.objs.size wr) cenv h T.nm (mask fv 0 ρ) := fun {dn h} x i a y e1 e2 => by
    obtain ⟨m1, m2⟩ := mask_get fv ρ 0 i a e1
    rw [Nat.zero_add] at m1
    obtain ⟨w1, w2, w3, w4⟩ := wf.fv i m1
    have ey : y = nmOf T.nm i := by have := nmOf_get w1; rw [e2] at this; exact Option.some.inj this
    subst ey
    obtain ⟨v, rv, hv⟩ := P.er i a _ m2 e2
    have rel' : Rel (cutR R h₂.objs.size wr) _ a v := rv.mono (R := R) (R' := cutR R h₂.objs.size wr) (h' := h) (fun b => ⟨b, rfl⟩) rfl (fun l p ⟨o, e, hd⟩ => ⟨p, (fun q => by
      have := gone (Nat.le_refl h₂.objs.size)
      rw [← q, src.ext.dat P.g hd e] at this; cases this), (fun q => by rw [src.wn l q] at e; cases e)⟩) fun b o _ d e => (E1 x).dat P.g d e
    refine ⟨v, rel', .inr ?_⟩
    rcases hv with ⟨q1, _⟩ | ⟨q1, cc, q2, q3⟩
    · rw [kindOf_eq ok] at q1
      rcases wf.fre _ w2 with q | q <;> (rw [q] at q1; cases q1)
    · refine ⟨by rw [kindOf_eq ok']; exact relS_free w3, cc, ?_, cell_ext (E1 x) P.g q3⟩
      rw [nown _ w4]
      obtain ⟨a', ha'⟩ := hcl2 _ w2
      rw [ha']
      exact (hcl1 _ _ ha').symm.trans q2
  have pre : ∀ {dn h tk ρ'}, CI c T cenv (relS sc' sc) (cutR R h₂.objs.size wr) [i1, i2] wr h₂.objs.size h₂ dn h →
      EnvR (cutR R h₂.objs.size wr) cenv h T.nm ρ' →
      Pre c (cutR R h₂.objs.size wr) cenv T.nm { s with heap := h, toks := tk } ρ' μ := fun x er => {
    g := x.g
    er := er
    bx := fun ns e => P.bx.ext P.g (E1 x) ns e
    fr := fun l e => ⟨P.fr l ((E1 x).none x.g e), (fun q => by obtain ⟨_, ⟨_, ha⟩, _⟩ := x.acc; rw [q, ha] at e; cases e), (fun q => by obtain ⟨_, ha⟩ := x.lw l q; rw [ha] at e; cases e)⟩
    pd := fun l p => P.pd l p.1
    dl := dl_ext P.dl x.g (E1 x)
    ff := P.ff
    ci := x.ci }
  have fps : ∀ b ∈ fp, b ≠ h₂.objs.size ∧ ∀ i ∈ [i1, i2], b ≠ slotOf cenv (relS sc' sc) (nmOf T.nm i) := fun b hb =>
    ⟨Nat.ne_of_lt (src.hfp b hb).2.2.2, fun i hi => Nat.ne_of_lt (Nat.lt_of_lt_of_le (src.hfp b hb).2.2.2 (Nat.le_trans (Nat.le_succ _) (slot i hi).2))⟩
  have hz2 : sizeLine = 16777216 := rfl
  have fps3 : ∀ {dn h}, CI c T cenv (relS sc' sc) (cutR R h₂.objs.size wr) [i1, i2] wr h₂.objs.size h₂ dn h → ∀ b ∈ fp, ∃ o, h.get? b = some o := fun {dn h} x b hb => by
    by_cases m : b ∈ wr
    · exact x.lw b m
    · obtain ⟨o, e, _⟩ := src.hfo b hb
      exact ⟨o, x.x b o (src.hfp b hb).1 (src.hfp b hb).2.1 m e⟩
  have loop : ∀ (tk : Nat), (∀ (i : Nat) (h : Heap) (dn rest : List AV), i ≤ xs.length → St i h → CI c T cenv (relS sc' sc) (cutR R h₂.objs.size wr) [i1, i2] wr h₂.objs.size h₂ dn h → catO (step2F (.one i1 p1) (.one i2 p2) srv elv (mask fv 0 ρ)) (xs.drop i) = some rest → dn ++ rest = ys →
      codeAny (model c.prog c.w) A (.compLoop (.ListComp elt [⟨denT T (.one i1 p1), e1, [], 0⟩, ⟨denT T (.one i2 p2), e2, [], 0⟩] sc' pos) 0 (.ref I) (.ref h₂.objs.size) cenv) (RR (.ref h₂.objs.size) cenv.locals) { s with heap := h, toks := tk }) := by
    intro tk i h dn rest hi hst hci hrest hys
    refine compOuter_ok (fun m s' => ∃ i h tk dn rest, m = xs.length - i ∧ s' = { s with heap := h, toks := tk } ∧ i ≤ xs.length ∧ St i h ∧ CI c T cenv (relS sc' sc) (cutR R h₂.objs.size wr) [i1, i2] wr h₂.objs.size h₂ dn h ∧
      catO (step2F (.one i1 p1) (.one i2 p2) srv elv (mask fv 0 ρ)) (xs.drop i) = some rest ∧ dn ++ rest = ys) (hf2 cenv) ?_ (xs.length - i) ⟨i, h, tk, dn, rest, rfl, rfl, hi, hst, hci, hrest, hys⟩
    clear hi hst hci hrest hys
    rintro m s' ⟨i, h, tk, dn, rest, rfl, rfl, hi, hst, hci, hrest, hys⟩ E'
    have nc := it.live i h hst
    by_cases hlt : i < xs.length
    · have hdrop : xs.drop i = xs[i] :: xs.drop (i + 1) := List.drop_eq_getElem_cons hlt
      refine it.item i _ _ E' hlt hst (fun b o p d e => ?_) (fun l e => (pre (tk := tk) hci (mer hci)).fr l e) fun v h' tk' a ha ra k hm => ?_
      · exact hci.x b o (src.g.ne1 e (dat_ne d)) (src.g.ne2 e (dat_ne d)) p.2.2 e
      rw [List.getElem?_eq_getElem hlt] at ha
      cases ha
      have nm := it.liveM i v h' hm
      have hci1 := hci.wrote S k nc (fun b hb => let ⟨o, e, _⟩ := nm b hb; ⟨o, e⟩) hCw
      dsimp only
      refine it.go i v { s with heap := h', toks := tk' } _ E' hm fun h'' hst2 k2 => ?_
      have nl := it.live (i + 1) h'' hst2
      have hci2 := hci1.wrote S k2 nm (fun b hb => let ⟨o, e, _⟩ := nl b hb; ⟨o, e⟩) hCw
      have ra2 : Rel (cutR R h₂.objs.size wr) h'' xs[i] v := ra.mono (fun b => ⟨b, rfl⟩) rfl (fun _ p _ => p) fun b o (p : (cutR R h₂.objs.size wr).P b) _ e => k2 b o p.2.2 e
      rw [hdrop] at hrest
      unfold catO at hrest
      cases hf : step2F (.one i1 p1) (.one i2 p2) srv elv (mask fv 0 ρ) xs[i] with
      | none => rw [hf] at hrest; cases hrest
      | some new =>
        rw [hf] at hrest
        cases hr : catO (step2F (.one i1 p1) (.one i2 p2) srv elv (mask fv 0 ρ)) (xs.drop (i + 1)) with
        | none => rw [hr] at hrest; cases hrest
        | some rest' =>
          rw [hr] at hrest
          simp only [Option.some.injEq] at hrest
          subst hrest
          unfold step2F at hf
          rw [show setT (.one i1 p1) xs[i] (mask fv 0 ρ) = if i1 < (mask fv 0 ρ).length then some ((mask fv 0 ρ).set i1 (some xs[i])) else none from rfl] at hf
          split at hf
          · rename_i ρ1 hset
            split at hset
            · cases hset
              split at hf
              · rename_i zs hsv
                have l1 := (hIX i1 (by simp)).1
                refine wpAny_assign_Name (store_ok (s := { s with heap := h'', toks := tk' }) ok' ok'.inj hci2.g (hci2.sl.at_ i1 (by simp)) (hci2.sl.own i1 (by simp)) (mer hci2) ra2 (nmOf_get l1) (fun j e => nodupB_get nd (nmOf_get l1) e) fun h3 tk3 k3 g3 er3 S3 lv3 => ?_)
                have sl3 : Slots c T cenv (relS sc' sc) [i1, i2] h3 := ⟨fun j hj => SlotAt.other ok'.inj (hci2.sl.at_ j hj) (hci2.sl.at_ i1 (by simp)) S3 k3, hci2.sl.own⟩
                have hci3 := hci2.slot S (fun b o nb e => k3 b o (fun w => nb ⟨i1, by simp, w⟩) e) g3 sl3
                have hst3 : St (i + 1) h3 := it.frame _ _ _ hst2 fun b hb o e => k3 b o (fun w => (fps b hb).2 i1 (by simp) w) e
                have hn : ∀ a : AV, ((mask fv 0 ρ).set i1 (some xs[i]))[i2]? ≠ some (some a) := fun a e => by
                  rw [List.getElem?_set_ne ne] at e
                  obtain ⟨m1, _⟩ := mask_get fv ρ 0 i2 a e
                  rw [Nat.zero_add] at m1
                  obtain ⟨_, _, w3, _⟩ := wf2.fv i2 m1
                  rcases (hIX i2 (by simp)).2 with q | q <;> (rw [w3] at q; cases q)
                refine hsr (cutR R h₂.objs.size wr) cenv { s with heap := h3, toks := tk3 } _ zs E' _ rfl ok' (pre hci3 er3) hsv fun itv s₄ hsrc2 => ?_
                obtain ⟨I2, h₂', tk₂', fp2, wr2, St2, Mid2, rfl, rfl, src2⟩ := hsrc2
                intro Er
                refine inner_ok (SP := St (i + 1)) (fp := fp) S rm nd (hIX i2 (by simp)).1 hci3 er3 hn hst3 src2 (fun h h' => it.frame (i + 1) h h') (fun b hb => ⟨(src.hfp b hb).1, (src.hfp b hb).2.1, (fps b hb).1, (fps b hb).2, fps3 hci3 b hb⟩) (fun x er => pre x er)
                  (fun R' s' ρ' r E' Q hF P' hr hQ => hel R' cenv s' ρ' r E' Q hF ok' P' hr hQ) hf (by rw [← hys] at hz; simp at hz ⊢; omega) fun h6 tk6 st6 x6 => ?_
                exact ⟨xs.length - (i + 1), by omega, i + 1, h6, tk6, dn ++ new, rest', rfl, rfl, hlt, st6, x6, hr, by rw [← hys]; simp⟩
              · cases hf
            · cases hset
          · cases hf
    · have hi' : i = xs.length := by omega
      subst hi'
      refine it.done _ _ E' hst fun h' tk' k => ?_
      dsimp only
      rw [List.drop_length] at hrest
      simp only [catO, Option.some.injEq] at hrest
      subst hrest
      rw [List.append_nil] at hys
      subst hys
      obtain ⟨vs, ⟨n, ha⟩, hrl⟩ := hci.acc
      obtain ⟨m, o, es, ep, e1, r1⟩ := hci.ns
      have gE : Good c h' := hci.g.own (W := (· ∈ wr)) S.wo (fun b o w e => let ⟨o', e', q⟩ := nc b w; by rw [e] at e'; cases e'; exact q) k
      refine fin _ _ h' tk' m (by rw [eL]; exact src.ext.none src.g (gone (Nat.le_succ _))) (fun b o n1 n2 e => k b o (fun mm => by rw [src.wn b mm] at e; cases e) (E1 hci b o n1 n2 e)) gE ?_ ⟨o, es, ep, k _ _ S.Cw e1, r1⟩
      unfold Rel
      refine ⟨h₂.objs.size, vs, rfl, P.fr _ (src.ext.none src.g (gone (Nat.le_refl _))), ⟨n, k _ _ S.aw ha⟩, hrl.mono (R := cutR R h₂.objs.size wr) (R' := R) (fun b => ⟨b, rfl⟩) rfl (fun _ p _ => p.1) fun b o (p : (cutR R h₂.objs.size wr).P b) _ e => k b o p.2.2 e, ?_⟩
      have : big = 1048576 := rfl
      omega
  have hci0 : CI c T cenv (relS sc' sc) (cutR R h₂.objs.size wr) [i1, i2] wr h₂.objs.size h₂ [] h₃ := {
    g := src.g.keeps k3
    x := fun b o _ _ _ e => k3 b o e
    acc := ⟨[], ⟨0, by rw [← hh3]; exact pushCells_keeps _ _ _ _ (Heap.get?_push_of_some _ (Heap.get?_push_size _ rfl))⟩, RelL.nil⟩
    sl := ⟨fun i hi => (slot i hi).1, fun i hi => Own.fresh src.g (gone (Nat.le_trans (Nat.le_succ _) (slot i hi).2))⟩
    ns := by
      refine ⟨fun _ => none, ?_⟩
      rw [eL, ← hh3]
      have := Heap.Ns.new (h₂.push { cls := .type "list", data := .seq ([] : List Value).toArray }) (.type "dict")
      rw [hsz] at this
      exact this.keeps (pushCells_keeps _ _)
    ci := fun y a e => by
      by_cases q : (y, NameKind.cell) ∈ sc'.names
      · obtain ⟨a', e1, e2, _⟩ := own y q
        rw [e] at e1; cases e1; exact ⟨_, e2⟩
      · rw [nown y q] at e
        obtain ⟨v, hv⟩ := old y a e
        exact ⟨v, hv.keeps k3⟩
    lw := fun b hb => let ⟨o, e⟩ := src.ws b hb; ⟨o, k3 b o e⟩ }
  have hst0 : St 0 h₃ := it.frame _ _ _ src.hst fun b _ o e => k3 b o e
  have l0 := fun tk => loop tk 0 h₃ [] ys (Nat.zero_le _) hst0 hci0 (by simpa using hc) rfl
  rw [← eL]
  exact codeAny_compStart_list (l0 _) (it.self 0 { s with heap := h₃, toks := tk₂ } _ _ hst0 (l0 _))
end
end Mine
end TextD4

section TextA16
open PySem PySem.W PyProof.Rows PySem.Calls PySem.Spec
namespace Mine
noncomputable def srcWf : Tg → X → Bool
  | .one .., .blt .range .. => true
  | .one .., .blt .rev .. => true
  | .two .., .blt .enum .. => true
  | _, .var .. => true
  | _, _ => false
noncomputable def globB (sc : Scope) (x : Str) : Bool := okName x && decide (sc.names.lookup x = some .globalImplicit)
noncomputable def isCst : X → Bool
  | .cst .. => true
  | _ => false
noncomputable def argForm : X → Bool
  | .nil => true
  | .cons a t => isCst a && isNil t
  | _ => false
noncomputable def oneDiff : Tg → Tg → Bool
  | .one i _, .one j _ => decide (i ≠ j)
  | _, _ => false
theorem isNil_inv {as : X} (h : isNil as = true) : as = .nil := by cases as <;> first | rfl | exact Bool.noConfusion h
theorem isCst_inv {as : X} (h : isCst as = true) : ∃ c k p, as = .cst c k p := by cases as <;> first | exact ⟨_, _, _, rfl⟩ | exact Bool.noConfusion h
theorem argForm_inv {as : X} (h : argForm as = true) : as = .nil ∨ ∃ c k p, as = .cons (.cst c k p) .nil := by
  cases as <;> first | exact .inl rfl | exact Bool.noConfusion h | skip
  rename_i a t
  have h : (isCst a && isNil t) = true := h
  obtain ⟨c, k, p, rfl⟩ := isCst_inv (Bool.and_eq_true_iff.mp h).1
  obtain rfl := isNil_inv (Bool.and_eq_true_iff.mp h).2
  exact .inr ⟨c, k, p, rfl⟩
noncomputable def wfX (T : Nms) : Scope → X → Bool
  | _, .cst .. => true
  | _, .var i _ => decide (i < T.nm.length) && okName (nmOf T.nm i)
  | sc, .gcs i _ => decide (i < T.gc.length) && globB sc (nmOf T.gc i)
  | sc, .gfn i _ => decide (i < T.gf.length) && globB sc (nmOf T.gf i)
  | sc, .bin _ l r _ => wfX T sc l && wfX T sc r
  | sc, .neg e _ => wfX T sc e
  | sc, .cmp _ l r _ => wfX T sc l && wfX T sc r
  | sc, .bor l r _ => wfX T sc l && wfX T sc r
  | sc, .ban a b c _ => wfX T sc a && wfX T sc b && wfX T sc c
  | sc, .not e _ => wfX T sc e
  | sc, .ife t b o _ => wfX T sc t && wfX T sc b && wfX T sc o
  | sc, .idx e i _ => wfX T sc e && wfX T sc i
  | sc, .sli e a b d _ _ => wfX T sc e && wfX T sc a && wfX T sc b && wfX T sc d
  | sc, .lst es _ => wfX T sc es
  | sc, .tup es _ _ => wfX T sc es
  | sc, .com elt t it cnd sc' fv _ => compWf T.nm sc sc' t fv && srcWf t it && wfX T sc it && wfX T (relS sc' sc) elt && wfX T (relS sc' sc) cnd
  | sc, .com2 elt t it t2 it2 sc' fv _ => oneDiff t t2 && compWf T.nm sc sc' t fv && compWf T.nm sc sc' t2 fv && srcWf t it && srcWf t2 it2 && wfX T sc it && wfX T (relS sc' sc) elt && wfX T (relS sc' sc) it2
  | sc, .cal f as _ => wfX T sc f && wfX T sc as
  | sc, .blt b _ as _ => decide (sc.names.lookup b.name = some .globalImplicit) && wfX T sc as
  | sc, .met _ o q as pos => isVar o && wfX T sc o && wfX T sc as && (q.endLine == pos.line) && argForm as
  | _, .nil => true
  | sc, .cons h t => wfX T sc h && wfX T sc t

section
variable {c : Cx} {A : Around} {E : Value → Shared → Prop} {s : Shared} {R : RP} {n : Nat} {env : Env} {sc : Scope} {T : Nms} {G : Env0} {ρ : Sto} {μ : Option (List Int)}
theorem starEach_cons (e : X) (es : List Expr) (env : Env) : starEach (den T e :: es) env = (false, eval (den T e) env) :: starEach es env := by cases e <;> rfl
theorem backTo_cons (pos : Pos) (t : Sem Value) (r : List (Bool × Sem Value)) : backTo pos ((false, t) :: r) = (false, t) :: backTo pos r := rfl
theorem noStar (pos : Pos) (env : Env) : ∀ es : X, (backTo pos (starEach (denL T es) env)).any (·.1) = false
  | .cons h t => by
    show (backTo pos (starEach (den T h :: denL T t) env)).any _ = false
    rw [starEach_cons, backTo_cons, List.any_cons, noStar pos env t]; rfl
  | .nil => rfl
  | .cst .. => rfl | .var .. => rfl | .gcs .. => rfl | .gfn .. => rfl | .bin .. => rfl | .neg .. => rfl | .cmp .. => rfl | .bor .. => rfl | .ban .. => rfl | .not .. => rfl | .ife .. => rfl | .idx .. => rfl | .sli .. => rfl | .lst .. => rfl | .tup .. => rfl
  | .com .. => rfl | .com2 .. => rfl | .cal .. => rfl | .blt .. => rfl | .met .. => rfl
theorem marks (op : CmpOp) (e : X) : behindInMarks op (den T e) = false := by cases e <;> rfl
theorem folded (e : X) (env : Env) (x : Value) : foldedSetIterable (den T e) env x = pure x := by cases e <;> rfl
noncomputable def isSlice : Expr → Bool
  | .Slice .. => true
  | _ => false
theorem notSlice (e : X) (a b d : Option Expr) (q : Pos) : den T e ≠ .Slice a b d q := fun h => by
  have h2 : isSlice (den T e) = true := congrArg isSlice h
  have h3 : isSlice (den T e) = false := by cases e <;> rfl
  rw [h3] at h2; cases h2

noncomputable def PostL (c : Cx) (R : RP) (s : Shared) (r : List AV) (Q : List Value → Shared → Prop) : Prop :=
  ∀ vs h' tk, Ext c s.heap h' → Good c h' → RelL R h' r vs → Q vs { s with heap := h', toks := tk }
noncomputable def PostB (c : Cx) (s : Shared) (b : Bool) (Q : Bool → Shared → Prop) : Prop := ∀ h' tk, Ext c s.heap h' → Good c h' → Q b { s with heap := h', toks := tk }

/-- the arguments of a call -/
theorem args_ok {es : X} {pos : Pos} {f : Value} {first : List Value} {K : Heap → Prop} {Q : Value → Shared → Prop} {M : Model} (hk : ∀ h, K h → ∃ k, (k = Keeper.frame ∨ k = Keeper.machine ∨ k = Keeper.boundFrame) ∧ Looks M h (keeperOf f) k)
    (h : wpAny M A (spliced (backTo pos (starEach (denL T es) env))) (fun vs s₁ => K s₁.heap ∧ wpAny M A (call f (first ++ vs)) Q E s₁) E s) : wpAny M A (callWith pos f first (backTo pos (starEach (denL T es) env)) []) Q E s := by
  refine callWith_of (by rw [noStar]; rfl) hk ?_
  have : (∃ x r, backTo pos (starEach (denL T es) env) = (false, x) :: r) ∨ backTo pos (starEach (denL T es) env) = [] := by
    cases es with
    | cons a b => left; show ∃ x r, backTo pos (starEach (den T a :: denL T b) env) = _; rw [starEach_cons, backTo_cons]; exact ⟨_, _, rfl⟩
    | _ => exact .inr rfl
  rcases this with ⟨x, r, e⟩ | e
  · rw [e] at h ⊢; exact evalArgs_plain h
  · rw [e] at h ⊢
    unfold evalArgs
    show wpAny M A (spliced [] >>= _) _ E s
    refine wpAny_bind (wpAny_mono h (fun vs s₁ h₁ => ?_) fun _ _ x => x)
    refine wpAny_bind (wpAny_pure ?_)
    refine wpAny_holding ?_
    exact wpAny_bind (wpAny_pure (wpAny_bind (wpAny_pure (wpAny_pure h₁))))
end
end Mine
end TextA16

section TextA17
open PySem PySem.W PyProof.Rows PySem.Calls PySem.Spec
namespace Mine
section
variable {c : Cx} {A : Around} {E : Value → Shared → Prop} {s : Shared} {R : RP} {n : Nat} {env : Env} {sc : Scope} {T : Nms} {G : Env0} {ρ : Sto} {μ : Option (List Int)}
theorem Post.after {r : AV} {Q : Value → Shared → Prop} (p : Post c R s r Q) {h1 : Heap} {tk1 : Nat} (x : Ext c s.heap h1) : Post c R { s with heap := h1, toks := tk1 } r Q := fun v h' tk x' g r => p v h' tk (x.trans x') g r
theorem PostL.after {r : List AV} {Q : List Value → Shared → Prop} (p : PostL c R s r Q) {h1 : Heap} {tk1 : Nat} (x : Ext c s.heap h1) : PostL c R { s with heap := h1, toks := tk1 } r Q := fun v h' tk x' g r => p v h' tk (x.trans x') g r
theorem PostB.after {r : Bool} {Q : Bool → Shared → Prop} (p : PostB c s r Q) {h1 : Heap} {tk1 : Nat} (x : Ext c s.heap h1) : PostB c { s with heap := h1, toks := tk1 } r Q := fun h' tk x' g => p h' tk (x.trans x') g
theorem SrcP.after {xs : List AV} {tgt : Expr} {it : Value} {s₂ : Shared} {h1 : Heap} {tk1 : Nat} (x : Ext c s.heap h1) (g1 : Good c h1) (q : SrcP c A R xs tgt { s with heap := h1, toks := tk1 } it s₂) : SrcP c A R xs tgt s it s₂ := by
  obtain ⟨I, h₂, tk, fp, wr, St, Mid, e1, e2, o⟩ := q
  exact ⟨I, h₂, tk, fp, wr, St, Mid, e1, e2, x.trans o.ext, o.g, fun b hb => x.none g1 (o.wn b hb), o.ws, o.hfp, o.hfo, o.hfq, o.hst, o.it⟩
theorem PostB.now {b : Bool} {Q : Bool → Shared → Prop} (p : PostB c s b Q) (g : Good c s.heap) (tk : Nat) : Q b { s with toks := tk } := p s.heap tk (Ext.refl _ _) g
theorem Room.weak (r : Room A (n + 1)) : Room A n := ⟨r.hd, by have := r.dp; omega, by have := r.un; omega⟩
theorem part_ok {x : X} {Q : Value → Shared → Prop} {M : Model} (ih : isNil x = false → wpAny M A (eval (den T x) env) Q E s) (hn : isNil x = true → Q .none s) : wpAny M A (evalPart (if isNil x then none else some (den T x)) env) Q E s := by
  cases h : isNil x with
  | true => exact evalPart_none_step (hn h)
  | false => exact evalPart_some_step (ih h)
theorem nil_ev {x : X} {a : AV} (hn : isNil x = true) (h : ev G μ x ρ = some a) : a = .none := by
  cases x <;> first | (cases hn; done) | exact (Option.some.inj h).symm
theorem isTrue_other {e : X} {whole : Sem Value} {env : Env} (h : match e with | .not .. => False | .bor .. => False | .ban .. => False | .ife .. => False | .cmp .. => False | _ => True) :
    PySem.isTrue (den T e) env whole = (do let v ← whole; standAt (den T e).pos; holding [v] (truthy v)) := by
  cases e <;> first | rfl | exact h.elim
theorem bltx_ok {b : Blt} {l : List AV} {vs : List Value} {r : AV} {Q : Value → Shared → Prop} (rm : Room A (n + 1)) (h : evBx μ b l = some r) (P : Pre c R env T.nm s ρ μ) (x : RelL R s.heap l vs)
    (p : Post c R s r Q) : wpAny (model c.prog c.w) A (call b.val vs) Q E s := by
  cases b with
  | len =>
    replace h := one1S h
    obtain ⟨a, rfl, h⟩ := h
    have gen : lenOf a = some r → wpAny (model c.prog c.w) A (call Blt.len.val vs) Q E s := fun q => blt_ok (b := .len) (l := [a]) rm q P.g P.fr x p
    cases a <;> first | exact gen h | skip
    obtain ⟨v, rfl, y⟩ := x.inv1
    unfold Rel at y
    obtain ⟨_, rfl⟩ := y
    obtain ⟨l, e, rfl⟩ := mapS h
    obtain ⟨ws, hl, hi, z⟩ := P.bx l e
    have e := IntsAre.length hi
    have hb : big = 1048576 := rfl
    refine call_len_list hl.isList (by rw [List.size_toArray]; omega) ?_
    rw [List.size_toArray, e]
    exact p.int P.g _ _
  | _ => exact blt_ok rm h P.g P.fr x p
theorem keepM {M : Model} (v : Value) (h : ∀ a, v ≠ .ref a) : ∀ h, True → ∃ k, (k = Keeper.frame ∨ k = Keeper.machine ∨ k = Keeper.boundFrame) ∧ Looks M h (keeperOf v) k := fun _ _ =>
  ⟨.machine, .inr (.inl rfl), Looks.of_pure (by cases v <;> first | rfl | exact absurd rfl (h _))⟩

theorem range_is {l : List AV} {a : AV} (h : evB .range l = some a) : ∃ a' b' c', a = .range a' b' c' := by
  rcases l with _ | ⟨x, _ | ⟨y, _ | ⟨z, _ | ⟨e, l⟩⟩⟩⟩
  · exact noS h
  · obtain ⟨i, q, h⟩ := bindS (x := iv x) h
    cases h; exact ⟨_, _, _, rfl⟩
  · obtain ⟨i, q, h⟩ := bindS (x := iv x) h
    obtain ⟨i, q, h⟩ := bindS (x := iv y) h
    cases h; exact ⟨_, _, _, rfl⟩
  · obtain ⟨i, q, h⟩ := bindS (x := iv x) h
    obtain ⟨i, q, h⟩ := bindS (x := iv y) h
    obtain ⟨i, q, h⟩ := bindS (x := iv z) h
    obtain ⟨_, rfl⟩ := ifS h
    exact ⟨_, _, _, rfl⟩
  · exact noS h
theorem met_eq {x name : Str} {p q pos : Pos} {env : Env} {args : List Expr} (hq : (q.endLine == pos.line) = true) (hf : methodCallForm args.length (backTo pos (starEach args env)) (backToKw pos (keywordEach [] env)) = true) :
    ∃ pl : Sem Bool, eval (.Call (.Attribute (.Name x p) name q) args [] pos) env = (do
      let ov ← eval (.Name x p) env
      standAt q.atName
      let (f, first) ← holding [ov] (getMethod ov name pl)
      callWith pos f first (backTo pos (starEach args env)) (backToKw pos (keywordEach [] env))) := by
  refine ⟨(do return (← importBound (.Name x p) env).getD true), ?_⟩
  show (do
    let ov ← eval (.Name x p) env
    standAt q.atName
    methodCall (.Name x p) name q pos env ov (args.length + 0) (backTo pos (starEach args env)) (backToKw pos (keywordEach [] env))) = _
  unfold methodCall methodCallPos calleeOf
  rw [Nat.add_zero, hf, hq]
  simp only [if_true, Bool.not_true, Bool.false_or, pure_bind]

theorem comp_ok {elt iter : Expr} {ifs : List Expr} {t : Tg} {sc' : Scope} {fv : List Nat} {pos : Pos} {xs ys : List AV} {cdv : Sto → Option Bool} {elv : Sto → Option AV} {Q : Value → Shared → Prop}
    (ok : EnvOk env sc) (P : Pre c R env T.nm s ρ μ) (rm : Room A (n + 1)) (wf : CompWf T.nm sc sc' t fv) (nd : nodupB T.nm = true) (hfs : ∀ x, foldedSetIterable iter env x = pure x)
    (hsrc : ∀ (Q : Value → Shared → Prop), (∀ it s₂, SrcP c A R xs (denT T t) s it s₂ → Q it s₂) → wpAny (model c.prog c.w) A (eval iter env) (fun x s₁ => wpAny (model c.prog c.w) A (pyIter x) Q E s₁) E s)
    (hcd : ∀ (R' : RP) (cenv : Env) (s' : Shared) (ρ' : Sto) (b : Bool) (E' : Value → Shared → Prop) (Q : Bool → Shared → Prop), R'.F = R.F → EnvOk cenv (relS sc' sc) → Pre c R' cenv T.nm s' ρ' μ → cdv ρ' = some b →
      (∀ h' tk, Ext c s'.heap h' → Good c h' → Q b { s' with heap := h', toks := tk }) → wpAny (model c.prog c.w) A (forIn ifs true fun c r => if r = true then do let ok ← isTrue c cenv (eval c cenv); pure (ForInStep.yield ok) else pure (ForInStep.yield r)) Q E' s')
    (hel : ∀ (R' : RP) (cenv : Env) (s' : Shared) (ρ' : Sto) (r : AV) (E' : Value → Shared → Prop) (Q : Value → Shared → Prop), R'.F = R.F → EnvOk cenv (relS sc' sc) → Pre c R' cenv T.nm s' ρ' μ → elv ρ' = some r → Post c R' s' r Q → wpAny (model c.prog c.w) A (eval elt cenv) Q E' s')
    (hc : catO (stepF t cdv elv (mask fv 0 ρ)) xs = some ys) (hz : xs.length ≤ 1000) (p : Post c R s (.list ys) Q) :
    wpAny (model c.prog c.w) A (eval (.ListComp elt [⟨denT T t, iter, ifs, 0⟩] sc' pos) env) Q E s := by
  obtain ⟨cl, hcl, hcl1, hcl2⟩ := closure_ok (env := env) (scope := sc') fun x m => ok.cel x (wf.fre x m)
  rw [eval_ListComp]
  refine wpAny_comprehension_free (use := none) rfl hfs hcl wf.kind (fun x m e => wf.loc x.1 (by rw [← e]; exact m)) ?_
  refine hsrc _ fun it s₂ h => ?_
  obtain ⟨I, h₂, tk, fp, wr, St, Mid, rfl, rfl, src⟩ := h
  refine comp_core (RR := fun acc C => compPost (model c.prog c.w) A E none Q acc C) ok P rm wf nd hcl1 (fun x m => hcl2 x m) src hcd hel hc hz fun acc C h tk m hC x g r hm => ?_
  refine ⟨m, hm, fun h' hs => ?_⟩
  have own : Own c C := Own.fresh P.g hC
  have kk : KBP (· = C) h h' := fun b o nb e => hs.extBut b o nb e
  obtain ⟨o, es, ep, e1, d1, _⟩ := hm
  refine p acc h' tk (fun b o n1 n2 e => kk b o (fun w => by rw [w, hC] at e; cases e) (x b o n1 n2 e)) (g.own (W := (· = C)) (fun b w => w ▸ own) (fun b o w e => by rw [w, e1] at e; cases e; exact nc_dict d1) kk) (r.mono (fun b => ⟨b, rfl⟩) rfl (fun _ p _ => p) fun b o _ d e => kk b o (fun w => ?_) e)
  rw [w, e1] at e; cases e
  rcases d with ⟨_, _, d⟩ | ⟨_, _, d⟩ | ⟨_, d⟩ <;> (rw [d1] at d; cases d)
theorem comp2_ok {elt iter e2 : Expr} {i1 i2 : Nat} {p1 p2 : Pos} {sc' : Scope} {fv : List Nat} {pos : Pos} {xs ys : List AV} {srv : Sto → Option (List AV)} {elv : Sto → Option AV} {Q : Value → Shared → Prop}
    (ok : EnvOk env sc) (P : Pre c R env T.nm s ρ μ) (rm : Room A (n + 1)) (wf : CompWf T.nm sc sc' (.one i1 p1) fv) (wf2 : CompWf T.nm sc sc' (.one i2 p2) fv) (ne : i1 ≠ i2) (hf2 : ∀ env x, foldedSetIterable e2 env x = pure x) (nd : nodupB T.nm = true) (hfs : ∀ x, foldedSetIterable iter env x = pure x)
    (hsrc : ∀ (Q : Value → Shared → Prop), (∀ it s₂, SrcP c A R xs (denT T (.one i1 p1)) s it s₂ → Q it s₂) → wpAny (model c.prog c.w) A (eval iter env) (fun x s₁ => wpAny (model c.prog c.w) A (pyIter x) Q E s₁) E s)
    (hsr : ∀ (R' : RP) (cenv : Env) (s' : Shared) (ρ' : Sto) (zs : List AV) (E' : Value → Shared → Prop) (Q : Value → Shared → Prop), R'.F = R.F → EnvOk cenv (relS sc' sc) → Pre c R' cenv T.nm s' ρ' μ → srv ρ' = some zs →
      (∀ it s₂, SrcP c A R' zs (denT T (.one i2 p2)) s' it s₂ → Q it s₂) → wpAny (model c.prog c.w) A (eval e2 cenv) (fun x s₁ => wpAny (model c.prog c.w) A (pyIter x) Q E' s₁) E' s')
    (hel : ∀ (R' : RP) (cenv : Env) (s' : Shared) (ρ' : Sto) (r : AV) (E' : Value → Shared → Prop) (Q : Value → Shared → Prop), R'.F = R.F → EnvOk cenv (relS sc' sc) → Pre c R' cenv T.nm s' ρ' μ → elv ρ' = some r → Post c R' s' r Q → wpAny (model c.prog c.w) A (eval elt cenv) Q E' s')
    (hc : catO (step2F (.one i1 p1) (.one i2 p2) srv elv (mask fv 0 ρ)) xs = some ys) (hz : ys.length ≤ 1000) (p : Post c R s (.list ys) Q) :
    wpAny (model c.prog c.w) A (eval (.ListComp elt [⟨denT T (.one i1 p1), iter, [], 0⟩, ⟨denT T (.one i2 p2), e2, [], 0⟩] sc' pos) env) Q E s := by
  obtain ⟨cl, hcl, hcl1, hcl2⟩ := closure_ok (env := env) (scope := sc') fun x m => ok.cel x (wf.fre x m)
  rw [eval_ListComp]
  refine wpAny_comprehension_free (use := none) rfl hfs hcl wf.kind (fun x m e => wf.loc x.1 (by rw [← e]; exact m)) ?_
  refine hsrc _ fun it s₂ h => ?_
  obtain ⟨I, h₂, tk, fp, wr, St, Mid, rfl, rfl, src⟩ := h
  refine comp2_core (RR := fun acc C => compPost (model c.prog c.w) A E none Q acc C) ok P rm wf wf2 ne nd hf2 hcl1 (fun x m => hcl2 x m) src hsr hel hc hz fun acc C h tk m hC x g r hm => ?_
  refine ⟨m, hm, fun h' hs => ?_⟩
  have own : Own c C := Own.fresh P.g hC
  have kk : KBP (· = C) h h' := fun b o nb e => hs.extBut b o nb e
  obtain ⟨o, es, ep, e1, d1, _⟩ := hm
  refine p acc h' tk (fun b o n1 n2 e => kk b o (fun w => by rw [w, hC] at e; cases e) (x b o n1 n2 e)) (g.own (W := (· = C)) (fun b w => w ▸ own) (fun b o w e => by rw [w, e1] at e; cases e; exact nc_dict d1) kk) (r.mono (fun b => ⟨b, rfl⟩) rfl (fun _ p _ => p) fun b o _ d e => kk b o (fun w => ?_) e)
  rw [w, e1] at e; cases e
  rcases d with ⟨_, _, d⟩ | ⟨_, _, d⟩ | ⟨_, d⟩ <;> (rw [d1] at d; cases d)
end
end Mine
end TextA17

section TextA18
open PySem PySem.W PyProof.Rows PySem.Calls PySem.Spec
namespace Mine
theorem CxOk.withF {c : Cx} {T : Nms} {G : Env0} {n : Nat} {R R' : RP} (C : CxOk c T G n R) (h : R'.F = R.F) : CxOk c T G n R' := ⟨C.ng, C.nb, C.hgc, C.hgf, C.hbl, by rw [h]; exact C.calls⟩
noncomputable def EvT (c : Cx) (T : Nms) (G : Env0) (n : Nat) (μ : Option (List Int)) (e : X) : Prop := ∀ {sc : Scope} {env : Env} {ρ : Sto} {R : RP} {s : Shared} {A : Around} {E : Value → Shared → Prop} {Q : Value → Shared → Prop} {r : AV} (wf : wfX T sc e = true) (ok : EnvOk env sc) (C : CxOk c T G n R) (rm : Room A (n + 1))
    (P : Pre c R env T.nm s ρ μ) (h : ev G μ e ρ = some r) (p : Post c R s r Q), wpAny (model c.prog c.w) A (eval (den T e) env) Q E s
noncomputable def EvsT (c : Cx) (T : Nms) (G : Env0) (n : Nat) (μ : Option (List Int)) (e : X) : Prop := ∀ {sc : Scope} {env : Env} {ρ : Sto} {R : RP} {s : Shared} {A : Around} {E : Value → Shared → Prop} {pos : Pos} {Q : List Value → Shared → Prop} {r : List AV} (wf : wfX T sc e = true) (ok : EnvOk env sc) (C : CxOk c T G n R) (rm : Room A (n + 1))
    (P : Pre c R env T.nm s ρ μ) (h : evs G μ e ρ = some r) (p : PostL c R s r Q), wpAny (model c.prog c.w) A (spliced (backTo pos (starEach (denL T e) env))) Q E s
noncomputable def TvT (c : Cx) (T : Nms) (G : Env0) (n : Nat) (μ : Option (List Int)) (e : X) : Prop := ∀ {sc : Scope} {env : Env} {ρ : Sto} {R : RP} {s : Shared} {A : Around} {E : Value → Shared → Prop} {Q : Bool → Shared → Prop} {r : Bool} (wf : wfX T sc e = true) (ok : EnvOk env sc) (C : CxOk c T G n R) (rm : Room A (n + 1))
    (P : Pre c R env T.nm s ρ μ) (h : tv G μ e ρ = some r) (p : PostB c s r Q), wpAny (model c.prog c.w) A (PySem.isTrue (den T e) env (eval (den T e) env)) Q E s
noncomputable def SrcT (c : Cx) (T : Nms) (G : Env0) (n : Nat) (μ : Option (List Int)) (e : X) : Prop := ∀ (t : Tg) {sc : Scope} {env : Env} {ρ : Sto} {R : RP} {s : Shared} {A : Around} {E : Value → Shared → Prop} {Q : Value → Shared → Prop} {xs : List AV} (ws : srcWf t e = true) (wf : wfX T sc e = true) (ok : EnvOk env sc) (C : CxOk c T G n R) (rm : Room A (n + 1))
    (P : Pre c R env T.nm s ρ μ) (h : src G μ e ρ = some xs) (p : ∀ it s₂, SrcP c A R xs (denT T t) s it s₂ → Q it s₂), wpAny (model c.prog c.w) A (eval (den T e) env) (fun x s₁ => wpAny (model c.prog c.w) A (pyIter x) Q E s₁) E s
noncomputable def CdT (c : Cx) (T : Nms) (G : Env0) (n : Nat) (μ : Option (List Int)) (e : X) : Prop := ∀ {sc : Scope} {env : Env} {ρ : Sto} {R : RP} {s : Shared} {A : Around} {E : Value → Shared → Prop} {Q : Bool → Shared → Prop} {r : Bool} (wf : wfX T sc e = true) (ok : EnvOk env sc) (C : CxOk c T G n R) (rm : Room A (n + 1))
    (P : Pre c R env T.nm s ρ μ) (h : cd G μ e ρ = some r) (p : PostB c s r Q), wpAny (model c.prog c.w) A (forIn (denL T e) true fun c r => if r = true then do let ok ← isTrue c env (eval c env); pure (ForInStep.yield ok) else pure (ForInStep.yield r)) Q E s
structure AllT (c : Cx) (T : Nms) (G : Env0) (n : Nat) (μ : Option (List Int)) (e : X) : Prop where
  ev : EvT c T G n μ e
  evs : EvsT c T G n μ e
  tv : TvT c T G n μ e
  src : SrcT c T G n μ e
  cd : CdT c T G n μ e
section
variable {c : Cx} {T : Nms} {G : Env0} {n : Nat} {μ : Option (List Int)}
theorem st_cst {k : Const} {kk : Nat} {pos : Pos} : EvT c T G n μ (.cst k kk pos) := by
  intro sc env ρ R s A E Q r wf ok C rm P h p
  have h : cstOf k = some r := h
  have hb : big = 1048576 := rfl
  cases k <;> first | exact noS h | skip
  · cases h; exact Constant_none (p.scalar P.g s.toks rel_none)
  · cases h; exact Constant_bool (p.scalar P.g s.toks rel_bool)
  · cases h; exact wpAny_Constant_int (p.int P.g _ _)
  · obtain ⟨q, rfl⟩ := ifS h
    exact Constant_str (p.scalar P.g _ (rel_str (by omega)))
  · obtain ⟨q, rfl⟩ := ifS h
    exact Constant_bytes (p.scalar P.g _ (rel_byt (by simp; omega)))
theorem st_var {i : Nat} {pos : Pos} : EvT c T G n μ (.var i pos) := by
  intro sc env ρ R s A E Q r wf ok C rm P h p
  obtain ⟨w1, w2⟩ := and2 wf
  exact name_ok ok w2 P.g (P.er i r _ (Option.join_eq_some_iff.1 h) (nmOf_get (of_decide_eq_true w1))) p
theorem globS {sc : Scope} {x : Str} (h : globB sc x = true) : okName x = true ∧ sc.names.lookup x = some .globalImplicit := ⟨(and2 h).1, of_decide_eq_true (and2 h).2⟩
theorem st_gcs {i : Nat} {pos : Pos} : EvT c T G n μ (.gcs i pos) := by
  intro sc env ρ R s A E Q r wf ok C rm P h p
  obtain ⟨w1, w2⟩ := and2 wf
  obtain ⟨v, e1, e2⟩ := C.hgc i r _ h (nmOf_get (of_decide_eq_true w1))
  exact glob_ok C ok (globS w2).1 (globS w2).2 P.g e1 (p.scalar P.g s.toks (e2 _ _))
theorem st_bin {o : Operator} {l r' : X} {pos : Pos} (il : EvT c T G n μ l) (ir : EvT c T G n μ r') : EvT c T G n μ (.bin o l r' pos) := by
  intro sc env ρ R s A E Q r wf ok C rm P h p
  obtain ⟨w1, w2⟩ := and2 wf
  obtain ⟨a, hl, h⟩ := bindS (x := ev G μ l ρ) h
  obtain ⟨b, hr, h⟩ := bindS h
  exact wpAny_BinOp (il w1 ok C rm P hl fun va h1 tk1 x1 g1 ra => ir (s := { s with heap := h1, toks := tk1 }) w2 ok C rm (P.ext tk1 x1 g1) hr fun vb h2 tk2 x2 g2 rb =>
    bin_ok (s := { s with heap := h2, toks := tk2 }) h g2 ((P.ext tk2 (x1.trans x2) g2).fr) (ra.ext g1 x2) rb (p.after (x1.trans x2)))
theorem st_neg {e : X} {pos : Pos} (il : EvT c T G n μ e) : EvT c T G n μ (.neg e pos) := by
  intro sc env ρ R s A E Q r wf ok C rm P h p
  obtain ⟨a, ha, h⟩ := bindS (x := ev G μ e ρ) h
  exact wpAny_UnaryOp (il wf ok C rm P ha fun va h1 tk1 x1 g1 ra => neg_ok (s := { s with heap := h1, toks := tk1 }) h g1 ra (p.after x1))
theorem st_cmp {o : CmpOp} {l r' : X} {pos : Pos} (il : EvT c T G n μ l) (ir : EvT c T G n μ r') : EvT c T G n μ (.cmp o l r' pos) := by
  intro sc env ρ R s A E Q r wf ok C rm P h p
  obtain ⟨w1, w2⟩ := and2 wf
  obtain ⟨a, hl, h⟩ := bindS (x := ev G μ l ρ) h
  obtain ⟨b, hr, h⟩ := bindS h
  obtain ⟨bb, hb, rfl⟩ := mapS h
  exact wpAny_Compare1 (il w1 ok C rm P hl fun va h1 tk1 x1 g1 ra => ir (s := { s with heap := h1, toks := tk1 }) w2 ok C rm (P.ext tk1 x1 g1) hr fun vb h2 tk2 x2 g2 rb =>
    cmp_ok (s := { s with heap := h2, toks := tk2 }) rm hb (ra.ext g1 x2) rb ((p.after (tk1 := tk2) (x1.trans x2)).scalar g2 tk2 rel_bool)) (marks _ _)
theorem st_bor {l r' : X} {pos : Pos} (il : EvT c T G n μ l) (ir : EvT c T G n μ r') : EvT c T G n μ (.bor l r' pos) := by
  intro sc env ρ R s A E Q r wf ok C rm P h p
  obtain ⟨w1, w2⟩ := and2 wf
  obtain ⟨a, hl, h⟩ := bindS (x := ev G μ l ρ) h
  refine BoolOp_or (il w1 ok C rm P hl fun va h1 tk1 x1 g1 ra => ?_)
  rcases orES h with ⟨ht, h⟩ | ⟨ht, h⟩
  · cases h
    exact truth_ok (s := { s with heap := h1, toks := tk1 }) ht ra fun tk => by rw [if_pos rfl]; exact (p.after (tk1 := tk1) x1).scalar g1 tk ra
  · refine truth_ok (s := { s with heap := h1, toks := tk1 }) ht ra fun tk => ?_
    rw [if_neg (by decide)]
    exact BoolOp_one (ir (s := { s with heap := h1, toks := tk }) w2 ok C rm (P.ext tk x1 g1) h (p.after x1))
theorem st_ife {t b o : X} {pos : Pos} (it : TvT c T G n μ t) (ib : EvT c T G n μ b) (io : EvT c T G n μ o) : EvT c T G n μ (.ife t b o pos) := by
  intro sc env ρ R s A E Q r wf ok C rm P h p
  obtain ⟨w, w3⟩ := and2 wf
  obtain ⟨w1, w2⟩ := and2 w
  rcases orES h with ⟨ht, h⟩ | ⟨ht, h⟩
  · refine wpAny_IfExp (it w1 ok C rm P ht fun h1 tk1 x1 g1 => ?_)
    rw [if_pos rfl]
    exact ib (s := { s with heap := h1, toks := tk1 }) w2 ok C rm (P.ext tk1 x1 g1) h (p.after x1)
  · refine wpAny_IfExp (it w1 ok C rm P ht fun h1 tk1 x1 g1 => ?_)
    rw [if_neg (by decide)]
    exact io (s := { s with heap := h1, toks := tk1 }) w3 ok C rm (P.ext tk1 x1 g1) h (p.after x1)
theorem st_idx {e i : X} {pos : Pos} (il : EvT c T G n μ e) (ir : EvT c T G n μ i) : EvT c T G n μ (.idx e i pos) := by
  intro sc env ρ R s A E Q r wf ok C rm P h p
  obtain ⟨w1, w2⟩ := and2 wf
  obtain ⟨a, ha, h⟩ := bindS (x := ev G μ e ρ) h
  obtain ⟨k, hk, h⟩ := bindS h
  exact Subscript_ (il w1 ok C rm P ha fun va h1 tk1 x1 g1 ra => ir (s := { s with heap := h1, toks := tk1 }) w2 ok C rm (P.ext tk1 x1 g1) hk fun vk h2 tk2 x2 g2 rk =>
    idx_ok (s := { s with heap := h2, toks := tk2 }) (notSlice i) h g2 ((P.ext tk2 (x1.trans x2) g2).bx) (ra.ext g1 x2) rk (p.after (x1.trans x2)))
/-- a part of a slice -/
theorem st_part {e : X} (il : EvT c T G n μ e) {sc : Scope} {env : Env} {ρ : Sto} {R : RP} {s : Shared} {A : Around} {E : Value → Shared → Prop} {Q : Value → Shared → Prop} {r : AV} (wf : wfX T sc e = true) (ok : EnvOk env sc) (C : CxOk c T G n R) (rm : Room A (n + 1))
    (P : Pre c R env T.nm s ρ μ) (h : ev G μ e ρ = some r) (p : Post c R s r Q) : wpAny (model c.prog c.w) A (evalPart (if isNil e then none else some (den T e)) env) Q E s :=
  part_ok (fun _ => il wf ok C rm P h p) fun hn => by
    have := nil_ev hn h
    subst this
    exact p .none s.heap s.toks (Ext.refl _ _) P.g rel_none
theorem st_sli {e lo hi st : X} {q pos : Pos} (ie : EvT c T G n μ e) (i1 : EvT c T G n μ lo) (i2 : EvT c T G n μ hi) (i3 : EvT c T G n μ st) : EvT c T G n μ (.sli e lo hi st q pos) := by
  intro sc env ρ R s A E Q r wf ok C rm P h p
  obtain ⟨w, w4⟩ := and2 wf
  obtain ⟨w, w3⟩ := and2 w
  obtain ⟨w1, w2⟩ := and2 w
  obtain ⟨a, ha, h⟩ := bindS (x := ev G μ e ρ) h
  obtain ⟨al, hal, h⟩ := bindS h
  obtain ⟨ah, hah, h⟩ := bindS h
  obtain ⟨as, has, h⟩ := bindS h
  refine Subscript_ (ie w1 ok C rm P ha fun va h1 tk1 x1 g1 ra => ?_)
  refine wpAny_Slice (st_part i1 (s := { s with heap := h1, toks := tk1 }) w2 ok C rm (P.ext tk1 x1 g1) hal fun vl h2 tk2 x2 g2 rl => ?_)
  refine st_part i2 (s := { s with heap := h2, toks := tk2 }) w3 ok C rm (P.ext tk2 (x1.trans x2) g2) hah fun vh h3 tk3 x3 g3 rh => ?_
  refine st_part i3 (s := { s with heap := h3, toks := tk3 }) w4 ok C rm (P.ext tk3 ((x1.trans x2).trans x3) g3) has fun vs h4 tk4 x4 g4 rs => ?_
  exact sli_ok (s := { s with heap := h4, toks := tk4 }) h g4 ((P.ext tk4 (((x1.trans x2).trans x3).trans x4) g4).fr) (ra.ext g1 ((x2.trans x3).trans x4)) (rl.ext g2 (x3.trans x4)) (rh.ext g3 x4) rs (p.after (((x1.trans x2).trans x3).trans x4))
theorem st_lst {es : X} {pos : Pos} (il : EvsT c T G n μ es) : EvT c T G n μ (.lst es pos) := by
  intro sc env ρ R s A E Q r wf ok C rm P h p
  obtain ⟨l, hl, h⟩ := bindS (x := evs G μ es ρ) h
  obtain ⟨hz, rfl⟩ := ifS h
  exact List_ (il wf ok C rm P hl fun vs h1 tk1 x1 g1 rv => wpAny_newList ((p.after (tk1 := tk1) x1).push g1 _ tk1 (rel_newList ((P.ext tk1 x1 g1).fr _ (Heap.get?_none_of_le (Nat.le_refl _))) rv (Nat.le_trans hz (by decide)))) (by rw [rv.length]; exact Nat.le_trans hz (by decide)))
theorem st_tup {es : X} {k : Nat} {pos : Pos} (il : EvsT c T G n μ es) : EvT c T G n μ (.tup es k pos) := by
  intro sc env ρ R s A E Q r wf ok C rm P h p
  obtain ⟨l, hl, h⟩ := bindS (x := evs G μ es ρ) h
  obtain ⟨hz, rfl⟩ := ifS h
  exact Tuple_ (il wf ok C rm P hl fun vs h1 tk1 x1 g1 rv => wpAny_newTuple ((p.after (tk1 := tk1) x1).push g1 _ tk1 (rel_newTup ((P.ext tk1 x1 g1).fr _ (Heap.get?_none_of_le (Nat.le_refl _))) rv (Nat.le_trans hz (by decide)))) (by rw [rv.length]; exact Nat.le_trans hz (by decide)))
theorem st_com (nd : nodupB T.nm = true) {elt it cnd : X} {t : Tg} {sc' : Scope} {fv : List Nat} {pos : Pos} (ie : EvT c T G n μ elt) (is : SrcT c T G n μ it) (ic : CdT c T G n μ cnd) : EvT c T G n μ (.com elt t it cnd sc' fv pos) := by
  intro sc env ρ R s A E Q r wf ok C rm P h p
  obtain ⟨w, w5⟩ := and2 wf
  obtain ⟨w, w4⟩ := and2 w
  obtain ⟨w, w3⟩ := and2 w
  obtain ⟨w1, w2⟩ := and2 w
  obtain ⟨xs, hx, h⟩ := bindS (x := src G μ it ρ) h
  obtain ⟨l, hl, h⟩ := bindS h
  obtain ⟨hz, rfl⟩ := ifS h
  exact comp_ok ok P rm (compWf_ok w1) nd (fun x => folded it env x) (fun Q hQ => is t w2 w3 ok C rm P hx hQ)
    (fun R' cenv s' ρ' b E' Q hF ok' P' hb hQ => ic w5 ok' (C.withF hF) rm P' hb hQ) (fun R' cenv s' ρ' r E' Q hF ok' P' hr hQ => ie w4 ok' (C.withF hF) rm P' hr hQ) hl hz p
theorem st_com2 (nd : nodupB T.nm = true) {elt it it2 : X} {t t2 : Tg} {sc' : Scope} {fv : List Nat} {pos : Pos} (ie : EvT c T G n μ elt) (is : SrcT c T G n μ it) (is2 : SrcT c T G n μ it2) : EvT c T G n μ (.com2 elt t it t2 it2 sc' fv pos) := by
  intro sc env ρ R s A E Q r wf ok C rm P h p
  obtain ⟨w, w7⟩ := and2 wf
  obtain ⟨w, w6⟩ := and2 w
  obtain ⟨w, w5⟩ := and2 w
  obtain ⟨w, w4⟩ := and2 w
  obtain ⟨w, w3⟩ := and2 w
  obtain ⟨w, w2⟩ := and2 w
  obtain ⟨w0, w1⟩ := and2 w
  obtain ⟨xs, hx, h⟩ := bindS (x := src G μ it ρ) h
  obtain ⟨l, hl, h⟩ := bindS h
  obtain ⟨hz, rfl⟩ := ifS h
  cases t with
  | two => cases w0
  | one i1 p1 => cases t2 with
    | two => cases w0
    | one i2 p2 =>
      exact comp2_ok ok P rm (compWf_ok w1) (compWf_ok w2) (of_decide_eq_true w0) (fun env x => folded it2 env x) nd (fun x => folded it env x) (fun Q hQ => is (.one i1 p1) w3 w5 ok C rm P hx hQ)
        (fun R' cenv s' ρ' zs E' Q hF ok' P' hb hQ => is2 (.one i2 p2) w4 w7 ok' (C.withF hF) rm P' hb hQ) (fun R' cenv s' ρ' r E' Q hF ok' P' hr hQ => ie w6 ok' (C.withF hF) rm P' hr hQ) hl hz p
/-- a function is called -/
theorem st_callF {as : X} (ia : EvsT c T G n μ as) {sc : Scope} {env : Env} {ρ : Sto} {R : RP} {s : Shared} {A : Around} {E : Value → Shared → Prop} {Q : Value → Shared → Prop} {r : AV} {pos : Pos} {l : List AV} {i : Nat} {q : Addr} {o : Obj} {fd : FuncData} {h0 : Heap} {tk0 : Nat}
    (wf : wfX T sc as = true) (ok : EnvOk env sc) (C : CxOk c T G n R) (rm : Room A (n + 1)) (P : Pre c R env T.nm s ρ μ) (hl : evs G μ as ρ = some l) (h : G.Φ i l = some r) (p : Post c R s r Q)
    (eF : R.F i = .ref q) (x0 : Ext c s.heap h0) (g0 : Good c h0) (e1 : h0.get? q = some o) (e2 : o.data = .func fd) :
    wpAny (model c.prog c.w) A (callWith pos (.ref q) [] (backTo pos (starEach (denL T as) env)) []) Q E { s with heap := h0, toks := tk0 } := by
  have fq : ∀ {h' : Heap}, Ext c h0 h' → FnAt q h' := fun x => by
    have := x.dat g0 (.inr (.inr ⟨fd, e2⟩)) e1
    obtain ⟨oc, od, da, sl⟩ := o
    cases e2
    exact ⟨oc, od, fd, sl, this⟩
  refine args_ok (K := fun h => FnAt q h) (fun h' hf => keeps_F h' hf) ?_
  refine ia (s := { s with heap := h0, toks := tk0 }) wf ok C rm (P.ext tk0 x0 g0) hl fun vs h1 tk1 x1 g1 rv => ⟨fq x1, ?_⟩
  have := C.calls i l r h A E { s with heap := h1, toks := tk1 } vs R Q rm.weak g1 ((P.ext tk1 (x0.trans x1) g1).fr) rv (p.after (x0.trans x1))
  rw [eF] at this
  exact this
theorem fnS {o : Option AV} {i : Nat} (h : (match o with | some (.fn i) => some i | _ => none) = some i) : o = some (.fn i) := by
  rcases o with _ | a
  · exact noS h
  · cases a <;> first | exact noS h | (cases h; rfl)
theorem st_calV {j : Nat} {q as : X} {q0 : Pos} {pos : Pos} (ia : EvsT c T G n μ as) : EvT c T G n μ (.cal (.var j q0) as pos) := by
  intro sc env ρ R s A E Q r wf ok C rm P h p
  obtain ⟨w1, w2⟩ := and2 wf
  obtain ⟨i, hi, h⟩ := bindS (x := hdOf (.var j q0) ρ) h
  obtain ⟨l, hl, h⟩ := bindS h
  obtain ⟨w3, w4⟩ := and2 w1
  refine Call_ (name_ok ok w4 P.g (P.er j _ _ (Option.join_eq_some_iff.1 (fnS hi)) (nmOf_get (of_decide_eq_true w3))) fun v h1 tk1 x1 g1 rv => ?_)
  unfold Rel at rv
  obtain ⟨q, o, fd, rfl, _, e1, e2, e3⟩ := rv
  exact st_callF ia w2 ok C rm P hl h p e3.symm x1 g1 e1 e2
theorem st_calG {j : Nat} {as : X} {q0 : Pos} {pos : Pos} (ia : EvsT c T G n μ as) : EvT c T G n μ (.cal (.gfn j q0) as pos) := by
  intro sc env ρ R s A E Q r wf ok C rm P h p
  obtain ⟨w1, w2⟩ := and2 wf
  obtain ⟨i, hi, h⟩ := bindS (x := hdOf (.gfn j q0) ρ) h
  obtain ⟨l, hl, h⟩ := bindS h
  obtain ⟨w3, w4⟩ := and2 w1
  have hi : (if j < 90 then some j else none) = some i := hi
  by_cases h90 : j < 90
  · rw [if_pos h90] at hi
    cases hi
    obtain ⟨e1, q, o, fd, e2, e3, e4⟩ := C.hgf j _ (nmOf_get (of_decide_eq_true w3))
    refine Call_ (glob_ok C ok (globS w4).1 (globS w4).2 P.g e1 ?_)
    rw [e2]
    exact st_callF ia w2 ok C rm P hl h p (by rw [P.ff j h90, e2]) (Ext.refl _ _) P.g (P.g.keep _ _ e3) e4
  · rw [if_neg h90] at hi; exact noS hi
theorem st_cal {f as : X} {pos : Pos} (ia : EvsT c T G n μ as) : EvT c T G n μ (.cal f as pos) := by
  cases f <;> first | exact st_calV (q := .nil) ia | exact st_calG ia | skip
  all_goals (intro sc env ρ R s A E Q r wf ok C rm P h p; exact noS h)
theorem st_blt {b : Blt} {as : X} {q pos : Pos} (ia : EvsT c T G n μ as) : EvT c T G n μ (.blt b q as pos) := by
  intro sc env ρ R s A E Q r wf ok C rm P h p
  obtain ⟨w1, w2⟩ := and2 wf
  obtain ⟨l, hl, h⟩ := bindS (x := evs G μ as ρ) h
  refine Call_ (builtin_ok C ok (of_decide_eq_true w1) P.g ?_)
  refine args_ok (K := fun _ => True) (keepM _ (by cases b <;> (intro a e; cases e))) ?_
  exact ia w2 ok C rm P hl fun vs h1 tk1 x1 g1 rv => ⟨trivial, bltx_ok (s := { s with heap := h1, toks := tk1 }) rm h (P.ext tk1 x1 g1) rv (p.after x1)⟩
theorem formOk {as : X} {env : Env} {pos : Pos} (w4 : argForm as = true) : methodCallForm (denL T as).length (backTo pos (starEach (denL T as) env)) (backToKw pos (keywordEach [] env)) = true := by
  rcases argForm_inv w4 with rfl | ⟨c, k, p, rfl⟩ <;> rfl
theorem st_met {m : Met} {o as : X} {q pos : Pos} (ia : EvsT c T G n μ as) : EvT c T G n μ (.met m o q as pos) := by
  intro sc env ρ R s A E Q r wf ok C rm P h p
  obtain ⟨w, w4⟩ := and2 wf
  obtain ⟨w, w3⟩ := and2 w
  obtain ⟨w, w2⟩ := and2 w
  obtain ⟨hv, w1⟩ := and2 w
  replace h := bindS (x := ev G μ o ρ) h
  obtain ⟨a, ha, h⟩ := h
  replace h := bindS (x := evs G μ as ρ) h
  obtain ⟨l, hl, h⟩ := h
  cases o <;> first | exact Bool.noConfusion hv | skip
  obtain ⟨pl, he⟩ := met_eq (x := nmOf T.nm _) (name := m.name) (p := _) w3 (formOk w4)
  refine methodCall_KW (pl := pl) (st_var w1 ok C rm P ha fun va h1 tk1 x1 g1 ra => met_get (s := { s with heap := h1, toks := tk1 }) h ra ?_) he
  refine args_ok (K := fun _ => True) (keepM _ (by intro a e; cases e)) ?_
  exact ia (s := { s with heap := h1, toks := tk1 }) w2 ok C rm (P.ext tk1 x1 g1) hl fun vs h2 tk2 x2 g2 rv => ⟨trivial, met_call (s := { s with heap := h2, toks := tk2 }) h g2 (ra.ext g1 x2) rv (p.after (x1.trans x2))⟩
theorem st_evs {a t : X} (ia : EvT c T G n μ a) (it : EvsT c T G n μ t) : EvsT c T G n μ (.cons a t) := by
  intro sc env ρ R s A E pos Q r wf ok C rm P h p
  obtain ⟨w1, w2⟩ := and2 wf
  obtain ⟨v, hv, h⟩ := bindS (x := ev G μ a ρ) h
  obtain ⟨l, hl, h⟩ := bindS h
  cases h
  show wpAny _ _ (spliced (backTo pos (starEach (den T a :: denL T t) env))) _ _ _
  rw [starEach_cons, backTo_cons]
  exact spliced_cons (ia w1 ok C rm P hv fun va h1 tk1 x1 g1 ra => it (s := { s with heap := h1, toks := tk1 }) w2 ok C rm (P.ext tk1 x1 g1) hl fun vs h2 tk2 x2 g2 rb =>
    p (va :: vs) h2 tk2 (x1.trans x2) g2 (RelL.cons (ra.ext g1 x2) rb))
theorem tv_not {e : X} {pos : Pos} (i : TvT c T G n μ e) : TvT c T G n μ (.not e pos) := by
  intro sc env ρ R s A E Q r wf ok C rm P h p
  obtain ⟨b, hb, rfl⟩ := mapS (x := tv G μ e ρ) h
  exact isTrue_not (i wf ok C rm P hb fun h1 tk1 x1 g1 => p h1 tk1 x1 g1)
theorem tv_bor' {l r' : X} {pos : Pos} (il : TvT c T G n μ l) (ir : TvT c T G n μ r') : TvT c T G n μ (.bor l r' pos) := by
  intro sc env ρ R s A E Q r wf ok C rm P h p
  obtain ⟨w1, w2⟩ := and2 wf
  rcases orTS h with ⟨hl, rfl⟩ | ⟨hl, h⟩
  · refine isTrue_or (il w1 ok C rm P hl fun h1 tk1 x1 g1 => ?_)
    rw [if_pos rfl]
    exact p h1 tk1 x1 g1
  · refine isTrue_or (il w1 ok C rm P hl fun h1 tk1 x1 g1 => ?_)
    rw [if_neg (by decide)]
    refine isTrue_or (ir (s := { s with heap := h1, toks := tk1 }) w2 ok C rm (P.ext tk1 x1 g1) h fun h2 tk2 x2 g2 => ?_)
    have q := p h2 tk2 (x1.trans x2) g2
    cases r with
    | true => rw [if_pos rfl]; exact q
    | false => rw [if_neg (by decide)]; exact isTrue_or_nil q
theorem tv_ban {a b d : X} {pos : Pos} (ia : TvT c T G n μ a) (ib : TvT c T G n μ b) (id : TvT c T G n μ d) : TvT c T G n μ (.ban a b d pos) := by
  intro sc env ρ R s A E Q r wf ok C rm P h p
  obtain ⟨w, w3⟩ := and2 wf
  obtain ⟨w1, w2⟩ := and2 w
  rcases andTS h with ⟨ha, h⟩ | ⟨ha, rfl⟩
  · refine isTrue_and (ia w1 ok C rm P ha fun h1 tk1 x1 g1 => ?_)
    rw [if_pos rfl]
    have P1 := P.ext tk1 x1 g1
    rcases andTS h with ⟨hb, h⟩ | ⟨hb, rfl⟩
    · refine isTrue_and (ib (s := { s with heap := h1, toks := tk1 }) w2 ok C rm P1 hb fun h2 tk2 x2 g2 => ?_)
      rw [if_pos rfl]
      refine isTrue_and (id (s := { s with heap := h2, toks := tk2 }) w3 ok C rm (P.ext tk2 (x1.trans x2) g2) h fun h3 tk3 x3 g3 => ?_)
      have q := p h3 tk3 ((x1.trans x2).trans x3) g3
      cases r with
      | true => rw [if_pos rfl]; exact isTrue_and_nil q
      | false => rw [if_neg (by decide)]; exact q
    · refine isTrue_and (ib (s := { s with heap := h1, toks := tk1 }) w2 ok C rm P1 hb fun h2 tk2 x2 g2 => ?_)
      rw [if_neg (by decide)]; exact p h2 tk2 (x1.trans x2) g2
  · refine isTrue_and (ia w1 ok C rm P ha fun h1 tk1 x1 g1 => ?_)
    rw [if_neg (by decide)]; exact p h1 tk1 x1 g1
theorem tv_cmp' {o : CmpOp} {l r' : X} {pos : Pos} (il : EvT c T G n μ l) (ir : EvT c T G n μ r') : TvT c T G n μ (.cmp o l r' pos) := by
  intro sc env ρ R s A E Q r wf ok C rm P h p
  obtain ⟨w1, w2⟩ := and2 wf
  obtain ⟨a, hl, h⟩ := bindS (x := ev G μ l ρ) h
  obtain ⟨b, hr, h⟩ := bindS h
  exact wpAny_isTrue_Compare1 (il w1 ok C rm P hl fun va h1 tk1 x1 g1 ra => ir (s := { s with heap := h1, toks := tk1 }) w2 ok C rm (P.ext tk1 x1 g1) hr fun vb h2 tk2 x2 g2 rb =>
    cmp_ok (s := { s with heap := h2, toks := tk2 }) rm h (ra.ext g1 x2) rb (wpAny_truthy_bool (p h2 tk2 (x1.trans x2) g2))) (marks _ _)
/-- a plain value as a test -/
theorem tv_val {e : X} (i : EvT c T G n μ e) {sc : Scope} {env : Env} {ρ : Sto} {R : RP} {s : Shared} {A : Around} {E : Value → Shared → Prop} {Q : Bool → Shared → Prop} {r : Bool} {a : AV} (wf : wfX T sc e = true) (ok : EnvOk env sc) (C : CxOk c T G n R) (rm : Room A (n + 1))
    (P : Pre c R env T.nm s ρ μ) (ha : ev G μ e ρ = some a) (ht : truth a = some r) (p : PostB c s r Q) (h0 : PySem.isTrue (den T e) env (eval (den T e) env) = (do let v ← eval (den T e) env; standAt (den T e).pos; holding [v] (truthy v))) : wpAny (model c.prog c.w) A (PySem.isTrue (den T e) env (eval (den T e) env)) Q E s :=
  isTrue_plain (i wf ok C rm P ha fun v h1 tk1 x1 g1 rv => truth_ok (s := { s with heap := h1, toks := tk1 }) ht rv fun tk => p h1 tk x1 g1) h0
theorem tgt_of (t : Tg) : Tgt (denT T t) := by cases t with
  | one i p => exact .inl ⟨_, _, rfl⟩
  | two i j pi pj k p => exact .inr ⟨_, _, _, rfl⟩
theorem src_var' {i : Nat} {pos : Pos} : SrcT c T G n μ (.var i pos) := by
  intro t sc env ρ R s A E Q xs ws wf ok C rm P h p
  obtain ⟨w1, w2⟩ := and2 wf
  obtain ⟨a, ha, hx⟩ := bindS (x := (ρ[i]?).join) h
  refine name_ok ok w2 P.g (P.er i a _ (Option.join_eq_some_iff.1 ha) (nmOf_get (of_decide_eq_true w1))) fun v h1 tk1 x1 g1 rv => ?_
  have P1 := P.ext tk1 x1 g1
  cases a <;> first | exact noS hx | skip
  · cases hx
    obtain ⟨l, vs, rfl, hp, hl, hr, z⟩ := rv.plI
    exact src_list (s := { s with heap := h1, toks := tk1 }) rm g1 P.pd P1.dl (tgt_of t) hp hl (RelL.ints hr) fun it s₂ q => p it s₂ (q.after x1 g1)
  · cases hx
    obtain ⟨l, vs, rfl, hp, hl, hr, z⟩ := rv.plL
    exact src_list (s := { s with heap := h1, toks := tk1 }) rm g1 P.pd P1.dl (tgt_of t) hp hl.isList hr fun it s₂ q => p it s₂ (q.after x1 g1)
theorem src_blt' {b : Blt} {as : X} {q pos : Pos} (ia : EvsT c T G n μ as) : SrcT c T G n μ (.blt b q as pos) := by
  intro t sc env ρ R s A E Q xs ws wf ok C rm P h p
  obtain ⟨w1, w2⟩ := and2 wf
  replace h := bindS (x := evs G μ as ρ) h
  obtain ⟨l, hl, h⟩ := h
  refine Call_ (builtin_ok C ok (of_decide_eq_true w1) P.g ?_)
  refine args_ok (K := fun _ => True) (keepM _ (by cases b <;> (intro a e; cases e))) ?_
  refine ia w2 ok C rm P hl fun vs h1 tk1 x1 g1 rv => ⟨trivial, ?_⟩
  have P1 := P.ext tk1 x1 g1
  cases b <;> first | exact noS h | skip
  · obtain ⟨a, ha, hx⟩ := bindS h
    cases t with
    | two => cases ws
    | one i p' =>
      refine blt_ok (s := { s with heap := h1, toks := tk1 }) (b := .range) rm ha g1 P1.fr rv fun v h2 tk2 x2 g2 r2 => ?_
      have P2 := P.ext tk2 (x1.trans x2) g2
      obtain ⟨a', b', c', rfl⟩ := range_is ha
      have hx : (if Builtin.Range.small a' b' c' = true then some (rangeL a' c' (rangeLen a' b' c')) else none) = some xs := hx
      by_cases hs : Builtin.Range.small a' b' c' = true
      · rw [if_pos hs] at hx
        cases hx
        unfold Rel at r2
        obtain ⟨l, t1, t2, t3, rfl, hp, hl⟩ := r2
        exact src_range (s := { s with heap := h2, toks := tk2 }) rm g2 P2.dl hl hs fun it s₂ q => p it s₂ (q.after (x1.trans x2) g2)
      · rw [if_neg hs] at hx; exact noS hx
  · obtain ⟨r, hr, h⟩ := bindS h
    obtain ⟨a, rfl, ha⟩ := one1S hr
    cases lvS ha
    cases h
    cases t with
    | one => cases ws
    | two i j pi pj k p' =>
      obtain ⟨v, rfl, y⟩ := rv.inv1
      obtain ⟨l, ws, rfl, hp, hl, hr, z⟩ := y.plL
      exact src_enum (s := { s with heap := h1, toks := tk1 }) rm g1 P.pd P1.dl hp hl.isList hr fun it s₂ q => p it s₂ (q.after x1 g1)
  · obtain ⟨r, hr, h⟩ := bindS h
    obtain ⟨a, rfl, ha⟩ := one1S hr
    cases lvS ha
    cases h
    cases t with
    | two => cases ws
    | one i p' =>
      obtain ⟨v, rfl, y⟩ := rv.inv1
      obtain ⟨l, ws, rfl, hp, hl, hr, z⟩ := y.plL
      exact src_rev (s := { s with heap := h1, toks := tk1 }) rm g1 P.pd P1.dl hp hl.isList hr fun it s₂ q => p it s₂ (q.after x1 g1)
theorem cd_cons {a t : X} (i : TvT c T G n μ a) : CdT c T G n μ (.cons a t) := by
  intro sc env ρ R s A E Q r wf ok C rm P h p
  obtain ⟨w1, w2⟩ := and2 wf
  have h : (if isNil t = true then tv G μ a ρ else none) = some r := h
  cases t <;> first | exact noS h | skip
  exact wpAny_tests_one (i w1 ok C rm P h p)
theorem noEv {e : X} (q : ∀ ρ, ev G μ e ρ = none) : EvT c T G n μ e := by
  intro sc env ρ R s A E Q r wf ok C rm P h p; rw [q] at h; exact noS h
theorem noEvs {e : X} (q : ∀ ρ, evs G μ e ρ = none) : EvsT c T G n μ e := by
  intro sc env ρ R s A E pos Q r wf ok C rm P h p; rw [q] at h; exact noS h
theorem noTv {e : X} (q : ∀ ρ, tv G μ e ρ = none) : TvT c T G n μ e := by
  intro sc env ρ R s A E Q r wf ok C rm P h p; rw [q] at h; exact noS h
theorem noSrc {e : X} (q : ∀ ρ, src G μ e ρ = none) : SrcT c T G n μ e := by
  intro t sc env ρ R s A E Q r ws wf ok C rm P h p; rw [q] at h; exact noS h
theorem noCd {e : X} (q : ∀ ρ, cd G μ e ρ = none) : CdT c T G n μ e := by
  intro sc env ρ R s A E Q r wf ok C rm P h p; rw [q] at h; exact noS h
theorem all_ok (nd : nodupB T.nm = true) (e : X) : AllT c T G n μ e := by
  have z : ∀ {e : X}, EvT c T G n μ e → (∀ ρ, evs G μ e ρ = none) → (∀ ρ, tv G μ e ρ = none) → (∀ ρ, src G μ e ρ = none) → (∀ ρ, cd G μ e ρ = none) → AllT c T G n μ e := fun a b d f g => ⟨a, noEvs b, noTv d, noSrc f, noCd g⟩
  induction e with
  | cst k kk pos => exact ⟨st_cst, noEvs fun _ => rfl, (by
      intro sc env ρ R s A E Q r wf ok C rm P h p
      obtain ⟨a, ha, ht⟩ := bindS (x := cstOf k) h
      exact tv_val st_cst wf ok C rm P ha ht p rfl), noSrc fun _ => rfl, noCd fun _ => rfl⟩
  | var i pos => exact ⟨st_var, noEvs fun _ => rfl, (by
      intro sc env ρ R s A E Q r wf ok C rm P h p
      obtain ⟨a, ha, ht⟩ := bindS (x := (ρ[i]?).join) h
      exact tv_val st_var wf ok C rm P ha ht p rfl), src_var', noCd fun _ => rfl⟩
  | gcs i pos => exact z st_gcs (fun _ => rfl) (fun _ => rfl) (fun _ => rfl) (fun _ => rfl)
  | gfn i pos => exact z (noEv fun _ => rfl) (fun _ => rfl) (fun _ => rfl) (fun _ => rfl) (fun _ => rfl)
  | bin o l r p a b => exact z (st_bin a.ev b.ev) (fun _ => rfl) (fun _ => rfl) (fun _ => rfl) (fun _ => rfl)
  | neg e p a => exact z (st_neg a.ev) (fun _ => rfl) (fun _ => rfl) (fun _ => rfl) (fun _ => rfl)
  | cmp o l r p a b => exact ⟨st_cmp a.ev b.ev, noEvs fun _ => rfl, tv_cmp' a.ev b.ev, noSrc fun _ => rfl, noCd fun _ => rfl⟩
  | bor l r p a b => exact ⟨st_bor a.ev b.ev, noEvs fun _ => rfl, tv_bor' a.tv b.tv, noSrc fun _ => rfl, noCd fun _ => rfl⟩
  | ban x y w p a b d => exact ⟨noEv fun _ => rfl, noEvs fun _ => rfl, tv_ban a.tv b.tv d.tv, noSrc fun _ => rfl, noCd fun _ => rfl⟩
  | not e p a => exact ⟨noEv fun _ => rfl, noEvs fun _ => rfl, tv_not a.tv, noSrc fun _ => rfl, noCd fun _ => rfl⟩
  | ife t b o p i j k => exact z (st_ife i.tv j.ev k.ev) (fun _ => rfl) (fun _ => rfl) (fun _ => rfl) (fun _ => rfl)
  | idx e i p a b => exact z (st_idx a.ev b.ev) (fun _ => rfl) (fun _ => rfl) (fun _ => rfl) (fun _ => rfl)
  | sli e lo hi st q pos a b d f => exact ⟨st_sli a.ev b.ev d.ev f.ev, noEvs fun _ => rfl, (by
      intro sc env ρ R s A E Q r wf ok C rm P h p
      obtain ⟨v, ha, ht⟩ := bindS (x := ev G μ (.sli e lo hi st q pos) ρ) h
      exact tv_val (st_sli a.ev b.ev d.ev f.ev) wf ok C rm P ha ht p rfl), noSrc fun _ => rfl, noCd fun _ => rfl⟩
  | lst es p a => exact z (st_lst a.evs) (fun _ => rfl) (fun _ => rfl) (fun _ => rfl) (fun _ => rfl)
  | tup es k p a => exact z (st_tup a.evs) (fun _ => rfl) (fun _ => rfl) (fun _ => rfl) (fun _ => rfl)
  | com elt t it cnd sc fv p a b d => exact z (st_com nd a.ev b.src d.cd) (fun _ => rfl) (fun _ => rfl) (fun _ => rfl) (fun _ => rfl)
  | com2 elt t it t2 it2 sc fv p a b d => exact z (st_com2 nd a.ev b.src d.src) (fun _ => rfl) (fun _ => rfl) (fun _ => rfl) (fun _ => rfl)
  | cal f as p a b => exact z (st_cal b.evs) (fun _ => rfl) (fun _ => rfl) (fun _ => rfl) (fun _ => rfl)
  | blt b q as p a => exact ⟨st_blt a.evs, noEvs fun _ => rfl, noTv fun _ => rfl, src_blt' a.evs, noCd fun _ => rfl⟩
  | met m o q as p a b => exact z (st_met b.evs) (fun _ => rfl) (fun _ => rfl) (fun _ => rfl) (fun _ => rfl)
  | nil => exact ⟨(by
      intro sc env ρ R s A E Q r wf ok C rm P h p
      cases h
      exact Constant_none (p.scalar P.g s.toks rel_none)), (by
      intro sc env ρ R s A E pos Q r wf ok C rm P h p
      cases h
      exact spliced_nil (p [] s.heap s.toks (Ext.refl _ _) P.g RelL.nil)), noTv fun _ => rfl, noSrc fun _ => rfl, (by
      intro sc env ρ R s A E Q r wf ok C rm P h p
      cases h
      exact wpAny_tests_nil (p s.heap s.toks (Ext.refl _ _) P.g))⟩
  | cons x t a b => exact ⟨noEv fun _ => rfl, st_evs a.ev b.evs, noTv fun _ => rfl, noSrc fun _ => rfl, cd_cons a.tv⟩
variable (nd : nodupB T.nm = true)
include nd
theorem ev_ok (e : X) {sc : Scope} {env : Env} {ρ : Sto} {R : RP} {s : Shared} {A : Around} {E : Value → Shared → Prop} {Q : Value → Shared → Prop} {r : AV} (wf : wfX T sc e = true) (ok : EnvOk env sc) (C : CxOk c T G n R) (rm : Room A (n + 1))
    (P : Pre c R env T.nm s ρ μ) (h : ev G μ e ρ = some r) (p : Post c R s r Q) : wpAny (model c.prog c.w) A (eval (den T e) env) Q E s :=
  (all_ok nd e).ev wf ok C rm P h p
theorem evs_ok (e : X) {sc : Scope} {env : Env} {ρ : Sto} {R : RP} {s : Shared} {A : Around} {E : Value → Shared → Prop} {pos : Pos} {Q : List Value → Shared → Prop} {r : List AV} (wf : wfX T sc e = true) (ok : EnvOk env sc) (C : CxOk c T G n R) (rm : Room A (n + 1))
    (P : Pre c R env T.nm s ρ μ) (h : evs G μ e ρ = some r) (p : PostL c R s r Q) : wpAny (model c.prog c.w) A (spliced (backTo pos (starEach (denL T e) env))) Q E s :=
  (all_ok nd e).evs wf ok C rm P h p
theorem tv_ok (e : X) {sc : Scope} {env : Env} {ρ : Sto} {R : RP} {s : Shared} {A : Around} {E : Value → Shared → Prop} {Q : Bool → Shared → Prop} {r : Bool} (wf : wfX T sc e = true) (ok : EnvOk env sc) (C : CxOk c T G n R) (rm : Room A (n + 1))
    (P : Pre c R env T.nm s ρ μ) (h : tv G μ e ρ = some r) (p : PostB c s r Q) : wpAny (model c.prog c.w) A (PySem.isTrue (den T e) env (eval (den T e) env)) Q E s :=
  (all_ok nd e).tv wf ok C rm P h p
theorem src_ok (e : X) (t : Tg) {sc : Scope} {env : Env} {ρ : Sto} {R : RP} {s : Shared} {A : Around} {E : Value → Shared → Prop} {Q : Value → Shared → Prop} {xs : List AV} (ws : srcWf t e = true) (wf : wfX T sc e = true) (ok : EnvOk env sc) (C : CxOk c T G n R) (rm : Room A (n + 1))
    (P : Pre c R env T.nm s ρ μ) (h : src G μ e ρ = some xs) (p : ∀ it s₂, SrcP c A R xs (denT T t) s it s₂ → Q it s₂) : wpAny (model c.prog c.w) A (eval (den T e) env) (fun x s₁ => wpAny (model c.prog c.w) A (pyIter x) Q E s₁) E s :=
  (all_ok nd e).src t ws wf ok C rm P h p
theorem cd_ok (e : X) {sc : Scope} {env : Env} {ρ : Sto} {R : RP} {s : Shared} {A : Around} {E : Value → Shared → Prop} {Q : Bool → Shared → Prop} {r : Bool} (wf : wfX T sc e = true) (ok : EnvOk env sc) (C : CxOk c T G n R) (rm : Room A (n + 1))
    (P : Pre c R env T.nm s ρ μ) (h : cd G μ e ρ = some r) (p : PostB c s r Q) : wpAny (model c.prog c.w) A (forIn (denL T e) true fun c r => if r = true then do let ok ← isTrue c env (eval c env); pure (ForInStep.yield ok) else pure (ForInStep.yield r)) Q E s :=
  (all_ok nd e).cd wf ok C rm P h p
end
end Mine
end TextA18

section TextA19
open PySem PySem.W PyProof.Rows PySem.Calls PySem.Spec
namespace Mine
inductive S where
  | nil
  | raw (l : List Stmt)
  | ret (e : X) (p : Pos)
  | retn (p : Pos)
  | asg (i : Nat) (q : Pos) (e : X) (p : Pos) (k : S)
  | asg2 (i : Nat) (q : Pos) (j : Nat) (q' : Pos) (e : X) (p : Pos) (k : S)
  | ast (i j : Nat) (pi pj : Pos) (kk : Nat) (q : Pos) (e : X) (p : Pos) (k : S)
  | aug (i : Nat) (q : Pos) (o : Operator) (e : X) (p : Pos) (k : S)
  | bxl (i : Nat) (q : Pos) (es : X) (pl : Pos) (p : Pos) (k : S)
  | bxr (i : Nat) (q : Pos) (ql qr : Pos) (as : X) (pr pl : Pos) (p : Pos) (k : S)
  | bxm (i : Nat) (q : Pos) (a : Int) (ka : Nat) (pa pl : Pos) (e : X) (pm p : Pos) (k : S)
  | sto (i : Nat) (q : Pos) (ie : X) (qs : Pos) (e : X) (p : Pos) (k : S)
  | app (i : Nat) (q qa : Pos) (e : X) (pc p : Pos) (k : S)
  | rev (i : Nat) (q qa pc p : Pos) (k : S)
  | ite (t : X) (a b : S) (p : Pos) (k : S)
  | whl (t : X) (b : S) (p : Pos) (k : S)
  | for (t : Tg) (it : X) (b : S) (p : Pos) (k : S)
  | ecl (f : Nat) (q : Pos) (as : X) (pc p : Pos) (k : S)
  | cbx (i : Nat) (q : Pos) (f : Nat) (qf : Pos) (b : Nat) (qb : Pos) (e : X) (pc p : Pos) (k : S)

section
variable (T : Nms)
noncomputable def denS : S → List Stmt
  | .nil => []
  | .raw l => l
  | .ret e p => [.Return (some (den T e)) p]
  | .retn p => [.Return none p]
  | .asg i q e p k => .Assign [.Name (nmOf T.nm i) q] (den T e) p :: denS k
  | .asg2 i q j q' e p k => .Assign [.Name (nmOf T.nm i) q, .Name (nmOf T.nm j) q'] (den T e) p :: denS k
  | .ast i j pi pj kk q e p k => .Assign [.Tuple [.Name (nmOf T.nm i) pi, .Name (nmOf T.nm j) pj] kk q] (den T e) p :: denS k
  | .aug i q o e p k => .AugAssign (.Name (nmOf T.nm i) q) o (den T e) p :: denS k
  | .bxl i q es pl p k => .Assign [.Name (nmOf T.nm i) q] (.List (denL T es) pl) p :: denS k
  | .bxr i q ql qr as pr pl p k => .Assign [.Name (nmOf T.nm i) q] (.Call (.Name Blt.list.name ql) [.Call (.Name Blt.range.name qr) (denL T as) [] pr] [] pl) p :: denS k
  | .bxm i q a ka pa pl e pm p k => .Assign [.Name (nmOf T.nm i) q] (.BinOp (.List [.Constant (.int a) ka pa] pl) .Mult (den T e) pm) p :: denS k
  | .sto i q ie qs e p k => .Assign [.Subscript (.Name (nmOf T.nm i) q) (den T ie) qs] (den T e) p :: denS k
  | .app i q qa e pc p k => .Expr (.Call (.Attribute (.Name (nmOf T.nm i) q) "append" qa) [den T e] [] pc) p :: denS k
  | .rev i q qa pc p k => .Expr (.Call (.Attribute (.Name (nmOf T.nm i) q) "reverse" qa) [] [] pc) p :: denS k
  | .ite t a b p k => .If (den T t) (denS a) (denS b) p :: denS k
  | .whl t b p k => .While (den T t) (denS b) [] p :: denS k
  | .for t it b p k => .For (denT T t) (den T it) (denS b) [] p :: denS k
  | .ecl f q as pc p k => .Expr (.Call (.Name (nmOf T.nm f) q) (denL T as) [] pc) p :: denS k
  | .cbx i q f qf b qb e pc p k => .Assign [.Name (nmOf T.nm i) q] (.Call (.Name (nmOf T.gf f) qf) [.Name (nmOf T.nm b) qb, den T e] [] pc) p :: denS k
end

inductive Out where
  | fall (ρ : Sto) (μ : Option (List Int))
  | ret (a : AV)
  | retn (l : List Int)

noncomputable def outK (k : Sto → Option (List Int) → Option Out) : Out → Option Out
  | .fall ρ μ => k ρ μ
  | .ret a => some (.ret a)
  | .retn l => some (.retn l)
noncomputable def whileO (tst : Sto → Option (List Int) → Option Bool) (body : Sto → Option (List Int) → Option Out) : Nat → Sto → Option (List Int) → Option Out
  | 0, _, _ => none
  | n + 1, ρ, μ => (tst ρ μ).bind fun b => bif b then (body ρ μ).bind (outK fun ρ' μ' => whileO tst body n ρ' μ') else some (.fall ρ μ)
noncomputable def forO (t : Tg) (body : Sto → Option (List Int) → Option Out) : List AV → Sto → Option (List Int) → Option Out
  | [], ρ, μ => some (.fall ρ μ)
  | a :: r, ρ, μ => (setT t a ρ).bind fun ρ1 => (body ρ1 μ).bind (outK fun ρ' μ' => forO t body r ρ' μ')
noncomputable def fnOf : Option AV → Option Nat
  | some (.fn i) => some i
  | _ => none
theorem fnOfS {o : Option AV} {i : Nat} (h : fnOf o = some i) : o = some (.fn i) := by
  rcases o with _ | a
  · exact noS h
  · cases a <;> first | exact noS h | (cases h; rfl)
noncomputable def retO (μ : Option (List Int)) : AV → Option Out
  | .box => μ.map fun l => .ret (.list (l.map .int))
  | a => some (.ret a)
noncomputable def retnO : Option (List Int) → Out
  | some l => .retn l
  | none => .ret .none
noncomputable def boxQ : Option AV → Bool
  | some .box => true
  | _ => false
theorem boxQS {o : Option AV} (h : boxQ o = true) : o = some .box := by
  rcases o with _ | a
  · cases h
  · cases a <;> first | rfl | cases h
noncomputable def isBox (ρ : Sto) (i : Nat) : Bool := boxQ (ρ[i]?).join
theorem isBoxS {ρ : Sto} {i : Nat} (h : isBox ρ i = true) : (ρ[i]?).join = some .box := boxQS h
noncomputable def bumpO (o : Operator) (a b : AV) : Option AV := match o with
  | .Add => int2 (fun a b => some (.int (a + b))) a b
  | .Sub => int2 (fun a b => some (.int (a - b))) a b
  | _ => none

section
variable (G : Env0) (Ψ : Nat → List AV → List Int → Option (List Int)) (fuel : Nat)
noncomputable def runS : S → Sto → Option (List Int) → Option Out
  | .nil, ρ, μ => some (.fall ρ μ)
  | .raw _, _, _ => none
  | .ret e _, ρ, μ => (ev G μ e ρ).bind (retO μ)
  | .retn _, _, μ => some (retnO μ)
  | .asg i _ e _ k, ρ, μ => (ev G μ e ρ).bind fun a => (ifO (i < ρ.length) ()).bind fun _ => runS k (ρ.set i (some a)) μ
  | .asg2 i _ j _ e _ k, ρ, μ => (ev G μ e ρ).bind fun a => (ifO (i < ρ.length ∧ j < ρ.length) ()).bind fun _ => runS k ((ρ.set i (some a)).set j (some a)) μ
  | .ast i j pi pj kk q e _ k, ρ, μ => (ev G μ e ρ).bind fun a => (setT (.two i j pi pj kk q) a ρ).bind fun ρ' => runS k ρ' μ
  | .aug i _ o e _ k, ρ, μ => ((ρ[i]?).join).bind fun a => (ev G μ e ρ).bind fun b => (bumpO o a b).bind fun r => (ifO (i < ρ.length) ()).bind fun _ => runS k (ρ.set i (some r)) μ
  | .bxl i _ es _ _ k, ρ, μ => (evs G μ es ρ).bind fun l => (asInts l).bind fun ns => (ifO (i < ρ.length ∧ ns.length ≤ 1000 ∧ μ = none) ()).bind fun _ => runS k (ρ.set i (some .box)) (some ns)
  | .bxr i _ _ _ as _ _ _ k, ρ, μ => (evs G μ as ρ).bind fun l => (evB .range l).bind fun r => (evB .list [r]).bind fun q => (lv q).bind fun l' => (asInts l').bind fun ns => (ifO (i < ρ.length ∧ μ = none) ()).bind fun _ => runS k (ρ.set i (some .box)) (some ns)
  | .bxm i _ a _ _ _ e _ _ k, ρ, μ => (ev G μ e ρ).bind fun v => (iv v).bind fun n => (ifO (i < ρ.length ∧ 0 ≤ n ∧ n ≤ 1000 ∧ μ = none) ()).bind fun _ => runS k (ρ.set i (some .box)) (some (List.replicate n.toNat a))
  | .sto i _ ie _ e _ k, ρ, μ => (ifO (isBox ρ i = true) ()).bind fun _ => (ev G μ e ρ).bind fun v => (iv v).bind fun v => (ev G μ ie ρ).bind fun w => (iv w).bind fun j => μ.bind fun l => (ifO (0 ≤ j ∧ j < l.length) ()).bind fun _ => runS k ρ (some (l.set j.toNat v))
  | .app i _ _ e _ _ k, ρ, μ => (ifO (isBox ρ i = true) ()).bind fun _ => (ev G μ e ρ).bind fun v => (iv v).bind fun v => μ.bind fun l => (ifO (l.length ≤ 1000) ()).bind fun _ => runS k ρ (some (l ++ [v]))
  | .rev i _ _ _ _ k, ρ, μ => (ifO (isBox ρ i = true) ()).bind fun _ => μ.bind fun l => runS k ρ (some l.reverse)
  | .ite t a b _ k, ρ, μ => (tv G μ t ρ).bind fun c => (bif c then runS a ρ μ else runS b ρ μ).bind (outK fun ρ' μ' => runS k ρ' μ')
  | .whl t b _ k, ρ, μ => (whileO (fun ρ μ => tv G μ t ρ) (fun ρ μ => runS b ρ μ) fuel ρ μ).bind (outK fun ρ' μ' => runS k ρ' μ')
  | .for t it b _ k, ρ, μ => (src G μ it ρ).bind fun xs => (forO t (fun ρ μ => runS b ρ μ) xs ρ μ).bind (outK fun ρ' μ' => runS k ρ' μ')
  | .ecl f _ as _ _ k, ρ, μ => (fnOf (ρ[f]?).join).bind fun i => (evs G μ as ρ).bind fun l => μ.bind fun ns => (Ψ i l ns).bind fun ns' => runS k ρ (some ns')
  | .cbx i _ f _ b _ e _ _ k, ρ, μ => (ifO (isBox ρ b = true) ()).bind fun _ => (ev G μ e ρ).bind fun v => (iv v).bind fun v => μ.bind fun l => (G.Φ f [.ints l, .int v]).bind fun q => (iv q).bind fun r => (ifO (i < ρ.length ∧ f < 90) ()).bind fun _ => runS k (ρ.set i (some (.int r))) μ
end

noncomputable def noBox : S → Bool
  | .nil => true
  | .raw _ => true
  | .ret _ _ => true
  | .retn _ => true
  | .asg _ _ _ _ k => noBox k
  | .asg2 _ _ _ _ _ _ k => noBox k
  | .ast _ _ _ _ _ _ _ _ k => noBox k
  | .aug _ _ _ _ _ k => noBox k
  | .bxl .. => false
  | .bxr .. => false
  | .bxm .. => false
  | .sto _ _ _ _ _ _ k => noBox k
  | .app _ _ _ _ _ _ k => noBox k
  | .rev _ _ _ _ _ k => noBox k
  | .ite _ a b _ k => noBox a && noBox b && noBox k
  | .whl _ b _ k => noBox b && noBox k
  | .for _ _ b _ k => noBox b && noBox k
  | .ecl _ _ _ _ _ k => noBox k
  | .cbx _ _ _ _ _ _ _ _ _ k => noBox k
noncomputable def asgB (T : Nms) (sc : Scope) (i : Nat) : Bool := decide (i < T.nm.length) && okName (nmOf T.nm i) && (decide (sc.names.lookup (nmOf T.nm i) = some .local) || decide (sc.names.lookup (nmOf T.nm i) = some .cell))
noncomputable def readB (T : Nms) (i : Nat) : Bool := decide (i < T.nm.length) && okName (nmOf T.nm i)
noncomputable def isTup : X → Bool
  | .tup .. => true
  | _ => false
noncomputable def isCom : X → Bool
  | .com .. => true
  | .com2 .. => true
  | _ => false
/-- the comprehension is stored the swapped way -/
noncomputable def swapB (T : Nms) (sc : Scope) (i : Nat) (q : Pos) : X → Bool
  | .com _ _ _ _ sc' _ p => decide (sc.names.lookup (nmOf T.nm i) = some .local) && (q.line == p.line) && !(sc'.names.any fun (n, k) => n == nmOf T.nm i && (k == .local || k == .cell))
  | _ => false
noncomputable def wfS (T : Nms) (sc : Scope) : S → Bool
  | .nil => true
  | .raw _ => true
  | .ret e _ => wfX T sc e
  | .retn _ => true
  | .asg i q e _ k => asgB T sc i && wfX T sc e && (match e with | .com2 .. => false | _ => true) && wfS T sc k
  | .asg2 i _ j _ e _ k => asgB T sc i && asgB T sc j && wfX T sc e && !isCom e && !isTup e && wfS T sc k
  | .ast i j _ _ _ _ e _ k => asgB T sc i && asgB T sc j && wfX T sc e && !isCom e && !isTup e && wfS T sc k
  | .aug i _ _ e _ k => asgB T sc i && wfX T sc e && wfS T sc k
  | .bxl i _ es _ _ k => asgB T sc i && wfX T sc es && wfS T sc k
  | .bxr i _ _ _ as _ _ _ k => asgB T sc i && wfX T sc as && decide (sc.names.lookup Blt.list.name = some .globalImplicit) && decide (sc.names.lookup Blt.range.name = some .globalImplicit) && wfS T sc k
  | .bxm i _ _ _ _ _ e _ _ k => asgB T sc i && wfX T sc e && wfS T sc k
  | .sto i _ ie _ e _ k => readB T i && wfX T sc ie && wfX T sc e && !isCom e && wfS T sc k
  | .app i _ qa e pc _ k => readB T i && wfX T sc e && (qa.endLine == pc.line) && wfS T sc k
  | .rev i _ qa pc _ k => readB T i && (qa.endLine == pc.line) && wfS T sc k
  | .ite t a b _ k => wfX T sc t && wfS T sc a && wfS T sc b && wfS T sc k
  | .whl t b _ k => wfX T sc t && wfS T sc b && noBox b && wfS T sc k
  | .for t it b _ k => (match t with | .one i _ => asgB T sc i | _ => false) && srcWf t it && wfX T sc it && wfS T sc b && noBox b && wfS T sc k
  | .ecl f _ as _ _ k => readB T f && wfX T sc as && wfS T sc k
  | .cbx i _ f _ b _ e _ _ k => asgB T sc i && readB T b && decide (f < T.gf.length) && globB sc (nmOf T.gf f) && wfX T sc e && wfS T sc k
end Mine
end TextA19

section TextA20
open PySem PySem.W PyProof.Rows PySem.Calls PySem.Spec
namespace Mine
structure Frm (c : Cx) (Pc : Addr → Prop) (T : Nms) (sc : Scope) (R : RP) (env : Env) (s : Shared) (ρ : Sto) (μ : Option (List Int)) : Prop where
  P : Pre c R env T.nm s ρ μ
  ns : ∃ m, s.heap.Ns env.locals m
  ol : Own c env.locals
  oc : ∀ x a, sc.names.lookup x = some .cell → env.cells.lookup x = some a → Own c a
  pc : ∀ l, R.P l → Pc l
  dc : μ ≠ none → Pc R.D ∧ Own c R.D
  bb : μ = none → ¬ R.B

/-- what a statement may write -/
noncomputable def Wr (c : Cx) (R : RP) (env : Env) (sc : Scope) (b : Addr) : Prop := b = c.z1 ∨ b = c.z2 ∨ b = R.D ∨ b = env.locals ∨ ∃ x, sc.names.lookup x = some .cell ∧ env.cells.lookup x = some b
section
variable {c : Cx} {Pc : Addr → Prop} {A : Around} {E : Value → Shared → Prop} {s : Shared} {R : RP} {n : Nat} {env : Env} {sc : Scope} {T : Nms} {G : Env0} {ρ ρ' : Sto} {μ : Option (List Int)} {h' : Heap} {tk : Nat}
theorem Ext.wr (x : Ext c s.heap h') : KBP (Wr c R env sc) s.heap h' := fun b o nb e => x b o (fun q => nb (.inl q)) (fun q => nb (.inr (.inl q))) e
theorem KBP.trans {W : Addr → Prop} {h h1 h2 : Heap} (x : KBP W h h1) (y : KBP W h1 h2) : KBP W h h2 := fun b o nb e => y b o nb (x b o nb e)
theorem Frm.ext (F : Frm c Pc T sc R env s ρ μ) (x : Ext c s.heap h') (g' : Good c h') : Frm c Pc T sc R env { s with heap := h', toks := tk } ρ μ where
  P := F.P.ext tk x g'
  ns := let ⟨m, hm⟩ := F.ns; ⟨m, ns_ext x F.P.g hm⟩
  ol := F.ol
  oc := F.oc
  pc := F.pc
  dc := F.dc
  bb := F.bb
structure AsgOk (T : Nms) (sc : Scope) (i : Nat) : Prop where
  lt : i < T.nm.length
  nm : okName (nmOf T.nm i) = true
  k : sc.names.lookup (nmOf T.nm i) = some .local ∨ sc.names.lookup (nmOf T.nm i) = some .cell
theorem asgB_ok {i : Nat} (h : asgB T sc i = true) : AsgOk T sc i := by
  unfold asgB at h
  simp only [Bool.and_eq_true, decide_eq_true_eq, Bool.or_eq_true] at h
  exact ⟨h.1.1, h.1.2, h.2⟩
theorem Frm.slot (ok : EnvOk env sc) (F : Frm c Pc T sc R env s ρ μ) {i : Nat} (h : AsgOk T sc i) : SlotAt env sc s.heap (nmOf T.nm i) ∧ Own c (slotOf env sc (nmOf T.nm i)) := by
  rcases h.k with k | k
  · exact ⟨.inl ⟨k, F.ns⟩, by unfold slotOf; rw [if_pos k]; exact F.ol⟩
  · obtain ⟨a, e⟩ := ok.cel _ (.inl k)
    obtain ⟨v, hv⟩ := F.P.ci _ a e
    exact ⟨.inr ⟨k, a, v, e, hv⟩, by unfold slotOf; rw [if_neg (by rw [k]; decide), e]; exact F.oc _ a k e⟩
theorem slot_wr (ok : EnvOk env sc) {i : Nat} (h : AsgOk T sc i) : Wr c R env sc (slotOf env sc (nmOf T.nm i)) := by
  unfold slotOf
  rcases h.k with k | k
  · rw [if_pos k]; exact .inr (.inr (.inr (.inl rfl)))
  · obtain ⟨a, e⟩ := ok.cel _ (.inl k)
    rw [if_neg (by rw [k]; decide), e]; exact .inr (.inr (.inr (.inr ⟨_, k, e⟩)))
theorem Frm.tgt {ix : List Nat} (ok : EnvOk env sc) (F : Frm c Pc T sc R env s ρ μ) (S : Slots c T env sc ix s.heap) (k : KBP (fun b => ∃ i ∈ ix, b = slotOf env sc (nmOf T.nm i)) s.heap h') (g' : Good c h') (er : EnvR R env h' T.nm ρ') (S' : Slots c T env sc ix h') :
    Frm c Pc T sc R env { s with heap := h', toks := tk } ρ' μ := by
  have live : ∀ b o, s.heap.get? b = some o → ∃ o', h'.get? b = some o' := fun b o e => by
    by_cases w : ∃ i ∈ ix, b = slotOf env sc (nmOf T.nm i)
    · obtain ⟨i, hi, rfl⟩ := w; exact (S'.at_ i hi).live
    · exact ⟨o, k b o w e⟩
  have dat : ∀ b o, IsDat o → s.heap.get? b = some o → h'.get? b = some o := fun b o d e => k b o (fun ⟨i, hi, w⟩ => ((S.at_ i hi).nc b o w e).2 d) e
  have back : ∀ l, h'.get? l = none → s.heap.get? l = none := fun l e => by
    cases q : s.heap.get? l with
    | none => rfl
    | some o => obtain ⟨o', e'⟩ := live l o q; rw [e] at e'; cases e'
  exact {
    P := {
      g := g'
      er := er
      bx := fun ns e => let ⟨vs, ⟨n, hl⟩, r⟩ := F.P.bx ns e; ⟨vs, ⟨n, dat _ _ (.inl ⟨_, _, rfl⟩) hl⟩, r⟩
      fr := fun l e => F.P.fr l (back l e)
      pd := F.P.pd
      dl := let ⟨o, e⟩ := F.P.dl; live _ o e
      ff := F.P.ff
      ci := fun x a e => by
        obtain ⟨v, o, e1, d⟩ := F.P.ci x a e
        by_cases w : ∃ i ∈ ix, a = slotOf env sc (nmOf T.nm i)
        · obtain ⟨i, hi, w⟩ := w
          rcases S'.at_ i hi with ⟨q, m, o2, es, ep, f1, f2, f3⟩ | ⟨q, cc, v, q2, hc⟩
          · rcases S.at_ i hi with ⟨q', m', o3, es', ep', g1, g2, g3⟩ | ⟨q', cc', v, q2', o1, hc, d⟩
            · have : slotOf env sc (nmOf T.nm i) = env.locals := by unfold slotOf; rw [if_pos q]
              rw [w, this, g1] at e1; cases e1; rw [g2] at d; cases d
            · rw [q] at q'; cases q'
          · have : slotOf env sc (nmOf T.nm i) = cc := by unfold slotOf; rw [if_neg (by rw [q]; decide), q2]; rfl
            exact ⟨v, by rw [w, this]; exact hc⟩
        · exact ⟨v, o, k _ _ w e1, d⟩ }
    ns := by
      obtain ⟨m, o, es, ep, e, r⟩ := F.ns
      by_cases w : ∃ i ∈ ix, env.locals = slotOf env sc (nmOf T.nm i)
      · obtain ⟨i, hi, w⟩ := w
        rcases S'.at_ i hi with ⟨q, m, hm⟩ | ⟨q, cc, v, q2, hc⟩
        · exact ⟨m, hm⟩
        · rcases S.at_ i hi with ⟨q', m, hm⟩ | ⟨q', cc', v, q2', o1, hc, d⟩
          · rw [q] at q'; cases q'
          · have : slotOf env sc (nmOf T.nm i) = cc' := by unfold slotOf; rw [if_neg (by rw [q']; decide), q2']; rfl
            rw [w, this, hc] at e; cases e; rw [d] at r; cases r.1
      · exact ⟨m, o, es, ep, k _ _ w e, r⟩
    ol := F.ol
    oc := F.oc
    pc := F.pc
    dc := F.dc
    bb := F.bb }

/-- a value is stored in a name -/
theorem Frm.store {i : Nat} {a : AV} {v : Value} {Q : Unit → Shared → Prop} (nd : nodupB T.nm = true) (ok : EnvOk env sc) (F : Frm c Pc T sc R env s ρ μ) (h : AsgOk T sc i) (rv : Rel R s.heap a v)
    (q : ∀ h' tk, KBP (Wr c R env sc) s.heap h' → Frm c Pc T sc R env { s with heap := h', toks := tk } (ρ.set i (some a)) μ → (∀ a' v', Rel R s.heap a' v' → Rel R h' a' v') → Q () { s with heap := h', toks := tk }) : wpAny (model c.prog c.w) A (storeName env (nmOf T.nm i) v) Q E s := by
  obtain ⟨S, ow⟩ := F.slot ok h
  refine store_ok ok ok.inj F.P.g S ow F.P.er rv (nmOf_get h.lt) (fun j e => nodupB_get nd (nmOf_get h.lt) e) fun h' tk k g' er' S' lv => ?_
  refine q h' tk (fun b o nb e => k b o (fun w => nb (by rw [w]; exact slot_wr ok h)) e) ?_ ?_
  · exact F.tgt (ix := [i]) ok ⟨fun j hj => by simp at hj; subst hj; exact S, fun j hj => by simp at hj; subst hj; exact ow⟩
      (fun b o nb e => k b o (fun w => nb ⟨i, by simp, w⟩) e) g' er' ⟨fun j hj => by simp at hj; subst hj; exact S', fun j hj => by simp at hj; subst hj; exact ow⟩
  · exact fun a' v' r => r.mono (fun b => ⟨b, rfl⟩) rfl (fun _ p _ => p) fun b o _ d e => k b o (fun w => (S.nc b o w e).2 d) e

/-- the box is written -/
theorem Frm.box {ns ns' : List Int} {vs' : List Value} (F : Frm c Pc T sc R env s ρ (some ns)) (k : Heap.SameBut R.D s.heap h') (pl : PL h' R.D vs') (hi : IntsAre vs' ns') (z : ns'.length ≤ big) :
    Frm c Pc T sc R env { s with heap := h', toks := tk } ρ (some ns') ∧ KBP (Wr c R env sc) s.heap h' := by
  obtain ⟨vs, ⟨n, hl⟩, _⟩ := F.P.bx ns rfl
  have kk : KBP (· = R.D) s.heap h' := fun b o nb e => k.extBut b o nb e
  have ow := (F.dc (by simp)).2
  have g' : Good c h' := F.P.g.own (W := (· = R.D)) (fun b w => w ▸ ow) (fun b o w e => by rw [w, hl] at e; cases e; exact nc_seq rfl) kk
  have live : ∀ b o, s.heap.get? b = some o → ∃ o', h'.get? b = some o' := fun b o e => by
    by_cases w : b = R.D
    · obtain ⟨n', e'⟩ := pl; exact ⟨_, w ▸ e'⟩
    · exact ⟨o, kk b o w e⟩
  refine ⟨{
    P := {
      g := g'
      er := fun i a x e1 e2 => by
        obtain ⟨v, r, nv⟩ := F.P.er i a x e1 e2
        refine ⟨v, r.mono (fun b => ⟨b, rfl⟩) rfl (fun _ p _ => p) fun b o p _ e => kk b o (F.P.pd b p) e, ?_⟩
        rcases nv with ⟨q, m, hm, e⟩ | ⟨q, cc, e, hc⟩
        · refine .inl ⟨q, m, hm.sameBut k fun w => ?_, e⟩
          obtain ⟨o, es, ep, f1, d, _⟩ := hm
          rw [w, hl] at f1; cases f1; cases d
        · refine .inr ⟨q, cc, e, hc.sameBut k fun w => ?_⟩
          obtain ⟨o, f1, d⟩ := hc
          rw [w, hl] at f1; cases f1; cases d
      bx := fun ms e => by cases e; exact ⟨vs', pl, hi, z⟩
      fr := fun l e => by
        refine F.P.fr l ?_
        cases q : s.heap.get? l with
        | none => rfl
        | some o => obtain ⟨o', e'⟩ := live l o q; rw [e] at e'; cases e'
      pd := F.P.pd
      dl := let ⟨o, e⟩ := F.P.dl; live _ o e
      ff := F.P.ff
      ci := fun x a e => by
        obtain ⟨v, hc⟩ := F.P.ci x a e
        refine ⟨v, hc.sameBut k fun w => ?_⟩
        obtain ⟨o, f1, d⟩ := hc
        rw [w, hl] at f1; cases f1; cases d }
    ns := by
      obtain ⟨m, hm⟩ := F.ns
      refine ⟨m, hm.sameBut k fun w => ?_⟩
      obtain ⟨o, es, ep, f1, d, _⟩ := hm
      rw [w, hl] at f1; cases f1; cases d
    ol := F.ol
    oc := F.oc
    pc := F.pc
    dc := fun _ => F.dc (by simp)
    bb := fun e => by cases e }, fun b o nb e => kk b o (fun w => nb (.inr (.inr (.inl w)))) e⟩

/-- the box is made -/
noncomputable def boxR (R : RP) (D : Addr) : RP := { P := fun l => R.P l ∧ l ≠ D, D := D, F := R.F, B := True }
theorem Frm.newBox {ns : List Int} {vs : List Value} {D : Addr} (F : Frm c Pc T sc R env s ρ none) (k : Keep s.heap h') (hD : s.heap.get? D = none) (pl : PL h' D vs) (hi : IntsAre vs ns) (z : ns.length ≤ big) :
    Frm c Pc T sc (boxR R D) env { s with heap := h', toks := tk } ρ (some ns) := by
  have hl := pl
  obtain ⟨n, hl⟩ := hl
  have nB := F.bb rfl
  exact {
    P := {
      g := F.P.g.keeps k
      er := fun i a x e1 e2 => by
        obtain ⟨v, r, nv⟩ := F.P.er i a x e1 e2
        refine ⟨v, r.mono (R' := boxR R D) (fun b => absurd b nB) rfl (fun l p ⟨o, e, _⟩ => ⟨p, fun w => by rw [w, hD] at e; cases e⟩) fun b o _ _ e => k b o e, ?_⟩
        rcases nv with ⟨q, m, hm, e⟩ | ⟨q, cc, e, hc⟩
        · exact .inl ⟨q, m, hm.keeps k, e⟩
        · exact .inr ⟨q, cc, e, hc.keeps k⟩
      bx := fun ms e => by cases e; exact ⟨vs, pl, hi, z⟩
      fr := fun l e => ⟨F.P.fr l (by
        cases q : s.heap.get? l with
        | none => rfl
        | some o => rw [k l o q] at e; cases e), fun w => by rw [w, hl] at e; cases e⟩
      pd := fun l p => p.2
      dl := ⟨_, hl⟩
      ff := F.P.ff
      ci := fun x a e => let ⟨v, hc⟩ := F.P.ci x a e; ⟨v, hc.keeps k⟩ }
    ns := let ⟨m, hm⟩ := F.ns; ⟨m, hm.keeps k⟩
    ol := F.ol
    oc := F.oc
    pc := fun l p => F.pc l p.1
    dc := fun _ => ⟨F.pc _ (F.P.fr _ hD), Own.fresh F.P.g hD⟩
    bb := fun e => by cases e }
end
end Mine
end TextA20

section TextA21
open PySem PySem.W PyProof.Rows PySem.Calls PySem.Spec
namespace Mine
section
variable {c : Cx} {Pc : Addr → Prop} {A : Around} {E : Value → Shared → Prop} {s : Shared} {R : RP} {n : Nat} {env : Env} {sc : Scope} {T : Nms} {G : Env0} {ρ ρ' : Sto} {μ : Option (List Int)}
theorem swaps_other (e : X) (tg : Expr) (line : Nat) (env : Env) (h : isCom e = false) : swapsWith (den T e) (some tg) line env = pure false := by cases e <;> first | rfl | cases h
theorem swaps_sub (e : X) (o i : Expr) (p : Pos) (line : Nat) (env : Env) : swapsWith (den T e) (some (.Subscript o i p)) line env = pure false := by cases e <;> rfl
theorem swaps_tup (e : X) (es : List Expr) (k : Nat) (p : Pos) (line : Nat) (env : Env) : swapsWith (den T e) (some (.Tuple es k p)) line env = pure false := by cases e <;> rfl
theorem swapped_none2 (x y : Str) (q q' : Pos) (e : X) (env : Env) (h : isTup e = false) : swappedStores [.Name x q, .Name y q'] (den T e) env = pure none := by cases e <;> first | rfl | cases h
theorem swapped_none1 (es : List Expr) (k : Nat) (p : Pos) (e : X) (env : Env) (h : isTup e = false) : swappedStores [.Tuple es k p] (den T e) env = pure none := by cases e <;> first | rfl | cases h
theorem swaps_com (ok : EnvOk env sc) (i : Nat) (q : Pos) (line : Nat) (e : X) (h2 : match e with | .com2 .. => False | _ => True) : swapsWith (den T e) (some (.Name (nmOf T.nm i) q)) line env = pure (swapB T sc i q e) := by
  cases e with
  | com elt t it cnd sc' fv p =>
    have hb : env.blockKind = .function := by
      unfold Env.blockKind; rw [ok.hsc, ok.kind]; rfl
    show (pure (env.blockKind == .function && env.kindOf (nmOf T.nm i) == some .local && q.line == p.line && !(sc'.names.any fun (n, k) => n == nmOf T.nm i && (k == .local || k == .cell))) : Sem Bool) = _
    rw [hb, kindOf_eq ok]
    unfold swapB
    congr 1
    congr 1
    congr 1
    cases h : (sc.names.lookup (nmOf T.nm i)) with
    | none => rfl
    | some k => cases k <;> rfl
  | com2 => exact h2.elim
  | _ => rfl

theorem st_asg {i : Nat} {q p : Pos} {e : X} {a : AV} {Q : Flow → Shared → Prop} (nd : nodupB T.nm = true) (ok : EnvOk env sc) (C : CxOk c T G n R) (rm : Room A (n + 1)) (F : Frm c Pc T sc R env s ρ μ) (hi : AsgOk T sc i) (we : wfX T sc e = true)
    (hs : swapsWith (den T e) (some (.Name (nmOf T.nm i) q)) p.line env = pure false) (h : ev G μ e ρ = some a)
    (k : ∀ h' tk, KBP (Wr c R env sc) s.heap h' → Frm c Pc T sc R env { s with heap := h', toks := tk } (ρ.set i (some a)) μ → Q .next { s with heap := h', toks := tk }) :
    wpAny (model c.prog c.w) A (exec (.Assign [.Name (nmOf T.nm i) q] (den T e) p) env) Q E s := by
  refine wpAny_Assign_Name (ev_ok nd e we ok C rm F.P h fun v h1 tk1 x1 g1 rv => ?_) hs
  exact (F.ext (tk := tk1) x1 g1).store nd ok hi rv fun h2 tk2 k2 F2 _ => k h2 tk2 ((Ext.wr x1).trans k2) F2
theorem st_asg2 {i j : Nat} {q q' p : Pos} {e : X} {a : AV} {Q : Flow → Shared → Prop} (nd : nodupB T.nm = true) (ok : EnvOk env sc) (C : CxOk c T G n R) (rm : Room A (n + 1)) (F : Frm c Pc T sc R env s ρ μ) (hi : AsgOk T sc i) (hj : AsgOk T sc j) (we : wfX T sc e = true) (ht : isTup e = false)
    (h : ev G μ e ρ = some a)
    (k : ∀ h' tk, KBP (Wr c R env sc) s.heap h' → Frm c Pc T sc R env { s with heap := h', toks := tk } ((ρ.set i (some a)).set j (some a)) μ → Q .next { s with heap := h', toks := tk }) :
    wpAny (model c.prog c.w) A (exec (.Assign [.Name (nmOf T.nm i) q, .Name (nmOf T.nm j) q'] (den T e) p) env) Q E s := by
  refine wpAny_Assign_two (ev_ok nd e we ok C rm F.P h fun v h1 tk1 x1 g1 rv => ?_) rfl (swapped_none2 _ _ _ _ e env ht)
  refine wpAny_assign_Name ((F.ext (tk := tk1) x1 g1).store nd ok hi rv fun h2 tk2 k2 F2 pers => ?_)
  exact wpAny_assign_Name (F2.store nd ok hj (pers _ _ rv) fun h3 tk3 k3 F3 _ => k h3 tk3 (((Ext.wr x1).trans k2).trans k3) F3)
end
end Mine
end TextA21

section TextA22
open PySem PySem.W PyProof.Rows PySem.Calls PySem.Spec
namespace Mine
theorem evs_one {G : Env0} {μ : Option (List Int)} {e : X} {ρ : Sto} {r : AV} (h : ev G μ e ρ = some r) : evs G μ (.cons e .nil) ρ = some [r] := by
  show ((ev G μ e ρ).bind fun a => (evs G μ .nil ρ).bind fun l => some (a :: l)) = _
  rw [h]; rfl
section
variable {c : Cx} {Pc : Addr → Prop} {A : Around} {E : Value → Shared → Prop} {s : Shared} {R : RP} {n : Nat} {env : Env} {sc : Scope} {T : Nms} {G : Env0} {ρ ρ' : Sto} {μ : Option (List Int)}
theorem st_ast {i j : Nat} {pi pj q p : Pos} {kk : Nat} {e : X} {a : AV} {Q : Flow → Shared → Prop} (nd : nodupB T.nm = true) (ok : EnvOk env sc) (C : CxOk c T G n R) (rm : Room A (n + 1)) (F : Frm c Pc T sc R env s ρ μ) (hi : AsgOk T sc i) (hj : AsgOk T sc j) (we : wfX T sc e = true) (ht : isTup e = false)
    (h : ev G μ e ρ = some a) (hs : setT (.two i j pi pj kk q) a ρ = some ρ')
    (k : ∀ h' tk, KBP (Wr c R env sc) s.heap h' → Frm c Pc T sc R env { s with heap := h', toks := tk } ρ' μ → Q .next { s with heap := h', toks := tk }) :
    wpAny (model c.prog c.w) A (exec (.Assign [.Tuple [.Name (nmOf T.nm i) pi, .Name (nmOf T.nm j) pj] kk q] (den T e) p) env) Q E s := by
  refine Assign_Tuple (ev_ok nd e we ok C rm F.P h fun v h1 tk1 x1 g1 rv => ?_) (swaps_tup e [.Name (nmOf T.nm i) pi, .Name (nmOf T.nm j) pj] kk q p.line env) (swapped_none1 _ _ _ e env ht)
  have F1 := F.ext (tk := tk1) x1 g1
  have S : Slots c T env sc [i, j] h1 := ⟨fun m hm => by simp at hm; rcases hm with rfl | rfl; exact (F1.slot ok hi).1; exact (F1.slot ok hj).1, fun m hm => by simp at hm; rcases hm with rfl | rfl; exact (F1.slot ok hi).2; exact (F1.slot ok hj).2⟩
  refine tgt_ok (s := { s with heap := h1, toks := tk1 }) (t := .two i j pi pj kk q) rm.hd ok ok.inj nd (fun m hm => by simp [Tg.ix] at hm; rcases hm with rfl | rfl; exact hi.lt; exact hj.lt) g1 S F1.P.er rv hs fun h2 tk2 k2 g2 er2 S2 lv => ?_
  refine k h2 tk2 ((Ext.wr x1).trans fun b o nb e => k2 b o (fun ⟨m, hm, w⟩ => nb ?_) e) (Frm.tgt (s := { s with heap := h1, toks := tk1 }) ok F1 S k2 g2 er2 S2)
  simp [Tg.ix] at hm
  rcases hm with rfl | rfl
  · rw [w]; exact slot_wr ok hi
  · rw [w]; exact slot_wr ok hj

theorem load_ok {x : Str} {a : AV} {Q : Value → Shared → Prop} (ok : EnvOk env sc) (hx : okName x = true) (g : Good c s.heap) (h : NameAt R env s.heap x a) (p : Post c R s a Q) : wpAny (model c.prog c.w) A (loadName env x) Q E s := by
  have hk : env.scope.kind = .function := by rw [ok.hsc]; exact ok.kind
  obtain ⟨v, r, h⟩ := h
  have q := p.scalar g s.toks r
  rcases h with ⟨q1, m, q2, q3⟩ | ⟨q1 | q1, cc, q2, q3⟩
  · exact wpAny_loadName_local hk q1 q2 q3 q
  · exact wpAny_loadName_cell hk q1 q2 q3 q
  · exact wpAny_loadName_free hk q1 q2 q3 q (okName2 hx)

theorem st_aug {i : Nat} {q p : Pos} {o : Operator} {e : X} {a b r : AV} {Q : Flow → Shared → Prop} (nd : nodupB T.nm = true) (ok : EnvOk env sc) (C : CxOk c T G n R) (rm : Room A (n + 1)) (F : Frm c Pc T sc R env s ρ μ) (hi : AsgOk T sc i) (we : wfX T sc e = true)
    (ha : (ρ[i]?).join = some a) (h : ev G μ e ρ = some b) (hb : bumpO o a b = some r)
    (k : ∀ h' tk, KBP (Wr c R env sc) s.heap h' → Frm c Pc T sc R env { s with heap := h', toks := tk } (ρ.set i (some r)) μ → Q .next { s with heap := h', toks := tk }) :
    wpAny (model c.prog c.w) A (exec (.AugAssign (.Name (nmOf T.nm i) q) o (den T e) p) env) Q E s := by
  refine wpAny_AugAssign_Name (load_ok ok hi.nm F.P.g (F.P.er i a _ (Option.join_eq_some_iff.1 ha) (nmOf_get hi.lt)) fun va h1 tk1 x1 g1 ra => ?_)
  have F1 := F.ext (tk := tk1) x1 g1
  refine ev_ok nd e (s := { s with heap := h1, toks := tk1 }) we ok C rm F1.P h fun vb h2 tk2 x2 g2 rb => ?_
  have F2 := F.ext (tk := tk2) (x1.trans x2) g2
  have fin : ∀ m t tk3, r = .int m → wpAny (model c.prog c.w) A (storeName env (nmOf T.nm i) (.int m t)) (fun _ => Q .next) E { s with heap := h2, toks := tk3 } := fun m t tk3 e => by
    subst e
    exact Frm.store (s := { s with heap := h2, toks := tk3 }) nd ok (F.ext (tk := tk3) (x1.trans x2) g2) hi rel_int fun h3 tk3 k3 F3 _ => k h3 tk3 ((Ext.wr (x1.trans x2)).trans k3) F3
  cases o <;> first | exact noS hb | skip
  · obtain ⟨x, y, rfl, rfl, hb⟩ := int2S hb
    obtain ⟨t, rfl⟩ := ra.i; obtain ⟨u, rfl⟩ := rb.i
    cases hb
    exact PyProof.Rows.iadd_int (fin _ _ _ rfl)
  · obtain ⟨x, y, rfl, rfl, hb⟩ := int2S hb
    obtain ⟨t, rfl⟩ := ra.i; obtain ⟨u, rfl⟩ := rb.i
    cases hb
    exact PyProof.Rows.isub_int (fin _ _ _ rfl)

theorem noRefDrop {v : Value} {P : Prop} (h : ∀ a, v ≠ .ref a) (p : P) : (match v with | .ref _ => False | _ => P) := by cases v <;> first | exact p | exact absurd rfl (h _)
theorem notInter (ok : EnvOk env sc) : interactive env = false := by unfold interactive; rw [ok.hsc, ok.kind]; rfl

theorem box_val {i : Nat} (hi : readB T i = true) (F : Frm c Pc T sc R env s ρ μ) (hb : isBox ρ i = true) : NameAt R env s.heap (nmOf T.nm i) .box ∧ okName (nmOf T.nm i) = true := by
  obtain ⟨w1, w2⟩ := and2 hi
  exact ⟨F.P.er i .box _ (Option.join_eq_some_iff.1 (isBoxS hb)) (nmOf_get (of_decide_eq_true w1)), w2⟩

theorem pairs_are : ∀ xs : List (Int × Tok), IntsAre (xs.map fun p => Value.int p.1 p.2) (xs.map (·.1))
  | [] => .nil
  | x :: xs => .cons _ _ (pairs_are xs)
theorem st_sto {i : Nat} {q qs p : Pos} {ie e : X} {v j : Int} {l : List Int} {Q : Flow → Shared → Prop} (nd : nodupB T.nm = true) (ok : EnvOk env sc) (C : CxOk c T G n R) (rm : Room A (n + 1)) (F : Frm c Pc T sc R env s ρ (some l)) (hi : readB T i = true) (we : wfX T sc e = true) (wi : wfX T sc ie = true)
    (hb : isBox ρ i = true) (h : ev G (some l) e ρ = some (.int v)) (hj : ev G (some l) ie ρ = some (.int j)) (h0 : 0 ≤ j) (h1 : j < l.length)
    (k : ∀ h' tk, KBP (Wr c R env sc) s.heap h' → Frm c Pc T sc R env { s with heap := h', toks := tk } ρ (some (l.set j.toNat v)) → Q .next { s with heap := h', toks := tk }) :
    wpAny (model c.prog c.w) A (exec (.Assign [.Subscript (.Name (nmOf T.nm i) q) (den T ie) qs] (den T e) p) env) Q E s := by
  obtain ⟨nb, hn⟩ := box_val hi F hb
  refine wpAny_Assign_Subscript (ev_ok nd e we ok C rm F.P h fun va h1' tk1 x1 g1 ra => ?_) (swaps_sub e _ _ _ _ env)
  have F1 := F.ext (tk := tk1) x1 g1
  refine name_ok (s := { s with heap := h1', toks := tk1 }) ok hn g1 (nb.ext F.P.g x1) fun vb h2 tk2 x2 g2 rb => ?_
  have F2 := F.ext (tk := tk2) (x1.trans x2) g2
  refine ev_ok nd ie (s := { s with heap := h2, toks := tk2 }) wi ok C rm F2.P hj fun vj h3 tk3 x3 g3 rj => ?_
  have F3 := F.ext (tk := tk3) ((x1.trans x2).trans x3) g3
  obtain ⟨t, rfl⟩ := ra.i
  obtain ⟨u, rfl⟩ := rj.i
  unfold Rel at rb
  obtain ⟨_, rfl⟩ := rb
  obtain ⟨vs, ⟨m, hl⟩, hr, z⟩ := F3.P.bx l rfl
  have len := IntsAre.length hr
  have hbig : big = 1048576 := rfl
  refine ki_setAt (items := vs.toArray) (n := m) hl h0 (by omega) (by rw [List.size_toArray]; omega) ?_
  have up := IsL.update (items := vs.toArray) (n := m) hl (fun x => x.setIfInBounds j.toNat (.int v t))
  have pl : PL (h3.update R.D (Obj.mapSeq fun x => x.setIfInBounds j.toNat (.int v t))) R.D (vs.set j.toNat (.int v t)) := by
    have e : vs.toArray.setIfInBounds j.toNat (.int v t) = (vs.set j.toNat (.int v t)).toArray := by simp
    dsimp only at up
    rw [e] at up
    exact ⟨_, up⟩
  have hi' : IntsAre (vs.set j.toNat (.int v t)) (l.set j.toNat v) := by
    obtain ⟨xs, rfl, rfl⟩ := are_arr hr
    have : ∀ (xs : List (Int × Tok)) (m : Nat), IntsAre ((xs.map fun p => Value.int p.1 p.2).set m (.int v t)) ((xs.map (·.1)).set m v) := by
      intro xs
      induction xs with
      | nil => intro m; exact .nil
      | cons x xs ih => intro m; cases m with
        | zero =>
          exact .cons _ _ (pairs_are xs)
        | succ m => exact .cons _ _ (ih m)
    exact this xs j.toNat
  obtain ⟨F4, k4⟩ := F3.box (tk := tk3) (Heap.SameBut.update ..) pl hi' (by simpa using z)
  exact k _ tk3 ((Ext.wr ((x1.trans x2).trans x3)).trans k4) F4

theorem st_app {i : Nat} {q qa pc p : Pos} {e : X} {v : Int} {l : List Int} {Q : Flow → Shared → Prop} (nd : nodupB T.nm = true) (ok : EnvOk env sc) (C : CxOk c T G n R) (rm : Room A (n + 1)) (F : Frm c Pc T sc R env s ρ (some l)) (hi : readB T i = true) (we : wfX T sc e = true) (hq : (qa.endLine == pc.line) = true)
    (hb : isBox ρ i = true) (h : ev G (some l) e ρ = some (.int v)) (hz : l.length ≤ 1000)
    (k : ∀ h' tk, KBP (Wr c R env sc) s.heap h' → Frm c Pc T sc R env { s with heap := h', toks := tk } ρ (some (l ++ [v])) → Q .next { s with heap := h', toks := tk }) :
    wpAny (model c.prog c.w) A (exec (.Expr (.Call (.Attribute (.Name (nmOf T.nm i) q) "append" qa) [den T e] [] pc) p) env) Q E s := by
  obtain ⟨nb, hn⟩ := box_val hi F hb
  refine wpAny_Expr ?_ (notInter ok) rfl
  have hf : methodCallForm [den T e].length (backTo pc (starEach [den T e] env)) (backToKw pc (keywordEach [] env)) = true := by rw [starEach_cons]; rfl
  obtain ⟨pl, he⟩ := met_eq (x := nmOf T.nm i) (name := "append") (p := q) hq hf
  refine methodCall_KW (pl := pl) (name_ok ok hn F.P.g nb fun vb h2 tk2 x2 g2 rb => ?_) he
  have F2 := F.ext (tk := tk2) x2 g2
  unfold Rel at rb
  obtain ⟨_, rfl⟩ := rb
  obtain ⟨vs, ⟨m, hl⟩, hr, z⟩ := F2.P.bx l rfl
  refine getMethod_list_append hl rfl rfl ?_
  refine args_ok (T := T) (es := .cons e .nil) (K := fun _ => True) (keepM _ (by intro a e; cases e)) ?_
  refine evs_ok nd (.cons e .nil) (s := { s with heap := h2, toks := tk2 }) (Bool.and_eq_true_iff.mpr ⟨we, rfl⟩) ok C rm F2.P (r := [.int v]) (evs_one h) fun ws h3 tk3 x3 g3 rw' => ⟨trivial, ?_⟩
  obtain ⟨w, rfl, rv⟩ := rw'.inv1
  obtain ⟨t, rfl⟩ := rv.i
  have F3 := F.ext (tk := tk3) (x2.trans x3) g3
  obtain ⟨vs', hl', hr', z'⟩ := F3.P.bx l rfl
  have len := IntsAre.length hr'
  have hbig : big = 1048576 := rfl
  have hsl : sizeLine = 16777216 := rfl
  refine wpAny_list_append_plain (l := R.D) (items := vs'.toArray) hl' (fun h4 hp hs4 => ?_) (by rw [List.size_toArray]; omega)
  have pl4 : PL h4 R.D (vs' ++ [.int v t]) := by obtain ⟨n6, e6⟩ := hp; exact ⟨n6, by rw [e6, List.push_toArray]⟩
  obtain ⟨F4, k4⟩ := F3.box (tk := tk3) hs4 pl4 (IntsAre.append hr' (.cons v t .nil)) (by simp; omega)
  exact k _ tk3 ((Ext.wr (x2.trans x3)).trans k4) F4

theorem st_rev {i : Nat} {q qa pc p : Pos} {l : List Int} {Q : Flow → Shared → Prop} (ok : EnvOk env sc) (F : Frm c Pc T sc R env s ρ (some l)) (hi : readB T i = true) (hq : (qa.endLine == pc.line) = true)
    (hb : isBox ρ i = true)
    (k : ∀ h' tk, KBP (Wr c R env sc) s.heap h' → Frm c Pc T sc R env { s with heap := h', toks := tk } ρ (some l.reverse) → Q .next { s with heap := h', toks := tk }) :
    wpAny (model c.prog c.w) A (exec (.Expr (.Call (.Attribute (.Name (nmOf T.nm i) q) "reverse" qa) [] [] pc) p) env) Q E s := by
  obtain ⟨nb, hn⟩ := box_val hi F hb
  refine wpAny_Expr ?_ (notInter ok) rfl
  obtain ⟨pl, he⟩ := met_eq (x := nmOf T.nm i) (name := "reverse") (p := q) (args := []) (env := env) hq rfl
  refine methodCall_KW (pl := pl) (name_ok ok hn F.P.g nb fun vb h2 tk2 x2 g2 rb => ?_) he
  have F2 := F.ext (tk := tk2) x2 g2
  unfold Rel at rb
  obtain ⟨_, rfl⟩ := rb
  obtain ⟨vs, ⟨m, hl⟩, hr, z⟩ := F2.P.bx l rfl
  have len := IntsAre.length hr
  have hbig : big = 1048576 := rfl
  have hsl : sizeLine = 16777216 := rfl
  refine getMethod_list_of PySem.F.slot_list_reverse PySem.F.type_list_reverse (PL.isList ⟨m, hl⟩) ?_ ?_
  · exact ⟨_, hl, rfl⟩
  refine P.reverse_list (items := vs.toArray) (n := m) hl ?_ (by rw [List.size_toArray]; omega)
  have up := IsL.update (items := vs.toArray) (n := m) hl (fun x => x.reverse)
  have pl : PL (h2.update R.D (Obj.mapSeq fun x => x.reverse)) R.D vs.reverse := by
    have e : vs.toArray.reverse = vs.reverse.toArray := by simp
    dsimp only at up
    rw [e] at up
    exact ⟨_, up⟩
  obtain ⟨F4, k4⟩ := F2.box (tk := tk2) (Heap.SameBut.update ..) pl (PyProof.Rows.IntsAre.reverse hr) (by simpa using z)
  exact k _ tk2 ((Ext.wr x2).trans k4) F4
end
end Mine
end TextA22

section TextA23
open PySem PySem.W PyProof.Rows PySem.Calls PySem.Spec
namespace Mine
/-- a call that writes the one list -/
noncomputable def EclOK (c : Cx) (D : Addr) (n : Nat) (f : Value) (args : List AV) (l l' : List Int) : Prop := ∀ (A : Around) (E : Value → Shared → Prop) (s : Shared) (vs : List Value) (R : RP) (Q : Value → Shared → Prop), Room A n → Good c s.heap → (∀ l, s.heap.get? l = none → R.P l) →
  R.D = D → (∀ l, R.P l → l ≠ D) → RelL R s.heap args vs → BoxIs R s.heap (some l) →
  (∀ h' tk, KBP (fun b => b = c.z1 ∨ b = c.z2 ∨ b = D) s.heap h' → Good c h' → BoxIs R h' (some l') → Q .none { s with heap := h', toks := tk }) → wpAny (model c.prog c.w) A (call f vs) Q E s
section
variable {c : Cx} {Pc : Addr → Prop} {A : Around} {E : Value → Shared → Prop} {s : Shared} {R : RP} {n : Nat} {env : Env} {sc : Scope} {T : Nms} {G : Env0} {ρ ρ' : Sto} {μ : Option (List Int)} {h' : Heap} {tk : Nat}
theorem Frm.boxG {ns ns' : List Int} (F : Frm c Pc T sc R env s ρ (some ns)) (k : KBP (fun b => b = c.z1 ∨ b = c.z2 ∨ b = R.D) s.heap h') (g' : Good c h') (bx' : BoxIs R h' (some ns')) :
    Frm c Pc T sc R env { s with heap := h', toks := tk } ρ (some ns') ∧ KBP (Wr c R env sc) s.heap h' := by
  obtain ⟨vs, ⟨n, hl⟩, _⟩ := F.P.bx ns rfl
  have g := F.P.g
  have nt : ∀ b o, s.heap.get? b = some o → (∀ ps, o ≠ tabObj ps) → b ≠ R.D → h'.get? b = some o := fun b o e hn nd => k b o (fun w => by
    rcases w with w | w | w
    · exact g.ne1 e hn w
    · exact g.ne2 e hn w
    · exact nd w) e
  have live : ∀ b o, s.heap.get? b = some o → ∃ o', h'.get? b = some o' := fun b o e => by
    by_cases w1 : b = c.z1
    · rw [w1]; exact g'.z1s
    · by_cases w2 : b = c.z2
      · rw [w2]; exact g'.z2s
      · by_cases w3 : b = R.D
        · obtain ⟨vs', ⟨n', e'⟩, _⟩ := bx' ns' rfl; exact ⟨_, w3 ▸ e'⟩
        · exact ⟨o, k b o (fun w => by rcases w with w | w | w; exact w1 w; exact w2 w; exact w3 w) e⟩
  have cel : ∀ cc v, s.heap.IsCell cc v → h'.IsCell cc v := fun cc v ⟨o, e, d⟩ => ⟨o, nt cc o e (fun ps q => by rw [q] at d; cases d) (fun w => by rw [w, hl] at e; cases e; cases d), d⟩
  have nsk : ∀ a m, s.heap.Ns a m → h'.Ns a m := fun a m ⟨o, es, ep, e, d, r⟩ => ⟨o, es, ep, nt a o e (fun ps q => by rw [q] at d; cases d) (fun w => by rw [w, hl] at e; cases e; cases d), d, r⟩
  refine ⟨{
    P := {
      g := g'
      er := fun i a x e1 e2 => by
        obtain ⟨v, r, nv⟩ := F.P.er i a x e1 e2
        refine ⟨v, r.mono (fun b => ⟨b, rfl⟩) rfl (fun _ p _ => p) fun b o p d e => nt b o e (dat_ne d) (F.P.pd b p), ?_⟩
        rcases nv with ⟨q, m, hm, e⟩ | ⟨q, cc, e, hc⟩
        · exact .inl ⟨q, m, nsk _ _ hm, e⟩
        · exact .inr ⟨q, cc, e, cel _ _ hc⟩
      bx := bx'
      fr := fun l e => by
        refine F.P.fr l ?_
        cases q : s.heap.get? l with
        | none => rfl
        | some o => obtain ⟨o', e'⟩ := live l o q; rw [e] at e'; cases e'
      pd := F.P.pd
      dl := let ⟨o, e⟩ := F.P.dl; live _ o e
      ff := F.P.ff
      ci := fun x a e => let ⟨v, hc⟩ := F.P.ci x a e; ⟨v, cel _ _ hc⟩ }
    ns := let ⟨m, hm⟩ := F.ns; ⟨m, nsk _ _ hm⟩
    ol := F.ol
    oc := F.oc
    pc := F.pc
    dc := fun _ => F.dc (by simp)
    bb := fun e => by cases e }, fun b o nb e => k b o (fun w => by
      rcases w with w | w | w
      · exact nb (.inl w)
      · exact nb (.inr (.inl w))
      · exact nb (.inr (.inr (.inl w)))) e⟩

theorem st_ecl {f i : Nat} {q pc p : Pos} {as : X} {args : List AV} {l l' : List Int} {Q : Flow → Shared → Prop} (nd : nodupB T.nm = true) (ok : EnvOk env sc) (C : CxOk c T G n R) (rm : Room A (n + 1)) (F : Frm c Pc T sc R env s ρ (some l)) (hf : readB T f = true) (wa : wfX T sc as = true)
    (hv : (ρ[f]?).join = some (.fn i)) (ha : evs G (some l) as ρ = some args) (hc : EclOK c R.D n (R.F i) args l l')
    (k : ∀ h' tk, KBP (Wr c R env sc) s.heap h' → Frm c Pc T sc R env { s with heap := h', toks := tk } ρ (some l') → Q .next { s with heap := h', toks := tk }) :
    wpAny (model c.prog c.w) A (exec (.Expr (.Call (.Name (nmOf T.nm f) q) (denL T as) [] pc) p) env) Q E s := by
  refine wpAny_Expr ?_ (notInter ok) rfl
  unfold readB at hf
  simp only [Bool.and_eq_true, decide_eq_true_eq] at hf
  refine Call_ (name_ok ok hf.2 F.P.g (F.P.er f _ _ (Option.join_eq_some_iff.1 hv) (nmOf_get hf.1)) fun v h1 tk1 x1 g1 rv => ?_)
  have F1 := F.ext (tk := tk1) x1 g1
  unfold Rel at rv
  obtain ⟨q, o, fd, rfl, _, e1, e2, e3⟩ := rv
  have fq : ∀ {h' : Heap}, Ext c h1 h' → FnAt q h' := fun x => by
    have := x.dat g1 (.inr (.inr ⟨fd, e2⟩)) e1
    obtain ⟨oc, od, da, sl⟩ := o
    simp only at e2
    subst e2
    exact ⟨oc, od, fd, sl, this⟩
  refine args_ok (K := fun h => FnAt q h) (fun h' hf => keeps_F h' hf) ?_
  refine evs_ok nd as (s := { s with heap := h1, toks := tk1 }) wa ok C rm F1.P ha fun vs h2 tk2 x2 g2 rv => ⟨fq x2, ?_⟩
  have F2 := F.ext (tk := tk2) (x1.trans x2) g2
  rw [e3]
  refine hc A E { s with heap := h2, toks := tk2 } vs R _ rm.weak g2 F2.P.fr rfl F2.P.pd rv F2.P.bx fun h3 tk3 k3 g3 bx3 => ?_
  obtain ⟨F3, kw⟩ := Frm.boxG (s := { s with heap := h2, toks := tk2 }) (tk := tk3) F2 k3 g3 bx3
  exact k h3 tk3 ((Ext.wr (x1.trans x2)).trans kw) F3

theorem st_cbx {i f b : Nat} {q qf qb pc p : Pos} {e : X} {v r : Int} {l : List Int} {Q : Flow → Shared → Prop} (nd : nodupB T.nm = true) (ok : EnvOk env sc) (C : CxOk c T G n R) (rm : Room A (n + 1)) (F : Frm c Pc T sc R env s ρ (some l)) (hi : AsgOk T sc i) (hb : readB T b = true) (hf : f < T.gf.length) (hg : globB sc (nmOf T.gf f) = true) (we : wfX T sc e = true)
    (hx : isBox ρ b = true) (h : ev G (some l) e ρ = some (.int v)) (hr : G.Φ f [.ints l, .int v] = some (.int r)) (h90 : f < 90)
    (k : ∀ h' tk, KBP (Wr c R env sc) s.heap h' → Frm c Pc T sc R env { s with heap := h', toks := tk } (ρ.set i (some (.int r))) (some l) → Q .next { s with heap := h', toks := tk }) :
    wpAny (model c.prog c.w) A (exec (.Assign [.Name (nmOf T.nm i) q] (.Call (.Name (nmOf T.gf f) qf) [.Name (nmOf T.nm b) qb, den T e] [] pc) p) env) Q E s := by
  unfold globB at hg
  simp only [Bool.and_eq_true, decide_eq_true_eq] at hg
  obtain ⟨nb, hn⟩ := box_val hb F hx
  obtain ⟨e1, qq, o, fd, e2, e3, e4⟩ := C.hgf f _ (nmOf_get hf)
  refine wpAny_Assign_Name (Call_ (glob_ok C ok hg.1 hg.2 F.P.g e1 ?_)) rfl
  rw [e2]
  have fq : ∀ {h' : Heap}, Ext c s.heap h' → FnAt qq h' := fun x => by
    have := x.dat F.P.g (.inr (.inr ⟨fd, e4⟩)) (F.P.g.keep _ _ e3)
    obtain ⟨oc, od, da, sl⟩ := o
    simp only at e4
    subst e4
    exact ⟨oc, od, fd, sl, this⟩
  have hbb : ev G (some l) (.var b qb) ρ = some .box := isBoxS hx
  refine args_ok (T := T) (es := .cons (.var b qb) (.cons e .nil)) (K := fun h => FnAt qq h) (fun h' hf => keeps_F h' hf) ?_
  refine evs_ok nd (.cons (.var b qb) (.cons e .nil)) (andI hb (andI we rfl)) ok C rm F.P (r := [.box, .int v]) (bindI hbb (bindI (x := evs G (some l) (.cons e .nil) ρ) (bindI h rfl) rfl)) fun vs h1 tk1 x1 g1 rv => ⟨fq x1, ?_⟩
  have F1 := F.ext (tk := tk1) x1 g1
  obtain ⟨v1, v2, rfl, r1, r2⟩ := rv.inv2
  unfold Rel at r1
  obtain ⟨_, rfl⟩ := r1
  obtain ⟨t, rfl⟩ := r2.i
  obtain ⟨ws, hl, hi2, z⟩ := F1.P.bx l rfl
  have dz : R.D ≠ c.z1 := by
    obtain ⟨m, hl'⟩ := hl
    exact g1.ne1 hl' (fun ps q => by cases q)
  have hcall := C.calls f _ _ hr A E { s with heap := h1, toks := tk1 } [.ref R.D, .int v t] { P := fun l => (R.P l ∨ l = R.D), D := R.D, F := R.F, B := False } (fun v s₁ => wpAny (model c.prog c.w) A (storeName env (nmOf T.nm i) v) (fun _ => Q .next) E s₁) rm.weak g1
    (fun l e => .inl (F1.P.fr l e)) (RelL.cons (by unfold Rel; exact ⟨R.D, ws, rfl, .inr rfl, hl.isList, hi2, z⟩) (RelL.cons rel_int RelL.nil)) fun v h2 tk2 x2 g2 rv2 => by
      obtain ⟨t2, rfl⟩ := rv2.i
      exact Frm.store (s := { s with heap := h2, toks := tk2 }) nd ok (F.ext (tk := tk2) (x1.trans x2) g2) hi rel_int fun h3 tk3 k3 F3 _ => k h3 tk3 ((Ext.wr (x1.trans x2)).trans k3) F3
  rw [F.P.ff f h90, e2] at hcall
  exact hcall

theorem newBox_wr {D : Addr} {h1 h2 : Heap} (hD : s.heap.get? D = none) (k1 : KBP (Wr c R env sc) s.heap h1) (k2 : KBP (Wr c (boxR R D) env sc) h1 h2) : KBP (Wr c R env sc) s.heap h2 := fun b o nb e => by
  refine k2 b o (fun w => ?_) (k1 b o nb e)
  rcases w with w | w | w | w | w
  · exact nb (.inl w)
  · exact nb (.inr (.inl w))
  · have : b = D := w
    rw [this, hD] at e; cases e
  · exact nb (.inr (.inr (.inr (.inl w))))
  · exact nb (.inr (.inr (.inr (.inr w))))

theorem st_bxl {i : Nat} {q pl p : Pos} {es : X} {l : List AV} {ns : List Int} {Q : Flow → Shared → Prop} (nd : nodupB T.nm = true) (ok : EnvOk env sc) (C : CxOk c T G n R) (rm : Room A (n + 1)) (F : Frm c Pc T sc R env s ρ none) (hi : AsgOk T sc i) (we : wfX T sc es = true)
    (h : evs G none es ρ = some l) (hn : asInts l = some ns) (hz : ns.length ≤ 1000)
    (k : ∀ D h' tk, s.heap.get? D = none → KBP (Wr c R env sc) s.heap h' → Frm c Pc T sc (boxR R D) env { s with heap := h', toks := tk } (ρ.set i (some .box)) (some ns) → Q .next { s with heap := h', toks := tk }) :
    wpAny (model c.prog c.w) A (exec (.Assign [.Name (nmOf T.nm i) q] (.List (denL T es) pl) p) env) Q E s := by
  refine wpAny_Assign_Name (List_ (evs_ok nd es we ok C rm F.P h fun vs h1 tk1 x1 g1 rv => ?_)) rfl
  have hi2 := asInts_are hn rv
  have len := IntsAre.length hi2
  have F1 := F.ext (tk := tk1) x1 g1
  have hb : big = 1048576 := rfl
  have hsl : sizeLine = 16777216 := rfl
  refine wpAny_newList ?_ (by omega)
  have hD : h1.get? h1.objs.size = none := Heap.get?_none_of_le (Nat.le_refl _)
  have hD0 : s.heap.get? h1.objs.size = none := x1.none g1 hD
  have kk : Keep h1 (h1.push { cls := .type "list", data := .seq vs.toArray }) := keep_push _ _
  have F2 := Frm.newBox (s := { s with heap := h1, toks := tk1 }) (tk := tk1) F1 kk hD (PL.new h1 vs) hi2 (by omega)
  refine F2.store nd ok hi (by unfold Rel; exact ⟨trivial, rfl⟩) fun h3 tk3 k3 F3 _ => k _ h3 tk3 hD0 ?_ F3
  exact newBox_wr hD0 ((Ext.wr x1).trans (fun b o _ e => kk b o e)) k3

theorem st_bxr {i : Nat} {q ql qr pr pl p : Pos} {as : X} {l l' : List AV} {r : AV} {ns : List Int} {Q : Flow → Shared → Prop} (nd : nodupB T.nm = true) (ok : EnvOk env sc) (C : CxOk c T G n R) (rm : Room A (n + 1)) (F : Frm c Pc T sc R env s ρ none) (hi : AsgOk T sc i) (we : wfX T sc as = true)
    (g1' : sc.names.lookup Blt.list.name = some .globalImplicit) (g2' : sc.names.lookup Blt.range.name = some .globalImplicit)
    (h : evs G none as ρ = some l) (hr : evB .range l = some r) (hl : evB .list [r] = some (.list l')) (hn : asInts l' = some ns)
    (k : ∀ D h' tk, s.heap.get? D = none → KBP (Wr c R env sc) s.heap h' → Frm c Pc T sc (boxR R D) env { s with heap := h', toks := tk } (ρ.set i (some .box)) (some ns) → Q .next { s with heap := h', toks := tk }) :
    wpAny (model c.prog c.w) A (exec (.Assign [.Name (nmOf T.nm i) q] (.Call (.Name Blt.list.name ql) [.Call (.Name Blt.range.name qr) (denL T as) [] pr] [] pl) p) env) Q E s := by
  refine wpAny_Assign_Name (Call_ (builtin_ok C ok g1' F.P.g ?_)) rfl
  refine args_ok (T := T) (es := .cons (.blt .range qr as pr) .nil) (K := fun _ => True) (keepM _ (by intro a e; cases e)) ?_
  have hx : evBx none .range l = some r := hr
  refine evs_ok nd (.cons (.blt .range qr as pr) .nil) (andI (andI (decide_eq_true g2') we) rfl) ok C rm F.P (r := [r]) (bindI (x := ev G none (.blt .range qr as pr) ρ) (bindI h hx) rfl) fun vs h1 tk1 x1 g1 rv => ⟨trivial, ?_⟩
  obtain ⟨v, rfl, y⟩ := rv.inv1
  have F1 := F.ext (tk := tk1) x1 g1
  obtain ⟨a, b, d, rfl⟩ := range_is hr
  unfold Rel at y
  obtain ⟨a0, t, u, w, rfl, _, hrg⟩ := y
  obtain ⟨⟨q1, q2⟩, hl⟩ := ifS (p := Builtin.Range.small a b d = true ∧ rangeLen a b d ≤ 1000) hl
  cases hl
  have hb : big = 1048576 := rfl
  refine call_list_range rm.hd hrg q1 (rangeSize_len a b d) (by omega) fun h2 tk2 acc c' kk e io => ?_
  have hD : h1.get? h1.objs.size = none := Heap.get?_none_of_le (Nat.le_refl _)
  have hD0 : s.heap.get? h1.objs.size = none := x1.none g1 hD
  have rl : RelL R h2 (rangeL a d (rangeLen a b d)) acc.toList := rangeL_rel d _ a _ (by simpa using io.1) (fun i v q => io.2 i v (by simpa using q))
  have hi2 := asInts_are hn rl
  have len := IntsAre.length hi2
  have ll := rl.length
  rw [rangeL_length] at ll
  have F2 := Frm.newBox (s := { s with heap := h1, toks := tk1 }) (tk := tk2) (vs := acc.toList) F1 kk hD ⟨c', by simpa using e⟩ hi2 (by omega)
  refine F2.store nd ok hi (by unfold Rel; exact ⟨trivial, rfl⟩) fun h3 tk3 k3 F3 _ => k _ h3 tk3 hD0 ?_ F3
  exact newBox_wr hD0 ((Ext.wr x1).trans (fun b o _ e => kk b o e)) k3
end
end Mine
end TextA23

section TextA24
open PySem PySem.W PyProof.Rows PySem.Calls PySem.Spec
namespace Mine
section
variable {c : Cx} {Pc : Addr → Prop} {A : Around} {E : Value → Shared → Prop} {s : Shared} {R : RP} {n : Nat} {env : Env} {sc : Scope} {T : Nms} {G : Env0} {ρ ρ' : Sto} {μ : Option (List Int)} {h' : Heap} {tk : Nat}
theorem times_ok {l : Addr} {items : Array Value} {m : Nat} {x : Int} {u : Tok} {Q : Value → Shared → Prop} (hl : s.heap.get? l = some { cls := .type "list", dict := none, data := .seq items m, slots := #[] }) (h0 : 0 ≤ x) (h1 : x ≤ 1000) (hz : items.size = 1)
    (h : ∀ vs : List Value, vs.toArray = List.foldl (fun x1 x2 => x1 ++ x2) #[] (List.replicate x.toNat items) → Q (.ref s.heap.objs.size) { s with heap := s.heap.push { cls := .type "list", data := .seq vs.toArray } }) :
    wpAny (model c.prog c.w) A (binaryOp .Mult (.ref l) (.int x u)) Q E s := by
  have hsl : sizeLine = 16777216 := rfl
  obtain ⟨w, rfl⟩ : ∃ w, items = #[w] := by
    obtain ⟨ls⟩ := items
    cases ls with
    | nil => cases hz
    | cons w r => cases r with
      | nil => exact ⟨w, rfl⟩
      | cons => simp at hz
  have ne : (#[w] : Array Value).isEmpty = false := rfl
  have hsz1 : (#[w] : Array Value).size * x.toNat = x.toNat := by show 1 * x.toNat = _; omega
  refine wpAny_binaryOp_repeat_ref (T := "list") (U := "int") (by decide) ⟨_, hl, rfl⟩ (fun s' => typeIs_int s' x u) noFill_list_mul F.fills_int_mul F.slot_int_rmul repeat_list F.slot_int_index.lookup
    (call_meets F.slot_int_rmul (typeIs_int s x u) F.entry_int_rmul (F.args_int_rmul_2 _ _) (int___rmul___int_list x u l #[w] m) ⟨hl, rfl, ⟨_, hl, rfl⟩, ?_⟩)
  refine call_meets F.slot_list_mul ⟨_, hl, rfl⟩ F.entry_list_mul (F.args_list_mul_2 _ _)
    (AutoListH.list___mul___list_int_3 l #[w] m x u (by simp [Builtin.List.listFitsIndex]; omega) (by rw [hsz1]; omega) (by rw [hsz1]; show ¬ decide (x.toNat > sizeLine) = true; rw [decide_eq_true_iff]; omega)) ⟨hl, ?_⟩
  have := h (List.foldl (fun x1 x2 => x1 ++ x2) #[] (List.replicate x.toNat #[w])).toList (by simp)
  rw [ne]
  simpa using this

theorem st_bxm {i ka : Nat} {a m : Int} {q pa pl pm p : Pos} {e : X} {Q : Flow → Shared → Prop} (nd : nodupB T.nm = true) (ok : EnvOk env sc) (C : CxOk c T G n R) (rm : Room A (n + 1)) (F : Frm c Pc T sc R env s ρ none) (hi : AsgOk T sc i) (we : wfX T sc e = true)
    (h : ev G none e ρ = some (.int m)) (h0 : 0 ≤ m) (h1 : m ≤ 1000)
    (k : ∀ D h' tk, s.heap.get? D = none → KBP (Wr c R env sc) s.heap h' → Frm c Pc T sc (boxR R D) env { s with heap := h', toks := tk } (ρ.set i (some .box)) (some (List.replicate m.toNat a)) → Q .next { s with heap := h', toks := tk }) :
    wpAny (model c.prog c.w) A (exec (.Assign [.Name (nmOf T.nm i) q] (.BinOp (.List [.Constant (.int a) ka pa] pl) .Mult (den T e) pm) p) env) Q E s := by
  refine wpAny_Assign_Name (wpAny_BinOp ?_) rfl
  refine List_ (spliced_cons (wpAny_Constant_int (k := ka) (pos := pa) (spliced_nil (wpAny_newList ?_ (show 1 ≤ sizeLine from by decide)))))
  have k1 : Keep s.heap (s.heap.push { cls := .type "list", data := .seq [Value.int a s.toks].toArray }) := keep_push _ _
  have F1 := F.ext (tk := s.toks + 1) k1.ext (F.P.g.keeps k1)
  have hl : (s.heap.push { cls := .type "list", data := .seq [Value.int a s.toks].toArray }).get? s.heap.objs.size = some { cls := .type "list", data := .seq [Value.int a s.toks].toArray } := Heap.get?_push_size _ rfl
  refine ev_ok nd e (s := { s with heap := s.heap.push { cls := .type "list", data := .seq [Value.int a s.toks].toArray }, toks := s.toks + 1 }) we ok C rm F1.P h fun vm h2 tk2 x2 g2 rm2 => ?_
  obtain ⟨t, rfl⟩ := rm2.i
  have hl2 := x2.dat (F.P.g.keeps k1) (.inl ⟨_, _, rfl⟩) hl
  have x02 : Ext c s.heap h2 := k1.ext.trans x2
  have F2 := F.ext (tk := tk2) x02 g2
  refine times_ok (s := { s with heap := h2, toks := tk2 }) hl2 h0 h1 rfl fun vs hvs => ?_
  have hD : h2.get? h2.objs.size = none := Heap.get?_none_of_le (Nat.le_refl _)
  have hD0 : s.heap.get? h2.objs.size = none := x02.none g2 hD
  have kk : Keep h2 (h2.push { cls := .type "list", data := .seq vs.toArray }) := keep_push _ _
  have evs' : vs = List.replicate m.toNat (Value.int a s.toks) := by
    have rep : ∀ (N : Nat) (acc : Array Value), List.foldl (fun x1 x2 => x1 ++ x2) acc (List.replicate N [Value.int a s.toks].toArray) = acc ++ (List.replicate N (Value.int a s.toks)).toArray := by
      intro N
      induction N with
      | zero => intro acc; simp
      | succ N ih => intro acc; rw [List.replicate_succ, List.foldl_cons, ih, List.replicate_succ]; apply Array.toList_inj.mp; simp
    have := congrArg Array.toList (hvs.trans (rep m.toNat #[]))
    simpa using this
  have hi2 : IntsAre vs (List.replicate m.toNat a) := by
    rw [evs']
    generalize m.toNat = N
    induction N with
    | zero => exact .nil
    | succ N ih => exact .cons _ _ ih
  have hb : big = 1048576 := rfl
  have F3 := Frm.newBox (s := { s with heap := h2, toks := tk2 }) (tk := tk2) F2 kk hD (PL.new h2 vs) hi2 (by simp; omega)
  refine F3.store nd ok hi (by unfold Rel; exact ⟨trivial, rfl⟩) fun h3 tk3 k3 F4 _ => k _ h3 tk3 hD0 ?_ F4
  exact newBox_wr hD0 ((Ext.wr x02).trans (fun b o _ e => kk b o e)) k3

/-- a dict that is no frame's is written: a comprehension's names are let go -/
theorem Frm.dictBut {C : Addr} {m : Str → Option Value} (F : Frm c Pc T sc R env s ρ μ) (hC : s.heap.Ns C m) (ow : Own c C) (pC : R.P C) (hne : C ≠ env.locals) (k : Heap.SameBut C s.heap h') : Frm c Pc T sc R env { s with heap := h', toks := tk } ρ μ := by
  obtain ⟨oC, es, ep, eC, dC, _⟩ := hC
  have kk : KBP (· = C) s.heap h' := fun b o nb e => k.extBut b o nb e
  have g' : Good c h' := F.P.g.own (W := (· = C)) (fun b w => w ▸ ow) (fun b o w e => by rw [w, eC] at e; cases e; exact nc_dict dC) kk
  have dat : ∀ b o, IsDat o → s.heap.get? b = some o → h'.get? b = some o := fun b o d e => kk b o (fun w => by
    rw [w, eC] at e; cases e
    rcases d with ⟨_, _, d⟩ | ⟨_, _, d⟩ | ⟨_, d⟩ <;> (rw [dC] at d; cases d)) e
  have cel : ∀ cc v, s.heap.IsCell cc v → h'.IsCell cc v := fun cc v ⟨o, e, d⟩ => ⟨o, kk cc o (fun w => by rw [w, eC] at e; cases e; rw [dC] at d; cases d) e, d⟩
  have sz : ∀ l, h'.get? l = none → s.heap.get? l = none ∨ l = C := fun l e => by
    by_cases w : l = C
    · exact .inr w
    · left
      cases q : s.heap.get? l with
      | none => rfl
      | some o => rw [kk l o w q] at e; cases e
  have hDC : R.D ≠ C := fun w => F.P.pd C pC w.symm
  exact {
    P := {
      g := g'
      er := fun i a x e1 e2 => by
        obtain ⟨v, r, nv⟩ := F.P.er i a x e1 e2
        refine ⟨v, r.mono (fun b => ⟨b, rfl⟩) rfl (fun _ p _ => p) fun b o _ d e => dat b o d e, ?_⟩
        rcases nv with ⟨q, m, hm, e⟩ | ⟨q, cc, e, hc⟩
        · exact .inl ⟨q, m, hm.sameBut k hne.symm, e⟩
        · exact .inr ⟨q, cc, e, cel _ _ hc⟩
      bx := fun ns e => let ⟨vs, ⟨n, hl⟩, r⟩ := F.P.bx ns e; ⟨vs, ⟨n, dat _ _ (.inl ⟨_, _, rfl⟩) hl⟩, r⟩
      fr := fun l e => (sz l e).elim (F.P.fr l) fun w => w ▸ pC
      pd := F.P.pd
      dl := let ⟨o, e⟩ := F.P.dl; ⟨o, kk _ _ hDC e⟩
      ff := F.P.ff
      ci := fun x a e => let ⟨v, hc⟩ := F.P.ci x a e; ⟨v, cel _ _ hc⟩ }
    ns := let ⟨m, hm⟩ := F.ns; ⟨m, hm.sameBut k hne.symm⟩
    ol := F.ol
    oc := F.oc
    pc := F.pc
    dc := F.dc
    bb := F.bb }

/-- a fresh address is none that a statement writes -/
theorem fresh_wr (F : Frm c Pc T sc R env s ρ μ) {C : Addr} (hC : s.heap.get? C = none) : ¬ Wr c R env sc C := fun w => by
  rcases w with w | w | w | w | ⟨x, w1, w2⟩
  · obtain ⟨o, e⟩ := F.P.g.z1s; rw [← w, hC] at e; cases e
  · obtain ⟨o, e⟩ := F.P.g.z2s; rw [← w, hC] at e; cases e
  · obtain ⟨o, e⟩ := F.P.dl; rw [← w, hC] at e; cases e
  · obtain ⟨m, o, es, ep, e, _⟩ := F.ns; rw [← w, hC] at e; cases e
  · obtain ⟨v, o, e, _⟩ := F.P.ci x _ w2; rw [hC] at e; cases e

theorem st_swap {i : Nat} {q p pe : Pos} {elt it cnd : X} {t : Tg} {sc' : Scope} {fv : List Nat} {xs ys : List AV} {Q : Flow → Shared → Prop} (nd : nodupB T.nm = true) (ok : EnvOk env sc) (C : CxOk c T G n R) (rm : Room A (n + 1)) (F : Frm c Pc T sc R env s ρ μ) (hi : AsgOk T sc i)
    (we : wfX T sc (.com elt t it cnd sc' fv pe) = true)
    (hs : swapsWith (den T (.com elt t it cnd sc' fv pe)) (some (.Name (nmOf T.nm i) q)) p.line env = pure true)
    (hx : src G μ it ρ = some xs) (hl : catO (stepF t (fun ρ' => cd G μ cnd ρ') (fun ρ' => ev G μ elt ρ') (mask fv 0 ρ)) xs = some ys) (hz : xs.length ≤ 1000)
    (k : ∀ h' tk, KBP (Wr c R env sc) s.heap h' → Frm c Pc T sc R env { s with heap := h', toks := tk } (ρ.set i (some (.list ys))) μ → Q .next { s with heap := h', toks := tk }) :
    wpAny (model c.prog c.w) A (exec (.Assign [.Name (nmOf T.nm i) q] (den T (.com elt t it cnd sc' fv pe)) p) env) Q E s := by
  obtain ⟨we, w5⟩ := and2 we
  obtain ⟨we, w4⟩ := and2 we
  obtain ⟨we, w3⟩ := and2 we
  obtain ⟨w1, w2⟩ := and2 we
  have wf := compWf_ok w1
  have P := F.P
  obtain ⟨cl, hcl, hcl1, hcl2⟩ := closure_ok (env := env) (scope := sc') fun x m => ok.cel x (wf.fre x m)
  rw [exec_Assign_Name_used _ _ _ _ hs]
  refine wpAny_bind (wpAny_standAt (wpAny_bind ?_))
  show wpAny _ A (do let _ ← comprehension (.ListComp (den T elt) [⟨denT T t, den T it, denL T cnd, 0⟩] sc' pe) sc' env _ (newList []) false (eval (den T it) env) (some (assign (.Name (nmOf T.nm i) q) env))) _ _ s
  refine wpAny_bind (wpAny_mono (wpAny_comprehension_free (use := some (assign (.Name (nmOf T.nm i) q) env)) (Q := fun _ s' => Q .next s') rfl (fun x => folded it env x) hcl wf.kind (fun x m e => wf.loc x.1 (by rw [← e]; exact m)) ?_) (fun _ s' hq => wpAny_pure (wpAny_pure hq)) fun _ _ e => e)
  refine src_ok nd it t w2 w3 ok C rm P hx fun itv s₂ h => ?_
  obtain ⟨I, h₂, tk, fp, wr, St, Mid, rfl, rfl, src⟩ := h
  refine comp_core (RR := fun acc C => compPost (model c.prog c.w) A E (some (assign (.Name (nmOf T.nm i) q) env)) (fun _ s' => Q .next s') acc C) ok P rm wf nd hcl1 (fun x m => hcl2 x m) src
    (fun R' cenv s' ρ' b E' Q hF ok' P' hb hQ => cd_ok nd cnd w5 ok' (C.withF hF) rm P' hb hQ) (fun R' cenv s' ρ' r E' Q hF ok' P' hr hQ => ev_ok nd elt w4 ok' (C.withF hF) rm P' hr hQ) hl hz fun acc C h tk m hC x g r hm => ?_
  show wpAny _ A (assign (.Name (nmOf T.nm i) q) env acc) _ _ _
  have F1 := F.ext (tk := tk) x g
  refine wpAny_assign_Name (F1.store nd ok hi r fun h2 tk2 k2 F2 _ => ?_)
  have hm2 : h2.Ns C m := by
    obtain ⟨o, es, ep, e, rest⟩ := hm
    refine ⟨o, es, ep, k2 C o (fun w => fresh_wr F hC w) e, rest⟩
  refine ⟨m, hm2, fun h3 hs3 => ?_⟩
  have ow : Own c C := Own.fresh P.g hC
  have hne : C ≠ env.locals := fun w => fresh_wr F hC (.inr (.inr (.inr (.inl w))))
  refine k h3 tk2 (fun b o nb e => hs3.extBut b o (fun w => by rw [w, hC] at e; cases e) (((Ext.wr x).trans k2) b o nb e)) ?_
  exact Frm.dictBut (s := { s with heap := h2, toks := tk2 }) F2 hm2 ow (P.fr C hC) hne hs3
end
end Mine
end TextA24

section TextA25
open PySem PySem.W PyProof.Rows PySem.Calls PySem.Spec
namespace Mine
section
variable {c : Cx} {Pc : Addr → Prop} {A : Around} {E : Value → Shared → Prop} {s : Shared} {R R' : RP} {n : Nat} {env : Env} {sc : Scope} {T : Nms} {G : Env0} {ρ ρ' : Sto} {μ : Option (List Int)} {h' : Heap} {tk : Nat}
/-- what is written later was written from the start -/
noncomputable def Tr (c : Cx) (env : Env) (sc : Scope) (R : RP) (h : Heap) (R' : RP) (h' : Heap) : Prop := ∀ h'', KBP (Wr c R' env sc) h' h'' → KBP (Wr c R env sc) h h''
theorem Tr.of {h h' : Heap} (k : KBP (Wr c R env sc) h h') : Tr c env sc R h R h' := fun _ k' => k.trans k'
theorem Tr.trans {R'' : RP} {h h' h'' : Heap} (x : Tr c env sc R h R' h') (y : Tr c env sc R' h' R'' h'') : Tr c env sc R h R'' h'' := fun _ k => x _ (y _ k)
noncomputable def PostS (c : Cx) (Pc : Addr → Prop) (T : Nms) (sc : Scope) (R : RP) (env : Env) (s : Shared) (nb : Bool) (Q : Flow → Shared → Prop) : Out → Prop
  | .fall ρ' μ' => ∀ R' h' tk, R'.F = R.F → (nb = true → R' = R) → Tr c env sc R s.heap R' h' → Frm c Pc T sc R' env { s with heap := h', toks := tk } ρ' μ' → Q .next { s with heap := h', toks := tk }
  | .ret a => ∀ v h' tk D B, KBP (Wr c R env sc) s.heap h' → Good c h' → Rel ⟨Pc, D, R.F, B⟩ h' a v → Q (.ret v) { s with heap := h', toks := tk }
  | .retn l => ∀ h' tk, KBP (Wr c R env sc) s.heap h' → Good c h' → (nb = true → BoxIs R h' (some l)) → Q (.ret .none) { s with heap := h', toks := tk }
theorem PostS.after {nb nb' : Bool} {Q : Flow → Shared → Prop} {out : Out} {h1 : Heap} {tk1 : Nat} (p : PostS c Pc T sc R env s nb Q out) (hF : R'.F = R.F) (hn : nb = true → R' = R) (hn2 : nb = true → nb' = true) (t : Tr c env sc R s.heap R' h1) : PostS c Pc T sc R' env { s with heap := h1, toks := tk1 } nb' Q out := by
  cases out with
  | fall ρ' μ' => exact fun R2 h' tk hF2 hn' t2 F => p R2 h' tk (hF2.trans hF) (fun e => (hn' (hn2 e)).trans (hn e)) (t.trans t2) F
  | ret a => exact fun v h' tk D B k g r => p v h' tk D B (t _ k) g (by rw [← hF]; exact r)
  | retn l => exact fun h' tk k g b => p h' tk (t _ k) g (fun e => by rw [← hn e]; exact b (hn2 e))
theorem Frm.retv (F : Frm c Pc T sc R env s ρ μ) {a : AV} {v : Value} (r : Rel R s.heap a v) : Rel ⟨Pc, R.D, R.F, R.B⟩ s.heap a v := r.mono (R := R) (R' := ⟨Pc, R.D, R.F, R.B⟩) (fun b => ⟨b, rfl⟩) rfl (fun l p _ => F.pc l p) fun _ _ _ _ e => e

theorem dat_wr (F : Frm c Pc T sc R env s ρ μ) {b : Addr} {o : Obj} (p : b ≠ c.z1 ∧ b ≠ c.z2 ∧ b ≠ R.D) (e : s.heap.get? b = some o) (h1 : ∀ es n, o.data ≠ .dict es n) (h2 : ∀ v, o.data ≠ .cell v) : ¬ Wr c R env sc b := fun w => by
  rcases w with w | w | w | w | ⟨x, w1, w2⟩
  · exact p.1 w
  · exact p.2.1 w
  · exact p.2.2 w
  · obtain ⟨m, o', es, ep, e', d, _⟩ := F.ns; rw [← w, e] at e'; cases e'; exact h1 _ _ d
  · obtain ⟨v, o', e', d⟩ := F.P.ci x _ w2; rw [e] at e'; cases e'; exact h2 _ d
theorem dat_wr' (F : Frm c Pc T sc R env s ρ μ) {b : Addr} {o : Obj} (p : R.P b) (e : s.heap.get? b = some o) (d : IsDat o) : ¬ Wr c R env sc b := by
  refine dat_wr F ⟨F.P.g.ne1 e (dat_ne d), F.P.g.ne2 e (dat_ne d), F.P.pd b p⟩ e (fun es n q => ?_) fun v q => ?_
  · rcases d with ⟨_, _, d⟩ | ⟨_, _, d⟩ | ⟨_, d⟩ <;> (rw [d] at q; cases q)
  · rcases d with ⟨_, _, d⟩ | ⟨_, _, d⟩ | ⟨_, d⟩ <;> (rw [d] at q; cases q)

/-- the iterator of a loop is set apart -/
noncomputable def cutW (R : RP) (wr : List Addr) : RP := { P := fun l => R.P l ∧ l ∉ wr, D := R.D, F := R.F, B := R.B }
theorem Frm.cut {wr : List Addr} (F : Frm c Pc T sc R env s ρ μ) {h₂ : Heap} (x : Ext c s.heap h₂) (g₂ : Good c h₂) (wn : ∀ b ∈ wr, s.heap.get? b = none) (ws : ∀ b ∈ wr, ∃ o, h₂.get? b = some o) : Frm c Pc T sc (cutW R wr) env { s with heap := h₂, toks := tk } ρ μ := by
  have F2 := F.ext (tk := tk) x g₂
  exact {
    P := {
      g := F2.P.g
      er := fun i a y e1 e2 => by
        obtain ⟨v, r, nv⟩ := F.P.er i a y e1 e2
        refine ⟨v, r.mono (R := R) (R' := cutW R wr) (fun b => ⟨b, rfl⟩) rfl (fun l p ⟨o, e, _⟩ => ⟨p, fun m => by rw [wn l m] at e; cases e⟩) fun b o _ d e => x.dat F.P.g d e, ?_⟩
        rcases nv with ⟨q, m, hm, e⟩ | ⟨q, cc, e, hc⟩
        · exact .inl ⟨q, m, ns_ext x F.P.g hm, e⟩
        · exact .inr ⟨q, cc, e, cell_ext x F.P.g hc⟩
      bx := F2.P.bx
      fr := fun l e => ⟨F2.P.fr l e, fun m => by obtain ⟨o, e'⟩ := ws l m; rw [show h₂.get? l = none from e] at e'; cases e'⟩
      pd := fun l p => F.P.pd l p.1
      dl := F2.P.dl
      ff := F.P.ff
      ci := F2.P.ci }
    ns := F2.ns
    ol := F.ol
    oc := F.oc
    pc := fun l p => F.pc l p.1
    dc := F.dc
    bb := F.bb }
theorem Frm.widen {wr : List Addr} {s0 : Shared} {ρ0 : Sto} {μ0 : Option (List Int)} (F0 : Frm c Pc T sc R env s0 ρ0 μ0) (F : Frm c Pc T sc (cutW R wr) env s ρ μ) : Frm c Pc T sc R env s ρ μ where
  P := {
    g := F.P.g
    er := fun i a y e1 e2 => let ⟨v, r, nv⟩ := F.P.er i a y e1 e2; ⟨v, r.mono (R := cutW R wr) (R' := R) (fun b => ⟨b, rfl⟩) rfl (fun _ p _ => p.1) fun _ _ _ _ e => e, nv⟩
    bx := F.P.bx
    fr := fun l e => (F.P.fr l e).1
    pd := F0.P.pd
    dl := F.P.dl
    ff := F.P.ff
    ci := F.P.ci }
  ns := F.ns
  ol := F.ol
  oc := F.oc
  pc := F0.pc
  dc := F.dc
  bb := F.bb
theorem Frm.wrote {wr : List Addr} (F : Frm c Pc T sc (cutW R wr) env s ρ μ) (k : KB wr s.heap h') (ow : ∀ b ∈ wr, Own c b) (nc : ∀ b ∈ wr, ∃ o, s.heap.get? b = some o ∧ NotCode o) (lv : ∀ b ∈ wr, ∃ o, h'.get? b = some o) (nW : ∀ b ∈ wr, ¬ Wr c R env sc b) (nc2 : ∀ x a, env.cells.lookup x = some a → a ∉ wr) :
    Frm c Pc T sc (cutW R wr) env { s with heap := h', toks := tk } ρ μ := by
  have g' : Good c h' := F.P.g.own (W := (· ∈ wr)) ow (fun b o w e => let ⟨o', e', q⟩ := nc b w; by rw [e] at e'; cases e'; exact q) k
  have nL : env.locals ∉ wr := fun m => nW _ m (.inr (.inr (.inr (.inl rfl))))
  have nD : R.D ∉ wr := fun m => nW _ m (.inr (.inr (.inl rfl)))
  exact {
    P := {
      g := g'
      er := fun i a y e1 e2 => by
        obtain ⟨v, r, nv⟩ := F.P.er i a y e1 e2
        refine ⟨v, r.mono (fun b => ⟨b, rfl⟩) rfl (fun _ p _ => p) fun b o (p : (cutW R wr).P b) _ e => k b o p.2 e, ?_⟩
        rcases nv with ⟨q, m, ⟨o, es, ep, f1, f2⟩, e⟩ | ⟨q, cc, e, ⟨o, f1, f2⟩⟩
        · exact .inl ⟨q, m, ⟨o, es, ep, k _ _ nL f1, f2⟩, e⟩
        · exact .inr ⟨q, cc, e, ⟨o, k _ _ (nc2 _ _ e) f1, f2⟩⟩
      bx := fun ns e => let ⟨vs, ⟨n, hl⟩, r⟩ := F.P.bx ns e; ⟨vs, ⟨n, k _ _ nD hl⟩, r⟩
      fr := fun l e => F.P.fr l (by
        by_cases m : l ∈ wr
        · obtain ⟨o, e'⟩ := lv l m; rw [show h'.get? l = none from e] at e'; cases e'
        · cases q : s.heap.get? l with
          | none => rfl
          | some o => have := k l o m q; rw [show h'.get? l = none from e] at this; cases this)
      pd := F.P.pd
      dl := let ⟨o, e⟩ := F.P.dl; ⟨o, k _ _ nD e⟩
      ff := F.P.ff
      ci := fun x a e => let ⟨v, o, f1, f2⟩ := F.P.ci x a e; ⟨v, o, k _ _ (nc2 _ _ e) f1, f2⟩ }
    ns := let ⟨m, o, es, ep, f1, f2⟩ := F.ns; ⟨m, o, es, ep, k _ _ nL f1, f2⟩
    ol := F.ol
    oc := F.oc
    pc := F.pc
    dc := F.dc
    bb := F.bb }

theorem st_while {t : X} {body : List Stmt} {p : Pos} {Q : Flow → Shared → Prop} {out : Out} {tst : Sto → Option (List Int) → Option Bool} {bod : Sto → Option (List Int) → Option Out} (fuel : Nat) (F : Frm c Pc T sc R env s ρ μ)
    (ht : ∀ (h1 : Heap) (tk1 : Nat) (ρ : Sto) (μ : Option (List Int)) (b : Bool) (E' : Value → Shared → Prop) (Q' : Bool → Shared → Prop), Frm c Pc T sc R env { s with heap := h1, toks := tk1 } ρ μ → tst ρ μ = some b → PostB c { s with heap := h1, toks := tk1 } b Q' → wpAny (model c.prog c.w) A (PySem.isTrue (den T t) env (eval (den T t) env)) Q' E' { s with heap := h1, toks := tk1 })
    (hb : ∀ (h1 : Heap) (tk1 : Nat) (ρ : Sto) (μ : Option (List Int)) (o : Out) (E' : Value → Shared → Prop) (Q' : Flow → Shared → Prop), Frm c Pc T sc R env { s with heap := h1, toks := tk1 } ρ μ → bod ρ μ = some o → PostS c Pc T sc R env { s with heap := h1, toks := tk1 } true Q' o → wpAny (model c.prog c.w) A (execs body env) Q' E' { s with heap := h1, toks := tk1 })
    (h : whileO tst bod fuel ρ μ = some out) (q : PostS c Pc T sc R env s true Q out) : wpAny (model c.prog c.w) A (exec (.While (den T t) body [] p) env) Q E s := by
  refine wpAny_While ?_
  refine codeAny_whileLoop (fun m s' => ∃ ρ μ h1 tk1, s' = { s with heap := h1, toks := tk1 } ∧ KBP (Wr c R env sc) s.heap h1 ∧ Frm c Pc T sc R env { s with heap := h1, toks := tk1 } ρ μ ∧ whileO tst bod m ρ μ = some out) ?_ fuel ⟨ρ, μ, s.heap, s.toks, rfl, fun _ _ _ e => e, F, h⟩
  rintro m s' ⟨ρ, μ, h1, tk1, rfl, k1, F1, hw⟩
  cases m with
  | zero => cases hw
  | succ m =>
    obtain ⟨b, ht1, hw⟩ := bindS (x := tst ρ μ) hw
    cases b with
    | true =>
      refine ht h1 tk1 ρ μ true _ _ F1 ht1 fun h2 tk2 x2 g2 => ?_
      rw [if_pos rfl]
      have F2 := F1.ext (tk := tk2) x2 g2
      obtain ⟨o, hb1, hw⟩ := bindS (x := bod ρ μ) hw
      cases o with
      | fall ρ' μ' =>
        refine hb h2 tk2 ρ μ _ _ _ F2 hb1 ?_
        intro R' h3 tk3 _ hR t3 F3
        have := hR rfl
        subst this
        exact ⟨m, Nat.lt_succ_self _, _, _, h3, tk3, rfl, ((k1.trans (Ext.wr x2)).trans (t3 _ fun _ _ _ e => e)), F3, hw⟩
      | ret a =>
        cases hw
        refine hb h2 tk2 ρ μ _ _ _ F2 hb1 ?_
        intro v h3 tk3 D B k3 g3 r3
        exact q v h3 tk3 D B ((k1.trans (Ext.wr x2)).trans k3) g3 r3
      | retn l =>
        cases hw
        refine hb h2 tk2 ρ μ _ _ _ F2 hb1 ?_
        intro h3 tk3 k3 g3 b3
        exact q h3 tk3 ((k1.trans (Ext.wr x2)).trans k3) g3 b3
    | false =>
      cases hw
      refine ht h1 tk1 ρ μ false _ _ F1 ht1 fun h2 tk2 x2 g2 => ?_
      rw [if_neg (by decide)]
      refine wpAny_execs_nil ?_
      exact q R h2 tk2 rfl (fun _ => rfl) (Tr.of (k1.trans (Ext.wr x2))) (F1.ext (tk := tk2) x2 g2)
end
end Mine
end TextA25

section TextA26
open PySem PySem.W PyProof.Rows PySem.Calls PySem.Spec
namespace Mine
section
variable {c : Cx} {Pc : Addr → Prop} {A : Around} {E : Value → Shared → Prop} {s : Shared} {R R' : RP} {n : Nat} {env : Env} {sc : Scope} {T : Nms} {G : Env0} {ρ ρ' : Sto} {μ : Option (List Int)} {h' : Heap} {tk : Nat}
theorem wr_cut {wr : List Addr} {b : Addr} : Wr c (cutW R wr) env sc b ↔ Wr c R env sc b := Iff.rfl
theorem Frm.endLoop {wr : List Addr} {s0 : Shared} {ρ0 : Sto} {μ0 : Option (List Int)} (F0 : Frm c Pc T sc R env s0 ρ0 μ0) (F : Frm c Pc T sc (cutW R wr) env s ρ μ) (k : KB wr s.heap h') (ow : ∀ b ∈ wr, Own c b) (nc : ∀ b ∈ wr, ∃ o, s.heap.get? b = some o ∧ NotCode o) (wn : ∀ b ∈ wr, s0.heap.get? b = none)
    (nW : ∀ b ∈ wr, ¬ Wr c R env sc b) (nc2 : ∀ x a, env.cells.lookup x = some a → a ∉ wr) : Frm c Pc T sc R env { s with heap := h', toks := tk } ρ μ := by
  have g' : Good c h' := F.P.g.own (W := (· ∈ wr)) ow (fun b o w e => let ⟨o', e', q⟩ := nc b w; by rw [e] at e'; cases e'; exact q) k
  have nL : env.locals ∉ wr := fun m => nW _ m (.inr (.inr (.inr (.inl rfl))))
  have nD : R.D ∉ wr := fun m => nW _ m (.inr (.inr (.inl rfl)))
  exact {
    P := {
      g := g'
      er := fun i a y e1 e2 => by
        obtain ⟨v, r, nv⟩ := F.P.er i a y e1 e2
        refine ⟨v, r.mono (R := cutW R wr) (R' := R) (fun b => ⟨b, rfl⟩) rfl (fun _ p _ => p.1) fun b o (p : (cutW R wr).P b) _ e => k b o p.2 e, ?_⟩
        rcases nv with ⟨q, m, ⟨o, es, ep, f1, f2⟩, e⟩ | ⟨q, cc, e, ⟨o, f1, f2⟩⟩
        · exact .inl ⟨q, m, ⟨o, es, ep, k _ _ nL f1, f2⟩, e⟩
        · exact .inr ⟨q, cc, e, ⟨o, k _ _ (nc2 _ _ e) f1, f2⟩⟩
      bx := fun ns e => let ⟨vs, ⟨n, hl⟩, r⟩ := F.P.bx ns e; ⟨vs, ⟨n, k _ _ nD hl⟩, r⟩
      fr := fun l e => by
        by_cases m : l ∈ wr
        · exact F0.P.fr l (wn l m)
        · refine (F.P.fr l ?_).1
          cases q : s.heap.get? l with
          | none => rfl
          | some o => have := k l o m q; rw [show h'.get? l = none from e] at this; cases this
      pd := F0.P.pd
      dl := let ⟨o, e⟩ := F.P.dl; ⟨o, k _ _ nD e⟩
      ff := F.P.ff
      ci := fun x a e => let ⟨v, o, f1, f2⟩ := F.P.ci x a e; ⟨v, o, k _ _ (nc2 _ _ e) f1, f2⟩ }
    ns := let ⟨m, o, es, ep, f1, f2⟩ := F.ns; ⟨m, o, es, ep, k _ _ nL f1, f2⟩
    ol := F.ol
    oc := F.oc
    pc := F0.pc
    dc := F.dc
    bb := F.bb }
theorem st_for {it : X} {i : Nat} {pt : Pos} {body : List Stmt} {p : Pos} {xs : List AV} {Q : Flow → Shared → Prop} {out : Out} {bod : Sto → Option (List Int) → Option Out} (nd : nodupB T.nm = true) (ok : EnvOk env sc) (C : CxOk c T G n R) (rm : Room A (n + 1)) (F : Frm c Pc T sc R env s ρ μ)
    (hi : AsgOk T sc i) (ws : srcWf (.one i pt) it = true) (wf : wfX T sc it = true) (hx : src G μ it ρ = some xs)
    (hb : ∀ (R2 : RP) (s2 : Shared) (ρ : Sto) (μ : Option (List Int)) (o : Out) (E' : Value → Shared → Prop) (Q' : Flow → Shared → Prop), R2.F = R.F → R2.D = R.D → Frm c Pc T sc R2 env s2 ρ μ → bod ρ μ = some o → PostS c Pc T sc R2 env s2 true Q' o → wpAny (model c.prog c.w) A (execs body env) Q' E' s2)
    (h : forO (.one i pt) bod xs ρ μ = some out) (q : PostS c Pc T sc R env s true Q out) : wpAny (model c.prog c.w) A (exec (.For (denT T (.one i pt)) (den T it) body [] p) env) Q E s := by
  refine wpAny_For ?_ (fun x => folded it env x)
  refine src_ok nd it (.one i pt) ws wf ok C rm F.P hx fun itv s₂ hsrc => ?_
  obtain ⟨I, h₂, tk₂, fp, wr, St, Mid, rfl, rfl, S⟩ := hsrc
  have F0 := F.cut (tk := tk₂) S.ext S.g S.wn S.ws
  have it := S.it (cutW R wr) (fun b => ⟨b, rfl⟩) rfl (fun l p _ nw => ⟨p, nw⟩) (fun l m p => p.2 m)
  have own : ∀ b ∈ wr, Own c b := fun b hb => Own.fresh F.P.g (S.wn b hb)
  have nW : ∀ b ∈ wr, ¬ Wr c R env sc b := fun b hb => fresh_wr F (S.wn b hb)
  have nc2 : ∀ x a, env.cells.lookup x = some a → a ∉ wr := fun x a e m => by
    obtain ⟨v, o, e', _⟩ := F.P.ci x a e; rw [S.wn a m] at e'; cases e'
  have fpW : ∀ b ∈ fp, ¬ Wr c R env sc b := fun b hb => by
    obtain ⟨o, e, d1, d2⟩ := S.hfo b hb
    exact fun w => dat_wr F0 ⟨(S.hfp b hb).1, (S.hfp b hb).2.1, (S.hfp b hb).2.2.1⟩ e d1 d2 w
  refine codeAny_forLoop (fun m s' => ∃ j ρ μ h1 tk1, m = xs.length - j ∧ j ≤ xs.length ∧ s' = { s with heap := h1, toks := tk1 } ∧ KBP (fun b => Wr c R env sc b ∨ b ∈ wr) h₂ h1 ∧ St j h1 ∧ Frm c Pc T sc (cutW R wr) env { s with heap := h1, toks := tk1 } ρ μ ∧ forO (.one i pt) bod (xs.drop j) ρ μ = some out) ?_
    xs.length ⟨0, ρ, μ, h₂, tk₂, rfl, Nat.zero_le _, rfl, fun _ _ _ e => e, S.hst, F0, h⟩
  rintro m s' ⟨j, ρ, μ, h1, tk1, rfl, hj, rfl, k1, st, F1, hw⟩
  have toS : ∀ h3, KBP (fun b => Wr c R env sc b ∨ b ∈ wr) h₂ h3 → KBP (Wr c R env sc) s.heap h3 := fun h3 k b o nb e =>
    k b o (fun w => w.elim nb fun m => by rw [S.wn b m] at e; cases e) (S.ext b o (fun w => nb (.inl w)) (fun w => nb (.inr (.inl w))) e)
  by_cases hlt : j < xs.length
  · have hdrop : xs.drop j = xs[j] :: xs.drop (j + 1) := List.drop_eq_getElem_cons hlt
    rw [hdrop] at hw
    refine it.item j _ _ _ hlt st (fun b o p d e => ?_) (fun l e => F1.P.fr l e) fun v h2 tk2 a ha ra k hm => ?_
    · exact k1 b o (fun w => w.elim (fun w => dat_wr' F0 p e d w) p.2) e
    rw [List.getElem?_eq_getElem hlt] at ha
    cases ha
    have nc := it.live j h1 st
    have nm := it.liveM j v h2 hm
    have F2 := Frm.wrote (s := { s with heap := h1, toks := tk1 }) (tk := tk2) F1 k own nc (fun b hb => let ⟨o, e, _⟩ := nm b hb; ⟨o, e⟩) nW nc2
    dsimp only
    have hgo : letOwnedTupleGo (denT T (.one i pt)) (.ref I) v = pure () := rfl
    have key : ∀ (E' : Value → Shared → Prop) (Q' : Unit → Shared → Prop), (∀ h3, St (j + 1) h3 → KB wr h2 h3 → wpAny (model c.prog c.w) A (assign (denT T (.one i pt)) env v) Q' E' { s with heap := h3, toks := tk2 }) →
        wpAny (model c.prog c.w) A (assign (denT T (.one i pt)) env v) Q' E' { s with heap := h2, toks := tk2 } := fun E' Q' H => by
      have := wpAny_bind (it.go j v { s with heap := h2, toks := tk2 } (fun _ s' => wpAny (model c.prog c.w) A (assign (denT T (.one i pt)) env v) Q' E' s') E' hm fun h3 st3 k3 => H h3 st3 k3)
      rw [hgo] at this
      exact this
    refine key _ _ fun h3 st3 k3 => ?_
    have nl := it.live (j + 1) h3 st3
    have F3 := Frm.wrote (s := { s with heap := h2, toks := tk2 }) (tk := tk2) F2 k3 own nm (fun b hb => let ⟨o, e, _⟩ := nl b hb; ⟨o, e⟩) nW nc2
    have ra3 : Rel (cutW R wr) h3 xs[j] v := ra.mono (fun b => ⟨b, rfl⟩) rfl (fun _ p _ => p) fun b o (p : (cutW R wr).P b) _ e => k3 b o p.2 e
    obtain ⟨ρ1, hset, hw⟩ := bindS (x := setT (.one i pt) xs[j] ρ) hw
    have hset : (if i < ρ.length then some (ρ.set i (some xs[j])) else none) = some ρ1 := hset
    by_cases hil : i < ρ.length
    · rw [if_pos hil] at hset
      cases hset
      refine wpAny_assign_Name (Frm.store (s := { s with heap := h3, toks := tk2 }) nd ok F3 hi ra3 fun h4 tk4 k4 F4 _ => ?_)
      have st4 : St (j + 1) h4 := it.frame _ _ _ st3 fun b hb o e => k4 b o (fpW b hb) e
      have kk4 : KBP (fun b => Wr c R env sc b ∨ b ∈ wr) h₂ h4 := fun b o nb e => k4 b o (fun w => nb (.inl w)) (k3 b o (fun w => nb (.inr w)) (k b o (fun w => nb (.inr w)) (k1 b o nb e)))
      obtain ⟨o, hb1, hw⟩ := bindS hw
      refine hb (cutW R wr) { s with heap := h4, toks := tk4 } _ μ _ _ _ rfl rfl F4 hb1 ?_
      cases o with
      | fall ρ' μ' =>
        intro R' h5 tk5 _ hR t5 F5
        have := hR rfl
        subst this
        have k5 : KBP (Wr c R env sc) h4 h5 := t5 h5 fun _ _ _ e => e
        exact ⟨xs.length - (j + 1), by omega, j + 1, _, _, h5, tk5, rfl, hlt, rfl, fun b o nb e => k5 b o (fun w => nb (.inl w)) (kk4 b o nb e), it.frame _ _ _ st4 fun b hb o e => k5 b o (fpW b hb) e, F5, hw⟩
      | ret a =>
        cases hw
        intro v' h5 tk5 D B k5 g5 r5
        have k5' : KBP (Wr c R env sc) h4 h5 := k5
        exact q v' h5 tk5 D B (toS h5 fun b o nb e => k5' b o (fun w => nb (.inl w)) (kk4 b o nb e)) g5 r5
      | retn l =>
        cases hw
        intro h5 tk5 k5 g5 b5
        have k5' : KBP (Wr c R env sc) h4 h5 := k5
        exact q h5 tk5 (toS h5 fun b o nb e => k5' b o (fun w => nb (.inl w)) (kk4 b o nb e)) g5 b5
    · rw [if_neg hil] at hset
      cases hset
  · have hj' : j = xs.length := by omega
    subst hj'
    rw [List.drop_length] at hw
    have hw : some (Out.fall ρ μ) = some out := hw
    cases hw
    refine it.done _ _ _ st fun h2 tk2 k => ?_
    dsimp only
    refine wpAny_execs_nil ?_
    have nc := it.live xs.length h1 st
    have F2 := Frm.endLoop (s := { s with heap := h1, toks := tk1 }) (tk := tk2) F F1 k own nc S.wn nW nc2
    exact q R h2 tk2 rfl (fun _ => rfl) (Tr.of (toS h2 fun b o nb e => k b o (fun w => nb (.inr w)) (k1 b o nb e))) F2
end
end Mine
end TextA26

section TextA27
open PySem PySem.W PyProof.Rows PySem.Calls PySem.Spec
namespace Mine
section
variable {c : Cx} {Pc : Addr → Prop} {n : Nat} {env : Env} {sc : Scope} {T : Nms} {G : Env0} {Ψ : Nat → List AV → List Int → Option (List Int)} {fuel : Nat} {A : Around}
theorem step {E : Value → Shared → Prop} {s : Shared} {st : Stmt} {rest : List Stmt} {Q : Flow → Shared → Prop} {M : Model} (h : wpAny M A (exec st env) (fun f s' => match f with | .next => wpAny M A (execs rest env) Q E s' | f => Q f s') E s) : wpAny M A (execs (st :: rest) env) Q E s := wpAny_execs_cons h
theorem wpAny_execs_app {E : Value → Shared → Prop} {M : Model} : ∀ (a : List Stmt) {s : Shared} {Q : Flow → Shared → Prop}, wpAny M A (execs a env) Q E s → wpAny M A (execs a env) Q E s := fun _ _ _ h => h
noncomputable def HE (c : Cx) (n : Nat) (Ψ : Nat → List AV → List Int → Option (List Int)) (nb : Bool) (R : RP) : Prop :=
  (∀ i l ns, Ψ i l ns = none) ∨ (nb = true ∧ ∀ (R2 : RP) i l ns ns', R2.F = R.F → R2.D = R.D → Ψ i l ns = some ns' → EclOK c R2.D n (R2.F i) l ns ns')
theorem HE.mono {nb nb' : Bool} {R : RP} (x : HE c n Ψ nb R) (h : nb = true → nb' = true) : HE c n Ψ nb' R := x.imp id fun y => ⟨h y.1, y.2⟩
theorem HE.to {nb : Bool} {R R' : RP} (x : HE c n Ψ nb R) (h : nb = true → R' = R) : HE c n Ψ nb R' := x.imp id fun y => ⟨y.1, by rw [h y.1]; exact y.2⟩
theorem HE.no {R : RP} (x : HE c n Ψ false R) (nb : Bool) (R' : RP) : HE c n Ψ nb R' := .inl (x.elim id fun y => Bool.noConfusion y.1)
noncomputable def ExT (c : Cx) (Pc : Addr → Prop) (n : Nat) (env : Env) (sc : Scope) (T : Nms) (G : Env0) (Ψ : Nat → List AV → List Int → Option (List Int)) (fuel : Nat) (st : S) : Prop := ∀ {A : Around} {R : RP} {s : Shared} {ρ : Sto} {μ : Option (List Int)} {E : Value → Shared → Prop} {Q : Flow → Shared → Prop} {out : Out}
  (rm : Room A (n + 1)) (wf : wfS T sc st = true) (C : CxOk c T G n R) (hE : HE c n Ψ (noBox st) R) (F : Frm c Pc T sc R env s ρ μ) (h : runS G Ψ fuel st ρ μ = some out) (p : PostS c Pc T sc R env s (noBox st) Q out), wpAny (model c.prog c.w) A (execs (denS T st) env) Q E s
section
variable (nd : nodupB T.nm = true) (ok : EnvOk env sc)
/-- what is left over after a statement that is no box's making -/
theorem ExT.next {k : S} (ik : ExT c Pc n env sc T G Ψ fuel k) {R : RP} {s : Shared} {ρ' : Sto} {μ' : Option (List Int)} {E : Value → Shared → Prop} {Q : Flow → Shared → Prop} {out : Out} {h' : Heap} {tk : Nat} (rm : Room A (n + 1)) (wf : wfS T sc k = true) (C : CxOk c T G n R) (hE : HE c n Ψ (noBox k) R)
    (h : runS G Ψ fuel k ρ' μ' = some out) (p : PostS c Pc T sc R env s (noBox k) Q out) (kb : KBP (Wr c R env sc) s.heap h') (F' : Frm c Pc T sc R env { s with heap := h', toks := tk } ρ' μ') : wpAny (model c.prog c.w) A (execs (denS T k) env) Q E { s with heap := h', toks := tk } :=
  ik rm wf C hE F' h (p.after rfl (fun _ => rfl) id (Tr.of kb))
include ok
theorem x_ret {e : X} {pp : Pos} : nodupB T.nm = true → ExT c Pc n env sc T G Ψ fuel (.ret e pp) := by
  intro nd A R s ρ μ E Q out rm wf C hE F h p
  refine step (wpAny_Return_some ?_)
  replace h := bindS (x := ev G μ e ρ) h
  obtain ⟨a, he, h⟩ := h
  have gen : some (Out.ret a) = some out → wpAny (model c.prog c.w) A (eval (den T e) env) (fun v => Q (.ret v)) E s := fun h => by
    cases h
    exact ev_ok nd e wf ok C rm F.P he fun v h1 tk1 x1 g1 rv => p v h1 tk1 R.D R.B (Ext.wr x1) g1 (Frm.retv (s := { s with heap := h1, toks := tk1 }) (F.ext (tk := tk1) x1 g1) rv)
  cases a <;> first | exact gen h | skip
  obtain ⟨l, hl, rfl⟩ := mapS h
  refine ev_ok nd e wf ok C rm F.P he fun v h1 tk1 x1 g1 rv => ?_
  have F1 := F.ext (tk := tk1) x1 g1
  unfold Rel at rv
  obtain ⟨_, rfl⟩ := rv
  obtain ⟨vs, ⟨m, hv⟩, hi, z⟩ := F1.P.bx l hl
  refine p _ h1 tk1 R.D R.B (Ext.wr x1) g1 ?_
  unfold Rel
  exact ⟨R.D, vs, rfl, (F.dc (by rw [hl]; exact fun q => nomatch q)).1, ⟨m, hv⟩, RelL.ints hi, by rw [List.length_map]; exact z⟩
theorem x_retn {pp : Pos} : ExT c Pc n env sc T G Ψ fuel (.retn pp) := by
  intro A R s ρ μ E Q out rm wf C hE F h p
  refine step (wpAny_Return_none ?_)
  cases μ with
  | some l =>
    cases h
    exact p s.heap s.toks (fun _ _ _ e => e) F.P.g (fun _ => F.P.bx)
  | none =>
    cases h
    exact p .none s.heap s.toks R.D R.B (fun _ _ _ e => e) F.P.g rel_none
include nd
theorem x_asg {i : Nat} {q : Pos} {e : X} {pp : Pos} {k : S} (ik : ExT c Pc n env sc T G Ψ fuel k) : ExT c Pc n env sc T G Ψ fuel (.asg i q e pp k) := by
  intro A R s ρ μ E Q out rm wf C hE F h p
  obtain ⟨w, w4⟩ := and2 wf
  obtain ⟨w, w3⟩ := and2 w
  obtain ⟨w1, w2⟩ := and2 w
  have hi := asgB_ok w1
  replace h := bindS (x := ev G μ e ρ) h
  obtain ⟨a, ha, h⟩ := h
  replace h := bindS h
  obtain ⟨_, _, h⟩ := h
  have hsw : swapsWith (den T e) (some (.Name (nmOf T.nm i) q)) pp.line env = pure (swapB T sc i q e) := swaps_com ok i q pp.line e (by cases e <;> first | trivial | cases w3)
  have kont : ∀ h' tk, KBP (Wr c R env sc) s.heap h' → Frm c Pc T sc R env { s with heap := h', toks := tk } (ρ.set i (some a)) μ → wpAny (model c.prog c.w) A (execs (denS T k) env) Q E { s with heap := h', toks := tk } := fun h' tk kb F' => ik.next rm w4 C hE h p kb F'
  cases hs : swapB T sc i q e with
  | true =>
    rw [hs] at hsw
    cases e with
    | com elt t it cnd sc' fv pe =>
      obtain ⟨xs, hx, ha⟩ := bindS (x := src G μ it ρ) ha
      obtain ⟨l, hl, ha⟩ := bindS ha
      obtain ⟨hz, rfl⟩ := ifS ha
      exact step (st_swap nd ok C rm F hi w2 hsw hx hl hz kont)
    | _ => cases hs
  | false =>
    rw [hs] at hsw
    exact step (st_asg nd ok C rm F hi w2 hsw ha kont)
theorem notB {b : Bool} (h : (!b) = true) : b = false := by cases b <;> first | rfl | cases h
theorem x_asg2 {i : Nat} {q : Pos} {j : Nat} {q' : Pos} {e : X} {pp : Pos} {k : S} (ik : ExT c Pc n env sc T G Ψ fuel k) : ExT c Pc n env sc T G Ψ fuel (.asg2 i q j q' e pp k) := by
  intro A R s ρ μ E Q out rm wf C hE F h p
  obtain ⟨w, w6⟩ := and2 wf
  obtain ⟨w, w5⟩ := and2 w
  obtain ⟨w, w4⟩ := and2 w
  obtain ⟨w, w3⟩ := and2 w
  obtain ⟨w1, w2⟩ := and2 w
  replace h := bindS (x := ev G μ e ρ) h
  obtain ⟨a, ha, h⟩ := h
  replace h := bindS h
  obtain ⟨_, _, h⟩ := h
  exact step (st_asg2 nd ok C rm F (asgB_ok w1) (asgB_ok w2) w3 (by cases e <;> first | rfl | cases w5) ha fun h' tk kb F' => ik.next rm w6 C hE h p kb F')
theorem x_ast {i j : Nat} {pi pj : Pos} {kk : Nat} {q : Pos} {e : X} {pp : Pos} {k : S} (ik : ExT c Pc n env sc T G Ψ fuel k) : ExT c Pc n env sc T G Ψ fuel (.ast i j pi pj kk q e pp k) := by
  intro A R s ρ μ E Q out rm wf C hE F h p
  obtain ⟨w, w6⟩ := and2 wf
  obtain ⟨w, w5⟩ := and2 w
  obtain ⟨w, w4⟩ := and2 w
  obtain ⟨w, w3⟩ := and2 w
  obtain ⟨w1, w2⟩ := and2 w
  replace h := bindS (x := ev G μ e ρ) h
  obtain ⟨a, ha, h⟩ := h
  replace h := bindS h
  obtain ⟨ρ', hs, h⟩ := h
  exact step (st_ast nd ok C rm F (asgB_ok w1) (asgB_ok w2) w3 (by cases e <;> first | rfl | cases w5) ha hs fun h' tk kb F' => ik.next rm w6 C hE h p kb F')
theorem x_aug {i : Nat} {q : Pos} {o : Operator} {e : X} {pp : Pos} {k : S} (ik : ExT c Pc n env sc T G Ψ fuel k) : ExT c Pc n env sc T G Ψ fuel (.aug i q o e pp k) := by
  intro A R s ρ μ E Q out rm wf C hE F h p
  obtain ⟨w, w3⟩ := and2 wf
  obtain ⟨w1, w2⟩ := and2 w
  replace h := bindS (x := (ρ[i]?).join) h
  obtain ⟨a, ha, h⟩ := h
  replace h := bindS h
  obtain ⟨b, hb, h⟩ := h
  replace h := bindS h
  obtain ⟨r, hr, h⟩ := h
  replace h := bindS h
  obtain ⟨_, _, h⟩ := h
  exact step (st_aug nd ok C rm F (asgB_ok w1) w2 ha hb hr fun h' tk kb F' => ik.next rm w3 C hE h p kb F')
/-- after the box is made -/
theorem ExT.boxed {k : S} (ik : ExT c Pc n env sc T G Ψ fuel k) {A : Around} {R : RP} {s : Shared} {ρ' : Sto} {μ' : Option (List Int)} {E : Value → Shared → Prop} {Q : Flow → Shared → Prop} {out : Out} {D : Addr} {h' : Heap} {tk : Nat} (rm : Room A (n + 1)) (wf : wfS T sc k = true) (C : CxOk c T G n R) (hE : HE c n Ψ false R)
    (h : runS G Ψ fuel k ρ' μ' = some out) (p : PostS c Pc T sc R env s false Q out) (hD : s.heap.get? D = none) (kb : KBP (Wr c R env sc) s.heap h') (F' : Frm c Pc T sc (boxR R D) env { s with heap := h', toks := tk } ρ' μ') : wpAny (model c.prog c.w) A (execs (denS T k) env) Q E { s with heap := h', toks := tk } :=
  ik rm wf (C.withF (R' := boxR R D) rfl) (hE.no _ _) F' h (p.after (R' := boxR R D) rfl (fun e => Bool.noConfusion e) (fun e => Bool.noConfusion e) (fun _ k2 => newBox_wr hD kb k2))
theorem x_bxl {i : Nat} {q : Pos} {es : X} {pl pp : Pos} {k : S} (ik : ExT c Pc n env sc T G Ψ fuel k) : ExT c Pc n env sc T G Ψ fuel (.bxl i q es pl pp k) := by
  intro A R s ρ μ E Q out rm wf C hE F h p
  obtain ⟨w, w3⟩ := and2 wf
  obtain ⟨w1, w2⟩ := and2 w
  replace h := bindS (x := evs G μ es ρ) h
  obtain ⟨l, hl, h⟩ := h
  replace h := bindS h
  obtain ⟨ns, hn, h⟩ := h
  replace h := bindS h
  obtain ⟨_, hz, h⟩ := h
  obtain ⟨⟨_, hz9, rfl⟩, _⟩ := ifS hz
  exact step (st_bxl nd ok C rm F (asgB_ok w1) w2 hl hn hz9 fun D h' tk hD kb F' => ik.boxed nd ok rm w3 C hE h p hD kb F')
theorem x_bxr {i : Nat} {q ql qr : Pos} {as : X} {pr pl pp : Pos} {k : S} (ik : ExT c Pc n env sc T G Ψ fuel k) : ExT c Pc n env sc T G Ψ fuel (.bxr i q ql qr as pr pl pp k) := by
  intro A R s ρ μ E Q out rm wf C hE F h p
  obtain ⟨w, w5⟩ := and2 wf
  obtain ⟨w, w4⟩ := and2 w
  obtain ⟨w, w3⟩ := and2 w
  obtain ⟨w1, w2⟩ := and2 w
  replace h := bindS (x := evs G μ as ρ) h
  obtain ⟨l, hl, h⟩ := h
  replace h := bindS h
  obtain ⟨r, hr, h⟩ := h
  replace h := bindS h
  obtain ⟨q', hq, h⟩ := h
  replace h := bindS h
  obtain ⟨l', hl', h⟩ := h
  replace h := bindS h
  obtain ⟨ns, hn, h⟩ := h
  replace h := bindS h
  obtain ⟨_, hz, h⟩ := h
  obtain ⟨⟨_, rfl⟩, _⟩ := ifS hz
  cases lvS hl'
  exact step (st_bxr nd ok C rm F (asgB_ok w1) w2 (of_decide_eq_true w3) (of_decide_eq_true w4) hl hr hq hn fun D h' tk hD kb F' => ik.boxed nd ok rm w5 C hE h p hD kb F')
theorem x_bxm {i : Nat} {q : Pos} {a : Int} {ka : Nat} {pa pl : Pos} {e : X} {pm pp : Pos} {k : S} (ik : ExT c Pc n env sc T G Ψ fuel k) : ExT c Pc n env sc T G Ψ fuel (.bxm i q a ka pa pl e pm pp k) := by
  intro A R s ρ μ E Q out rm wf C hE F h p
  obtain ⟨w, w3⟩ := and2 wf
  obtain ⟨w1, w2⟩ := and2 w
  replace h := bindS (x := ev G μ e ρ) h
  obtain ⟨v, hm, h⟩ := h
  replace h := bindS h
  obtain ⟨m, hv, h⟩ := h
  replace h := bindS h
  obtain ⟨_, hz, h⟩ := h
  obtain ⟨⟨_, h0, h1, rfl⟩, _⟩ := ifS hz
  cases ivS hv
  exact step (st_bxm nd ok C rm F (asgB_ok w1) w2 hm h0 h1 fun D h' tk hD kb F' => ik.boxed nd ok rm w3 C hE h p hD kb F')
theorem x_sto {i : Nat} {q : Pos} {ie : X} {qs : Pos} {e : X} {pp : Pos} {k : S} (ik : ExT c Pc n env sc T G Ψ fuel k) : ExT c Pc n env sc T G Ψ fuel (.sto i q ie qs e pp k) := by
  intro A R s ρ μ E Q out rm wf C hE F h p
  obtain ⟨w, w5⟩ := and2 wf
  obtain ⟨w, w4⟩ := and2 w
  obtain ⟨w, w3⟩ := and2 w
  obtain ⟨w1, w2⟩ := and2 w
  replace h := bindS (x := ifO (isBox ρ i = true) ()) h
  obtain ⟨_, hb, h⟩ := h
  replace h := bindS h
  obtain ⟨v, hv, h⟩ := h
  replace h := bindS h
  obtain ⟨v', hv', h⟩ := h
  replace h := bindS h
  obtain ⟨j, hj, h⟩ := h
  replace h := bindS h
  obtain ⟨j', hj', h⟩ := h
  replace h := bindS h
  obtain ⟨l, hl, h⟩ := h
  replace h := bindS h
  obtain ⟨_, hz, h⟩ := h
  obtain ⟨hz, _⟩ := ifS hz
  subst hl
  cases ivS hv'
  cases ivS hj'
  exact step (st_sto nd ok C rm F w1 w3 w2 (ifS hb).1 hv hj hz.1 hz.2 fun h' tk kb F' => ik.next rm w5 C hE h p kb F')
theorem x_app {i : Nat} {q qa : Pos} {e : X} {pc pp : Pos} {k : S} (ik : ExT c Pc n env sc T G Ψ fuel k) : ExT c Pc n env sc T G Ψ fuel (.app i q qa e pc pp k) := by
  intro A R s ρ μ E Q out rm wf C hE F h p
  obtain ⟨w, w4⟩ := and2 wf
  obtain ⟨w, w3⟩ := and2 w
  obtain ⟨w1, w2⟩ := and2 w
  replace h := bindS (x := ifO (isBox ρ i = true) ()) h
  obtain ⟨_, hb, h⟩ := h
  replace h := bindS h
  obtain ⟨v, hv, h⟩ := h
  replace h := bindS h
  obtain ⟨v', hv', h⟩ := h
  replace h := bindS h
  obtain ⟨l, hl, h⟩ := h
  replace h := bindS h
  obtain ⟨_, hz, h⟩ := h
  obtain ⟨hz, _⟩ := ifS hz
  subst hl
  cases ivS hv'
  exact step (st_app nd ok C rm F w1 w2 w3 (ifS hb).1 hv hz fun h' tk kb F' => ik.next rm w4 C hE h p kb F')
theorem x_rev {i : Nat} {q qa pc pp : Pos} {k : S} (ik : ExT c Pc n env sc T G Ψ fuel k) : ExT c Pc n env sc T G Ψ fuel (.rev i q qa pc pp k) := by
  intro A R s ρ μ E Q out rm wf C hE F h p
  obtain ⟨w, w3⟩ := and2 wf
  obtain ⟨w1, w2⟩ := and2 w
  replace h := bindS (x := ifO (isBox ρ i = true) ()) h
  obtain ⟨_, hb, h⟩ := h
  replace h := bindS h
  obtain ⟨l, hl, h⟩ := h
  subst hl
  exact step (st_rev ok F w1 w2 (ifS hb).1 fun h' tk kb F' => ik.next rm w3 C hE h p kb F')
/-- one arm of an if, and what comes behind it -/
theorem x_arm {a k : S} {pp : Pos} {bb : Bool} (ia : ExT c Pc n env sc T G Ψ fuel a) (ik : ExT c Pc n env sc T G Ψ fuel k) {A : Around} {R : RP} {s : Shared} {ρ : Sto} {μ : Option (List Int)} {E : Value → Shared → Prop} {Q : Flow → Shared → Prop} {out : Out} {h1 : Heap} {tk1 : Nat} {nb : Bool}
    (rm : Room A (n + 1)) (wa : wfS T sc a = true) (wk : wfS T sc k = true) (C : CxOk c T G n R) (hE : HE c n Ψ nb R) (na : nb = true → noBox a = true) (nk : nb = true → noBox k = true) (F : Frm c Pc T sc R env s ρ μ)
    (h : (runS G Ψ fuel a ρ μ).bind (outK fun ρ' μ' => runS G Ψ fuel k ρ' μ') = some out) (p : PostS c Pc T sc R env s nb Q out) (x1 : Ext c s.heap h1) (g1 : Good c h1) :
    wpAny (model c.prog c.w) A (execs (denS T a) env) (fun f s' => match f with | .next => wpAny (model c.prog c.w) A (execs (denS T k) env) Q E s' | f => Q f s') E { s with heap := h1, toks := tk1 } := by
  have F1 := F.ext (tk := tk1) x1 g1
  replace h := bindS h
  obtain ⟨o, ho, h⟩ := h
  refine ia rm wa C (hE.mono na) F1 ho ?_
  cases o with
  | fall ρ' μ' =>
    intro R' h' tk hF hR t' F'
    have hR' : nb = true → R' = R := fun e => hR (na e)
    exact ik rm wk (C.withF hF) ((hE.to hR').mono nk) F' h (p.after hF hR' nk ((Tr.of (Ext.wr x1)).trans t'))
  | ret a => cases h; exact fun v h' tk D B kb g r => p v h' tk D B ((Ext.wr x1).trans kb) g r
  | retn l => cases h; exact fun h' tk kb g b => p h' tk ((Ext.wr x1).trans kb) g (fun e => b (na e))
theorem x_ite {t : X} {a b : S} {pp : Pos} {k : S} (ia : ExT c Pc n env sc T G Ψ fuel a) (ib : ExT c Pc n env sc T G Ψ fuel b) (ik : ExT c Pc n env sc T G Ψ fuel k) : ExT c Pc n env sc T G Ψ fuel (.ite t a b pp k) := by
  intro A R s ρ μ E Q out rm wf C hE F h p
  obtain ⟨w, w4⟩ := and2 wf
  obtain ⟨w, w3⟩ := and2 w
  obtain ⟨w1, w2⟩ := and2 w
  replace h := bindS (x := tv G μ t ρ) h
  obtain ⟨bb, ht, h⟩ := h
  refine step (wpAny_If (tv_ok nd t w1 ok C rm F.P ht fun h1 tk1 x1 g1 => ?_))
  cases bb with
  | true =>
    rw [if_pos rfl]
    exact x_arm (pp := pp) (bb := true) nd ok ia ik rm w2 w4 C hE (fun e => (and2 (and2 e).1).1) (fun e => (and2 e).2) F h p x1 g1
  | false =>
    rw [if_neg (by decide)]
    exact x_arm (pp := pp) (bb := true) nd ok ib ik rm w3 w4 C hE (fun e => (and2 (and2 e).1).2) (fun e => (and2 e).2) F h p x1 g1
/-- what comes behind a loop -/
theorem x_loop {k : S} (ik : ExT c Pc n env sc T G Ψ fuel k) {A : Around} {R : RP} {s : Shared} {E : Value → Shared → Prop} {Q : Flow → Shared → Prop} {out o : Out} {nb : Bool} {st : Stmt} (rm : Room A (n + 1)) (wk : wfS T sc k = true) (C : CxOk c T G n R) (hE : HE c n Ψ nb R) (nk : nb = true → noBox k = true)
    (h : outK (fun ρ' μ' => runS G Ψ fuel k ρ' μ') o = some out) (p : PostS c Pc T sc R env s nb Q out) (run : ∀ Qf : Flow → Shared → Prop, PostS c Pc T sc R env s true Qf o → wpAny (model c.prog c.w) A (exec st env) Qf E s) :
    wpAny (model c.prog c.w) A (execs (st :: denS T k) env) Q E s := by
  refine step (run _ ?_)
  cases o with
  | fall ρ' μ' =>
    intro R' h' tk _ hR t' F'
    have := hR rfl
    subst this
    exact ik rm wk C (hE.mono nk) F' h (p.after rfl (fun _ => rfl) nk (Tr.of (t' _ fun _ _ _ e => e)))
  | ret a => cases h; exact fun v h' tk D B kb g r => p v h' tk D B kb g r
  | retn l => cases h; exact fun h' tk kb g b => p h' tk kb g (fun _ => b rfl)
theorem x_whl {t : X} {b : S} {pp : Pos} {k : S} (ib : ExT c Pc n env sc T G Ψ fuel b) (ik : ExT c Pc n env sc T G Ψ fuel k) : ExT c Pc n env sc T G Ψ fuel (.whl t b pp k) := by
  intro A R s ρ μ E Q out rm wf C hE F h p
  obtain ⟨w, w4⟩ := and2 wf
  obtain ⟨w, w3⟩ := and2 w
  obtain ⟨w1, w2⟩ := and2 w
  replace h := bindS (x := whileO (fun ρ μ => tv G μ t ρ) (fun ρ μ => runS G Ψ fuel b ρ μ) fuel ρ μ) h
  obtain ⟨o, hw, h⟩ := h
  exact x_loop nd ok ik rm w4 C hE (fun e => (and2 e).2) h p fun Qf q =>
    st_while fuel F (fun h1 tk1 ρ μ bb E' Q' F1 ht pb => tv_ok nd t w1 ok C rm F1.P ht pb) (fun h1 tk1 ρ μ o E' Q' F1 hb q' => ib rm w2 C (hE.mono fun _ => w3) F1 hb (by rw [w3]; exact q')) hw q
theorem x_for {t : Tg} {it : X} {b : S} {pp : Pos} {k : S} (ib : ExT c Pc n env sc T G Ψ fuel b) (ik : ExT c Pc n env sc T G Ψ fuel k) : ExT c Pc n env sc T G Ψ fuel (.for t it b pp k) := by
  intro A R s ρ μ E Q out rm wf C hE F h p
  obtain ⟨w, w5⟩ := and2 wf
  obtain ⟨w, w4⟩ := and2 w
  obtain ⟨w, w3⟩ := and2 w
  obtain ⟨w, w2⟩ := and2 w
  obtain ⟨w0, w1⟩ := and2 w
  replace h := bindS (x := src G μ it ρ) h
  obtain ⟨xs, hx, h⟩ := h
  replace h := bindS h
  obtain ⟨o, hw, h⟩ := h
  cases t with
  | two => cases w0
  | one i pt =>
    exact x_loop nd ok ik rm w5 C hE (fun e => (and2 e).2) h p fun Qf q =>
      st_for nd ok C rm F (asgB_ok w0) w1 w2 hx (fun R2 s2 ρ μ o E' Q' hF hD F2 hb q' => ib rm w3 (C.withF hF) (hE.imp id fun x => ⟨w4, fun R3 i l ns ns' e1 e2 => x.2 R3 i l ns ns' (e1.trans hF) (e2.trans hD)⟩) F2 hb (by rw [w4]; exact q')) hw q
theorem x_ecl {f : Nat} {q : Pos} {as : X} {pc pp : Pos} {k : S} (ik : ExT c Pc n env sc T G Ψ fuel k) : ExT c Pc n env sc T G Ψ fuel (.ecl f q as pc pp k) := by
  intro A R s ρ μ E Q out rm wf C hE F h p
  obtain ⟨w, w3⟩ := and2 wf
  obtain ⟨w1, w2⟩ := and2 w
  replace h := bindS (x := fnOf (ρ[f]?).join) h
  obtain ⟨i, hi, h⟩ := h
  replace h := bindS h
  obtain ⟨l, hl, h⟩ := h
  replace h := bindS h
  obtain ⟨ns, hm, h⟩ := h
  replace h := bindS h
  obtain ⟨ns', hΨ, h⟩ := h
  subst hm
  have hc : EclOK c R.D n (R.F i) l ns ns' := hE.elim (fun x => by rw [x] at hΨ; exact noS hΨ) fun x => x.2 R i l ns ns' rfl rfl hΨ
  exact step (st_ecl nd ok C rm F w1 w2 (fnOfS hi) hl hc fun h' tk kb F' => ik.next rm w3 C hE h p kb F')
theorem x_cbx {i : Nat} {q : Pos} {f : Nat} {qf : Pos} {b : Nat} {qb : Pos} {e : X} {pc pp : Pos} {k : S} (ik : ExT c Pc n env sc T G Ψ fuel k) : ExT c Pc n env sc T G Ψ fuel (.cbx i q f qf b qb e pc pp k) := by
  intro A R s ρ μ E Q out rm wf C hE F h p
  obtain ⟨w, w6⟩ := and2 wf
  obtain ⟨w, w5⟩ := and2 w
  obtain ⟨w, w4⟩ := and2 w
  obtain ⟨w, w3⟩ := and2 w
  obtain ⟨w1, w2⟩ := and2 w
  replace h := bindS (x := ifO (isBox ρ b = true) ()) h
  obtain ⟨_, hb, h⟩ := h
  replace h := bindS h
  obtain ⟨v, hv, h⟩ := h
  replace h := bindS h
  obtain ⟨v', hv', h⟩ := h
  replace h := bindS h
  obtain ⟨l, hm, h⟩ := h
  replace h := bindS h
  obtain ⟨q', hq, h⟩ := h
  replace h := bindS h
  obtain ⟨r, hr, h⟩ := h
  replace h := bindS h
  obtain ⟨_, hz, h⟩ := h
  obtain ⟨hz, _⟩ := ifS hz
  subst hm
  cases ivS hv'
  cases ivS hr
  exact step (st_cbx nd ok C rm F (asgB_ok w1) w2 (of_decide_eq_true w3) w4 w5 (ifS hb).1 hv hq hz.2 fun h' tk kb F' => ik.next rm w6 C hE h p kb F')
theorem ex_all (st : S) : ExT c Pc n env sc T G Ψ fuel st := by
  induction st with
  | nil =>
    intro A R s ρ μ E Q out rm wf C hE F h p
    cases h
    exact wpAny_execs_nil (p R s.heap s.toks rfl (fun _ => rfl) (Tr.of fun _ _ _ e => e) F)
  | raw l =>
    intro A R s ρ μ E Q out rm wf C hE F h p
    exact noS h
  | ret e p => exact x_ret ok nd
  | retn p => exact x_retn ok
  | asg i q e p k ik => exact x_asg nd ok ik
  | asg2 i q j q' e p k ik => exact x_asg2 nd ok ik
  | ast i j pi pj kk q e p k ik => exact x_ast nd ok ik
  | aug i q o e p k ik => exact x_aug nd ok ik
  | bxl i q es pl p k ik => exact x_bxl nd ok ik
  | bxr i q ql qr as pr pl p k ik => exact x_bxr nd ok ik
  | bxm i q a ka pa pl e pm p k ik => exact x_bxm nd ok ik
  | sto i q ie qs e p k ik => exact x_sto nd ok ik
  | app i q qa e pc p k ik => exact x_app nd ok ik
  | rev i q qa pc p k ik => exact x_rev nd ok ik
  | ite t a b p k ia ib ik => exact x_ite nd ok ia ib ik
  | whl t b p k ib ik => exact x_whl nd ok ib ik
  | «for» t it b p k ib ik => exact x_for nd ok ib ik
  | ecl f q as pc p k ik => exact x_ecl nd ok ik
  | cbx i q f qf b qb e pc p k ik => exact x_cbx nd ok ik
end
theorem ex_ok (nd : nodupB T.nm = true) (ok : EnvOk env sc) (rm : Room A (n + 1)) (st : S) {R : RP} {s : Shared} {ρ : Sto} {μ : Option (List Int)} {E : Value → Shared → Prop} {Q : Flow → Shared → Prop} {out : Out} (wf : wfS T sc st = true) (C : CxOk c T G n R)
    (hE : (∀ i l ns, Ψ i l ns = none) ∨ (noBox st = true ∧ ∀ (R2 : RP) i l ns ns', R2.F = R.F → R2.D = R.D → Ψ i l ns = some ns' → EclOK c R2.D n (R2.F i) l ns ns'))
    (F : Frm c Pc T sc R env s ρ μ) (h : runS G Ψ fuel st ρ μ = some out) (p : PostS c Pc T sc R env s (noBox st) Q out) : wpAny (model c.prog c.w) A (execs (denS T st) env) Q E s :=
  ex_all nd ok st rm wf C hE F h p
end
end Mine
end TextA27

section TextA28
open PySem PySem.W PyProof.Rows PySem.Calls PySem.Spec
namespace Mine
mutual
noncomputable def plain : AV → Bool
  | .none => true
  | .bool _ => true
  | .int _ => true
  | .str _ => true
  | .byt _ => true
  | .ints _ => true
  | .list l => plainL l
  | .tup l => plainL l
  | .range .. => true
  | .box => false
  | .fn _ => false
noncomputable def plainL : List AV → Bool
  | [] => true
  | a :: r => plain a && plainL r
end
mutual
theorem Rel.re {R R' : RP} {h : Heap} (hP : ∀ l o, R.P l → h.get? l = some o → IsDat o → R'.P l) : ∀ {a : AV} {v : Value}, plain a = true → Rel R h a v → Rel R' h a v
  | .none, _, _, x => x
  | .bool _, _, _, x => x
  | .int _, _, _, x => x
  | .str _, _, _, x => x
  | .byt _, _, _, x => x
  | .box, _, p, _ => by cases p
  | .fn _, _, p, _ => by cases p
  | .range a b c, _, _, x => by
    unfold Rel at x ⊢
    obtain ⟨l, t, u, w, e, p, r⟩ := x
    exact ⟨l, t, u, w, e, hP l _ p r (.inr (.inl ⟨rfl, _, rfl⟩)), r⟩
  | .ints ns, _, _, x => by
    unfold Rel at x ⊢
    obtain ⟨l, vs, e, p, hl, r⟩ := x
    obtain ⟨o, ho, hc, n, hd⟩ := id hl
    exact ⟨l, vs, e, hP l o p ho (.inl ⟨_, _, hd⟩), hl, r⟩
  | .list xs, _, q, x => by
    unfold Rel at x ⊢
    unfold plain at q
    obtain ⟨l, vs, e, p, ⟨n, hl⟩, r, z⟩ := x
    exact ⟨l, vs, e, hP l _ p hl (.inl ⟨_, _, rfl⟩), ⟨n, hl⟩, RelL.re hP q r, z⟩
  | .tup xs, _, q, x => by
    unfold Rel at x ⊢
    unfold plain at q
    obtain ⟨l, vs, e, p, hl, r, z⟩ := x
    obtain ⟨o, ho, hc, n, hd⟩ := id hl
    exact ⟨l, vs, e, hP l o p ho (.inl ⟨_, _, hd⟩), hl, RelL.re hP q r, z⟩
theorem RelL.re {R R' : RP} {h : Heap} (hP : ∀ l o, R.P l → h.get? l = some o → IsDat o → R'.P l) : ∀ {xs : List AV} {vs : List Value}, plainL xs = true → RelL R h xs vs → RelL R' h xs vs
  | [], _, _, x => x
  | _ :: _, _, q, x => by
    unfold RelL at x ⊢
    unfold plainL at q
    simp only [Bool.and_eq_true] at q
    obtain ⟨v, r, e, a, b⟩ := x
    exact ⟨v, r, e, Rel.re hP q.1 a, RelL.re hP q.2 b⟩
end
theorem plainL_ints : ∀ l : List Int, plainL (l.map .int) = true
  | [] => rfl
  | _ :: r => by show (plain _ && plainL _) = true; rw [plainL_ints r]; rfl

theorem bindL_get {kindOf : Str → Option NameKind} : ∀ (binds : List (Str × Value)) (m : Str → Option Value) (x : Str) (v : Value), nodupB (binds.map (·.1)) = true → kindOf x = some .local → ((x, v) ∈ binds ∨ (x ∉ binds.map (·.1) ∧ m x = some v)) → bindL kindOf binds m x = some v
  | [], m, x, v, _, _, h => by
    rcases h with h | h
    · simp at h
    · exact h.2
  | (y, w) :: r, m, x, v, nd, hk, h => by
    rw [List.map_cons] at nd
    unfold nodupB at nd
    simp only [Bool.and_eq_true, Bool.not_eq_true', List.contains_eq_mem, decide_eq_false_iff_not] at nd
    unfold bindL
    refine bindL_get r _ x v nd.2 hk ?_
    rcases h with h | h
    · rcases List.mem_cons.1 h with e | e
      · cases e
        exact .inr ⟨nd.1, by rw [if_pos hk]; simp⟩
      · exact .inl e
    · obtain ⟨h1, h2⟩ := h
      simp only [List.map_cons, List.mem_cons, not_or] at h1
      refine .inr ⟨h1.2, ?_⟩
      split
      · simp only [h1.1, if_false]; exact h2
      · exact h2
theorem bindC_get {kindOf : Str → Option NameKind} : ∀ (binds : List (Str × Value)) (m : Str → Option Value) (x : Str) (v : Value), nodupB (binds.map (·.1)) = true → kindOf x ≠ some .local → ((x, v) ∈ binds ∨ (x ∉ binds.map (·.1) ∧ m x = some v)) → bindC kindOf binds m x = some v
  | [], m, x, v, _, _, h => by
    rcases h with h | h
    · simp at h
    · exact h.2
  | (y, w) :: r, m, x, v, nd, hk, h => by
    rw [List.map_cons] at nd
    unfold nodupB at nd
    simp only [Bool.and_eq_true, Bool.not_eq_true', List.contains_eq_mem, decide_eq_false_iff_not] at nd
    unfold bindC
    refine bindC_get r _ x v nd.2 hk ?_
    rcases h with h | h
    · rcases List.mem_cons.1 h with e | e
      · cases e
        exact .inr ⟨nd.1, by rw [if_neg hk]; simp⟩
      · exact .inl e
    · obtain ⟨h1, h2⟩ := h
      simp only [List.map_cons, List.mem_cons, not_or] at h1
      refine .inr ⟨h1.2, ?_⟩
      split
      · exact h2
      · simp only [h1.1, if_false]; exact h2

theorem nodupB_app : ∀ {a b : List Str}, nodupB (a ++ b) = true → nodupB a = true
  | [], _, _ => rfl
  | x :: a, b, h => by
    rw [List.cons_append] at h
    unfold nodupB at h ⊢
    simp only [Bool.and_eq_true, Bool.not_eq_true', List.contains_eq_mem, decide_eq_false_iff_not, List.mem_append, not_or] at h ⊢
    exact ⟨h.1.1, nodupB_app h.2⟩
theorem zip_get {α β : Type} : ∀ {xs : List α} {ys : List β} {i : Nat} {x : α} {y : β}, xs[i]? = some x → ys[i]? = some y → (x, y) ∈ xs.zip ys
  | [], _, _, _, _, e, _ => by simp at e
  | _ :: _, [], _, _, _, _, e => by simp at e
  | a :: xs, b :: ys, 0, x, y, e, f => by simp at e f; subst e f; exact List.mem_cons_self
  | a :: xs, b :: ys, i + 1, x, y, e, f => List.mem_cons_of_mem _ (zip_get (by simpa using e) (by simpa using f))
structure FnWf (T : Nms) (sc : Scope) (ps : List Str) : Prop where
  kind : sc.kind = .function
  co : sc.isCoroutine = false
  gen : sc.isGenerator = false
  nd : nodupB T.nm = true
  pre : ∃ r, T.nm = ps ++ r
  par : ∀ x ∈ ps, sc.names.lookup x = some .local ∨ sc.names.lookup x = some .cell
  nofree : ∀ x, (x, NameKind.free) ∉ sc.names
structure FnIs (c : Cx) (f : Value) (sc : Scope) (ps : List Str) (body : List Stmt) : Prop where
  at_ : ∃ a o fd, f = .ref a ∧ c.gh.get? a = some o ∧ o.data = .func fd ∧ fd.scope = sc ∧ fd.body = .stmts body ∧ fd.closure = [] ∧ fd.globals = mainGlobals ∧ fd.builtins = builtinsNs ∧ c.gh.CodeRec fd.code fd.qualname ∧
    ∀ vals : List Value, vals.length = ps.length → bindArgs fd ⟨vals, []⟩ = pure (ps.zip vals)
  lim : c.gh.NoLimit

section
variable {c : Cx} {T : Nms} {sc : Scope} {G : Env0} {n : Nat}
theorem Room.deeper {A : Around} {env : Env} (r : Room A (n + 1)) : Room (A.deeper env) n := ⟨r.hd, by have := r.dp; rw [depth_deeper]; omega, by have := r.un; rw [units_deeper]; omega⟩

theorem fn_ok {f : Value} {ps : List Str} {st : S} {args : List AV} {r : AV} {fuel : Nat} (wf : FnWf T sc ps) (ws : wfS T sc st = true) (F : FnIs c f sc ps (denS T st)) (hl : args.length = ps.length)
    (C : ∀ R : RP, R.F = c.F → CxOk c T G n R) (pa : plainL args = true) (pr : plain r = true)
    (h : runS G (fun _ _ _ => none) fuel st (args.map some ++ List.replicate (T.nm.length - ps.length) none) none = some (.ret r)) : CallOK c (n + 2) f args r := by
  intro A E s vs R Q rm g fr rv p
  obtain ⟨a, o, fd, rfl, e1, e2, e3, e4, e5, e6, e7, e8, e9⟩ := F.at_
  have hlen := rv.length
  refine wpAny_call ?_
  have eL : (callEnvC fd s.heap.objs.size a).locals = s.heap.objs.size := rfl
  have eC : (callEnvC fd s.heap.objs.size a).cells = cellsFrom (s.heap.objs.size + 1) sc.names [] := by rw [← e3]; rfl
  have eS : (callEnvC fd s.heap.objs.size a).scope = sc := by rw [← e3]; rfl
  have kO : ∀ x, (callEnvC fd s.heap.objs.size a).kindOf x = sc.names.lookup x := fun x => by unfold Env.kindOf; rw [eS]
  have szp : (s.heap.push { cls := .type "frame", data := .dict #[] }).objs.size = s.heap.objs.size + 1 := Heap.size_push ..
  have own : ∀ x, (x, NameKind.cell) ∈ sc.names → ∃ a, (cellsFrom (s.heap.objs.size + 1) sc.names []).lookup x = some a := fun x m => by
    obtain ⟨a, e, _⟩ := cells_own sc.names (s.heap.push { cls := .type "frame", data := .dict #[] }) [] x m
    rw [szp] at e; exact ⟨a, e⟩
  refine codeAny_call_cells (by have := rm.dp; show A.depth < 1000; omega) (g.keep _ _ e1) e2 (F.lim.keeps g.keep) (e8.keeps g.keep) e4 (e9 vs (by rw [hlen, hl])) e5 ?_ (fun s₁ x => ?_) (by rw [e3]; exact wf.co) (by rw [e3]; exact wf.gen) (by rw [e3]; exact wf.kind)
  · intro y hy
    rw [e3]
    have hm : y.1 ∈ ps := List.of_mem_zip hy |>.1
    rcases wf.par _ hm with q | q
    · exact .inl q
    · obtain ⟨a, ha⟩ := own _ (mem_of_lookup q)
      exact .inr ⟨q, by rw [ha]; rfl⟩
  · obtain ⟨h₁, tk, rfl⟩ := x.toInCall.same
    have keep : Keep s.heap h₁ := x.toInCall.keep
    have g1 := g.keeps keep
    have hL : s.heap.get? s.heap.objs.size = none := Heap.get?_none_of_le (Nat.le_refl _)
    have ra : RelL { P := fun l => R.P l ∧ l ≠ c.z1, D := c.z1, F := c.F, B := False } h₁ args vs :=
      (rv.re (R' := { P := fun l => R.P l ∧ l ≠ c.z1, D := c.z1, F := c.F, B := False }) (fun l o pl e d => ⟨pl, g.ne1 e (dat_ne d)⟩) pa).keepR keep
    have okE : EnvOk (callEnvC fd s.heap.objs.size a) sc := {
      hsc := eS
      kind := wf.kind
      inj := by rw [eC]; exact cells_inj _ _ _ (fun x y a e => by simp at e) (fun x a e => by simp at e)
      cel := fun y hy => by
        rw [eC]
        rcases hy with q | q
        · exact own _ (mem_of_lookup q)
        · exact absurd (mem_of_lookup q) (wf.nofree y)
      gl := e6
      bl := e7 }
    have fresh : ∀ y a', (callEnvC fd s.heap.objs.size a).cells.lookup y = some a' → s.heap.get? a' = none := fun y a' e =>
      Heap.get?_none_of_le (Nat.le_of_lt (x.above y a' (mem_of_lookup e)))
    have ndp : nodupB ps = true := by obtain ⟨r, hr⟩ := wf.pre; have := wf.nd; rw [hr] at this; exact nodupB_app this
    have mfst : (ps.zip vs).map (·.1) = ps := by
      rw [List.map_fst_zip]; omega
    have F1 : Frm c R.P T sc { P := fun l => R.P l ∧ l ≠ c.z1, D := c.z1, F := c.F, B := False } (callEnvC fd s.heap.objs.size a) { s with heap := h₁, toks := tk } (args.map some ++ List.replicate (T.nm.length - ps.length) none) none := {
      P := {
        g := g1
        er := fun i b y e1 e2 => by
          have hi : i < args.length := by
            by_cases hi : i < args.length
            · exact hi
            · rw [List.getElem?_append_right (by simp; omega)] at e1
              rw [List.getElem?_replicate] at e1
              split at e1 <;> simp at e1
          rw [List.getElem?_append_left (by simpa using hi), List.getElem?_map] at e1
          have e1' : args[i]? = some b := by
            cases q : args[i]? with
            | none => rw [q] at e1; simp at e1
            | some b' => rw [q] at e1; simpa using e1
          obtain ⟨v, ev', rv'⟩ := ra.get e1'
          obtain ⟨r0, hr0⟩ := wf.pre
          have e2' : ps[i]? = some y := by
            rw [hr0, List.getElem?_append_left (by omega)] at e2; exact e2
          have hm : (y, v) ∈ ps.zip vs := zip_get e2' ev'
          refine ⟨v, rv', ?_⟩
          rcases wf.par y (List.mem_of_getElem? e2') with q | q
          · exact .inl ⟨by rw [kO]; exact q, _, x.toInCall.ns, bindL_get _ _ _ _ (by rw [mfst]; exact ndp) (by rw [kO]; exact q) (.inl hm)⟩
          · obtain ⟨a', ha'⟩ := own _ (mem_of_lookup q)
            refine .inr ⟨.inl (by rw [kO]; exact q), a', by rw [eC]; exact ha', ?_⟩
            have := x.cell y a' (by rw [eC]; exact ha')
            rw [bindC_get _ _ _ _ (by rw [mfst]; exact ndp) (by rw [kO, q]; decide) (.inl hm)] at this
            exact this
        bx := fun ns e => by cases e
        fr := fun l e => by
          have e0 : s.heap.get? l = none := by
            cases q : s.heap.get? l with
            | none => rfl
            | some o => rw [keep l o q] at e; cases e
          exact ⟨fr l e0, fun w => by obtain ⟨o, ez⟩ := g.z1s; rw [w, ez] at e0; cases e0⟩
        pd := fun l p => p.2
        dl := g1.z1s
        ff := fun _ _ => rfl
        ci := fun y a' e => ⟨_, x.cell y a' e⟩ }
      ns := ⟨_, x.toInCall.ns⟩
      ol := Own.fresh g hL
      oc := fun y a' _ e => Own.fresh g (fresh y a' e)
      pc := fun l p => p.1
      dc := fun e => absurd rfl e
      bb := fun _ e => e }
    refine ex_ok wf.nd okE (Room.deeper rm) st ws (C _ rfl) (.inl fun _ _ _ => rfl) F1 h ?_
    intro v h' tk' D B kb g' r'
    refine p v h' tk' (fun b o n1 n2 e => kb b o (fun w => ?_) (keep b o e)) g' (Rel.re (R := { P := R.P, D := D, F := c.F, B := B }) (R' := R) (fun l o pl _ _ => pl) pr r')
    rcases w with w | w | w | w | ⟨y, w1, w2⟩
    · exact n1 w
    · exact n2 w
    · exact n1 w
    · rw [w, show (callEnvC fd s.heap.objs.size a).locals = s.heap.objs.size from rfl, hL] at e; cases e
    · rw [fresh y b w2] at e; cases e
end
end Mine
end TextA28

section TextB1
open PySem PySem.W PyProof.Rows PySem.Calls PySem.Spec
namespace Mine
noncomputable def bodyOf (x : Str) : List Stmt := match PySem.Challenge.pw_sr0043_01.main.body.find? (fun st => match st with | .FunctionDef n .. => n == x | _ => false) with
  | some (.FunctionDef _ _ b ..) => b
  | _ => []
noncomputable def thenOf : List Stmt → List Stmt
  | .If _ a _ _ :: _ => a
  | .While _ b _ _ :: _ => b
  | .For _ _ b _ _ :: _ => b
  | _ => []
noncomputable def elseOf : List Stmt → List Stmt
  | .If _ _ b _ :: _ => b
  | _ => []
noncomputable def innerOf : List Stmt → List Stmt
  | .FunctionDef _ _ b .. :: _ => b
  | _ :: r => innerOf r
  | [] => []
noncomputable def gcN : List Str := ["_DIV_LIMIT", "_MAX_STRING_SIZE", "_MOVE_COST", "_CASE_COST"]
noncomputable def gfN : List Str := ["_div2n1n", "_int2digits", "_digits2int", "_divmod_pos", "Int2AP", "_substitution_cost", "_levenshtein_distance", "_law_table", "_law_letters", "_law_distances", "_law_least", "_law_depths"]
noncomputable def nm_div2n1n : List Str := ["a", "b", "n", "pad", "half_n", "mask", "b1", "b2", "q1", "r", "q2", "_div3n2n"]
noncomputable def ps_div2n1n : List Str := ["a", "b", "n"]
noncomputable def sc_div2n1n : Scope := { kind := .function, names := [("a", .local), ("b", .local), ("n", .local), ("pad", .local), ("half_n", .local), ("mask", .local), ("b1", .local), ("b2", .local), ("q1", .local), ("r", .local), ("q2", .local), ("_DIV_LIMIT", .globalImplicit), ("divmod", .globalImplicit), ("_div3n2n", .globalImplicit)], isGenerator := false, isCoroutine := false }
noncomputable def st_div2n1n : S :=
 (.ite (.cmp .LtE (.bin .Sub (.met .bitLength (.var 0 ⟨4, 7, 4, 8⟩) ⟨4, 7, 4, 19⟩ .nil ⟨4, 7, 4, 21⟩) (.var 2 ⟨4, 24, 4, 25⟩) ⟨4, 7, 4, 25⟩) (.gcs 0 ⟨4, 29, 4, 39⟩) ⟨4, 7, 4, 39⟩)
 (.ret (.blt .divmod ⟨5, 15, 5, 21⟩ (.cons (.var 0 ⟨5, 22, 5, 23⟩) (.cons (.var 1 ⟨5, 25, 5, 26⟩) .nil)) ⟨5, 15, 5, 27⟩) ⟨5, 8, 5, 27⟩)
 .nil ⟨4, 4, 5, 27⟩
 (.raw ((bodyOf "_div2n1n").drop 1)))

noncomputable def nm_int2digits : List Str := ["a", "n", "a_digits", "inner"]
noncomputable def ps_int2digits : List Str := ["a", "n"]
noncomputable def sc_int2digits : Scope := { kind := .function, names := [("a", .local), ("n", .cell), ("a_digits", .cell), ("inner", .cell), ("len", .globalImplicit)], isGenerator := false, isCoroutine := false }
noncomputable def sa_int2digits : S :=
 (.bxm 2 ⟨30, 4, 30, 12⟩ 0 0 ⟨30, 16, 30, 17⟩ ⟨30, 15, 30, 18⟩ (.bin .FloorDiv (.bin .Sub (.bin .Add (.met .bitLength (.var 0 ⟨30, 23, 30, 24⟩) ⟨30, 23, 30, 35⟩ .nil ⟨30, 23, 30, 37⟩) (.var 1 ⟨30, 40, 30, 41⟩) ⟨30, 23, 30, 41⟩) (.cst (.int 1) 0 ⟨30, 44, 30, 45⟩) ⟨30, 23, 30, 45⟩) (.var 1 ⟨30, 50, 30, 51⟩) ⟨30, 22, 30, 51⟩) ⟨30, 15, 30, 52⟩ ⟨30, 4, 30, 52⟩
 .nil)
noncomputable def st_int2digits : S :=
 (.ite (.var 0 ⟨42, 7, 42, 8⟩)
 (.ecl 3 ⟨43, 8, 43, 13⟩ (.cons (.var 0 ⟨43, 14, 43, 15⟩) (.cons (.cst (.int 0) 0 ⟨43, 17, 43, 18⟩) (.cons (.blt .len ⟨43, 20, 43, 23⟩ (.cons (.var 2 ⟨43, 24, 43, 32⟩) .nil) ⟨43, 20, 43, 33⟩) .nil))) ⟨43, 8, 43, 34⟩ ⟨43, 8, 43, 34⟩
 .nil)
 .nil ⟨42, 4, 43, 34⟩
 (.ret (.var 2 ⟨44, 11, 44, 19⟩) ⟨44, 4, 44, 19⟩))

noncomputable def nm_int2digits_in : List Str := ["x", "L", "R", "mid", "shift", "upper", "lower", "a_digits", "inner", "n"]
noncomputable def ps_int2digits_in : List Str := ["x", "L", "R"]
noncomputable def sc_int2digits_in : Scope := { kind := .function, names := [("x", .local), ("L", .local), ("R", .local), ("mid", .local), ("shift", .local), ("upper", .local), ("lower", .local), ("a_digits", .free), ("inner", .free), ("n", .free)], isGenerator := false, isCoroutine := false }
noncomputable def st_int2digits_in : S :=
 (.ite (.cmp .Eq (.bin .Add (.var 1 ⟨33, 11, 33, 12⟩) (.cst (.int 1) 0 ⟨33, 15, 33, 16⟩) ⟨33, 11, 33, 16⟩) (.var 2 ⟨33, 20, 33, 21⟩) ⟨33, 11, 33, 21⟩)
 (.sto 7 ⟨34, 12, 34, 20⟩ (.var 1 ⟨34, 21, 34, 22⟩) ⟨34, 12, 34, 23⟩ (.var 0 ⟨34, 26, 34, 27⟩) ⟨34, 12, 34, 27⟩
 (.retn ⟨35, 12, 35, 18⟩))
 .nil ⟨33, 8, 35, 18⟩
 (.asg 3 ⟨36, 8, 36, 11⟩ (.bin .RShift (.bin .Add (.var 1 ⟨36, 14, 36, 15⟩) (.var 2 ⟨36, 18, 36, 19⟩) ⟨36, 14, 36, 19⟩) (.cst (.int 1) 0 ⟨36, 23, 36, 24⟩) ⟨36, 14, 36, 24⟩) ⟨36, 8, 36, 24⟩
 (.asg 4 ⟨37, 8, 37, 13⟩ (.bin .Mult (.bin .Sub (.var 3 ⟨37, 17, 37, 20⟩) (.var 1 ⟨37, 23, 37, 24⟩) ⟨37, 17, 37, 24⟩) (.var 9 ⟨37, 28, 37, 29⟩) ⟨37, 16, 37, 29⟩) ⟨37, 8, 37, 29⟩
 (.asg 5 ⟨38, 8, 38, 13⟩ (.bin .RShift (.var 0 ⟨38, 16, 38, 17⟩) (.var 4 ⟨38, 21, 38, 26⟩) ⟨38, 16, 38, 26⟩) ⟨38, 8, 38, 26⟩
 (.asg 6 ⟨39, 8, 39, 13⟩ (.bin .BitXor (.var 0 ⟨39, 16, 39, 17⟩) (.bin .LShift (.var 5 ⟨39, 20, 39, 25⟩) (.var 4 ⟨39, 29, 39, 34⟩) ⟨39, 20, 39, 34⟩) ⟨39, 16, 39, 34⟩) ⟨39, 8, 39, 34⟩
 (.ecl 8 ⟨40, 8, 40, 13⟩ (.cons (.var 6 ⟨40, 14, 40, 19⟩) (.cons (.var 1 ⟨40, 21, 40, 22⟩) (.cons (.var 3 ⟨40, 24, 40, 27⟩) .nil))) ⟨40, 8, 40, 28⟩ ⟨40, 8, 40, 28⟩
 (.ecl 8 ⟨41, 8, 41, 13⟩ (.cons (.var 5 ⟨41, 14, 41, 19⟩) (.cons (.var 3 ⟨41, 21, 41, 24⟩) (.cons (.var 2 ⟨41, 26, 41, 27⟩) .nil))) ⟨41, 8, 41, 28⟩ ⟨41, 8, 41, 28⟩
 .nil)))))))
-- inner ⟨32, 4, 41, 28⟩

noncomputable def nm_digits2int : List Str := ["digits", "n", "inner"]
noncomputable def ps_digits2int : List Str := ["digits", "n"]
noncomputable def sc_digits2int : Scope := { kind := .function, names := [("digits", .cell), ("n", .cell), ("inner", .cell), ("len", .globalImplicit)], isGenerator := false, isCoroutine := false }
noncomputable def sa_digits2int : S :=
 .nil
noncomputable def st_digits2int : S :=
 (.ret (.ife (.var 0 ⟨53, 36, 53, 42⟩) (.cal (.var 2 ⟨53, 11, 53, 16⟩) (.cons (.cst (.int 0) 0 ⟨53, 17, 53, 18⟩) (.cons (.blt .len ⟨53, 20, 53, 23⟩ (.cons (.var 0 ⟨53, 24, 53, 30⟩) .nil) ⟨53, 20, 53, 31⟩) .nil)) ⟨53, 11, 53, 32⟩) (.cst (.int 0) 0 ⟨53, 48, 53, 49⟩) ⟨53, 11, 53, 49⟩) ⟨53, 4, 53, 49⟩)

noncomputable def nm_digits2int_in : List Str := ["L", "R", "mid", "shift", "digits", "inner", "n"]
noncomputable def ps_digits2int_in : List Str := ["L", "R"]
noncomputable def sc_digits2int_in : Scope := { kind := .function, names := [("L", .local), ("R", .local), ("mid", .local), ("shift", .local), ("digits", .free), ("inner", .free), ("n", .free)], isGenerator := false, isCoroutine := false }
noncomputable def st_digits2int_in : S :=
 (.ite (.cmp .Eq (.bin .Add (.var 0 ⟨48, 11, 48, 12⟩) (.cst (.int 1) 0 ⟨48, 15, 48, 16⟩) ⟨48, 11, 48, 16⟩) (.var 1 ⟨48, 20, 48, 21⟩) ⟨48, 11, 48, 21⟩)
 (.ret (.idx (.var 4 ⟨49, 19, 49, 25⟩) (.var 0 ⟨49, 26, 49, 27⟩) ⟨49, 19, 49, 28⟩) ⟨49, 12, 49, 28⟩)
 .nil ⟨48, 8, 49, 28⟩
 (.asg 2 ⟨50, 8, 50, 11⟩ (.bin .RShift (.bin .Add (.var 0 ⟨50, 14, 50, 15⟩) (.var 1 ⟨50, 18, 50, 19⟩) ⟨50, 14, 50, 19⟩) (.cst (.int 1) 0 ⟨50, 23, 50, 24⟩) ⟨50, 14, 50, 24⟩) ⟨50, 8, 50, 24⟩
 (.asg 3 ⟨51, 8, 51, 13⟩ (.bin .Mult (.bin .Sub (.var 2 ⟨51, 17, 51, 20⟩) (.var 0 ⟨51, 23, 51, 24⟩) ⟨51, 17, 51, 24⟩) (.var 6 ⟨51, 28, 51, 29⟩) ⟨51, 16, 51, 29⟩) ⟨51, 8, 51, 29⟩
 (.ret (.bin .Add (.bin .LShift (.cal (.var 5 ⟨52, 16, 52, 21⟩) (.cons (.var 2 ⟨52, 22, 52, 25⟩) (.cons (.var 1 ⟨52, 27, 52, 28⟩) .nil)) ⟨52, 16, 52, 29⟩) (.var 3 ⟨52, 33, 52, 38⟩) ⟨52, 16, 52, 38⟩) (.cal (.var 5 ⟨52, 42, 52, 47⟩) (.cons (.var 0 ⟨52, 48, 52, 49⟩) (.cons (.var 2 ⟨52, 51, 52, 54⟩) .nil)) ⟨52, 42, 52, 55⟩) ⟨52, 15, 52, 55⟩) ⟨52, 8, 52, 55⟩))))
-- inner ⟨47, 4, 52, 55⟩

noncomputable def nm_divmod_pos : List Str := ["a", "b", "n", "a_digits", "r", "q_digits", "a_digit", "q_digit", "q"]
noncomputable def ps_divmod_pos : List Str := ["a", "b"]
noncomputable def sc_divmod_pos : Scope := { kind := .function, names := [("a", .local), ("b", .local), ("n", .local), ("a_digits", .local), ("r", .local), ("q_digits", .local), ("a_digit", .local), ("q_digit", .local), ("q", .local), ("_int2digits", .globalImplicit), ("reversed", .globalImplicit), ("_div2n1n", .globalImplicit), ("_digits2int", .globalImplicit)], isGenerator := false, isCoroutine := false }
noncomputable def st_divmod_pos : S :=
 (.asg 2 ⟨55, 4, 55, 5⟩ (.met .bitLength (.var 1 ⟨55, 8, 55, 9⟩) ⟨55, 8, 55, 20⟩ .nil ⟨55, 8, 55, 22⟩) ⟨55, 4, 55, 22⟩
 (.asg 3 ⟨56, 4, 56, 12⟩ (.cal (.gfn 1 ⟨56, 15, 56, 26⟩) (.cons (.var 0 ⟨56, 27, 56, 28⟩) (.cons (.var 2 ⟨56, 30, 56, 31⟩) .nil)) ⟨56, 15, 56, 32⟩) ⟨56, 4, 56, 32⟩
 (.asg 4 ⟨57, 4, 57, 5⟩ (.cst (.int 0) 0 ⟨57, 8, 57, 9⟩) ⟨57, 4, 57, 9⟩
 (.bxl 5 ⟨58, 4, 58, 12⟩ .nil ⟨58, 15, 58, 17⟩ ⟨58, 4, 58, 17⟩
 (.for (.one 6 ⟨59, 8, 59, 15⟩) (.blt .rev ⟨59, 19, 59, 27⟩ (.cons (.var 3 ⟨59, 28, 59, 36⟩) .nil) ⟨59, 19, 59, 37⟩)
 (.ast 7 4 ⟨60, 8, 60, 15⟩ ⟨60, 17, 60, 18⟩ 0 ⟨60, 8, 60, 18⟩ (.cal (.gfn 0 ⟨60, 21, 60, 29⟩) (.cons (.bin .Add (.bin .LShift (.var 4 ⟨60, 31, 60, 32⟩) (.var 2 ⟨60, 36, 60, 37⟩) ⟨60, 31, 60, 37⟩) (.var 6 ⟨60, 41, 60, 48⟩) ⟨60, 30, 60, 48⟩) (.cons (.var 1 ⟨60, 50, 60, 51⟩) (.cons (.var 2 ⟨60, 53, 60, 54⟩) .nil))) ⟨60, 21, 60, 55⟩) ⟨60, 8, 60, 55⟩
 (.app 5 ⟨61, 8, 61, 16⟩ ⟨61, 8, 61, 23⟩ (.var 7 ⟨61, 24, 61, 31⟩) ⟨61, 8, 61, 32⟩ ⟨61, 8, 61, 32⟩
 .nil)) ⟨59, 4, 61, 32⟩
 (.rev 5 ⟨62, 4, 62, 12⟩ ⟨62, 4, 62, 20⟩ ⟨62, 4, 62, 22⟩ ⟨62, 4, 62, 22⟩
 (.cbx 8 ⟨63, 4, 63, 5⟩ 2 ⟨63, 8, 63, 19⟩ 5 ⟨63, 20, 63, 28⟩ (.var 2 ⟨63, 30, 63, 31⟩) ⟨63, 8, 63, 32⟩ ⟨63, 4, 63, 32⟩
 (.ret (.tup (.cons (.var 8 ⟨64, 12, 64, 13⟩) (.cons (.var 4 ⟨64, 15, 64, 16⟩) .nil)) 0 ⟨64, 11, 64, 17⟩) ⟨64, 4, 64, 17⟩))))))))

noncomputable def nm_Int2AP : List Str := ["num", "val", "AP", "mod"]
noncomputable def ps_Int2AP : List Str := ["num"]
noncomputable def sc_Int2AP : Scope := { kind := .function, names := [("num", .local), ("val", .local), ("AP", .local), ("mod", .local), ("int", .globalImplicit), ("abs", .globalImplicit), ("divmod", .globalImplicit)], isGenerator := false, isCoroutine := false }
noncomputable def st_Int2AP : S :=
 (.asg 1 ⟨67, 4, 67, 7⟩ (.cst (.bytes []) 0 ⟨67, 10, 67, 13⟩) ⟨67, 4, 67, 13⟩
 (.asg 2 ⟨68, 4, 68, 6⟩ (.cst (.bytes [65, 66, 67, 68, 69, 70, 71, 72, 73, 74, 75, 76, 77, 78, 79, 80]) 0 ⟨68, 9, 68, 28⟩) ⟨68, 4, 68, 28⟩
 (.asg 0 ⟨69, 4, 69, 7⟩ (.blt .int ⟨69, 10, 69, 13⟩ (.cons (.blt .abs ⟨69, 14, 69, 17⟩ (.cons (.var 0 ⟨69, 18, 69, 21⟩) .nil) ⟨69, 14, 69, 22⟩) .nil) ⟨69, 10, 69, 23⟩) ⟨69, 4, 69, 23⟩
 (.whl (.var 0 ⟨70, 10, 70, 13⟩)
 (.ast 0 3 ⟨71, 8, 71, 11⟩ ⟨71, 13, 71, 16⟩ 0 ⟨71, 8, 71, 16⟩ (.blt .divmod ⟨71, 19, 71, 25⟩ (.cons (.var 0 ⟨71, 26, 71, 29⟩) (.cons (.cst (.int 16) 0 ⟨71, 31, 71, 33⟩) .nil)) ⟨71, 19, 71, 34⟩) ⟨71, 8, 71, 34⟩
 (.asg 1 ⟨72, 8, 72, 11⟩ (.bin .Add (.sli (.var 2 ⟨72, 14, 72, 16⟩) (.var 3 ⟨72, 17, 72, 20⟩) (.bin .Add (.var 3 ⟨72, 21, 72, 24⟩) (.cst (.int 1) 0 ⟨72, 27, 72, 28⟩) ⟨72, 21, 72, 28⟩) .nil ⟨72, 17, 72, 28⟩ ⟨72, 14, 72, 29⟩) (.var 1 ⟨72, 32, 72, 35⟩) ⟨72, 14, 72, 35⟩) ⟨72, 8, 72, 35⟩
 .nil)) ⟨70, 4, 72, 35⟩
 (.ret (.var 1 ⟨73, 11, 73, 14⟩) ⟨73, 4, 73, 14⟩)))))

noncomputable def nm_substitution_cost : List Str := ["ch_a", "ch_b"]
noncomputable def ps_substitution_cost : List Str := ["ch_a", "ch_b"]
noncomputable def sc_substitution_cost : Scope := { kind := .function, names := [("ch_a", .local), ("ch_b", .local), ("_CASE_COST", .globalImplicit), ("_MOVE_COST", .globalImplicit)], isGenerator := false, isCoroutine := false }
noncomputable def st_substitution_cost : S :=
 (.ite (.cmp .Eq (.var 0 ⟨79, 7, 79, 11⟩) (.var 1 ⟨79, 15, 79, 19⟩) ⟨79, 7, 79, 19⟩)
 (.ret (.cst (.int 0) 0 ⟨80, 15, 80, 16⟩) ⟨80, 8, 80, 16⟩)
 .nil ⟨79, 4, 80, 16⟩
 (.ite (.cmp .Eq (.met .lower (.var 0 ⟨81, 7, 81, 11⟩) ⟨81, 7, 81, 17⟩ .nil ⟨81, 7, 81, 19⟩) (.met .lower (.var 1 ⟨81, 23, 81, 27⟩) ⟨81, 23, 81, 33⟩ .nil ⟨81, 23, 81, 35⟩) ⟨81, 7, 81, 35⟩)
 (.ret (.gcs 3 ⟨82, 15, 82, 25⟩) ⟨82, 8, 82, 25⟩)
 .nil ⟨81, 4, 82, 25⟩
 (.ret (.gcs 2 ⟨83, 11, 83, 21⟩) ⟨83, 4, 83, 21⟩)))

noncomputable def nm_levenshtein_distance : List Str := ["a", "b", "max_cost", "pre", "post", "row", "result", "bindex", "bchar", "distance", "minimum", "index", "substitute", "insert_delete"]
noncomputable def ps_levenshtein_distance : List Str := ["a", "b", "max_cost"]
noncomputable def sc_levenshtein_distance : Scope := { kind := .function, names := [("a", .local), ("b", .local), ("max_cost", .local), ("pre", .local), ("post", .local), ("row", .local), ("result", .local), ("bindex", .local), ("bchar", .local), ("distance", .local), ("minimum", .local), ("index", .local), ("substitute", .local), ("insert_delete", .local), ("_MOVE_COST", .globalImplicit), ("len", .globalImplicit), ("_MAX_STRING_SIZE", .globalImplicit), ("list", .globalImplicit), ("range", .globalImplicit), ("_substitution_cost", .globalImplicit), ("min", .globalImplicit)], isGenerator := false, isCoroutine := false }
noncomputable def st_levenshtein_distance : S :=
 (.ite (.cmp .Eq (.var 0 ⟨85, 7, 85, 8⟩) (.var 1 ⟨85, 12, 85, 13⟩) ⟨85, 7, 85, 13⟩)
 (.ret (.cst (.int 0) 0 ⟨86, 15, 86, 16⟩) ⟨86, 8, 86, 16⟩)
 .nil ⟨85, 4, 86, 16⟩
 (.asg 3 ⟨87, 4, 87, 7⟩ (.cst (.int 0) 0 ⟨87, 10, 87, 11⟩) ⟨87, 4, 87, 11⟩
 (.whl (.ban (.sli (.var 0 ⟨88, 10, 88, 11⟩) (.var 3 ⟨88, 12, 88, 15⟩) .nil .nil ⟨88, 12, 88, 16⟩ ⟨88, 10, 88, 17⟩) (.sli (.var 1 ⟨88, 22, 88, 23⟩) (.var 3 ⟨88, 24, 88, 27⟩) .nil .nil ⟨88, 24, 88, 28⟩ ⟨88, 22, 88, 29⟩) (.cmp .Eq (.idx (.var 0 ⟨88, 35, 88, 36⟩) (.var 3 ⟨88, 37, 88, 40⟩) ⟨88, 35, 88, 41⟩) (.idx (.var 1 ⟨88, 45, 88, 46⟩) (.var 3 ⟨88, 47, 88, 50⟩) ⟨88, 45, 88, 51⟩) ⟨88, 35, 88, 51⟩) ⟨88, 10, 88, 52⟩)
 (.aug 3 ⟨89, 8, 89, 11⟩ .Add (.cst (.int 1) 0 ⟨89, 15, 89, 16⟩) ⟨89, 8, 89, 16⟩
 .nil) ⟨88, 4, 89, 16⟩
 (.asg 0 ⟨90, 4, 90, 5⟩ (.sli (.var 0 ⟨90, 8, 90, 9⟩) (.var 3 ⟨90, 10, 90, 13⟩) .nil .nil ⟨90, 10, 90, 14⟩ ⟨90, 8, 90, 15⟩) ⟨90, 4, 90, 15⟩
 (.asg 1 ⟨91, 4, 91, 5⟩ (.sli (.var 1 ⟨91, 8, 91, 9⟩) (.var 3 ⟨91, 10, 91, 13⟩) .nil .nil ⟨91, 10, 91, 14⟩ ⟨91, 8, 91, 15⟩) ⟨91, 4, 91, 15⟩
 (.asg 4 ⟨92, 4, 92, 8⟩ (.cst (.int 0) 0 ⟨92, 11, 92, 12⟩) ⟨92, 4, 92, 12⟩
 (.whl (.ban (.sli (.var 0 ⟨93, 10, 93, 11⟩) .nil (.bor (.var 4 ⟨93, 13, 93, 17⟩) (.cst .none 0 ⟨93, 21, 93, 25⟩) ⟨93, 13, 93, 25⟩) .nil ⟨93, 12, 93, 25⟩ ⟨93, 10, 93, 26⟩) (.sli (.var 1 ⟨93, 31, 93, 32⟩) .nil (.bor (.var 4 ⟨93, 34, 93, 38⟩) (.cst .none 0 ⟨93, 42, 93, 46⟩) ⟨93, 34, 93, 46⟩) .nil ⟨93, 33, 93, 46⟩ ⟨93, 31, 93, 47⟩) (.cmp .Eq (.idx (.var 0 ⟨93, 53, 93, 54⟩) (.bin .Sub (.var 4 ⟨93, 55, 93, 59⟩) (.cst (.int 1) 0 ⟨93, 62, 93, 63⟩) ⟨93, 55, 93, 63⟩) ⟨93, 53, 93, 64⟩) (.idx (.var 1 ⟨93, 68, 93, 69⟩) (.bin .Sub (.var 4 ⟨93, 70, 93, 74⟩) (.cst (.int 1) 0 ⟨93, 77, 93, 78⟩) ⟨93, 70, 93, 78⟩) ⟨93, 68, 93, 79⟩) ⟨93, 53, 93, 79⟩) ⟨93, 10, 93, 80⟩)
 (.aug 4 ⟨94, 8, 94, 12⟩ .Sub (.cst (.int 1) 0 ⟨94, 16, 94, 17⟩) ⟨94, 8, 94, 17⟩
 .nil) ⟨93, 4, 94, 17⟩
 (.asg 0 ⟨95, 4, 95, 5⟩ (.sli (.var 0 ⟨95, 8, 95, 9⟩) .nil (.bor (.var 4 ⟨95, 11, 95, 15⟩) (.cst .none 0 ⟨95, 19, 95, 23⟩) ⟨95, 11, 95, 23⟩) .nil ⟨95, 10, 95, 23⟩ ⟨95, 8, 95, 24⟩) ⟨95, 4, 95, 24⟩
 (.asg 1 ⟨96, 4, 96, 5⟩ (.sli (.var 1 ⟨96, 8, 96, 9⟩) .nil (.bor (.var 4 ⟨96, 11, 96, 15⟩) (.cst .none 0 ⟨96, 19, 96, 23⟩) ⟨96, 11, 96, 23⟩) .nil ⟨96, 10, 96, 23⟩ ⟨96, 8, 96, 24⟩) ⟨96, 4, 96, 24⟩
 (.ite (.bor (.not (.var 0 ⟨97, 11, 97, 12⟩) ⟨97, 7, 97, 12⟩) (.not (.var 1 ⟨97, 20, 97, 21⟩) ⟨97, 16, 97, 21⟩) ⟨97, 7, 97, 21⟩)
 (.ret (.bin .Mult (.gcs 2 ⟨98, 15, 98, 25⟩) (.bin .Add (.blt .len ⟨98, 29, 98, 32⟩ (.cons (.var 0 ⟨98, 33, 98, 34⟩) .nil) ⟨98, 29, 98, 35⟩) (.blt .len ⟨98, 38, 98, 41⟩ (.cons (.var 1 ⟨98, 42, 98, 43⟩) .nil) ⟨98, 38, 98, 44⟩) ⟨98, 29, 98, 44⟩) ⟨98, 15, 98, 45⟩) ⟨98, 8, 98, 45⟩)
 .nil ⟨97, 4, 98, 45⟩
 (.ite (.bor (.cmp .Gt (.blt .len ⟨99, 7, 99, 10⟩ (.cons (.var 0 ⟨99, 11, 99, 12⟩) .nil) ⟨99, 7, 99, 13⟩) (.gcs 1 ⟨99, 16, 99, 32⟩) ⟨99, 7, 99, 32⟩) (.cmp .Gt (.blt .len ⟨99, 36, 99, 39⟩ (.cons (.var 1 ⟨99, 40, 99, 41⟩) .nil) ⟨99, 36, 99, 42⟩) (.gcs 1 ⟨99, 45, 99, 61⟩) ⟨99, 36, 99, 61⟩) ⟨99, 7, 99, 61⟩)
 (.ret (.bin .Add (.var 2 ⟨100, 15, 100, 23⟩) (.cst (.int 1) 0 ⟨100, 26, 100, 27⟩) ⟨100, 15, 100, 27⟩) ⟨100, 8, 100, 27⟩)
 .nil ⟨99, 4, 100, 27⟩
 (.ite (.cmp .Lt (.blt .len ⟨101, 7, 101, 10⟩ (.cons (.var 1 ⟨101, 11, 101, 12⟩) .nil) ⟨101, 7, 101, 13⟩) (.blt .len ⟨101, 16, 101, 19⟩ (.cons (.var 0 ⟨101, 20, 101, 21⟩) .nil) ⟨101, 16, 101, 22⟩) ⟨101, 7, 101, 22⟩)
 (.raw (thenOf ((((((((((((bodyOf "_levenshtein_distance").drop 1).drop 1).drop 1).drop 1).drop 1).drop 1).drop 1).drop 1).drop 1).drop 1).drop 1)))
 .nil ⟨101, 4, 102, 21⟩
 (.ite (.cmp .Gt (.bin .Mult (.bin .Sub (.blt .len ⟨103, 8, 103, 11⟩ (.cons (.var 1 ⟨103, 12, 103, 13⟩) .nil) ⟨103, 8, 103, 14⟩) (.blt .len ⟨103, 17, 103, 20⟩ (.cons (.var 0 ⟨103, 21, 103, 22⟩) .nil) ⟨103, 17, 103, 23⟩) ⟨103, 8, 103, 23⟩) (.gcs 2 ⟨103, 27, 103, 37⟩) ⟨103, 7, 103, 37⟩) (.var 2 ⟨103, 40, 103, 48⟩) ⟨103, 7, 103, 48⟩)
 (.ret (.bin .Add (.var 2 ⟨104, 15, 104, 23⟩) (.cst (.int 1) 0 ⟨104, 26, 104, 27⟩) ⟨104, 15, 104, 27⟩) ⟨104, 8, 104, 27⟩)
 .nil ⟨103, 4, 104, 27⟩
 (.bxr 5 ⟨105, 4, 105, 7⟩ ⟨105, 10, 105, 14⟩ ⟨105, 15, 105, 20⟩ (.cons (.gcs 2 ⟨105, 21, 105, 31⟩) (.cons (.bin .Mult (.gcs 2 ⟨105, 33, 105, 43⟩) (.bin .Add (.blt .len ⟨105, 47, 105, 50⟩ (.cons (.var 0 ⟨105, 51, 105, 52⟩) .nil) ⟨105, 47, 105, 53⟩) (.cst (.int 1) 0 ⟨105, 56, 105, 57⟩) ⟨105, 47, 105, 57⟩) ⟨105, 33, 105, 58⟩) (.cons (.gcs 2 ⟨105, 60, 105, 70⟩) .nil))) ⟨105, 15, 105, 71⟩ ⟨105, 10, 105, 72⟩ ⟨105, 4, 105, 72⟩
 (.asg 6 ⟨106, 4, 106, 10⟩ (.cst (.int 0) 0 ⟨106, 13, 106, 14⟩) ⟨106, 4, 106, 14⟩
 (.for (.one 7 ⟨107, 8, 107, 14⟩) (.blt .range ⟨107, 18, 107, 23⟩ (.cons (.blt .len ⟨107, 24, 107, 27⟩ (.cons (.var 1 ⟨107, 28, 107, 29⟩) .nil) ⟨107, 24, 107, 30⟩) .nil) ⟨107, 18, 107, 31⟩)
 (.asg 8 ⟨108, 8, 108, 13⟩ (.idx (.var 1 ⟨108, 16, 108, 17⟩) (.var 7 ⟨108, 18, 108, 24⟩) ⟨108, 16, 108, 25⟩) ⟨108, 8, 108, 25⟩
 (.asg2 9 ⟨109, 8, 109, 16⟩ 6 ⟨109, 19, 109, 25⟩ (.bin .Mult (.var 7 ⟨109, 28, 109, 34⟩) (.gcs 2 ⟨109, 37, 109, 47⟩) ⟨109, 28, 109, 47⟩) ⟨109, 8, 109, 47⟩
 (.asg 10 ⟨110, 8, 110, 15⟩ (.cst (.int 9223372036854775807) 0 ⟨110, 18, 110, 37⟩) ⟨110, 8, 110, 37⟩
 (.for (.one 11 ⟨111, 12, 111, 17⟩) (.blt .range ⟨111, 21, 111, 26⟩ (.cons (.blt .len ⟨111, 27, 111, 30⟩ (.cons (.var 0 ⟨111, 31, 111, 32⟩) .nil) ⟨111, 27, 111, 33⟩) .nil) ⟨111, 21, 111, 34⟩)
 (.asg 12 ⟨112, 12, 112, 22⟩ (.bin .Add (.var 9 ⟨112, 25, 112, 33⟩) (.cal (.gfn 5 ⟨112, 36, 112, 54⟩) (.cons (.var 8 ⟨112, 55, 112, 60⟩) (.cons (.idx (.var 0 ⟨112, 62, 112, 63⟩) (.var 11 ⟨112, 64, 112, 69⟩) ⟨112, 62, 112, 70⟩) .nil)) ⟨112, 36, 112, 71⟩) ⟨112, 25, 112, 71⟩) ⟨112, 12, 112, 71⟩
 (.asg 9 ⟨113, 12, 113, 20⟩ (.idx (.var 5 ⟨113, 23, 113, 26⟩) (.var 11 ⟨113, 27, 113, 32⟩) ⟨113, 23, 113, 33⟩) ⟨113, 12, 113, 33⟩
 (.asg 13 ⟨114, 12, 114, 25⟩ (.bin .Add (.blt .min ⟨114, 28, 114, 31⟩ (.cons (.var 6 ⟨114, 32, 114, 38⟩) (.cons (.var 9 ⟨114, 40, 114, 48⟩) .nil)) ⟨114, 28, 114, 49⟩) (.gcs 2 ⟨114, 52, 114, 62⟩) ⟨114, 28, 114, 62⟩) ⟨114, 12, 114, 62⟩
 (.asg 6 ⟨115, 12, 115, 18⟩ (.blt .min ⟨115, 21, 115, 24⟩ (.cons (.var 13 ⟨115, 25, 115, 38⟩) (.cons (.var 12 ⟨115, 40, 115, 50⟩) .nil)) ⟨115, 21, 115, 51⟩) ⟨115, 12, 115, 51⟩
 (.sto 5 ⟨116, 12, 116, 15⟩ (.var 11 ⟨116, 16, 116, 21⟩) ⟨116, 12, 116, 22⟩ (.var 6 ⟨116, 25, 116, 31⟩) ⟨116, 12, 116, 31⟩
 (.ite (.cmp .Lt (.var 6 ⟨117, 15, 117, 21⟩) (.var 10 ⟨117, 24, 117, 31⟩) ⟨117, 15, 117, 31⟩)
 (.asg 10 ⟨118, 16, 118, 23⟩ (.var 6 ⟨118, 26, 118, 32⟩) ⟨118, 16, 118, 32⟩
 .nil)
 .nil ⟨117, 12, 118, 32⟩
 .nil)))))) ⟨111, 8, 118, 32⟩
 (.ite (.cmp .Gt (.var 10 ⟨119, 11, 119, 18⟩) (.var 2 ⟨119, 21, 119, 29⟩) ⟨119, 11, 119, 29⟩)
 (.ret (.bin .Add (.var 2 ⟨120, 19, 120, 27⟩) (.cst (.int 1) 0 ⟨120, 30, 120, 31⟩) ⟨120, 19, 120, 31⟩) ⟨120, 12, 120, 31⟩)
 .nil ⟨119, 8, 120, 31⟩
 .nil))))) ⟨107, 4, 120, 31⟩
 (.ret (.var 6 ⟨121, 11, 121, 17⟩) ⟨121, 4, 121, 17⟩)))))))))))))))))

noncomputable def nm_law_table : List Str := ["script", "k", "bits", "i", "j"]
noncomputable def ps_law_table : List Str := ["script", "k"]
noncomputable def sc_law_table : Scope := { kind := .function, names := [("script", .cell), ("k", .local), ("bits", .cell), ("range", .globalImplicit)], isGenerator := false, isCoroutine := false, more := [("fast", (.str "script")), ("fast", (.str "k")), ("fast", (.str "bits")), ("fast", (.str "i")), ("fast", (.str "j"))] }
noncomputable def st_law_table : S :=
 (.asg 2 ⟨124, 4, 124, 8⟩ (.lst (.cons (.cst (.int 1) 0 ⟨124, 12, 124, 13⟩) (.cons (.cst (.int 1) 0 ⟨124, 15, 124, 16⟩) (.cons (.cst (.int 0) 0 ⟨124, 18, 124, 19⟩) (.cons (.cst (.int 0) 0 ⟨124, 21, 124, 22⟩) (.cons (.cst (.int 1) 0 ⟨124, 24, 124, 25⟩) (.cons (.cst (.int 1) 0 ⟨124, 27, 124, 28⟩) (.cons (.cst (.int 1) 0 ⟨124, 30, 124, 31⟩) (.cons (.cst (.int 0) 0 ⟨124, 33, 124, 34⟩) (.cons (.cst (.int 1) 0 ⟨124, 36, 124, 37⟩) .nil))))))))) ⟨124, 11, 124, 38⟩) ⟨124, 4, 124, 38⟩
 (.ret (.com (.com (.bin .Mod (.bin .Add (.idx (.var 2 ⟨125, 14, 125, 18⟩) (.bin .Add (.bin .Mult (.cst (.int 3) 0 ⟨125, 19, 125, 20⟩) (.var 3 ⟨125, 23, 125, 24⟩) ⟨125, 19, 125, 24⟩) (.var 4 ⟨125, 27, 125, 28⟩) ⟨125, 19, 125, 28⟩) ⟨125, 14, 125, 29⟩) (.blt .sum ⟨125, 32, 125, 35⟩ (.cons (.sli (.var 0 ⟨125, 36, 125, 42⟩) (.bin .Add (.bin .Mult (.cst (.int 3) 0 ⟨125, 43, 125, 44⟩) (.var 3 ⟨125, 47, 125, 48⟩) ⟨125, 43, 125, 48⟩) (.var 4 ⟨125, 51, 125, 52⟩) ⟨125, 43, 125, 52⟩) .nil (.cst (.int 9) 0 ⟨125, 54, 125, 55⟩) ⟨125, 43, 125, 55⟩ ⟨125, 36, 125, 56⟩) .nil) ⟨125, 32, 125, 57⟩) ⟨125, 14, 125, 57⟩) (.cst (.int 2) 0 ⟨125, 61, 125, 62⟩) ⟨125, 13, 125, 62⟩) (.one 4 ⟨125, 67, 125, 68⟩) (.blt .range ⟨125, 72, 125, 77⟩ (.cons (.cst (.int 3) 0 ⟨125, 78, 125, 79⟩) .nil) ⟨125, 72, 125, 80⟩) .nil { kind := .function, names := [(".0", .local), ("j", .local), ("sum", .globalImplicit), ("bits", .free), ("i", .free), ("script", .free)], isGenerator := false, isCoroutine := false } [2, 3, 0] ⟨125, 12, 125, 81⟩) (.one 3 ⟨125, 86, 125, 87⟩) (.blt .range ⟨125, 91, 125, 96⟩ (.cons (.var 1 ⟨125, 97, 125, 98⟩) .nil) ⟨125, 91, 125, 99⟩) .nil { kind := .function, names := [(".0", .local), ("i", .cell), ("range", .globalImplicit), ("bits", .free), ("script", .free)], isGenerator := false, isCoroutine := false } [2, 0] ⟨125, 11, 125, 100⟩) ⟨125, 4, 125, 100⟩))

noncomputable def nm_law_letters : List Str := ["number", "n", "place"]
noncomputable def ps_law_letters : List Str := ["number", "n"]
noncomputable def sc_law_letters : Scope := { kind := .function, names := [("number", .cell), ("n", .local), ("bytes", .globalImplicit), ("range", .globalImplicit)], isGenerator := false, isCoroutine := false, more := [("fast", (.str "number")), ("fast", (.str "n")), ("fast", (.str "place"))] }
noncomputable def st_law_letters : S :=
 (.ret (.blt .bytes ⟨127, 11, 127, 16⟩ (.cons (.com (.bin .Add (.cst (.int 65) 0 ⟨127, 18, 127, 20⟩) (.bin .Mod (.bin .RShift (.var 0 ⟨127, 24, 127, 30⟩) (.bin .Mult (.cst (.int 4) 0 ⟨127, 34, 127, 35⟩) (.var 2 ⟨127, 38, 127, 43⟩) ⟨127, 34, 127, 43⟩) ⟨127, 24, 127, 43⟩) (.cst (.int 16) 0 ⟨127, 47, 127, 49⟩) ⟨127, 23, 127, 49⟩) ⟨127, 18, 127, 49⟩) (.one 2 ⟨127, 54, 127, 59⟩) (.blt .range ⟨127, 63, 127, 68⟩ (.cons (.bin .Sub (.var 1 ⟨127, 69, 127, 70⟩) (.cst (.int 1) 0 ⟨127, 73, 127, 74⟩) ⟨127, 69, 127, 74⟩) (.cons (.neg (.cst (.int 1) 0 ⟨127, 77, 127, 78⟩) ⟨127, 76, 127, 78⟩) (.cons (.neg (.cst (.int 1) 0 ⟨127, 81, 127, 82⟩) ⟨127, 80, 127, 82⟩) .nil))) ⟨127, 63, 127, 83⟩) .nil { kind := .function, names := [(".0", .local), ("place", .local), ("number", .free)], isGenerator := false, isCoroutine := false } [0] ⟨127, 17, 127, 84⟩) .nil) ⟨127, 11, 127, 85⟩) ⟨127, 4, 127, 85⟩)

noncomputable def nm_law_distances : List Str := ["rows", "start", "n", "sums", "row", "step", "words", "texts", "number", "word", "text"]
noncomputable def ps_law_distances : List Str := ["rows", "start", "n"]
noncomputable def sc_law_distances : Scope := { kind := .function, names := [("rows", .local), ("start", .local), ("n", .cell), ("sums", .local), ("row", .local), ("step", .cell), ("words", .local), ("texts", .cell), ("_digits2int", .globalImplicit)], isGenerator := false, isCoroutine := false, more := [("fast", (.str "rows")), ("fast", (.str "start")), ("fast", (.str "n")), ("fast", (.str "sums")), ("fast", (.str "row")), ("fast", (.str "step")), ("fast", (.str "number")), ("fast", (.str "words")), ("fast", (.str "word")), ("fast", (.str "texts")), ("fast", (.str "text"))] }
noncomputable def st_law_distances : S :=
 (.asg 3 ⟨129, 4, 129, 8⟩ (.lst (.cons (.var 1 ⟨129, 12, 129, 17⟩) .nil) ⟨129, 11, 129, 18⟩) ⟨129, 4, 129, 18⟩
 (.for (.one 4 ⟨130, 8, 130, 11⟩) (.var 0 ⟨130, 15, 130, 19⟩)
 (.asg 5 ⟨131, 8, 131, 12⟩ (.cal (.gfn 2 ⟨131, 15, 131, 26⟩) (.cons (.var 4 ⟨131, 27, 131, 30⟩) (.cons (.cst (.int 4) 0 ⟨131, 32, 131, 33⟩) .nil)) ⟨131, 15, 131, 34⟩) ⟨131, 8, 131, 34⟩
 (.asg 3 ⟨132, 8, 132, 12⟩ (.bin .Add (.var 3 ⟨132, 15, 132, 19⟩) (.com (.bin .BitXor (.var 8 ⟨132, 23, 132, 29⟩) (.var 5 ⟨132, 32, 132, 36⟩) ⟨132, 23, 132, 36⟩) (.one 8 ⟨132, 41, 132, 47⟩) (.var 3 ⟨132, 51, 132, 55⟩) .nil { kind := .function, names := [(".0", .local), ("number", .local), ("step", .free)], isGenerator := false, isCoroutine := false } [5] ⟨132, 22, 132, 56⟩) ⟨132, 15, 132, 56⟩) ⟨132, 8, 132, 56⟩
 .nil)) ⟨130, 4, 132, 56⟩
 (.asg 6 ⟨133, 4, 133, 9⟩ (.com (.cal (.gfn 4 ⟨133, 13, 133, 19⟩) (.cons (.var 8 ⟨133, 20, 133, 26⟩) .nil) ⟨133, 13, 133, 27⟩) (.one 8 ⟨133, 32, 133, 38⟩) (.var 3 ⟨133, 42, 133, 46⟩) .nil { kind := .function, names := [(".0", .local), ("number", .local), ("Int2AP", .globalImplicit)], isGenerator := false, isCoroutine := false } [] ⟨133, 12, 133, 47⟩) ⟨133, 4, 133, 47⟩
 (.ite (.cmp .NotEq (.var 6 ⟨134, 7, 134, 12⟩) (.com (.cal (.gfn 8 ⟨134, 17, 134, 29⟩) (.cons (.var 8 ⟨134, 30, 134, 36⟩) (.cons (.var 2 ⟨134, 38, 134, 39⟩) .nil)) ⟨134, 17, 134, 40⟩) (.one 8 ⟨134, 45, 134, 51⟩) (.var 3 ⟨134, 55, 134, 59⟩) .nil { kind := .function, names := [(".0", .local), ("number", .local), ("_law_letters", .globalImplicit), ("n", .free)], isGenerator := false, isCoroutine := false } [2] ⟨134, 16, 134, 60⟩) ⟨134, 7, 134, 60⟩)
 (.ret (.cst .none 0 ⟨135, 15, 135, 19⟩) ⟨135, 8, 135, 19⟩)
 .nil ⟨134, 4, 135, 19⟩
 (.asg 7 ⟨136, 4, 136, 9⟩ (.com (.met .decode (.var 9 ⟨136, 13, 136, 17⟩) ⟨136, 13, 136, 24⟩ (.cons (.cst (.str "ascii") 0 ⟨136, 25, 136, 32⟩) .nil) ⟨136, 13, 136, 33⟩) (.one 9 ⟨136, 38, 136, 42⟩) (.var 6 ⟨136, 46, 136, 51⟩) .nil { kind := .function, names := [(".0", .local), ("word", .local)], isGenerator := false, isCoroutine := false } [] ⟨136, 12, 136, 52⟩) ⟨136, 4, 136, 52⟩
 (.ret (.com (.cal (.gfn 6 ⟨137, 12, 137, 33⟩) (.cons (.var 10 ⟨137, 34, 137, 38⟩) (.cons (.idx (.var 7 ⟨137, 40, 137, 45⟩) (.cst (.int 0) 0 ⟨137, 46, 137, 47⟩) ⟨137, 40, 137, 48⟩) (.cons (.bin .Mult (.cst (.int 2) 0 ⟨137, 50, 137, 51⟩) (.var 2 ⟨137, 54, 137, 55⟩) ⟨137, 50, 137, 55⟩) .nil))) ⟨137, 12, 137, 56⟩) (.one 10 ⟨137, 61, 137, 65⟩) (.var 7 ⟨137, 69, 137, 74⟩) .nil { kind := .function, names := [(".0", .local), ("text", .local), ("_levenshtein_distance", .globalImplicit), ("n", .free), ("texts", .free)], isGenerator := false, isCoroutine := false } [2, 7] ⟨137, 11, 137, 75⟩) ⟨137, 4, 137, 75⟩))))))

noncomputable def nm_law_least : List Str := ["far", "least", "u", "v"]
noncomputable def ps_law_least : List Str := ["far"]
noncomputable def sc_law_least : Scope := { kind := .function, names := [("far", .cell), ("least", .local), ("min", .globalImplicit), ("range", .globalImplicit), ("len", .globalImplicit), ("sum", .globalImplicit)], isGenerator := false, isCoroutine := false, more := [("fast", (.str "far")), ("fast", (.str "least")), ("fast", (.str "u")), ("fast", (.str "v"))] }
noncomputable def st_law_least : S :=
 (.bxl 1 ⟨139, 4, 139, 9⟩ (.cons (.blt .min ⟨139, 13, 139, 16⟩ (.cons (.sli (.var 0 ⟨139, 17, 139, 20⟩) (.cst (.int 1) 0 ⟨139, 21, 139, 22⟩) .nil .nil ⟨139, 21, 139, 23⟩ ⟨139, 17, 139, 24⟩) .nil) ⟨139, 13, 139, 25⟩) .nil) ⟨139, 12, 139, 26⟩ ⟨139, 4, 139, 26⟩
 (.app 1 ⟨140, 4, 140, 9⟩ ⟨140, 4, 140, 16⟩ (.blt .min ⟨140, 17, 140, 20⟩ (.cons (.com2 (.bin .Add (.bin .Add (.idx (.var 0 ⟨140, 22, 140, 25⟩) (.var 2 ⟨140, 26, 140, 27⟩) ⟨140, 22, 140, 28⟩) (.idx (.var 0 ⟨140, 31, 140, 34⟩) (.var 3 ⟨140, 35, 140, 36⟩) ⟨140, 31, 140, 37⟩) ⟨140, 22, 140, 37⟩) (.idx (.var 0 ⟨140, 40, 140, 43⟩) (.bin .BitXor (.var 2 ⟨140, 44, 140, 45⟩) (.var 3 ⟨140, 48, 140, 49⟩) ⟨140, 44, 140, 49⟩) ⟨140, 40, 140, 50⟩) ⟨140, 22, 140, 50⟩) (.one 2 ⟨140, 55, 140, 56⟩) (.blt .range ⟨140, 60, 140, 65⟩ (.cons (.cst (.int 1) 0 ⟨140, 66, 140, 67⟩) (.cons (.blt .len ⟨140, 69, 140, 72⟩ (.cons (.var 0 ⟨140, 73, 140, 76⟩) .nil) ⟨140, 69, 140, 77⟩) .nil)) ⟨140, 60, 140, 78⟩) (.one 3 ⟨140, 83, 140, 84⟩) (.blt .range ⟨140, 88, 140, 93⟩ (.cons (.cst (.int 1) 0 ⟨140, 94, 140, 95⟩) (.cons (.var 2 ⟨140, 97, 140, 98⟩) .nil)) ⟨140, 88, 140, 99⟩) { kind := .function, names := [(".0", .local), ("u", .local), ("v", .local), ("range", .globalImplicit), ("far", .free)], isGenerator := false, isCoroutine := false } [0] ⟨140, 21, 140, 100⟩) .nil) ⟨140, 17, 140, 101⟩) ⟨140, 4, 140, 102⟩ ⟨140, 4, 140, 102⟩
 (.ite (.cmp .Eq (.blt .len ⟨141, 7, 141, 10⟩ (.cons (.var 0 ⟨141, 11, 141, 14⟩) .nil) ⟨141, 7, 141, 15⟩) (.cst (.int 8) 0 ⟨141, 19, 141, 20⟩) ⟨141, 7, 141, 20⟩)
 (.app 1 ⟨142, 8, 142, 13⟩ ⟨142, 8, 142, 20⟩ (.blt .sum ⟨142, 21, 142, 24⟩ (.cons (.var 0 ⟨142, 25, 142, 28⟩) .nil) ⟨142, 21, 142, 29⟩) ⟨142, 8, 142, 30⟩ ⟨142, 8, 142, 30⟩
 .nil)
 .nil ⟨141, 4, 142, 30⟩
 (.ret (.var 1 ⟨143, 11, 143, 16⟩) ⟨143, 4, 143, 16⟩))))

noncomputable def nm_law_depths : List Str := ["rows", "start", "n", "far", "parted", "r", "one", "depth", "left"]
noncomputable def ps_law_depths : List Str := ["rows", "start", "n"]
noncomputable def sc_law_depths : Scope := { kind := .function, names := [("rows", .local), ("start", .local), ("n", .local), ("far", .local), ("parted", .local), ("_law_distances", .globalImplicit), ("enumerate", .globalImplicit), ("_law_least", .globalImplicit)], isGenerator := false, isCoroutine := false, more := [("fast", (.str "rows")), ("fast", (.str "start")), ("fast", (.str "n")), ("fast", (.str "far")), ("fast", (.str "r")), ("fast", (.str "one")), ("fast", (.str "parted")), ("fast", (.str "depth")), ("fast", (.str "left"))] }
noncomputable def st_law_depths : S :=
 (.asg 3 ⟨145, 4, 145, 7⟩ (.cal (.gfn 9 ⟨145, 10, 145, 24⟩) (.cons (.var 0 ⟨145, 25, 145, 29⟩) (.cons (.var 1 ⟨145, 31, 145, 36⟩) (.cons (.var 2 ⟨145, 38, 145, 39⟩) .nil))) ⟨145, 10, 145, 40⟩) ⟨145, 4, 145, 40⟩
 (.ite (.cmp .Is (.var 3 ⟨146, 7, 146, 10⟩) (.cst .none 0 ⟨146, 14, 146, 18⟩) ⟨146, 7, 146, 18⟩)
 (.ret (.lst .nil ⟨147, 15, 147, 17⟩) ⟨147, 8, 147, 17⟩)
 .nil ⟨146, 4, 147, 17⟩
 (.asg 4 ⟨148, 4, 148, 10⟩ (.com (.cal (.gfn 3 ⟨148, 14, 148, 25⟩) (.cons (.var 6 ⟨148, 26, 148, 29⟩) (.cons (.bin .Pow (.cst (.int 2) 0 ⟨148, 31, 148, 32⟩) (.bin .Add (.var 5 ⟨148, 37, 148, 38⟩) (.cst (.int 1) 0 ⟨148, 41, 148, 42⟩) ⟨148, 37, 148, 42⟩) ⟨148, 31, 148, 43⟩) .nil)) ⟨148, 14, 148, 44⟩) (.two 5 6 ⟨148, 49, 148, 50⟩ ⟨148, 52, 148, 55⟩ 0 ⟨148, 49, 148, 55⟩) (.blt .enum ⟨148, 59, 148, 68⟩ (.cons (.cal (.gfn 10 ⟨148, 69, 148, 79⟩) (.cons (.var 3 ⟨148, 80, 148, 83⟩) .nil) ⟨148, 69, 148, 84⟩) .nil) ⟨148, 59, 148, 85⟩) .nil { kind := .function, names := [(".0", .local), ("r", .local), ("one", .local), ("_divmod_pos", .globalImplicit)], isGenerator := false, isCoroutine := false } [] ⟨148, 13, 148, 86⟩) ⟨148, 4, 148, 86⟩
 (.ite (.cmp .NotEq (.com (.var 8 ⟨149, 8, 149, 12⟩) (.two 7 8 ⟨149, 17, 149, 22⟩ ⟨149, 24, 149, 28⟩ 0 ⟨149, 17, 149, 28⟩) (.var 4 ⟨149, 32, 149, 38⟩) (.cons (.cmp .NotEq (.var 8 ⟨149, 42, 149, 46⟩) (.cst (.int 0) 0 ⟨149, 50, 149, 51⟩) ⟨149, 42, 149, 51⟩) .nil) { kind := .function, names := [(".0", .local), ("depth", .local), ("left", .local)], isGenerator := false, isCoroutine := false } [] ⟨149, 7, 149, 52⟩) (.lst .nil ⟨149, 56, 149, 58⟩) ⟨149, 7, 149, 58⟩)
 (.ret (.lst .nil ⟨150, 15, 150, 17⟩) ⟨150, 8, 150, 17⟩)
 .nil ⟨149, 4, 150, 17⟩
 (.ret (.com (.var 7 ⟨151, 12, 151, 17⟩) (.two 7 8 ⟨151, 22, 151, 27⟩ ⟨151, 29, 151, 33⟩ 0 ⟨151, 22, 151, 33⟩) (.var 4 ⟨151, 37, 151, 43⟩) .nil { kind := .function, names := [(".0", .local), ("depth", .local), ("left", .local)], isGenerator := false, isCoroutine := false } [] ⟨151, 11, 151, 44⟩) ⟨151, 4, 151, 44⟩)))))

noncomputable def nm_law : List Str := ["script", "k", "n", "table", "shown", "others", "start", "told", "back", "i", "place", "j", "depth"]
noncomputable def ps_law : List Str := ["script"]
noncomputable def sc_law : Scope := { kind := .function, names := [("script", .cell), ("k", .cell), ("n", .cell), ("table", .cell), ("shown", .local), ("others", .local), ("start", .local), ("told", .local), ("back", .local), ("len", .globalImplicit), ("_law_table", .globalImplicit), ("range", .globalImplicit), ("_digits2int", .globalImplicit), ("_law_depths", .globalImplicit), ("sorted", .globalImplicit), ("list", .globalImplicit)], isGenerator := false, isCoroutine := false, more := [("fast", (.str "script")), ("fast", (.str "k")), ("fast", (.str "n")), ("fast", (.str "table")), ("fast", (.str "i")), ("fast", (.str "place")), ("fast", (.str "shown")), ("fast", (.str "j")), ("fast", (.str "others")), ("fast", (.str "start")), ("fast", (.str "told")), ("fast", (.str "back")), ("fast", (.str "depth"))] }
noncomputable def st_law : S :=
 (.asg 1 ⟨153, 4, 153, 5⟩ (.ife (.cmp .Gt (.blt .len ⟨153, 13, 153, 16⟩ (.cons (.var 0 ⟨153, 17, 153, 23⟩) .nil) ⟨153, 13, 153, 24⟩) (.cst (.int 5) 0 ⟨153, 27, 153, 28⟩) ⟨153, 13, 153, 28⟩) (.cst (.int 3) 0 ⟨153, 8, 153, 9⟩) (.cst (.int 2) 0 ⟨153, 34, 153, 35⟩) ⟨153, 8, 153, 35⟩) ⟨153, 4, 153, 35⟩
 (.asg 2 ⟨154, 4, 154, 5⟩ (.bin .Add (.var 1 ⟨154, 8, 154, 9⟩) (.cst (.int 3) 0 ⟨154, 12, 154, 13⟩) ⟨154, 8, 154, 13⟩) ⟨154, 4, 154, 13⟩
 (.asg 3 ⟨155, 4, 155, 9⟩ (.cal (.gfn 7 ⟨155, 12, 155, 22⟩) (.cons (.var 0 ⟨155, 23, 155, 29⟩) (.cons (.var 1 ⟨155, 31, 155, 32⟩) .nil)) ⟨155, 12, 155, 33⟩) ⟨155, 4, 155, 33⟩
 (.asg 4 ⟨156, 4, 156, 9⟩ (.com (.bin .Add (.com (.ife (.cmp .Eq (.var 10 ⟨156, 19, 156, 24⟩) (.var 9 ⟨156, 28, 156, 29⟩) ⟨156, 19, 156, 29⟩) (.cst (.int 1) 0 ⟨156, 14, 156, 15⟩) (.cst (.int 0) 0 ⟨156, 35, 156, 36⟩) ⟨156, 14, 156, 36⟩) (.one 10 ⟨156, 41, 156, 46⟩) (.blt .range ⟨156, 50, 156, 55⟩ (.cons (.var 1 ⟨156, 56, 156, 57⟩) .nil) ⟨156, 50, 156, 58⟩) .nil { kind := .function, names := [(".0", .local), ("place", .local), ("i", .free)], isGenerator := false, isCoroutine := false } [9] ⟨156, 13, 156, 59⟩) (.idx (.var 3 ⟨156, 62, 156, 67⟩) (.var 9 ⟨156, 68, 156, 69⟩) ⟨156, 62, 156, 70⟩) ⟨156, 13, 156, 70⟩) (.one 9 ⟨156, 75, 156, 76⟩) (.blt .range ⟨156, 80, 156, 85⟩ (.cons (.var 1 ⟨156, 86, 156, 87⟩) .nil) ⟨156, 80, 156, 88⟩) .nil { kind := .function, names := [(".0", .local), ("i", .cell), ("range", .globalImplicit), ("k", .free), ("table", .free)], isGenerator := false, isCoroutine := false } [1, 3] ⟨156, 12, 156, 89⟩) ⟨156, 4, 156, 89⟩
 (.asg 5 ⟨157, 4, 157, 10⟩ (.com (.bin .Add (.com (.idx (.idx (.var 3 ⟨157, 15, 157, 20⟩) (.var 9 ⟨157, 21, 157, 22⟩) ⟨157, 15, 157, 23⟩) (.var 11 ⟨157, 24, 157, 25⟩) ⟨157, 15, 157, 26⟩) (.one 9 ⟨157, 31, 157, 32⟩) (.blt .range ⟨157, 36, 157, 41⟩ (.cons (.var 1 ⟨157, 42, 157, 43⟩) .nil) ⟨157, 36, 157, 44⟩) .nil { kind := .function, names := [(".0", .local), ("i", .local), ("j", .free), ("table", .free)], isGenerator := false, isCoroutine := false } [11, 3] ⟨157, 14, 157, 45⟩) (.com (.ife (.cmp .Eq (.var 10 ⟨157, 54, 157, 59⟩) (.var 11 ⟨157, 63, 157, 64⟩) ⟨157, 54, 157, 64⟩) (.cst (.int 1) 0 ⟨157, 49, 157, 50⟩) (.cst (.int 0) 0 ⟨157, 70, 157, 71⟩) ⟨157, 49, 157, 71⟩) (.one 10 ⟨157, 76, 157, 81⟩) (.blt .range ⟨157, 85, 157, 90⟩ (.cons (.cst (.int 3) 0 ⟨157, 91, 157, 92⟩) .nil) ⟨157, 85, 157, 93⟩) .nil { kind := .function, names := [(".0", .local), ("place", .local), ("j", .free)], isGenerator := false, isCoroutine := false } [11] ⟨157, 48, 157, 94⟩) ⟨157, 14, 157, 94⟩) (.one 11 ⟨157, 99, 157, 100⟩) (.blt .range ⟨157, 104, 157, 109⟩ (.cons (.cst (.int 3) 0 ⟨157, 110, 157, 111⟩) .nil) ⟨157, 104, 157, 112⟩) .nil { kind := .function, names := [(".0", .local), ("j", .cell), ("range", .globalImplicit), ("k", .free), ("table", .free)], isGenerator := false, isCoroutine := false } [1, 3] ⟨157, 13, 157, 113⟩) ⟨157, 4, 157, 113⟩
 (.asg 6 ⟨158, 4, 158, 9⟩ (.cal (.gfn 2 ⟨158, 12, 158, 23⟩) (.cons (.com (.bin .Add (.bin .Mult (.cst (.int 2) 0 ⟨158, 25, 158, 26⟩) (.var 10 ⟨158, 29, 158, 34⟩) ⟨158, 25, 158, 34⟩) (.bin .Mod (.bin .RShift (.blt .sum ⟨158, 38, 158, 41⟩ (.cons (.var 0 ⟨158, 42, 158, 48⟩) .nil) ⟨158, 38, 158, 49⟩) (.var 10 ⟨158, 53, 158, 58⟩) ⟨158, 38, 158, 58⟩) (.cst (.int 2) 0 ⟨158, 62, 158, 63⟩) ⟨158, 37, 158, 63⟩) ⟨158, 25, 158, 63⟩) (.one 10 ⟨158, 68, 158, 73⟩) (.blt .range ⟨158, 77, 158, 82⟩ (.cons (.var 2 ⟨158, 83, 158, 84⟩) .nil) ⟨158, 77, 158, 85⟩) .nil { kind := .function, names := [(".0", .local), ("place", .local), ("sum", .globalImplicit), ("script", .free)], isGenerator := false, isCoroutine := false } [0] ⟨158, 24, 158, 86⟩) (.cons (.cst (.int 4) 0 ⟨158, 88, 158, 89⟩) .nil)) ⟨158, 12, 158, 90⟩) ⟨158, 4, 158, 90⟩
 (.asg 7 ⟨159, 4, 159, 8⟩ (.cal (.gfn 11 ⟨159, 11, 159, 22⟩) (.cons (.var 4 ⟨159, 23, 159, 28⟩) (.cons (.var 6 ⟨159, 30, 159, 35⟩) (.cons (.var 2 ⟨159, 37, 159, 38⟩) .nil))) ⟨159, 11, 159, 39⟩) ⟨159, 4, 159, 39⟩
 (.asg 8 ⟨160, 4, 160, 8⟩ (.cal (.gfn 11 ⟨160, 11, 160, 22⟩) (.cons (.var 5 ⟨160, 23, 160, 29⟩) (.cons (.var 6 ⟨160, 31, 160, 36⟩) (.cons (.var 2 ⟨160, 38, 160, 39⟩) .nil))) ⟨160, 11, 160, 40⟩) ⟨160, 4, 160, 40⟩
 (.ite (.bor (.cmp .NotEq (.var 7 ⟨161, 7, 161, 11⟩) (.blt .sorted ⟨161, 15, 161, 21⟩ (.cons (.var 7 ⟨161, 22, 161, 26⟩) .nil) ⟨161, 15, 161, 27⟩) ⟨161, 7, 161, 27⟩) (.cmp .NotEq (.var 8 ⟨161, 31, 161, 35⟩) (.blt .sorted ⟨161, 39, 161, 45⟩ (.cons (.var 8 ⟨161, 46, 161, 50⟩) .nil) ⟨161, 39, 161, 51⟩) ⟨161, 31, 161, 51⟩) ⟨161, 7, 161, 51⟩)
 (.ret (.cst (.bool false) 0 ⟨162, 15, 162, 20⟩) ⟨162, 8, 162, 20⟩)
 .nil ⟨161, 4, 162, 20⟩
 (.ret (.cmp .Eq (.blt .sorted ⟨163, 11, 163, 17⟩ (.cons (.bin .Add (.var 7 ⟨163, 18, 163, 22⟩) (.com (.bin .Sub (.bin .Add (.var 2 ⟨163, 26, 163, 27⟩) (.cst (.int 1) 0 ⟨163, 30, 163, 31⟩) ⟨163, 26, 163, 31⟩) (.var 12 ⟨163, 34, 163, 39⟩) ⟨163, 26, 163, 39⟩) (.one 12 ⟨163, 44, 163, 49⟩) (.var 8 ⟨163, 53, 163, 57⟩) .nil { kind := .function, names := [(".0", .local), ("depth", .local), ("n", .free)], isGenerator := false, isCoroutine := false } [2] ⟨163, 25, 163, 58⟩) ⟨163, 18, 163, 58⟩) .nil) ⟨163, 11, 163, 59⟩) (.blt .list ⟨163, 63, 163, 67⟩ (.cons (.blt .range ⟨163, 68, 163, 73⟩ (.cons (.cst (.int 1) 0 ⟨163, 74, 163, 75⟩) (.cons (.bin .Add (.var 2 ⟨163, 77, 163, 78⟩) (.cst (.int 1) 0 ⟨163, 81, 163, 82⟩) ⟨163, 77, 163, 82⟩) .nil)) ⟨163, 68, 163, 83⟩) .nil) ⟨163, 63, 163, 84⟩) ⟨163, 11, 163, 84⟩) ⟨163, 4, 163, 84⟩))))))))))

theorem den_div2n1n : denS ⟨nm_div2n1n, gcN, gfN⟩ st_div2n1n = bodyOf "_div2n1n" := by rfl
theorem wf_div2n1n : wfS ⟨nm_div2n1n, gcN, gfN⟩ sc_div2n1n st_div2n1n = true := by decide +kernel
theorem den_int2digits : denS ⟨nm_int2digits, gcN, gfN⟩ st_int2digits = (bodyOf "_int2digits").drop 2 := by rfl
theorem dea_int2digits : denS ⟨nm_int2digits, gcN, gfN⟩ sa_int2digits = (bodyOf "_int2digits").take 1 := by rfl
theorem wfa_int2digits : wfS ⟨nm_int2digits, gcN, gfN⟩ sc_int2digits sa_int2digits = true := by decide +kernel
theorem wf_int2digits : wfS ⟨nm_int2digits, gcN, gfN⟩ sc_int2digits st_int2digits = true := by decide +kernel
theorem den_int2digits_in : denS ⟨nm_int2digits_in, gcN, gfN⟩ st_int2digits_in = innerOf (bodyOf "_int2digits") := by rfl
theorem wf_int2digits_in : wfS ⟨nm_int2digits_in, gcN, gfN⟩ sc_int2digits_in st_int2digits_in = true := by decide +kernel
theorem den_digits2int : denS ⟨nm_digits2int, gcN, gfN⟩ st_digits2int = (bodyOf "_digits2int").drop 1 := by rfl
theorem dea_digits2int : denS ⟨nm_digits2int, gcN, gfN⟩ sa_digits2int = (bodyOf "_digits2int").take 0 := by rfl
theorem wfa_digits2int : wfS ⟨nm_digits2int, gcN, gfN⟩ sc_digits2int sa_digits2int = true := by decide +kernel
theorem wf_digits2int : wfS ⟨nm_digits2int, gcN, gfN⟩ sc_digits2int st_digits2int = true := by decide +kernel
theorem den_digits2int_in : denS ⟨nm_digits2int_in, gcN, gfN⟩ st_digits2int_in = innerOf (bodyOf "_digits2int") := by rfl
theorem wf_digits2int_in : wfS ⟨nm_digits2int_in, gcN, gfN⟩ sc_digits2int_in st_digits2int_in = true := by decide +kernel
theorem den_divmod_pos : denS ⟨nm_divmod_pos, gcN, gfN⟩ st_divmod_pos = bodyOf "_divmod_pos" := by rfl
theorem wf_divmod_pos : wfS ⟨nm_divmod_pos, gcN, gfN⟩ sc_divmod_pos st_divmod_pos = true := by decide +kernel
theorem den_Int2AP : denS ⟨nm_Int2AP, gcN, gfN⟩ st_Int2AP = bodyOf "Int2AP" := by rfl
theorem wf_Int2AP : wfS ⟨nm_Int2AP, gcN, gfN⟩ sc_Int2AP st_Int2AP = true := by decide +kernel
theorem den_substitution_cost : denS ⟨nm_substitution_cost, gcN, gfN⟩ st_substitution_cost = bodyOf "_substitution_cost" := by rfl
theorem wf_substitution_cost : wfS ⟨nm_substitution_cost, gcN, gfN⟩ sc_substitution_cost st_substitution_cost = true := by decide +kernel
theorem den_levenshtein_distance : denS ⟨nm_levenshtein_distance, gcN, gfN⟩ st_levenshtein_distance = bodyOf "_levenshtein_distance" := by rfl
theorem wf_levenshtein_distance : wfS ⟨nm_levenshtein_distance, gcN, gfN⟩ sc_levenshtein_distance st_levenshtein_distance = true := by decide +kernel
theorem den_law_table : denS ⟨nm_law_table, gcN, gfN⟩ st_law_table = bodyOf "_law_table" := by rfl
theorem wf_law_table : wfS ⟨nm_law_table, gcN, gfN⟩ sc_law_table st_law_table = true := by decide +kernel
theorem den_law_letters : denS ⟨nm_law_letters, gcN, gfN⟩ st_law_letters = bodyOf "_law_letters" := by rfl
theorem wf_law_letters : wfS ⟨nm_law_letters, gcN, gfN⟩ sc_law_letters st_law_letters = true := by decide +kernel
theorem den_law_distances : denS ⟨nm_law_distances, gcN, gfN⟩ st_law_distances = bodyOf "_law_distances" := by rfl
theorem wf_law_distances : wfS ⟨nm_law_distances, gcN, gfN⟩ sc_law_distances st_law_distances = true := by decide +kernel
theorem den_law_least : denS ⟨nm_law_least, gcN, gfN⟩ st_law_least = bodyOf "_law_least" := by rfl
theorem wf_law_least : wfS ⟨nm_law_least, gcN, gfN⟩ sc_law_least st_law_least = true := by decide +kernel
theorem den_law_depths : denS ⟨nm_law_depths, gcN, gfN⟩ st_law_depths = bodyOf "_law_depths" := by rfl
theorem wf_law_depths : wfS ⟨nm_law_depths, gcN, gfN⟩ sc_law_depths st_law_depths = true := by decide +kernel
theorem den_law : denS ⟨nm_law, gcN, gfN⟩ st_law = bodyOf "law" := by rfl
theorem wf_law : wfS ⟨nm_law, gcN, gfN⟩ sc_law st_law = true := by decide +kernel
end Mine
end TextB1

section TextE1
open PySem PySem.W PyProof.Rows PySem.Calls PySem.Spec
namespace Mine
/-- one of the two tables -/
noncomputable def IsTab (c : Cx) (z cc : Addr) (p : Pos) (q : Str) : Prop := (z = c.z1 ∧ cc = c.c1 ∧ p = c.p1 ∧ q = c.q1) ∨ (z = c.z2 ∧ cc = c.c2 ∧ p = c.p2 ∧ q = c.q2)
structure TabOk (c : Cx) : Prop where
  n12 : c.z1 ≠ c.z2
  g1 : c.gh.get? c.z1 = none
  g2 : c.gh.get? c.z2 = none
  b1 : c.gh.BuiltinsAt c.mg c.z1
  b2 : c.gh.BuiltinsAt c.mg c.z2
  ng : c.gh.Ns mainGlobals c.mg
section
variable {c : Cx} {A : Around} {E : Value → Shared → Prop} {s : Shared}
theorem Good.tab {h : Heap} {z cc : Addr} {p : Pos} {q : Str} (g : Good c h) (t : IsTab c z cc p q) : TabSt h z cc p q := by
  rcases t with ⟨rfl, rfl, rfl, rfl⟩ | ⟨rfl, rfl, rfl, rfl⟩
  · exact g.t1
  · exact g.t2
theorem builtinsAt_keep {h h' : Heap} {mg : Str → Option Value} {P : Addr} (x : h.BuiltinsAt mg P) (k : ∀ b o, h.get? b = some o → h'.get? b = some o) : h'.BuiltinsAt mg P := by
  obtain ⟨bm, o, e1, e2, e3, e4, e5, r⟩ := x
  exact ⟨bm, o, e1, e2, e3, e4, k _ _ e5, r⟩
theorem make_ok {z cc : Addr} {pos : Pos} {q name : Str} {params : Arguments} {body : List Stmt} {scope : Scope} {env : Env} {clos : List (Str × Addr)} {firstLine : Nat} {M : Model} {Q : Value → Shared → Prop} (g : Good c s.heap) (K : TabOk c) (t : IsTab c z cc pos q)
    (hcode : env.code = .ref cc) (hgl : env.globals = mainGlobals) (hcl : closureFor scope env = pure clos)
    (h : ∀ f h' tk doc ctv c', Ext c s.heap h' → Good c h' → s.heap.get? f = none → h'.get? f = some { cls := .type "function", data := .func (fnX name q params body scope clos .none .none doc ((c.mg "__name__").getD .none) none (.ref c') ctv) } → h'.CodeRec (.ref c') q → Q (.ref f) { s with heap := h', toks := tk }) :
    wpAny M A (makeFunction name q params (.stmts body) scope env [] [] [] pos firstLine) Q E s := by
  have ts := g.tab t
  have hng : s.heap.Ns mainGlobals c.mg := K.ng.keeps g.keep
  have hgz : c.gh.get? z = none := by rcases t with ⟨rfl, _⟩ | ⟨rfl, _⟩; exact K.g1; exact K.g2
  have hbz : s.heap.BuiltinsAt c.mg z := by rcases t with ⟨rfl, _⟩ | ⟨rfl, _⟩; exact builtinsAt_keep K.b1 g.keep; exact builtinsAt_keep K.b2 g.keep
  have hnz : mainGlobals ≠ z := fun w => by
    obtain ⟨o, es, ep, e, _⟩ := K.ng; rw [w, hgz] at e; cases e
  rcases ts.2 with hP | ⟨c', hP, hr⟩
  · refine makeFunction_K hcl hgl hng hcode ts.1 hP (by trivial) rfl hnz hbz fun c' ctv doc h' tk hx hge hlt hrec htab => ?_
    have notz : ∀ b o, s.heap.get? b = some o → o ≠ tabObj #[] → h'.get? b = some o := fun b o e hn => hx b o (fun w => by rw [w, hP] at e; cases e; exact hn rfl) e
    have codeK : ∀ {d w}, CodeHd s.heap d w → CodeHd h' d w := fun {d w} x => codeHd_at x fun o e => notz d o e (fun hh => by
      obtain ⟨o', vs, _, _, _, _, _, _, _, e', hc, _⟩ := x; rw [e] at e'; cases e'; rw [hh] at hc; cases hc)
    have recK : ∀ {cd qq}, s.heap.CodeRec cd qq → h'.CodeRec cd qq := fun {cd qq} ⟨d, o, vs, tt, e1, e2, e3, e4⟩ => ⟨d, o, vs, tt, e1, notz d o e2 (fun hh => by rw [hh] at e3; cases e3; cases e4), e3, e4⟩
    have own : TabSt h' z cc pos q := ⟨codeK ts.1, .inr ⟨c', by simpa using htab, hrec⟩⟩
    have other : ∀ {z' c'' p' q'}, TabSt s.heap z' c'' p' q' → z' ≠ z → TabSt h' z' c'' p' q' := fun {z' c'' p' q'} x hne => ⟨codeK x.1, x.2.elim (fun e => .inl (hx _ _ hne e)) fun ⟨d, e, r⟩ => .inr ⟨d, hx _ _ hne e, recK r⟩⟩
    have g' : Good c h' := {
      keep := fun b o e => hx b o (fun w => by rw [w, hgz] at e; cases e) (g.keep b o e)
      t1 := by
        rcases t with ⟨rfl, rfl, rfl, rfl⟩ | ⟨rfl, rfl, rfl, rfl⟩
        · exact own
        · exact other g.t1 K.n12
      t2 := by
        rcases t with ⟨rfl, rfl, rfl, rfl⟩ | ⟨rfl, rfl, rfl, rfl⟩
        · exact other g.t2 K.n12.symm
        · exact own }
    have hE : Ext c s.heap h' := fun b o n1 n2 e => hx b o (fun w => by rcases t with ⟨rfl, _⟩ | ⟨rfl, _⟩; exact n1 w; exact n2 w) e
    refine h _ _ tk doc ctv c' (hE.trans (keep_push _ _).ext) (g'.keeps (keep_push _ _)) ?_ (Heap.get?_push_size _ rfl) (hrec.keeps (keep_push _ _))
    exact hE.none g' (Heap.get?_none_of_le (Nat.le_refl _))
  · refine makeFunction_hit (cv := .ref c') hcl hgl hng hcode ts.1 hP (by trivial) (by simp [codeAmong, rawInt]) hbz fun ctv doc h' tk hk hs => ?_
    have g' := g.keeps hk
    refine h _ _ tk doc ctv c' ((Keep.ext hk).trans (keep_push _ _).ext) (g'.keeps (keep_push _ _)) ?_ (Heap.get?_push_size _ rfl) ((hr.keeps hk).keeps (keep_push _ _))
    exact (Keep.ext (c := c) hk).none g' (Heap.get?_none_of_le (Nat.le_refl _))
end
end Mine
end TextE1

section TextE2
open PySem PySem.W PyProof.Rows PySem.Calls PySem.Spec
namespace Mine
/-- what is known of a closure -/
structure InIs (c : Cx) (f : Value) (sc : Scope) (ps : List Str) (body : List Stmt) (clo : List (Str × Addr)) : Prop where
  at_ : ∃ a o fd, f = .ref a ∧ c.gh.get? a = some o ∧ o.data = .func fd ∧ fd.scope = sc ∧ fd.body = .stmts body ∧ fd.closure = clo ∧ fd.globals = mainGlobals ∧ fd.builtins = builtinsNs ∧ c.gh.CodeRec fd.code fd.qualname ∧
    ∀ vals : List Value, vals.length = ps.length → bindArgs fd ⟨vals, []⟩ = pure (ps.zip vals)
  lim : c.gh.NoLimit
  inj : ∀ x y a, clo.lookup x = some a → clo.lookup y = some a → x = y
  cel : ∀ x, sc.names.lookup x = some .free → ∃ a, clo.lookup x = some a
  ci : ∀ x a, clo.lookup x = some a → ∃ v, c.gh.IsCell a v
structure InWf (T : Nms) (sc : Scope) (ps : List Str) : Prop where
  kind : sc.kind = .function
  co : sc.isCoroutine = false
  gen : sc.isGenerator = false
  nd : nodupB T.nm = true
  pre : ∃ r, T.nm = ps ++ r
  par : ∀ x ∈ ps, sc.names.lookup x = some .local
  nocell : ∀ x ∈ sc.names, x.2 ≠ NameKind.cell
noncomputable def inR (D : Addr) (F : Nat → Value) (B : Prop) : RP := { P := (· ≠ D), D := D, F := F, B := B }
noncomputable def Capt (c : Cx) (D : Addr) (F : Nat → Value) (B : Prop) (sc : Scope) (clo : List (Str × Addr)) (r : List Str) (fs : Sto) : Prop :=
  ∀ (i : Nat) (a : AV) (x : Str), fs[i]? = some (some a) → r[i]? = some x → sc.names.lookup x = some .free ∧ ∃ cc v, clo.lookup x = some cc ∧ c.gh.IsCell cc (some v) ∧ Rel (inR D F B) c.gh a v
section
variable {c : Cx} {T : Nms} {sc : Scope} {G : Env0} {n : Nat}
theorem rev_lookup {α : Type} : ∀ (l : List (Str × α)) (x : Str) (v : α), nodupB (l.map (·.1)) = true → (x, v) ∈ l → l.reverse.lookup x = some v := by
  have key : ∀ (l : List (Str × α)) (x : Str) (v : α), (∀ w, (x, w) ∈ l → w = v) → (x, v) ∈ l → l.lookup x = some v := by
    intro l
    induction l with
    | nil => intro x v _ h; simp at h
    | cons p r ih =>
      obtain ⟨y, w⟩ := p
      intro x v hu h
      rw [look_cons]
      by_cases e : x = y
      · rw [if_pos e, hu w (by rw [e]; exact List.mem_cons_self)]
      · rw [if_neg e]
        refine ih x v (fun w' hw => hu w' (List.mem_cons_of_mem _ hw)) ?_
        rcases List.mem_cons.1 h with q | q
        · cases q; exact absurd rfl e
        · exact q
  intro l x v nd h
  refine key _ _ _ (fun w hw => ?_) (List.mem_reverse.2 h)
  have hw' := List.mem_reverse.1 hw
  clear hw key
  induction l with
  | nil => simp at h
  | cons p r ih =>
    obtain ⟨y, u⟩ := p
    rw [List.map_cons] at nd
    unfold nodupB at nd
    simp only [Bool.and_eq_true, Bool.not_eq_true', List.contains_eq_mem, decide_eq_false_iff_not] at nd
    rcases List.mem_cons.1 h with q | q <;> rcases List.mem_cons.1 hw' with q' | q'
    · cases q; cases q'; rfl
    · cases q; exact absurd (List.mem_map.2 ⟨_, q', rfl⟩) nd.1
    · cases q'; exact absurd (List.mem_map.2 ⟨_, q, rfl⟩) nd.1
    · exact ih nd.2 q q'
theorem in_enter {f : Value} {ps r : List Str} {body : List Stmt} {clo : List (Str × Addr)} {args : List AV} {fs : Sto} {D : Addr} {F' : Nat → Value} {B : Prop} (wf : InWf T sc ps) (F : InIs c f sc ps body clo) (hr : T.nm = ps ++ r) (hl : args.length = ps.length) (pa : plainL args = true)
    (cap : Capt c D F' B sc clo r fs) (hF : ∀ i, i < 90 → F' i = c.F i) {A : Around} (rm : Room A (n + 2)) {E : Value → Shared → Prop} {s : Shared} {vs : List Value} {R : RP} {Q : Value → Shared → Prop} (g : Good c s.heap) (rv : RelL R s.heap args vs)
    (hD : ∀ l o, R.P l → s.heap.get? l = some o → IsDat o → l ≠ D) (hDe : ∃ o, s.heap.get? D = some o)
    (h : ∀ (env : Env) (h₁ : Heap) (tk : Nat), EnvOk env sc → Keep s.heap h₁ → s.heap.get? env.locals = none →
      (∀ μ, BoxIs (inR D F' B) s.heap μ → (μ ≠ none → Own c D) → (μ = none → ¬ B) → Frm c (fun _ => True) T sc (inR D F' B) env { s with heap := h₁, toks := tk } (args.map some ++ fs) μ) →
      ∀ E' : Value → Shared → Prop, wpAny (model c.prog c.w) (A.deeper env) (execs body env) (fun fl s' => Q (match fl with | .ret v => v | _ => .none) s') E' { s with heap := h₁, toks := tk }) :
    wpAny (model c.prog c.w) A (call f vs) Q E s := by
  obtain ⟨a, o, fd, rfl, e1, e2, e3, e4, e5, e6, e7, e8, e9⟩ := F.at_
  have hlen := rv.length
  refine wpAny_call (codeAny_call_function (by have := rm.dp; show A.depth < 1000; omega) (g.keep _ _ e1) e2 (by rw [e3]; exact wf.co) (by rw [e3]; exact wf.gen) e4 (e8.keeps g.keep) ?_)
  rw [e9 vs (by rw [hlen, hl])]
  refine wpAny_pure (wpAny_newFunctionEnv (by rw [e3]; exact wf.nocell) (by rw [e3]; intro x hx; exact wf.par _ (List.of_mem_zip hx).1) (fun h₁ hns hsb => ?_) (by rw [e3]; exact wf.kind))
  have keep : Keep s.heap h₁ := fun b o e => hsb.extBut b o (Nat.ne_of_lt (Heap.lt_size e)) (Heap.get?_push_of_some _ e)
  have g1 := g.keeps keep
  have hL : s.heap.get? s.heap.objs.size = none := Heap.get?_none_of_le (Nat.le_refl _)
  refine ⟨(F.lim.keeps g.keep).keeps keep, codeAny_func ?_⟩
  generalize henv : newEnv fd.scope s.heap.objs.size fd.globals fd.closure (fd.qualname ++ ".<locals>.") (some a) fd.code none fd.builtins = env
  have eS : env.scope = sc := by rw [← henv, ← e3]; rfl
  have eL : env.locals = s.heap.objs.size := by rw [← henv]; rfl
  have eC : env.cells = clo := by rw [← henv, ← e5]; rfl
  have kO : ∀ x, env.kindOf x = sc.names.lookup x := fun x => by unfold Env.kindOf; rw [eS]
  have okE : EnvOk env sc := {
    hsc := eS
    kind := wf.kind
    inj := by rw [eC]; exact F.inj
    cel := fun y hy => by
      rw [eC]
      rcases hy with q | q
      · exact absurd rfl (wf.nocell _ (mem_of_lookup q))
      · exact F.cel y q
    gl := by rw [← henv, ← e6]; rfl
    bl := by rw [← henv, ← e7]; rfl }
  have ra : RelL (inR D F' B) h₁ args vs := (rv.re (R' := inR D F' B) (fun l o pl e d => hD l o pl e d) pa).keepR keep
  have ndp : nodupB ps = true := by have := wf.nd; rw [hr] at this; exact nodupB_app this
  have mfst : (ps.zip vs).map (·.1) = ps := by rw [List.map_fst_zip]; omega
  refine h env h₁ _ okE keep (by rw [eL]; exact hL) (fun μ bx ow nb => ?_) _
  exact {
    P := {
      g := g1
      er := fun i b y e1 e2 => by
        by_cases hi : i < args.length
        · rw [List.getElem?_append_left (by simpa using hi), List.getElem?_map] at e1
          have e1' : args[i]? = some b := by
            cases q : args[i]? with
            | none => rw [q] at e1; simp at e1
            | some b' => rw [q] at e1; simpa using e1
          obtain ⟨v, ev', rv'⟩ := ra.get e1'
          have e2' : ps[i]? = some y := by rw [hr, List.getElem?_append_left (by omega)] at e2; exact e2
          have hm : (y, v) ∈ ps.zip vs := zip_get e2' ev'
          exact ⟨v, rv', .inl ⟨by rw [kO]; exact wf.par y (List.mem_of_getElem? e2'), _, by rw [eL]; exact hns, rev_lookup _ _ _ (by rw [mfst]; exact ndp) hm⟩⟩
        · rw [List.getElem?_append_right (by simp; omega)] at e1
          rw [hr, List.getElem?_append_right (by omega)] at e2
          rw [List.length_map, hl] at e1
          obtain ⟨c1, cc, v, c2, c3, c4⟩ := cap _ b y e1 e2
          refine ⟨v, c4.mono (fun b => ⟨b, rfl⟩) rfl (fun _ p _ => p) (fun b o _ _ e => keep _ _ (g.keep b o e)), .inr ⟨.inr (by rw [kO]; exact c1), cc, by rw [eC]; exact c2, (c3.keeps g.keep).keeps keep⟩⟩
      bx := fun ns e => let ⟨ws, ⟨m, hw⟩, q⟩ := bx ns e; ⟨ws, ⟨m, keep _ _ hw⟩, q⟩
      fr := fun l e => fun w => by obtain ⟨o, ez⟩ := hDe; have := keep _ _ ez; rw [← w, show h₁.get? l = none from e] at this; cases this
      pd := fun l p => p
      dl := let ⟨o, ez⟩ := hDe; ⟨o, keep _ _ ez⟩
      ff := hF
      ci := fun y a' e => by rw [eC] at e; obtain ⟨v, hv⟩ := F.ci y a' e; exact ⟨v, (hv.keeps g.keep).keeps keep⟩ }
    ns := ⟨_, by rw [eL]; exact hns⟩
    ol := by rw [eL]; exact Own.fresh g hL
    oc := fun y a' q _ => absurd rfl (wf.nocell _ (mem_of_lookup q))
    pc := fun _ _ => trivial
    dc := fun hm => ⟨trivial, ow hm⟩
    bb := nb }
end
end Mine
end TextE2

section TextE3
open PySem PySem.W PyProof.Rows PySem.Calls PySem.Spec
namespace Mine
section
variable {c : Cx} {T : Nms} {sc : Scope} {G : Env0} {n : Nat}
theorem in_ok {f : Value} {ps r : List Str} {st : S} {clo : List (Str × Addr)} {args : List AV} {fs : Sto} {F' : Nat → Value} {k : Int} {fuel : Nat} (wf : InWf T sc ps) (ws : wfS T sc st = true) (F : InIs c f sc ps (denS T st) clo) (hr : T.nm = ps ++ r) (hl : args.length = ps.length) (pa : plainL args = true)
    (cap : Capt c c.z1 F' False sc clo r fs) (hF : ∀ i, i < 90 → F' i = c.F i) (C : CxOk c T G n (inR c.z1 F' False))
    (h : runS G (fun _ _ _ => none) fuel st (args.map some ++ fs) none = some (.ret (.int k))) : CallOK c (n + 2) f args (.int k) := by
  intro A E s vs R Q rm g fr rv p
  refine in_enter wf F hr hl pa cap hF rm g rv (fun l o _ e d => g.ne1 e (dat_ne d)) g.z1s fun env h₁ tk ok keep hL FR E' => ?_
  have F1 := FR none (fun _ e => by cases e) (fun e => absurd rfl e) (fun _ b => b)
  refine ex_ok wf.nd ok (Room.deeper rm) st ws C (.inl fun _ _ _ => rfl) F1 h ?_
  intro v h' tk' D B kb g' r'
  obtain ⟨t, rfl⟩ := r'.i
  refine p _ h' tk' (fun b o n1 n2 e => kb b o (fun w => ?_) (keep b o e)) g' rel_int
  rcases w with w | w | w | w | ⟨y, w1, w2⟩
  · exact n1 w
  · exact n2 w
  · exact n1 w
  · rw [w, hL] at e; cases e
  · exact absurd rfl (wf.nocell _ (mem_of_lookup w1))
end
end Mine
end TextE3

section TextE4
open PySem PySem.W PyProof.Rows PySem.Calls PySem.Spec
namespace Mine
section
variable {c : Cx} {T : Nms} {sc : Scope} {G : Env0} {n : Nat}
/-- a closure that writes the one list -/
theorem in_box {f : Value} {ps r : List Str} {st : S} {clo : List (Str × Addr)} {args : List AV} {fs : Sto} {F' : Nat → Value} {D : Addr} {l l' : List Int} {fuel : Nat} {Ψ : Nat → List AV → List Int → Option (List Int)} {out : Out} (wf : InWf T sc ps) (ws : wfS T sc st = true) (nb : noBox st = true) (F : InIs c f sc ps (denS T st) clo) (hr : T.nm = ps ++ r) (hl : args.length = ps.length) (pa : plainL args = true)
    (cap : Capt c D F' True sc clo r fs) (hF : ∀ i, i < 90 → F' i = c.F i) (C : CxOk c T G n (inR D F' True)) (ow : Own c D)
    (hE : ∀ i l ns ns', Ψ i l ns = some ns' → EclOK c D n (F' i) l ns ns')
    (h : runS G Ψ fuel st (args.map some ++ fs) (some l) = some out) (ho : out = .retn l' ∨ ∃ ρ', out = .fall ρ' (some l')) : EclOK c D (n + 2) f args l l' := by
  intro A E s vs R Q rm g fr hRD pd rv bx p
  have hDe : ∃ o, s.heap.get? D = some o := by
    obtain ⟨ws, ⟨m, hw⟩, _⟩ := bx l rfl
    rw [hRD] at hw; exact ⟨_, hw⟩
  have bx' : BoxIs (inR D F' True) s.heap (some l) := fun ns e => by
    obtain ⟨ws, ⟨m, hw⟩, q⟩ := bx ns e
    exact ⟨ws, ⟨m, by rw [hRD] at hw; exact hw⟩, q⟩
  refine in_enter wf F hr hl pa cap hF rm g rv (fun l o pl _ _ => pd l pl) hDe fun env h₁ tk ok keep hL FR E' => ?_
  have F1 := FR (some l) bx' (fun _ => ow) (fun e => by cases e)
  have wr : ∀ h', KBP (Wr c (inR D F' True) env sc) h₁ h' → KBP (fun b => b = c.z1 ∨ b = c.z2 ∨ b = D) s.heap h' := fun h' kb b o nw e => kb b o (fun w => by
    rcases w with w | w | w | w | ⟨y, w1, w2⟩
    · exact nw (.inl w)
    · exact nw (.inr (.inl w))
    · exact nw (.inr (.inr w))
    · rw [w, hL] at e; cases e
    · exact absurd rfl (wf.nocell _ (mem_of_lookup w1))) (keep b o e)
  have fin : ∀ h' tk', KBP (Wr c (inR D F' True) env sc) h₁ h' → Good c h' → BoxIs (inR D F' True) h' (some l') → Q .none { s with heap := h', toks := tk' } := fun h' tk' kb g' b =>
    p h' tk' (wr h' kb) g' fun ns e => by
      obtain ⟨ws, ⟨m, hw⟩, q⟩ := b ns e
      exact ⟨ws, ⟨m, by rw [hRD]; exact hw⟩, q⟩
  refine ex_ok wf.nd ok (Room.deeper rm) st ws C (.inr ⟨nb, fun R2 i l ns ns' e1 e2 q => by rw [e1, e2]; exact hE i l ns ns' q⟩) F1 h ?_
  rcases ho with rfl | ⟨ρ', rfl⟩
  · exact fun h' tk' kb g' b => fin h' tk' kb g' (b nb)
  · intro R' h' tk' _ hR t F2
    have := hR nb
    subst this
    exact fin h' tk' (t _ fun _ _ _ e => e) F2.P.g F2.P.bx
end
end Mine
end TextE4

section TextC1
open PySem PySem.W PyProof.Rows
namespace Mine
noncomputable def gcV : List AV := [.int 4000, .int 40, .int 2, .int 1]
end Mine
end TextC1

section TextE5
open PySem PySem.W PyProof.Rows PySem.Calls PySem.Spec
namespace Mine
section
variable {c : Cx} {T : Nms} {sc : Scope} {G : Env0} {n : Nat}
noncomputable def startR (R : RP) (c : Cx) : RP := { P := fun l => R.P l ∧ l ≠ c.z1, D := c.z1, F := c.F, B := False }
/-- a module function is entered -/
theorem fn_enterC {f : Value} {ps : List Str} {body : List Stmt} {args : List AV} (wf : FnWf T sc ps) (F : FnIs c f sc ps body) (hl : args.length = ps.length) (pa : plainL args = true)
    {A : Around} (rm : Room A (n + 2)) {s : Shared} {vs : List Value} {R : RP} {Q : Result → Shared → Prop} (g : Good c s.heap) (fr : ∀ l, s.heap.get? l = none → R.P l) (rv : RelL R s.heap args vs)
    (h : ∀ (env : Env) (h₁ : Heap) (tk : Nat), EnvOk env sc → (∀ a o fd, f = .ref a → c.gh.get? a = some o → o.data = .func fd → env.code = fd.code ∧ env.qual = fd.qualname ++ ".<locals>.") → Keep s.heap h₁ →
      (∀ b o, s.heap.get? b = some o → b ≠ env.locals ∧ ∀ x, env.cells.lookup x ≠ some b) →
      Frm c R.P T sc (startR R c) env { s with heap := h₁, toks := tk } (args.map some ++ List.replicate (T.nm.length - ps.length) none) none →
      ∀ E' : Value → Shared → Prop, wpAny (model c.prog c.w) (A.deeper env) (execs body env) (fun fl s' => Q (.ok (.ret (match fl with | .ret v => v | _ => .none))) s') E' { s with heap := h₁, toks := tk }) :
    codeAny (model c.prog c.w) A (.call f ⟨vs, []⟩) Q s := by
  obtain ⟨a, o, fd, rfl, e1, e2, e3, e4, e5, e6, e7, e8, e9⟩ := F.at_
  have hlen := rv.length
  have eC : (callEnvC fd s.heap.objs.size a).cells = cellsFrom (s.heap.objs.size + 1) sc.names [] := by rw [← e3]; rfl
  have eS : (callEnvC fd s.heap.objs.size a).scope = sc := by rw [← e3]; rfl
  have kO : ∀ x, (callEnvC fd s.heap.objs.size a).kindOf x = sc.names.lookup x := fun x => by unfold Env.kindOf; rw [eS]
  have szp : (s.heap.push { cls := .type "frame", data := .dict #[] }).objs.size = s.heap.objs.size + 1 := Heap.size_push ..
  have own : ∀ x, (x, NameKind.cell) ∈ sc.names → ∃ a, (cellsFrom (s.heap.objs.size + 1) sc.names []).lookup x = some a := fun x m => by
    obtain ⟨a, e, _⟩ := cells_own sc.names (s.heap.push { cls := .type "frame", data := .dict #[] }) [] x m
    rw [szp] at e; exact ⟨a, e⟩
  refine codeAny_call_cells (by have := rm.dp; show A.depth < 1000; omega) (g.keep _ _ e1) e2 (F.lim.keeps g.keep) (e8.keeps g.keep) e4 (e9 vs (by rw [hlen, hl])) e5 ?_ (fun s₁ x => ?_) (by rw [e3]; exact wf.co) (by rw [e3]; exact wf.gen) (by rw [e3]; exact wf.kind)
  · intro y hy
    rw [e3]
    have hm : y.1 ∈ ps := List.of_mem_zip hy |>.1
    rcases wf.par _ hm with q | q
    · exact .inl q
    · obtain ⟨a, ha⟩ := own _ (mem_of_lookup q)
      exact .inr ⟨q, by rw [ha]; rfl⟩
  · obtain ⟨h₁, tk, rfl⟩ := x.toInCall.same
    have keep : Keep s.heap h₁ := x.toInCall.keep
    have g1 := g.keeps keep
    have hL : s.heap.get? s.heap.objs.size = none := Heap.get?_none_of_le (Nat.le_refl _)
    have ra : RelL (startR R c) h₁ args vs := (rv.re (R' := startR R c) (fun l o pl e d => ⟨pl, g.ne1 e (dat_ne d)⟩) pa).keepR keep
    have okE : EnvOk (callEnvC fd s.heap.objs.size a) sc := {
      hsc := eS
      kind := wf.kind
      inj := by rw [eC]; exact cells_inj _ _ _ (fun x y a e => by simp at e) (fun x a e => by simp at e)
      cel := fun y hy => by
        rw [eC]
        rcases hy with q | q
        · exact own _ (mem_of_lookup q)
        · exact absurd (mem_of_lookup q) (wf.nofree y)
      gl := e6
      bl := e7 }
    have fresh : ∀ y a', (callEnvC fd s.heap.objs.size a).cells.lookup y = some a' → s.heap.get? a' = none := fun y a' e =>
      Heap.get?_none_of_le (Nat.le_of_lt (x.above y a' (mem_of_lookup e)))
    have ndp : nodupB ps = true := by obtain ⟨r, hr⟩ := wf.pre; have := wf.nd; rw [hr] at this; exact nodupB_app this
    have mfst : (ps.zip vs).map (·.1) = ps := by
      rw [List.map_fst_zip]; omega
    refine h _ _ _ okE ?_ keep ?_ ?_ _
    · intro a2 o2 fd2 q1 q2 q3
      cases q1
      rw [e1] at q2; cases q2
      rw [e2] at q3; cases q3
      exact ⟨rfl, rfl⟩
    · intro b o e
      exact ⟨fun w => by rw [w, show (callEnvC fd s.heap.objs.size a).locals = s.heap.objs.size from rfl, hL] at e; exact absurd e (by simp), fun y w => by rw [fresh y b w] at e; cases e⟩
    · exact {
        P := {
          g := g1
          er := fun i b y e1 e2 => by
            have hi : i < args.length := by
              by_cases hi : i < args.length
              · exact hi
              · rw [List.getElem?_append_right (by simp; omega)] at e1
                rw [List.getElem?_replicate] at e1
                split at e1 <;> simp at e1
            rw [List.getElem?_append_left (by simpa using hi), List.getElem?_map] at e1
            have e1' : args[i]? = some b := by
              cases q : args[i]? with
              | none => rw [q] at e1; simp at e1
              | some b' => rw [q] at e1; simpa using e1
            obtain ⟨v, ev', rv'⟩ := ra.get e1'
            obtain ⟨r0, hr0⟩ := wf.pre
            have e2' : ps[i]? = some y := by
              rw [hr0, List.getElem?_append_left (by omega)] at e2; exact e2
            have hm : (y, v) ∈ ps.zip vs := zip_get e2' ev'
            refine ⟨v, rv', ?_⟩
            rcases wf.par y (List.mem_of_getElem? e2') with q | q
            · exact .inl ⟨by rw [kO]; exact q, _, x.toInCall.ns, bindL_get _ _ _ _ (by rw [mfst]; exact ndp) (by rw [kO]; exact q) (.inl hm)⟩
            · obtain ⟨a', ha'⟩ := own _ (mem_of_lookup q)
              refine .inr ⟨.inl (by rw [kO]; exact q), a', by rw [eC]; exact ha', ?_⟩
              have := x.cell y a' (by rw [eC]; exact ha')
              rw [bindC_get _ _ _ _ (by rw [mfst]; exact ndp) (by rw [kO, q]; decide) (.inl hm)] at this
              exact this
          bx := fun ns e => by cases e
          fr := fun l e => by
            have e0 : s.heap.get? l = none := by
              cases q : s.heap.get? l with
              | none => rfl
              | some o => rw [keep l o q] at e; cases e
            exact ⟨fr l e0, fun w => by obtain ⟨o, ez⟩ := g.z1s; rw [w, ez] at e0; cases e0⟩
          pd := fun l p => p.2
          dl := g1.z1s
          ff := fun _ _ => rfl
          ci := fun y a' e => ⟨_, x.cell y a' e⟩ }
        ns := ⟨_, x.toInCall.ns⟩
        ol := Own.fresh g hL
        oc := fun y a' _ e => Own.fresh g (fresh y a' e)
        pc := fun l p => p.1
        dc := fun e => absurd rfl e
        bb := fun _ e => e }

theorem fn_enter {f : Value} {ps : List Str} {body : List Stmt} {args : List AV} (wf : FnWf T sc ps) (F : FnIs c f sc ps body) (hl : args.length = ps.length) (pa : plainL args = true)
    {A : Around} (rm : Room A (n + 2)) {E : Value → Shared → Prop} {s : Shared} {vs : List Value} {R : RP} {Q : Value → Shared → Prop} (g : Good c s.heap) (fr : ∀ l, s.heap.get? l = none → R.P l) (rv : RelL R s.heap args vs)
    (h : ∀ (env : Env) (h₁ : Heap) (tk : Nat), EnvOk env sc → (∀ a o fd, f = .ref a → c.gh.get? a = some o → o.data = .func fd → env.code = fd.code ∧ env.qual = fd.qualname ++ ".<locals>.") → Keep s.heap h₁ →
      (∀ b o, s.heap.get? b = some o → b ≠ env.locals ∧ ∀ x, env.cells.lookup x ≠ some b) →
      Frm c R.P T sc (startR R c) env { s with heap := h₁, toks := tk } (args.map some ++ List.replicate (T.nm.length - ps.length) none) none →
      ∀ E' : Value → Shared → Prop, wpAny (model c.prog c.w) (A.deeper env) (execs body env) (fun fl s' => Q (match fl with | .ret v => v | _ => .none) s') E' { s with heap := h₁, toks := tk }) :
    wpAny (model c.prog c.w) A (call f vs) Q E s :=
  wpAny_call (fn_enterC wf F hl pa rm g fr rv h)

/-- a module function's contract, as a code's -/
theorem fn_okC {f : Value} {ps : List Str} {st : S} {args : List AV} {r : AV} {fuel : Nat} (wf : FnWf T sc ps) (ws : wfS T sc st = true) (F : FnIs c f sc ps (denS T st)) (hl : args.length = ps.length)
    (C : ∀ R : RP, R.F = c.F → CxOk c T G n R) (pa : plainL args = true) (pr : plain r = true)
    (h : runS G (fun _ _ _ => none) fuel st (args.map some ++ List.replicate (T.nm.length - ps.length) none) none = some (.ret r))
    {A : Around} (rm : Room A (n + 2)) {s : Shared} {vs : List Value} {R : RP} {Q : Result → Shared → Prop} (g : Good c s.heap) (fr : ∀ l, s.heap.get? l = none → R.P l) (rv : RelL R s.heap args vs) (p : Post c R s r (fun v s' => Q (.ok (.ret v)) s')) :
    codeAny (model c.prog c.w) A (.call f ⟨vs, []⟩) Q s := by
  refine fn_enterC wf F hl pa rm g fr rv fun env h₁ tk ok hcd keep fresh F1 E' => ?_
  refine ex_ok wf.nd ok (Room.deeper rm) st ws (C _ rfl) (.inl fun _ _ _ => rfl) F1 h ?_
  intro v h' tk' D B kb g' r'
  refine p v h' tk' (fun b o n1 n2 e => kb b o (fun w => ?_) (keep b o e)) g' (Rel.re (R := { P := R.P, D := D, F := c.F, B := B }) (R' := R) (fun l o pl _ _ => pl) pr r')
  rcases w with w | w | w | w | ⟨y, w1, w2⟩
  · exact n1 w
  · exact n2 w
  · exact n1 w
  · exact (fresh b o e).1 w
  · exact (fresh b o e).2 y w2

/-- the context in which the heap at hand is fixed -/
noncomputable def sw (c : Cx) (h : Heap) (D : Addr) : Cx := { c with gh := hideAll h [c.z1, c.z2, D] }
section
variable {h h' : Heap} {D : Addr}
theorem sw_get' {b : Addr} {o : Obj} (e : h.get? b = some o) (h1 : b ≠ c.z1) (h2 : b ≠ c.z2) (hD : b ≠ D) : (sw c h D).gh.get? b = some o :=
  hideAll_get _ e fun m => by
    simp only [List.mem_cons, List.not_mem_nil, or_false] at m
    rcases m with m | m | m
    · exact h1 m
    · exact h2 m
    · exact hD m
theorem tab_code {z cc : Addr} {p : Pos} {q : Str} (x : TabSt h z cc p q) {d : Addr} {o : Obj} {vs : Array Value} {qq : Str} {t : Tok} (e : h.get? d = some o) (e3 : o.data = .fields vs) (e4 : vs[1]? = some (.str qq t)) : d ≠ z := fun w => by
  subst w
  rcases x.2 with e' | ⟨c', e', _⟩
  · rw [e] at e'; cases e'; cases e3; simp at e4
  · rw [e] at e'; cases e'; cases e3; simp [rawInt] at e4
theorem sw_get (g : Good c h) {b : Addr} {o : Obj} (e : h.get? b = some o) (hn : ∀ ps, o ≠ tabObj ps) (hD : b ≠ D) : (sw c h D).gh.get? b = some o :=
  hideAll_get _ e fun m => by
    simp only [List.mem_cons, List.not_mem_nil, or_false] at m
    rcases m with m | m | m
    · exact g.ne1 e hn m
    · exact g.ne2 e hn m
    · exact hD m
theorem sw_le (K : TabOk c) (hD : c.gh.get? D = none) (g : Good c h) {b : Addr} {o : Obj} (e : c.gh.get? b = some o) : (sw c h D).gh.get? b = some o :=
  hideAll_get _ (g.keep b o e) fun m => by
    simp only [List.mem_cons, List.not_mem_nil, or_false] at m
    rcases m with rfl | rfl | rfl
    · rw [K.g1] at e; cases e
    · rw [K.g2] at e; cases e
    · rw [hD] at e; cases e
theorem sw_good (g : Good c h) : Good (sw c h D) h := ⟨fun _ _ e => of_hideAll _ e, g.t1, g.t2⟩
theorem sw_back (K : TabOk c) (hD : c.gh.get? D = none) (g : Good c h) (g' : Good (sw c h D) h') : Good c h' := ⟨fun b o e => g'.keep b o (sw_le K hD g e), g'.t1, g'.t2⟩
theorem sw_own (o : Own c D) : Own (sw c h D) D := ⟨hideAll_none _ (by simp), o.n1, o.n2, o.m1, o.m2⟩
/-- what is known of the module and of the builtins, for all names -/
structure Base (c : Cx) (gc : List Str) (gf : List Str) (gv : List AV) : Prop where
  ng : c.gh.Ns mainGlobals c.mg
  nb : c.gh.Ns builtinsNs c.mb
  hgc : ∀ (i : Nat) (a : AV) (x : Str), gv[i]? = some a → gc[i]? = some x → ∃ v, c.mg x = some v ∧ ∀ R h, Rel R h a v
  hgf : ∀ (i : Nat) (x : Str), gf[i]? = some x → c.mg x = some (c.F i) ∧ ∃ q o fd, c.F i = .ref q ∧ c.gh.get? q = some o ∧ o.data = .func fd
  hbl : ∀ b : Blt, c.mg b.name = none ∧ c.mb b.name = some b.val
theorem Base.cx {gc gf : List Str} {gv : List AV} (B : Base c gc gf gv) {nm : List Str} {Φ : Nat → List AV → Option AV} {R : RP} (hc : ∀ i l r, Φ i l = some r → CallOK c n (R.F i) l r) : CxOk c ⟨nm, gc, gf⟩ ⟨gv, Φ⟩ n R :=
  ⟨B.ng, B.nb, B.hgc, B.hgf, B.hbl, hc⟩
theorem Base.sw {gc gf : List Str} {gv : List AV} (B : Base c gc gf gv) (K : TabOk c) (hD : c.gh.get? D = none) (g : Good c h) : Base (sw c h D) gc gf gv where
  ng := B.ng.keeps fun b o e => sw_le K hD g e
  nb := B.nb.keeps fun b o e => sw_le K hD g e
  hgc := B.hgc
  hgf := fun i x e => let ⟨a, q, o, fd, b, d, r⟩ := B.hgf i x e; ⟨a, q, o, fd, b, sw_le K hD g d, r⟩
  hbl := B.hbl
end
noncomputable def withF (R : RP) (f : Value) : RP := { P := R.P, D := R.D, F := fun i => if i = 99 then f else R.F i, B := R.B }
theorem Rel.withF {R : RP} {h : Heap} {a : AV} {v f : Value} (p : plain a = true ∨ a = .box) (r : Rel R h a v) : Rel (withF R f) h a v := by
  rcases p with p | rfl
  · exact Rel.re (R := R) (R' := Mine.withF R f) (fun l o pl _ _ => pl) p r
  · unfold Rel at r ⊢; exact r
theorem Frm.withF {Pc : Addr → Prop} {R : RP} {env : Env} {s : Shared} {ρ : Sto} {μ : Option (List Int)} {f : Value} (F : Frm c Pc T sc R env s ρ μ) (hp : ∀ (i : Nat) (a : AV), ρ[i]? = some (some a) → plain a = true ∨ a = .box) : Frm c Pc T sc (withF R f) env s ρ μ where
  P := {
    g := F.P.g
    er := fun i a x e1 e2 => by
      obtain ⟨v, r, nv⟩ := F.P.er i a x e1 e2
      exact ⟨v, r.withF (hp i a e1), nv⟩
    bx := F.P.bx
    fr := F.P.fr
    pd := F.P.pd
    dl := F.P.dl
    ff := fun i hi => by show (if i = 99 then f else R.F i) = _; rw [if_neg (by omega)]; exact F.P.ff i hi
    ci := F.P.ci }
  ns := F.ns
  ol := F.ol
  oc := F.oc
  pc := F.pc
  dc := F.dc
  bb := F.bb

set_option maxHeartbeats 1000000
/-- the nested def -/
theorem nest_ok {Pc : Addr → Prop} {A : Around} {E : Value → Shared → Prop} {s : Shared} {R : RP} {env : Env} {ρ : Sto} {μ : Option (List Int)} {i : Nat} {z cc : Addr} {pos : Pos} {q : Str} {params : Arguments} {ps : List Str} {body rest : List Stmt} {sc' : Scope} {Q : Flow → Shared → Prop}
    (nd : nodupB T.nm = true) (ok : EnvOk env sc) (F : Frm c Pc T sc R env s ρ μ) (hi : AsgOk T sc i) (K : TabOk c) (t : IsTab c z cc pos q) (lim : c.gh.NoLimit) (hcode : env.code = .ref cc) (hq : qualnameIn env (nmOf T.nm i) (nmOf T.nm i) = q)
    (hp : ∀ (i : Nat) (a : AV), ρ[i]? = some (some a) → plain a = true ∨ a = .box) (hcel : ∀ x, (x, NameKind.free) ∈ sc'.names → sc.names.lookup x = some .cell) (hRD : R.D = c.z1 ∨ ∃ l, μ = some l) (hDg : c.gh.get? R.D = none)
    (hd0 : params.defaults = []) (hk0 : params.kw_defaults = []) (ha : annTrees params none env = [])
    (hbind : ∀ (clo : List (Str × Addr)) (doc code ctv : Value) (vals : List Value), vals.length = ps.length → bindArgs (fnX (nmOf T.nm i) q params body sc' clo .none .none doc ((c.mg "__name__").getD .none) none code ctv) ⟨vals, []⟩ = pure (ps.zip vals))
    (hlk : ∀ x, sc'.names.lookup x = some .free → (x, NameKind.free) ∈ sc'.names)
    (h : ∀ (f : Addr) (h3 : Heap) (tk : Nat) (clo : List (Str × Addr)), KBP (Wr c R env sc) s.heap h3 → Frm c Pc T sc (withF R (.ref f)) env { s with heap := h3, toks := tk } (ρ.set i (some (.fn 99))) μ →
      InIs (sw c h3 R.D) (.ref f) sc' ps body clo → (∀ x a, clo.lookup x = some a → env.cells.lookup x = some a) → (∀ x, (x, NameKind.free) ∈ sc'.names → ∃ a, clo.lookup x = some a) →
      wpAny (model c.prog c.w) A (execs rest env) Q E { s with heap := h3, toks := tk }) :
    wpAny (model c.prog c.w) A (execs (.FunctionDef (nmOf T.nm i) params body [] none [] sc' none (nmOf T.nm i) pos :: rest) env) Q E s := by
  refine step (nestDef_K hd0 hk0 ha ?_)
  rw [hq]
  obtain ⟨clo, hclo, hc1, hc2⟩ := closure_ok (env := env) (scope := sc') fun x m => ok.cel x (.inl (hcel x m))
  refine make_ok F.P.g K t hcode ok.gl hclo fun f h' tk doc ctv c' x g' ef hf hrec => ?_
  have F1 : Frm c Pc T sc (withF R (.ref f)) env { s with heap := h', toks := tk } ρ μ := (F.ext (tk := tk) x g').withF hp
  have fP : R.P f := F.P.fr f ef
  refine Frm.store nd ok F1 hi (a := .fn 99) (v := .ref f) ?_ fun h3 tk3 kb F3 rl => ?_
  · unfold Rel
    refine ⟨f, _, _, rfl, fP, hf, rfl, ?_⟩
    show _ = (if 99 = 99 then Value.ref f else R.F 99)
    rw [if_pos rfl]
  · have dat3 : ∀ b o, h'.get? b = some o → b ≠ c.z1 → b ≠ c.z2 → b ≠ R.D → (∀ es n, o.data ≠ .dict es n) → (∀ v, o.data ≠ .cell v) → h3.get? b = some o := fun b o e hz1 hz2 hd n1 n2 => kb b o (fun w => by
      rcases w with w | w | w | w | ⟨y, w1, w2⟩
      · exact hz1 w
      · exact hz2 w
      · exact hd w
      · obtain ⟨m, o', es, ep, e', d, _⟩ := F1.ns; rw [← w, show h'.get? b = some o from e] at e'; cases e'; exact n1 _ _ d
      · obtain ⟨v, o', e', d⟩ := F1.P.ci y _ w2; rw [show h'.get? b = some o from e] at e'; cases e'; exact n2 _ d) e
    have fne : f ≠ R.D := fun w => by obtain ⟨o, e⟩ := F.P.dl; rw [← w, ef] at e; cases e
    have fG := dat3 f _ hf (g'.ne1 hf fun ps e => by have := congrArg Obj.cls e; cases this) (g'.ne2 hf fun ps e => by have := congrArg Obj.cls e; cases this) fne (fun es n e => by cases e) (fun v e => by cases e)
    have nDg : ∀ hh, Good c hh → BoxIs (Mine.withF R (.ref f)) hh μ → ∀ o, hh.get? R.D = some o → (∃ xs n, o.data = .seq xs n) ∨ ∃ ps, o = tabObj ps := fun hh gg bx o e => by
      rcases hRD with w | ⟨l, w⟩
      · obtain ⟨ps, e'⟩ := gg.t1.at
        rw [w, e'] at e; cases e; exact .inr ⟨ps, rfl⟩
      · obtain ⟨vs, ⟨n, e'⟩, _⟩ := bx l w
        rw [show hh.get? R.D = some _ from e'] at e; cases e; exact .inl ⟨_, _, rfl⟩
    have nD := nDg h3 F3.P.g F3.P.bx
    refine h f h3 tk3 clo ((Ext.wr x).trans kb) F3 {
      at_ := ⟨f, _, _, rfl, sw_get F3.P.g fG (fun ps e => by have := congrArg Obj.cls e; cases this) fne, rfl, rfl, rfl, rfl, rfl, rfl, ?_, fun vals hv => hbind clo doc _ ctv vals hv⟩
      lim := lim.keeps fun b o e => sw_le K hDg F3.P.g e
      inj := fun x y a e1 e2 => ok.inj x y a (hc1 _ _ e1) (hc1 _ _ e2)
      cel := fun x e => hc2 x (hlk x e)
      ci := fun y a e => ?_ } hc1 hc2
    · obtain ⟨d, o, vs, tt, e1, e2, e3, e4⟩ := hrec
      have d1 := tab_code g'.t1 e2 e3 e4
      have d2 := tab_code g'.t2 e2 e3 e4
      have n3 : d ≠ R.D := fun w => by
        subst w
        rcases hRD with w | ⟨l, w⟩
        · exact d1 w
        · obtain ⟨vs, ⟨n, e'⟩, _⟩ := F1.P.bx l w
          rw [show h'.get? R.D = some _ from e'] at e2; cases e2; cases e3
      have e5 := dat3 d o e2 d1 d2 n3 (fun es n e => by rw [e3] at e; cases e) (fun v e => by rw [e3] at e; cases e)
      exact ⟨d, o, vs, tt, e1, sw_get' e5 d1 d2 n3, e3, e4⟩
    · obtain ⟨v, o, e1, e2⟩ := F3.P.ci y a (hc1 _ _ e)
      refine ⟨v, o, sw_get F3.P.g e1 (fun ps e => by subst e; cases e2) (fun w => ?_), e2⟩
      subst w
      rcases nD o e1 with ⟨_, _, d⟩ | ⟨_, rfl⟩
      · rw [d] at e2; cases e2
      · cases e2
end
end Mine
end TextE5

section TextE6
open PySem PySem.W PyProof.Rows PySem.Calls PySem.Spec
namespace Mine
section
variable {c : Cx} {T : Nms} {sc : Scope} {G : Env0} {n : Nat}
theorem len1 {vals : List Value} (h : vals.length = 1) : ∃ a, vals = [a] := match vals, h with | [a], _ => ⟨a, rfl⟩
theorem len2 {vals : List Value} (h : vals.length = 2) : ∃ a b, vals = [a, b] := match vals, h with | [a, b], _ => ⟨a, b, rfl⟩
theorem len3 {vals : List Value} (h : vals.length = 3) : ∃ a b c, vals = [a, b, c] := match vals, h with | [a, b, c], _ => ⟨a, b, c, rfl⟩
theorem CallOK.mono {m n : Nat} {f : Value} {l : List AV} {r : AV} (x : CallOK c m f l r) (h : m ≤ n) : CallOK c n f l r := fun A E s vs R Q rm g fr rv p =>
  x A E s vs R Q ⟨rm.hd, by have := rm.dp; omega, by have := rm.un; omega⟩ g fr rv p
theorem EclOK.mono {m n : Nat} {D : Addr} {f : Value} {l : List AV} {r r' : List Int} (x : EclOK c D m f l r r') (h : m ≤ n) : EclOK c D n f l r r' := fun A E s vs R Q rm g fr h1 h2 h3 h4 p =>
  x A E s vs R Q ⟨rm.hd, by have := rm.dp; omega, by have := rm.un; omega⟩ g fr h1 h2 h3 h4 p
theorem capt_of {Pc : Addr → Prop} {R : RP} {env : Env} {s : Shared} {ρ : Sto} {μ : Option (List Int)} {clo : List (Str × Addr)} {sc' : Scope} {r : List Str} {fs : Sto} {B : Prop} (ok : EnvOk env sc) (F : Frm c Pc T sc R env s ρ μ) (hB : R.B → B) (hRD : R.D = c.z1 ∨ ∃ l, μ = some l)
    (hc1 : ∀ x a, clo.lookup x = some a → env.cells.lookup x = some a) (hc2 : ∀ x, (x, NameKind.free) ∈ sc'.names → ∃ a, clo.lookup x = some a)
    (st : ∀ (i : Nat) (a : AV) (x : Str), fs[i]? = some (some a) → r[i]? = some x → sc'.names.lookup x = some .free ∧ (x, NameKind.free) ∈ sc'.names ∧ sc.names.lookup x = some .cell ∧ ∃ j : Nat, ρ[j]? = some (some a) ∧ T.nm[j]? = some x) :
    Capt (sw c s.heap R.D) R.D R.F B sc' clo r fs := fun i a x e1 e2 => by
  obtain ⟨s1, s2, s3, j, s4, s5⟩ := st i a x e1 e2
  obtain ⟨v, rv, nv⟩ := F.P.er j a x s4 s5
  have kx : env.kindOf x = some .cell := by rw [kindOf_eq ok]; exact s3
  rcases nv with ⟨q, _⟩ | ⟨_, cc, q, hc⟩
  · rw [kx] at q; cases q
  · obtain ⟨cc', q'⟩ := hc2 x s2
    have q2 := hc1 _ _ q'
    rw [q] at q2; cases q2
    obtain ⟨o, e, d⟩ := hc
    have nD : cc ≠ R.D := fun w => by
      rcases hRD with z | ⟨l, z⟩
      · exact F.P.g.ne1 e (fun ps h => by subst h; cases d) (w.trans z)
      · obtain ⟨vs, ⟨n, e'⟩, _⟩ := F.P.bx l z
        rw [w, e'] at e; cases e; cases d
    refine ⟨s1, cc, v, q', ⟨o, sw_get F.P.g e (fun ps h => by subst h; cases d) nD, d⟩, ?_⟩
    exact rv.mono (R := R) (R' := inR R.D R.F B) (fun b => ⟨hB b, rfl⟩) rfl (fun l p _ => F.P.pd l p) fun b o p d e => sw_get F.P.g e (dat_ne d) (F.P.pd b p)
end
noncomputable def prm_d2i : Arguments := { posonlyargs := [], args := [{ arg := "L", annotation := none, pos := ⟨47, 14, 47, 15⟩ }, { arg := "R", annotation := none, pos := ⟨47, 17, 47, 18⟩ }], vararg := none, kwonlyargs := [], kw_defaults := [], kwarg := none, defaults := [] }
theorem body_d2i : bodyOf "_digits2int" = .FunctionDef "inner" prm_d2i (denS ⟨nm_digits2int_in, gcN, gfN⟩ st_digits2int_in) [] none [] sc_digits2int_in none "inner" ⟨47, 4, 52, 55⟩ :: denS ⟨nm_digits2int, gcN, gfN⟩ st_digits2int := by rfl

noncomputable def ret1 : Option Out → Option AV
  | some (.ret (.int z)) => some (.int z)
  | _ => none
noncomputable def inD (fs : Sto) : Nat → List AV → Option AV
  | 0, _ => none
  | k + 1, args => if args.length = 2 ∧ plainL args = true then ret1 (runS ⟨gcV, fun i l => if i = 99 then inD fs k l else none⟩ (fun _ _ _ => none) 1 st_digits2int_in (args.map some ++ fs) none) else none
theorem ret1_some {o : Option Out} {r : AV} (h : ret1 o = some r) : ∃ z, r = .int z ∧ o = some (.ret (.int z)) := by
  unfold ret1 at h
  split at h
  · cases h; exact ⟨_, rfl, rfl⟩
  · cases h
theorem inWf_d2i : InWf ⟨nm_digits2int_in, gcN, gfN⟩ sc_digits2int_in ps_digits2int_in where
  kind := rfl
  co := rfl
  gen := rfl
  nd := by decide +kernel
  pre := ⟨_, rfl⟩
  par := by decide +kernel
  nocell := by decide +kernel
theorem fnWf_d2i : FnWf ⟨nm_digits2int, gcN, gfN⟩ sc_digits2int ps_digits2int where
  kind := rfl
  co := rfl
  gen := rfl
  nd := by decide +kernel
  pre := ⟨_, rfl⟩
  par := by decide +kernel
  nofree := fun x m => by
    have : ∀ p ∈ sc_digits2int.names, p.2 ≠ NameKind.free := by decide +kernel
    exact this _ m rfl
theorem inD_ok {c : Cx} {f : Value} {clo : List (Str × Addr)} {F' : Nat → Value} {fs : Sto} (B : Base c gcN gfN gcV) (I : InIs c f sc_digits2int_in ps_digits2int_in (denS ⟨nm_digits2int_in, gcN, gfN⟩ st_digits2int_in) clo) (hf : F' 99 = f) (hF : ∀ i, i < 90 → F' i = c.F i)
    (cap : Capt c c.z1 F' False sc_digits2int_in clo (nm_digits2int_in.drop 2) fs) : ∀ (k : Nat) (args : List AV) (r : AV), inD fs k args = some r → CallOK c (2 * k) f args r
  | 0, _, _, h => by cases h
  | k + 1, args, r, h => by
    unfold inD at h
    split at h
    · rename_i ha
      obtain ⟨z, rfl, hz⟩ := ret1_some h
      exact in_ok (T := ⟨nm_digits2int_in, gcN, gfN⟩) (n := 2 * k) (G := ⟨gcV, fun i l => if i = 99 then inD fs k l else none⟩) inWf_d2i wf_digits2int_in I rfl ha.1 ha.2 cap hF
        (B.cx fun i l r h => by
          split at h
          · rename_i e; subst e
            show CallOK c (2 * k) (F' 99) l r
            rw [hf]; exact inD_ok B I hf hF cap k l r h
          · cases h) hz
    · cases h
theorem free_cell {a b : List (Str × NameKind)} (h : ∀ p ∈ a, p.2 = NameKind.free → b.lookup p.1 = some .cell) : ∀ x, (x, NameKind.free) ∈ a → b.lookup x = some .cell := fun x m => h (x, .free) m rfl
structure FnCode (c : Cx) (f : Value) (cc : Addr) (q : Str) : Prop where
  at_ : ∃ a o fd, f = .ref a ∧ c.gh.get? a = some o ∧ o.data = .func fd ∧ fd.code = .ref cc ∧ fd.qualname = q
noncomputable def outD (k : Nat) (l : AV) (n : Int) : Option AV := match st_digits2int with
  | .ret e _ => ev ⟨gcV, fun i a => if i = 99 then inD [none, none, some l, some (.fn 99), some (.int n)] k a else none⟩ none e [some l, some (.int n), some (.fn 99)]
  | _ => none
set_option maxHeartbeats 1000000
theorem d2i_ok {c : Cx} {f : Value} {z cc : Addr} (B : Base c gcN gfN gcV) (K : TabOk c) (t : IsTab c z cc ⟨47, 4, 52, 55⟩ "_digits2int.<locals>.inner") (I : FnIs c f sc_digits2int ps_digits2int (bodyOf "_digits2int")) (W : FnCode c f cc "_digits2int")
    (k : Nat) (l : AV) (n : Int) (r : Int) (hl : plain l = true) (h : outD k l n = some (.int r)) : CallOK c (2 * k + 2) f [l, .int n] (.int r) := by
  intro A E s vs R Q rm g fr rv p
  rw [body_d2i] at I
  refine fn_enter fnWf_d2i I rfl (by simp [plainL, plain, hl]) rm g fr rv fun env h₁ tk ok hcd keep fresh F1 E' => ?_
  obtain ⟨a, o, fd, w1, w2, w3, w4, w5⟩ := W.at_
  obtain ⟨c1, c2⟩ := hcd a o fd w1 w2 w3
  have hz1 : c.gh.get? c.z1 = none := K.g1
  refine nest_ok (T := ⟨nm_digits2int, gcN, gfN⟩) (i := 2) (ps := ps_digits2int_in) fnWf_d2i.nd ok F1 ⟨by decide, by decide +kernel, by decide +kernel⟩ K t I.lim (c1.trans w4) ?_ ?_ (free_cell (by decide +kernel)) (.inl rfl) hz1 rfl rfl rfl ?_ ?_ ?_
  · unfold qualnameIn
    rw [kindOf_eq ok, c2, w5]
    decide +kernel
  · intro i a e
    match i with
    | 0 => cases e; exact .inl hl
    | 1 => cases e; exact .inl rfl
    | 2 => cases e
    | i + 3 => simp [nm_digits2int, ps_digits2int] at e
  · intro clo doc code ctv vals hv
    obtain ⟨_, _, rfl⟩ := len2 hv
    rfl
  · intro x e
    exact mem_of_lookup e
  · intro f h3 tk3 clo kb F3 I3 hc1 hc2
    have g3 := F3.P.g
    have cap := capt_of (B := False) (fs := [none, none, some l, some (.fn 99), some (.int n)]) (r := nm_digits2int_in.drop 2) ok F3 (fun b => b) (.inl rfl) hc1 hc2 ?_
    · have B3 : Base (sw c h3 c.z1) gcN gfN gcV := B.sw K hz1 g3
      have C3 : CxOk (sw c h3 c.z1) ⟨nm_digits2int, gcN, gfN⟩ ⟨gcV, fun i a => if i = 99 then inD [none, none, some l, some (.fn 99), some (.int n)] k a else none⟩ (2 * k) (withF (startR R c) (.ref f)) := B3.cx fun i l' r h => by
        split at h
        · rename_i e; subst e
          exact inD_ok B3 I3 rfl (fun i hi => by show (if i = 99 then _ else _) = _; rw [if_neg (by omega)]; rfl) cap k l' r h
        · cases h
      have P3 : Pre (sw c h3 c.z1) (withF (startR R c) (.ref f)) env nm_digits2int { s with heap := h3, toks := tk3 } [some l, some (.int n), some (.fn 99)] none := ⟨sw_good g3, F3.P.er, F3.P.bx, F3.P.fr, F3.P.pd, F3.P.dl, F3.P.ff, F3.P.ci⟩
      refine step (wpAny_Return_some ?_)
      refine ev_ok (c := sw c h3 c.z1) (T := ⟨nm_digits2int, gcN, gfN⟩) fnWf_d2i.nd _ (by exact wf_digits2int) ok C3 (Room.deeper rm) P3 h fun v h4 tk4 x4 g4 r4 => ?_
      obtain ⟨t4, rfl⟩ := r4.i
      refine p _ h4 tk4 (fun b o n1 n2 e => x4 b o n1 n2 (kb b o (fun w => ?_) (keep b o e))) (sw_back K hz1 g3 g4) rel_int
      rcases w with w | w | w | w | ⟨y, w1, w2⟩
      · exact n1 w
      · exact n2 w
      · exact n1 w
      · exact (fresh b o e).1 w
      · exact (fresh b o e).2 y w2
    · intro i a x e1 e2
      match i with
      | 0 => cases e1
      | 1 => cases e1
      | 2 => cases e1; cases e2; exact ⟨by decide +kernel, by decide +kernel, by decide +kernel, 0, rfl, rfl⟩
      | 3 => cases e1; cases e2; exact ⟨by decide +kernel, by decide +kernel, by decide +kernel, 2, rfl, rfl⟩
      | 4 => cases e1; cases e2; exact ⟨by decide +kernel, by decide +kernel, by decide +kernel, 1, rfl, rfl⟩
      | i + 5 => cases e1
end Mine
end TextE6

section TextE7
open PySem PySem.W PyProof.Rows PySem.Calls PySem.Spec
namespace Mine
noncomputable def prm_i2d : Arguments := { posonlyargs := [], args := [{ arg := "x", annotation := none, pos := ⟨32, 14, 32, 15⟩ }, { arg := "L", annotation := none, pos := ⟨32, 17, 32, 18⟩ }, { arg := "R", annotation := none, pos := ⟨32, 20, 32, 21⟩ }], vararg := none, kwonlyargs := [], kw_defaults := [], kwarg := none, defaults := [] }
noncomputable def size_i2d : X := (.bin .FloorDiv (.bin .Sub (.bin .Add (.met .bitLength (.var 0 ⟨30, 23, 30, 24⟩) ⟨30, 23, 30, 35⟩ .nil ⟨30, 23, 30, 37⟩) (.var 1 ⟨30, 40, 30, 41⟩) ⟨30, 23, 30, 41⟩) (.cst (.int 1) 0 ⟨30, 44, 30, 45⟩) ⟨30, 23, 30, 45⟩) (.var 1 ⟨30, 50, 30, 51⟩) ⟨30, 22, 30, 51⟩)
noncomputable def args_i2d : X := (.cons (.var 0 ⟨43, 14, 43, 15⟩) (.cons (.cst (.int 0) 0 ⟨43, 17, 43, 18⟩) (.cons (.blt .len ⟨43, 20, 43, 23⟩ (.cons (.var 2 ⟨43, 24, 43, 32⟩) .nil) ⟨43, 20, 43, 33⟩) .nil)))
noncomputable abbrev N_i2d : Nms := ⟨nm_int2digits, gcN, gfN⟩
theorem body_i2d : bodyOf "_int2digits" = .Assign [.Name (nmOf nm_int2digits 2) ⟨30, 4, 30, 12⟩] (.BinOp (.List [.Constant (.int 0) 0 ⟨30, 16, 30, 17⟩] ⟨30, 15, 30, 18⟩) .Mult (den N_i2d size_i2d) ⟨30, 15, 30, 52⟩) ⟨30, 4, 30, 52⟩ ::
    .FunctionDef "inner" prm_i2d (denS ⟨nm_int2digits_in, gcN, gfN⟩ st_int2digits_in) [] none [] sc_int2digits_in none "inner" ⟨32, 4, 41, 28⟩ ::
    .If (den N_i2d (.var 0 ⟨42, 7, 42, 8⟩)) [.Expr (.Call (.Name (nmOf nm_int2digits 3) ⟨43, 8, 43, 13⟩) (denL N_i2d args_i2d) [] ⟨43, 8, 43, 34⟩) ⟨43, 8, 43, 34⟩] [] ⟨42, 4, 43, 34⟩ ::
    .Return (some (den N_i2d (.var 2 ⟨44, 11, 44, 19⟩))) ⟨44, 4, 44, 19⟩ :: [] := by rfl
noncomputable def retB : Option Out → Option (List Int)
  | some (.retn l) => some l
  | some (.fall _ (some l)) => some l
  | _ => none
noncomputable def psiN (fs : Sto) : Nat → List AV → List Int → Option (List Int)
  | 0, _, _ => none
  | k + 1, args, l => if args.length = 3 ∧ plainL args = true then retB (runS ⟨gcV, fun _ _ => none⟩ (fun i a l => if i = 99 then psiN fs k a l else none) 1 st_int2digits_in (args.map some ++ fs) (some l)) else none
theorem inWf_i2d : InWf ⟨nm_int2digits_in, gcN, gfN⟩ sc_int2digits_in ps_int2digits_in where
  kind := rfl
  co := rfl
  gen := rfl
  nd := by decide +kernel
  pre := ⟨_, rfl⟩
  par := by decide +kernel
  nocell := by decide +kernel
theorem fnWf_i2d : FnWf N_i2d sc_int2digits ps_int2digits where
  kind := rfl
  co := rfl
  gen := rfl
  nd := by decide +kernel
  pre := ⟨_, rfl⟩
  par := by decide +kernel
  nofree := fun x m => by
    have : ∀ p ∈ sc_int2digits.names, p.2 ≠ NameKind.free := by decide +kernel
    exact this _ m rfl
theorem noCalls {c : Cx} {n : Nat} {F : Nat → Value} : ∀ (i : Nat) (l : List AV) (r : AV), (fun _ _ => none : Nat → List AV → Option AV) i l = some r → CallOK c n (F i) l r := fun _ _ _ h => by cases h
theorem psiN_ok {c : Cx} {f : Value} {clo : List (Str × Addr)} {F' : Nat → Value} {fs : Sto} {D : Addr} (B : Base c gcN gfN gcV) (I : InIs c f sc_int2digits_in ps_int2digits_in (denS ⟨nm_int2digits_in, gcN, gfN⟩ st_int2digits_in) clo) (hf : F' 99 = f) (hF : ∀ i, i < 90 → F' i = c.F i) (ow : Own c D)
    (cap : Capt c D F' True sc_int2digits_in clo (nm_int2digits_in.drop 3) fs) : ∀ (k : Nat) (args : List AV) (l l' : List Int), psiN fs k args l = some l' → EclOK c D (2 * k) f args l l'
  | 0, _, _, _, h => by cases h
  | k + 1, args, l, l', h => by
    unfold psiN at h
    split at h
    · rename_i ha
      have key : ∃ out, runS ⟨gcV, fun _ _ => none⟩ (fun i a l => if i = 99 then psiN fs k a l else none) 1 st_int2digits_in (args.map some ++ fs) (some l) = some out ∧ (out = .retn l' ∨ ∃ ρ', out = .fall ρ' (some l')) := by
        unfold retB at h
        split at h
        · rename_i e; cases h; exact ⟨_, e, .inl rfl⟩
        · rename_i e; cases h; exact ⟨_, e, .inr ⟨_, rfl⟩⟩
        · cases h
      obtain ⟨out, ho, hr⟩ := key
      exact in_box (T := ⟨nm_int2digits_in, gcN, gfN⟩) (n := 2 * k) (G := ⟨gcV, fun _ _ => none⟩) inWf_i2d wf_int2digits_in (by decide +kernel) I rfl ha.1 ha.2 cap hF (B.cx noCalls) ow
        (fun i a l l' h => by
          split at h
          · rename_i e; subst e
            show EclOK c D (2 * k) (F' 99) a l l'
            rw [hf]; exact psiN_ok B I hf hF ow cap k a l l' h
          · cases h) ho hr
    · cases h
theorem Pre.sw {c : Cx} {R : RP} {env : Env} {nm : List Str} {s : Shared} {ρ : Sto} {μ : Option (List Int)} {h : Heap} {D : Addr} (P : Pre c R env nm s ρ μ) (g : Good (sw c h D) s.heap) : Pre (Mine.sw c h D) R env nm s ρ μ := ⟨g, P.er, P.bx, P.fr, P.pd, P.dl, P.ff, P.ci⟩
noncomputable def fsI (n : Int) : Sto := [none, none, none, none, some .box, some (.fn 99), some (.int n)]
set_option maxHeartbeats 2000000
theorem i2d_ok {c : Cx} {f : Value} {z cc : Addr} (B : Base c gcN gfN gcV) (K : TabOk c) (t : IsTab c z cc ⟨32, 4, 41, 28⟩ "_int2digits.<locals>.inner") (I : FnIs c f sc_int2digits ps_int2digits (bodyOf "_int2digits")) (W : FnCode c f cc "_int2digits")
    (k : Nat) (a n : Int) (m : Int) (l' : List Int) (h0 : 0 ≤ m) (h1 : m ≤ 1000) (hm : ev ⟨gcV, fun _ _ => none⟩ none size_i2d [some (.int a), some (.int n), none, none] = some (.int m))
    (h : (a = 0 ∧ l' = List.replicate m.toNat 0) ∨ (a ≠ 0 ∧ psiN (fsI n) k [.int a, .int 0, .int m] (List.replicate m.toNat 0) = some l')) : CallOK c (2 * k + 2) f [.int a, .int n] (.list (l'.map .int)) := by
  intro A E s vs R Q rm g fr rv p
  rw [body_i2d] at I
  refine fn_enter fnWf_i2d I rfl rfl rm g fr rv fun env h₁ tk ok hcd keep fresh F1 E' => ?_
  obtain ⟨a', o, fd, w1, w2, w3, w4, w5⟩ := W.at_
  obtain ⟨c1, c2⟩ := hcd a' o fd w1 w2 w3
  refine step (st_bxm (T := N_i2d) (G := ⟨gcV, fun _ _ => none⟩) (n := 2 * k) fnWf_i2d.nd ok (B.cx noCalls) (Room.deeper rm) F1 ⟨by decide, by decide +kernel, by decide +kernel⟩ (by decide +kernel) hm h0 h1 fun D h2 tk2 hD kb2 F2 => ?_)
  have hD0 : s.heap.get? D = none := by
    cases q : s.heap.get? D with
    | none => rfl
    | some o => have := keep D o q; rw [show h₁.get? D = none from hD] at this; cases this
  have oD := (F2.dc (by simp)).2
  refine nest_ok (T := N_i2d) (i := 3) (ps := ps_int2digits_in) fnWf_i2d.nd ok F2 ⟨by decide, by decide +kernel, by decide +kernel⟩ K t I.lim (c1.trans w4) ?_ ?_ (free_cell (by decide +kernel)) (.inr ⟨_, rfl⟩) oD.gh rfl rfl rfl ?_ ?_ ?_
  · unfold qualnameIn
    rw [kindOf_eq ok, c2, w5]
    decide +kernel
  · intro i a e
    match i with
    | 0 => cases e; exact .inl rfl
    | 1 => cases e; exact .inl rfl
    | 2 => cases e; exact .inr rfl
    | 3 => cases e
    | i + 4 => cases e
  · intro clo doc code ctv vals hv
    obtain ⟨_, _, _, rfl⟩ := len3 hv
    rfl
  · intro x e
    exact mem_of_lookup e
  · intro f h3 tk3 clo kb3 F3 I3 hc1 hc2
    have g3 := F3.P.g
    have cap := capt_of (B := True) (fs := fsI n) (r := nm_int2digits_in.drop 3) ok F3 (fun _ => trivial) (.inr ⟨_, rfl⟩) hc1 hc2 ?_
    · have B3 : Base (sw c h3 D) gcN gfN gcV := B.sw K oD.gh g3
      have ps3 := psiN_ok B3 I3 (F' := (withF (boxR (startR R c) D) (.ref f)).F) rfl (fun i hi => by show (if i = 99 then _ else _) = _; rw [if_neg (by omega)]; rfl) (sw_own oD) cap
      have C3 : CxOk (sw c h3 D) N_i2d ⟨gcV, fun _ _ => none⟩ (2 * k) (withF (boxR (startR R c) D) (.ref f)) := B3.cx noCalls
      have kb : KBP (fun b => b = c.z1 ∨ b = c.z2) s.heap h3 ∧ True := ⟨fun b o nb e => by
        refine kb3 b o (fun w => ?_) (kb2 b o (fun w => ?_) (keep b o e))
        · rcases w with w | w | w | w | ⟨y, w1, w2⟩
          · exact nb (.inl w)
          · exact nb (.inr w)
          · rw [show b = D from w, hD0] at e; cases e
          · exact (fresh b o e).1 w
          · exact (fresh b o e).2 y w2
        · rcases w with w | w | w | w | ⟨y, w1, w2⟩
          · exact nb (.inl w)
          · exact nb (.inr w)
          · exact nb (.inl w)
          · exact (fresh b o e).1 w
          · exact (fresh b o e).2 y w2, trivial⟩
      have fin : ∀ (h5 : Heap) (tk5 : Nat), KBP (fun b => b = c.z1 ∨ b = c.z2 ∨ b = D) h3 h5 → Good (sw c h3 D) h5 → BoxIs (withF (boxR (startR R c) D) (.ref f)) h5 (some l') →
          wpAny (model c.prog c.w) (A.deeper env) (execs [.Return (some (den N_i2d (.var 2 ⟨44, 11, 44, 19⟩))) ⟨44, 4, 44, 19⟩] env) (fun fl s' => Q (match fl with | .ret v => v | _ => .none) s') E' { s with heap := h5, toks := tk5 } := fun h5 tk5 k5 g5 bx5 => by
        have g5c := sw_back K oD.gh g3 g5
        obtain ⟨F5, _⟩ := Frm.boxG (s := { s with heap := h3, toks := tk3 }) (tk := tk5) F3 k5 g5c bx5
        refine step (wpAny_Return_some ?_)
        refine name_ok (c := sw c h3 D) (a := .box) ok (by decide +kernel) g5 (F5.P.er 2 .box _ rfl rfl) fun v h6 tk6 x6 g6 r6 => ?_
        unfold Rel at r6
        obtain ⟨_, rfl⟩ := r6
        have F6 := F5.ext (tk := tk6) (x6 : Ext c h5 h6) (sw_back K oD.gh g3 g6)
        obtain ⟨vs', ⟨q, hv⟩, hi, z⟩ := F6.P.bx l' rfl
        refine p _ h6 tk6 (fun b o n1 n2 e => x6 b o n1 n2 (k5 b o (fun w => ?_) (kb.1 b o (fun w => w.elim n1 n2) e))) (sw_back K oD.gh g3 g6) ?_
        · rcases w with w | w | w
          · exact n1 w
          · exact n2 w
          · rw [w, hD0] at e; cases e
        · unfold Rel
          exact ⟨D, vs', rfl, (F6.dc (by simp)).1, ⟨q, hv⟩, RelL.ints hi, by simpa using z⟩
      refine step (wpAny_If ?_)
      have ht : tv (⟨gcV, fun _ _ => none⟩ : Env0) (some (List.replicate m.toNat 0)) (.var 0 ⟨42, 7, 42, 8⟩) [some (.int a), some (.int n), some .box, some (.fn 99)] = some (a != 0) := rfl
      refine tv_ok (c := sw c h3 D) (T := N_i2d) fnWf_i2d.nd _ (by decide +kernel) ok C3 (Room.deeper rm) (F3.P.sw (sw_good g3)) ht fun h4 tk4 x4 g4 => ?_
      have F4 := F3.ext (tk := tk4) (x4 : Ext c h3 h4) (sw_back K oD.gh g3 g4)
      have e34 : ∀ {hh}, Ext c h3 hh → KBP (fun b => b = c.z1 ∨ b = c.z2 ∨ b = D) h3 hh := fun x b o nb e => x b o (fun w => nb (.inl w)) (fun w => nb (.inr (.inl w))) e
      rcases h with ⟨rfl, rfl⟩ | ⟨hne, hpsi⟩
      · simp only [bne_self_eq_false, Bool.false_eq_true, if_false]
        exact wpAny_execs_nil (fin h4 tk4 (e34 x4) g4 F4.P.bx)
      · have hb : (a != 0) = true := by simpa using hne
        simp only [hb, if_true]
        refine step (wpAny_Expr ?_ (notInter ok) rfl)
        refine Call_ (name_ok (c := sw c h3 D) (a := .fn 99) ok (by decide +kernel) g4 (F4.P.er 3 _ _ rfl rfl) fun v h5 tk5 x5 g5 rv5 => ?_)
        unfold Rel at rv5
        obtain ⟨q, o5, fd5, rfl, _, e1, e2, e3⟩ := rv5
        have fq : ∀ {h' : Heap}, Ext (sw c h3 D) h5 h' → FnAt q h' := fun x => by
          have := x.dat g5 (.inr (.inr ⟨fd5, e2⟩)) e1
          obtain ⟨oc, od, da, sl⟩ := o5
          simp only at e2
          subst e2
          exact ⟨oc, od, fd5, sl, this⟩
        refine args_ok (K := fun h => FnAt q h) (fun h' hf => keeps_F h' hf) ?_
        have F5 := F4.ext (tk := tk5) (x5 : Ext c h4 h5) (sw_back K oD.gh g3 g5)
        have ha : evs (⟨gcV, fun _ _ => none⟩ : Env0) (some (List.replicate m.toNat 0)) args_i2d [some (.int a), some (.int n), some .box, some (.fn 99)] = some [.int a, .int 0, .int m] := by
          have e : ((m.toNat : Nat) : Int) = m := Int.toNat_of_nonneg h0
          show some [AV.int a, .int 0, .int (((List.replicate m.toNat (0:Int)).length : Nat) : Int)] = _
          rw [List.length_replicate, e]
        refine evs_ok (c := sw c h3 D) (T := N_i2d) fnWf_i2d.nd args_i2d (s := { s with heap := h5, toks := tk5 }) (by decide +kernel) ok C3 (Room.deeper rm) (F5.P.sw g5) ha fun vs6 h6 tk6 x6 g6 rv6 => ⟨fq x6, ?_⟩
        have F6 := F5.ext (tk := tk6) (x6 : Ext c h5 h6) (sw_back K oD.gh g3 g6)
        rw [e3]
        refine ps3 k _ _ _ hpsi (A.deeper env) E' { s with heap := h6, toks := tk6 } vs6 _ _ (Room.weak (Room.deeper rm)) g6 F6.P.fr rfl F6.P.pd rv6 F6.P.bx fun h7 tk7 k7 g7 bx7 => ?_
        refine wpAny_execs_nil (fin h7 tk7 ?_ g7 bx7)
        exact ((e34 ((x4 : Ext c h3 h4).trans ((x5 : Ext c h4 h5).trans (x6 : Ext c h5 h6)))).trans k7)
    · intro i a x e1 e2
      match i with
      | 0 => cases e1
      | 1 => cases e1
      | 2 => cases e1
      | 3 => cases e1
      | 4 => cases e1; cases e2; exact ⟨by decide +kernel, by decide +kernel, by decide +kernel, 2, rfl, rfl⟩
      | 5 => cases e1; cases e2; exact ⟨by decide +kernel, by decide +kernel, by decide +kernel, 3, rfl, rfl⟩
      | 6 => cases e1; cases e2; exact ⟨by decide +kernel, by decide +kernel, by decide +kernel, 1, rfl, rfl⟩
      | i + 7 => cases e1
end Mine
end TextE7

section TextH2
open PySem PySem.W PyProof.Rows PySem.Calls PySem.Spec
namespace Mine
noncomputable def cxOf (w : World) (h : Heap) (mg mb : Str → Option Value) : Cx := { prog := PySem.Challenge.rw_sr0043_01.row.prog, w, gh := ghostOf h tbs, mg, mb, z1 := 30, c1 := 34, p1 := ⟨32, 4, 41, 28⟩, q1 := "_int2digits.<locals>.inner", z2 := 37, c2 := 41, p2 := ⟨47, 4, 52, 55⟩, q2 := "_digits2int.<locals>.inner", F := fun i => (mg (nmOf gfN i)).getD .none }
structure RecIs (name : Str) (sc : Scope) (ps : List Str) (body : List Stmt) : Prop where
  ex : ∃ prm pos, (⟨name, prm, body, sc, pos⟩ : DefRec) ∈ recsOf vw ∧ ∀ pm cd doc vals, vals.length = ps.length → bindArgs (docDef name prm body sc pm cd doc) ⟨vals, []⟩ = pure (ps.zip vals)
theorem rec0 : RecIs "_div2n1n" sc_div2n1n ps_div2n1n (bodyOf "_div2n1n") := ⟨_, _, List.mem_of_getElem? (i := 0) rfl, fun _ _ _ vals hv => by obtain ⟨_, _, _, rfl⟩ := len3 hv; rfl⟩
theorem rec1 : RecIs "_int2digits" sc_int2digits ps_int2digits (bodyOf "_int2digits") := ⟨_, _, List.mem_of_getElem? (i := 2) rfl, fun _ _ _ vals hv => by obtain ⟨_, _, rfl⟩ := len2 hv; rfl⟩
theorem rec2 : RecIs "_digits2int" sc_digits2int ps_digits2int (bodyOf "_digits2int") := ⟨_, _, List.mem_of_getElem? (i := 3) rfl, fun _ _ _ vals hv => by obtain ⟨_, _, rfl⟩ := len2 hv; rfl⟩
theorem rec3 : RecIs "_divmod_pos" sc_divmod_pos ps_divmod_pos (bodyOf "_divmod_pos") := ⟨_, _, List.mem_of_getElem? (i := 4) rfl, fun _ _ _ vals hv => by obtain ⟨_, _, rfl⟩ := len2 hv; rfl⟩
theorem rec4 : RecIs "Int2AP" sc_Int2AP ps_Int2AP (bodyOf "Int2AP") := ⟨_, _, List.mem_of_getElem? (i := 5) rfl, fun _ _ _ vals hv => by obtain ⟨_, rfl⟩ := len1 hv; rfl⟩
theorem rec5 : RecIs "_substitution_cost" sc_substitution_cost ps_substitution_cost (bodyOf "_substitution_cost") := ⟨_, _, List.mem_of_getElem? (i := 6) rfl, fun _ _ _ vals hv => by obtain ⟨_, _, rfl⟩ := len2 hv; rfl⟩
theorem rec6 : RecIs "_levenshtein_distance" sc_levenshtein_distance ps_levenshtein_distance (bodyOf "_levenshtein_distance") := ⟨_, _, List.mem_of_getElem? (i := 7) rfl, fun _ _ _ vals hv => by obtain ⟨_, _, _, rfl⟩ := len3 hv; rfl⟩
theorem rec7 : RecIs "_law_table" sc_law_table ps_law_table (bodyOf "_law_table") := ⟨_, _, List.mem_of_getElem? (i := 8) rfl, fun _ _ _ vals hv => by obtain ⟨_, _, rfl⟩ := len2 hv; rfl⟩
theorem rec8 : RecIs "_law_letters" sc_law_letters ps_law_letters (bodyOf "_law_letters") := ⟨_, _, List.mem_of_getElem? (i := 9) rfl, fun _ _ _ vals hv => by obtain ⟨_, _, rfl⟩ := len2 hv; rfl⟩
theorem rec9 : RecIs "_law_distances" sc_law_distances ps_law_distances (bodyOf "_law_distances") := ⟨_, _, List.mem_of_getElem? (i := 10) rfl, fun _ _ _ vals hv => by obtain ⟨_, _, _, rfl⟩ := len3 hv; rfl⟩
theorem rec10 : RecIs "_law_least" sc_law_least ps_law_least (bodyOf "_law_least") := ⟨_, _, List.mem_of_getElem? (i := 11) rfl, fun _ _ _ vals hv => by obtain ⟨_, rfl⟩ := len1 hv; rfl⟩
theorem rec11 : RecIs "_law_depths" sc_law_depths ps_law_depths (bodyOf "_law_depths") := ⟨_, _, List.mem_of_getElem? (i := 12) rfl, fun _ _ _ vals hv => by obtain ⟨_, _, _, rfl⟩ := len3 hv; rfl⟩
theorem rec12 : RecIs "law" sc_law ps_law (bodyOf "law") := ⟨_, _, List.mem_of_getElem? (i := 13) rfl, fun _ _ _ vals hv => by obtain ⟨_, rfl⟩ := len1 hv; rfl⟩

section
variable {w : World} {h : Heap} {mg mb : Str → Option Value} {mean : ExcName → Option Value} {loose : List Str}
theorem ghost_rec {h : Heap} {tabs : List (Addr × Addr)} (hT : TabsAt tabs h) {cd : Value} {q : Str} (x : h.CodeRec cd q) : (ghostOf h tabs).CodeRec cd q := by
  obtain ⟨d, o, vs, t, e1, e2, e3, e4⟩ := x
  exact ⟨d, o, vs, t, e1, ghost_get hT e2 (fun q => by subst q; cases e3; simp at e4), e3, e4⟩
theorem fnIs_of (hT : TabsAt tbs h) (T : Top vw loose mean mg mb h) {name : Str} {sc : Scope} {ps : List Str} {body : List Stmt} (r : RecIs name sc ps body) :
    ∃ a o fd, mg name = some (.ref a) ∧ h.get? a = some o ∧ o.data = .func fd ∧ fd.qualname = name ∧ FnIs (cxOf w h mg mb) (.ref a) sc ps body ∧ (ghostOf h tbs).get? a = some o := by
  obtain ⟨prm, pos, hm, hb⟩ := r.ex
  obtain ⟨a, o, pm, code, doc, h1, h2, h3, h4⟩ := T.fn _ hm
  have hg : (ghostOf h tbs).get? a = some o := ghost_get hT h2 (fun q => by subst q; cases h3)
  exact ⟨a, o, _, h1, h2, h3, rfl, ⟨⟨a, o, _, rfl, hg, h3, rfl, rfl, rfl, rfl, rfl, ghost_rec hT h4, fun vals hv => hb pm code doc vals hv⟩, (ghost_top hT T).nolimit⟩, hg⟩
theorem recs_all : ∀ (i : Nat) (x : Str), gfN[i]? = some x → ∃ sc ps body, RecIs x sc ps body
  | 0, _, e => by cases e; exact ⟨_, _, _, rec0⟩
  | 1, _, e => by cases e; exact ⟨_, _, _, rec1⟩
  | 2, _, e => by cases e; exact ⟨_, _, _, rec2⟩
  | 3, _, e => by cases e; exact ⟨_, _, _, rec3⟩
  | 4, _, e => by cases e; exact ⟨_, _, _, rec4⟩
  | 5, _, e => by cases e; exact ⟨_, _, _, rec5⟩
  | 6, _, e => by cases e; exact ⟨_, _, _, rec6⟩
  | 7, _, e => by cases e; exact ⟨_, _, _, rec7⟩
  | 8, _, e => by cases e; exact ⟨_, _, _, rec8⟩
  | 9, _, e => by cases e; exact ⟨_, _, _, rec9⟩
  | 10, _, e => by cases e; exact ⟨_, _, _, rec10⟩
  | 11, _, e => by cases e; exact ⟨_, _, _, rec11⟩
  | i + 12, _, e => by cases e
theorem nm_gf {i : Nat} {x : Str} (e : gfN[i]? = some x) : nmOf gfN i = x := by unfold nmOf; rw [e]; rfl
theorem fn_at (hT : TabsAt tbs h) (T : Top vw loose mean mg mb h) {i : Nat} {x : Str} {sc : Scope} {ps : List Str} {body : List Stmt} (e : gfN[i]? = some x) (r : RecIs x sc ps body) : FnIs (cxOf w h mg mb) ((cxOf w h mg mb).F i) sc ps body := by
  obtain ⟨a, o, fd, h1, h2, h3, h4, h5, h6⟩ := fnIs_of (w := w) hT T r
  have : (cxOf w h mg mb).F i = .ref a := by show (mg (nmOf gfN i)).getD .none = _; rw [nm_gf e, h1]; rfl
  rw [this]; exact h5
theorem const_int (T : Top vw loose mean mg mb h) {x : Str} {k : Int} (e : valOf vw x = some (.int k)) : ∃ v, mg x = some v ∧ ∀ (R : RP) (h : Heap), Rel R h (.int k) v := by
  obtain ⟨v, h1, h2⟩ := T.const x _ e
  refine ⟨v, h1, fun R h => ?_⟩
  have := h2 h
  cases this
  exact rel_int
theorem free_name (T : Top vw (looseW vw []) mean mg mb h) (x : Str) (e : (decide (x ∉ startupNames) && decide (x ∉ looseW vw []) && decide (x ∉ (recsOf vw).map (·.name)) && decide (x ∉ (litsOf vw).map (·.1)) && decide (x ∉ (clssOf vw (looseW vw [])).map (·.name))) = true) : mg x = none := by
  simp only [Bool.and_eq_true, decide_eq_true_eq] at e
  exact T.free x e.1.1.1.1 e.1.1.1.2 e.1.1.2 e.1.2 e.2
theorem free_blt (b : Blt) : (decide (b.name ∉ startupNames) && decide (b.name ∉ looseW vw []) && decide (b.name ∉ (recsOf vw).map (·.name)) && decide (b.name ∉ (litsOf vw).map (·.1)) && decide (b.name ∉ (clssOf vw (looseW vw [])).map (·.name))) = true := by
  cases b <;> decide +kernel
theorem base_of (hT : TabsAt tbs h) (T : Top vw (looseW vw []) mean mg mb h) : Base (cxOf w h mg mb) gcN gfN gcV where
  ng := ghost_ns hT T.g
  nb := ghost_ns hT T.b
  hgc := fun i a x e1 e2 => by
    match i with
    | 0 => cases e1; cases e2; exact const_int T (by rfl)
    | 1 => cases e1; cases e2; exact const_int T (by rfl)
    | 2 => cases e1; cases e2; exact const_int T (by rfl)
    | 3 => cases e1; cases e2; exact const_int T (by rfl)
    | i + 4 => cases e1
  hgf := fun i x e => by
    obtain ⟨sc, ps, body, r⟩ := recs_all i x e
    obtain ⟨a, o, fd, h1, h2, h3, h4, h5, h6⟩ := fnIs_of (w := w) hT T r
    have : (cxOf w h mg mb).F i = .ref a := by show (mg (nmOf gfN i)).getD .none = _; rw [nm_gf e, h1]; rfl
    rw [this]
    exact ⟨h1, a, o, fd, rfl, h6, h3⟩
  hbl := fun b => ⟨free_name T b.name (free_blt b), (T.builtins b.name (by cases b <;> decide)).trans (by cases b <;> rfl)⟩
theorem tab_of (hT : TabsAt tbs h) (T : Top vw (looseW vw []) mean mg mb h) : TabOk (cxOf w h mg mb) := by
  obtain ⟨bm, ob, b1, b2, b3, b4, b5, b6⟩ := T.bmain
  have nt : ∀ q ∈ tbs, bm ≠ q.2 := fun q hq e => by
    have := (hT q hq).2
    rw [← e, b3] at this; cases this; cases b4
  have hg : (ghostOf h tbs).get? bm = some ob := ghost_get hT b3 (fun q => by subst q; cases b4)
  have nG : bm ≠ mainGlobals := fun e => by
    obtain ⟨o, es, ep, e1, d, _⟩ := T.g
    rw [← e, b3] at e1; cases e1; rw [b6] at d; cases d
  exact {
    n12 := by show (30 : Nat) ≠ 37; decide
    g1 := hideAll_none _ (by show (30 : Nat) ∈ ([30, 37] : List Nat); decide)
    g2 := hideAll_none _ (by show (37 : Nat) ∈ ([30, 37] : List Nat); decide)
    b1 := ⟨bm, ob, b1, b2, nG, nt (34, 30) (by simp), hg, b4, b5, b6⟩
    b2 := ⟨bm, ob, b1, b2, nG, nt (41, 37) (by simp), hg, b4, b5, b6⟩
    ng := ghost_ns hT T.g }
theorem good_of (hT : TabsAt tbs h) : Good (cxOf w h mg mb) h where
  keep := fun b o e => of_hideAll _ e
  t1 := ⟨(hT (34, 30) (by simp)).1, .inl (hT (34, 30) (by simp)).2⟩
  t2 := ⟨(hT (41, 37) (by simp)).1, .inl (hT (41, 37) (by simp)).2⟩
theorem code_i2d {K : Frag} (m : Makers h K) (hT : TabsAt tbs h) (T : Top vw (looseW vw []) mean mg mb h) : FnCode (cxOf w h mg mb) ((cxOf w h mg mb).F 1) 34 "_int2digits" := by
  obtain ⟨a, o, fd, h1, h2, h3, h4, h5, h6⟩ := fnIs_of (w := w) hT T rec1
  have : (cxOf w h mg mb).F 1 = .ref a := by show (mg (nmOf gfN 1)).getD .none = _; rw [nm_gf (x := "_int2digits") rfl, h1]; rfl
  rw [this]
  exact ⟨a, o, fd, rfl, h6, h3, law_code (x := "_int2digits") (c := 34) (P := 30) m.In T.g m.chk.1.2 h1 h2 h3, h4⟩
theorem code_d2i {K : Frag} (m : Makers h K) (hT : TabsAt tbs h) (T : Top vw (looseW vw []) mean mg mb h) : FnCode (cxOf w h mg mb) ((cxOf w h mg mb).F 2) 41 "_digits2int" := by
  obtain ⟨a, o, fd, h1, h2, h3, h4, h5, h6⟩ := fnIs_of (w := w) hT T rec2
  have : (cxOf w h mg mb).F 2 = .ref a := by show (mg (nmOf gfN 2)).getD .none = _; rw [nm_gf (x := "_digits2int") rfl, h1]; rfl
  rw [this]
  exact ⟨a, o, fd, rfl, h6, h3, law_code (x := "_digits2int") (c := 41) (P := 37) m.In T.g m.chk.2 h1 h2 h3, h4⟩
end
end Mine
end TextH2

section TextH3
open PySem PySem.W PyProof.Rows PySem.Calls PySem.Spec
namespace Mine
structure Wld (c : Cx) : Prop where
  base : Base c gcN gfN gcV
  tab : TabOk c
  t1 : IsTab c 30 34 ⟨32, 4, 41, 28⟩ "_int2digits.<locals>.inner"
  t2 : IsTab c 37 41 ⟨47, 4, 52, 55⟩ "_digits2int.<locals>.inner"
  k1 : FnCode c (c.F 1) 34 "_int2digits"
  k2 : FnCode c (c.F 2) 41 "_digits2int"
  f0 : FnIs c (c.F 0) sc_div2n1n ps_div2n1n (bodyOf "_div2n1n")
  f1 : FnIs c (c.F 1) sc_int2digits ps_int2digits (bodyOf "_int2digits")
  f2 : FnIs c (c.F 2) sc_digits2int ps_digits2int (bodyOf "_digits2int")
  f3 : FnIs c (c.F 3) sc_divmod_pos ps_divmod_pos (bodyOf "_divmod_pos")
  f4 : FnIs c (c.F 4) sc_Int2AP ps_Int2AP (bodyOf "Int2AP")
  f5 : FnIs c (c.F 5) sc_substitution_cost ps_substitution_cost (bodyOf "_substitution_cost")
  f6 : FnIs c (c.F 6) sc_levenshtein_distance ps_levenshtein_distance (bodyOf "_levenshtein_distance")
  f7 : FnIs c (c.F 7) sc_law_table ps_law_table (bodyOf "_law_table")
  f8 : FnIs c (c.F 8) sc_law_letters ps_law_letters (bodyOf "_law_letters")
  f9 : FnIs c (c.F 9) sc_law_distances ps_law_distances (bodyOf "_law_distances")
  f10 : FnIs c (c.F 10) sc_law_least ps_law_least (bodyOf "_law_least")
  f11 : FnIs c (c.F 11) sc_law_depths ps_law_depths (bodyOf "_law_depths")
noncomputable def LawC (c : Cx) (f : Value) (ns : List Int) : Prop := ∀ (A : Around) (s : Shared) (vs : List Value) (R : RP) (Q : Result → Shared → Prop), Room A 60 → Good c s.heap → (∀ l, s.heap.get? l = none → R.P l) →
  RelL R s.heap [.ints ns] vs → Post c R s (.bool true) (fun v s' => Q (.ok (.ret v)) s') → codeAny (model c.prog c.w) A (.call f ⟨vs, []⟩) Q s
end Mine
set_option maxHeartbeats 8000000
theorem Mine.holds_p (main : ∀ (c : Mine.Cx), Mine.Wld c → ∀ f, Mine.FnIs c f Mine.sc_law Mine.ps_law (Mine.bodyOf "law") → ∀ ns : List Int, ns.length ≤ 63 → Mine.LawC c f ns) : PySem.Challenge.rw_sr0043_01.Holds := by
  w_on
  refine holds_law Mine.said fun said => ?_
  refine holds_open (q := Mine.vw) (loose := []) (Xt := Mine.seenXt) (XP := XL Mine.vw []) (Yf := Mine.hook.obs) (Ya := Mine.hook.val) (YP := Mine.hook.says) (N := 1146) Mine.left (Hook.of Mine.hook) (Hook.keeps Mine.hook) (fun s e => xl_of s (Bool.and_eq_true_iff.mp e).1) XL.keeps (by rfl) (by rfl) (by rfl) (fun s e => recFacts_of (Bool.and_eq_true_iff.mp e).2) (by rfl) said (by decide +kernel) ⟨rfl, rfl, rfl, rfl, rfl, by decide +kernel⟩ ?hw ?hc
  case hw => w_witness2
  intro w s₀ s₁ mg mb G Y fa o pm cd doc dV kV ho hd hcd hD hmg hg args vals as hpre hlay hrd hwl hlo
  obtain ⟨K, mk⟩ := Y
  have hT9 := mk.tabs
  have X := (Ground.X G).1
  refine Ground.open G ?_
  intro T B D TE TW
  clear X
  wrow_args hpre hlay hrd hwl hlo
  rename_i ns _ _ _ _ _ _ _ l vs _ hL _ _ _ hI _ hc _
  refine enter_call (kn_post hT9 (fun _ _ => rfl) ?_)
  obtain ⟨a', o', fd', h1, h2, h3, h4, h5, h6⟩ := Mine.fnIs_of (w := w) hT9 T Mine.rec12
  have ea : a' = fa := by
    have e : mg "law" = some (.ref fa) := hmg
    rw [h1] at e; cases e; rfl
  subst ea
  have W : Mine.Wld (Mine.cxOf w s₁.heap mg mb) := {
    base := Mine.base_of hT9 T
    tab := Mine.tab_of hT9 T
    t1 := .inl ⟨rfl, rfl, rfl, rfl⟩
    t2 := .inr ⟨rfl, rfl, rfl, rfl⟩
    k1 := Mine.code_i2d mk hT9 T
    k2 := Mine.code_d2i mk hT9 T
    f0 := Mine.fn_at hT9 T rfl Mine.rec0
    f1 := Mine.fn_at hT9 T rfl Mine.rec1
    f2 := Mine.fn_at hT9 T rfl Mine.rec2
    f3 := Mine.fn_at hT9 T rfl Mine.rec3
    f4 := Mine.fn_at hT9 T rfl Mine.rec4
    f5 := Mine.fn_at hT9 T rfl Mine.rec5
    f6 := Mine.fn_at hT9 T rfl Mine.rec6
    f7 := Mine.fn_at hT9 T rfl Mine.rec7
    f8 := Mine.fn_at hT9 T rfl Mine.rec8
    f9 := Mine.fn_at hT9 T rfl Mine.rec9
    f10 := Mine.fn_at hT9 T rfl Mine.rec10
    f11 := Mine.fn_at hT9 T rfl Mine.rec11 }
  have hz : ns.length ≤ 63 := by omega
  refine main _ W _ h5 ns hz callerA s₁ [.ref l] { P := fun _ => True, D := 30, F := (Mine.cxOf w s₁.heap mg mb).F, B := False } _ ⟨?_, ?_, ?_⟩ (Mine.good_of hT9) (fun _ _ => trivial) ?_ ?_
  · rfl
  · decide
  · decide
  · refine Mine.RelL.one ?_
    unfold Mine.Rel
    exact ⟨l, vs, rfl, trivial, hL, hI, Nat.le_trans hz (by decide)⟩
  · intro v h' tk x g' r
    have rv := r.b
    subst rv
    refine ⟨⟨.inl ⟨_, .bool true, [], rfl, fun _ => rfl, ReadsW.bool true, ?_, ?_⟩, fun b o e => ?_, rfl, ?_⟩, ?_⟩
    · exact postW_of (by wrow_shape) (w_eq_bool (k := true) (l := true) (w_res rfl) w_lit) rfl
    · intro _; exact ⟨List.nodup_nil, fun a h => by cases h⟩
    · exact g'.keep b o e
    · exact hg
    · exact ⟨g'.t1.at, g'.t2.at, trivial⟩
end TextH3

section TextP1
open PySem PySem.W PyProof.Rows PySem.Calls PySem.Spec
namespace Mine
noncomputable def retP : Option Out → Option AV
  | some (.ret r) => if plain r = true then some r else none
  | _ => none
theorem retP_some {o : Option Out} {r : AV} (h : retP o = some r) : o = some (.ret r) ∧ plain r = true := by
  unfold retP at h
  split at h
  · split at h
    · cases h; exact ⟨rfl, by assumption⟩
    · cases h
  · cases h
noncomputable abbrev noΨ : Nat → List AV → List Int → Option (List Int) := fun _ _ _ => none
noncomputable abbrev noΦ : Nat → List AV → Option AV := fun _ _ => none
noncomputable def goF (Φ : Nat → List AV → Option AV) (nm ps : List Str) (st : S) (args : List AV) : Option AV :=
  if args.length = ps.length ∧ plainL args = true then retP (runS ⟨gcV, Φ⟩ noΨ 20 st (args.map some ++ List.replicate (nm.length - ps.length) none) none) else none
noncomputable def φ0 : List AV → Option AV := goF noΦ nm_div2n1n ps_div2n1n st_div2n1n
noncomputable def φ1 : List AV → Option AV
  | [.int a, .int n] => match ev ⟨gcV, noΦ⟩ none size_i2d [some (.int a), some (.int n), none, none] with
    | some (.int m) => if 0 ≤ m ∧ m ≤ 1000 then (if a = 0 then some (.list ((List.replicate m.toNat (0 : Int)).map .int)) else match psiN (fsI n) 8 [.int a, .int 0, .int m] (List.replicate m.toNat 0) with
      | some l => some (.list (l.map .int))
      | none => none) else none
    | _ => none
  | _ => none
noncomputable def φ2 : List AV → Option AV
  | [l, .int n] => if plain l = true then (match outD 8 l n with
    | some (.int r) => some (.int r)
    | _ => none) else none
  | _ => none
noncomputable def φ4 : List AV → Option AV := goF noΦ nm_Int2AP ps_Int2AP st_Int2AP
noncomputable def φ5 : List AV → Option AV := goF noΦ nm_substitution_cost ps_substitution_cost st_substitution_cost
noncomputable def φ7 : List AV → Option AV := goF noΦ nm_law_table ps_law_table st_law_table
noncomputable def φ8 : List AV → Option AV := goF noΦ nm_law_letters ps_law_letters st_law_letters
noncomputable def φ10 : List AV → Option AV := goF noΦ nm_law_least ps_law_least st_law_least
noncomputable def Φ6 : Nat → List AV → Option AV
  | 5 => φ5
  | _ => fun _ => none
noncomputable def φ6 : List AV → Option AV := goF Φ6 nm_levenshtein_distance ps_levenshtein_distance st_levenshtein_distance
noncomputable def Φ3 : Nat → List AV → Option AV
  | 0 => φ0
  | 1 => φ1
  | 2 => φ2
  | _ => fun _ => none
noncomputable def φ3 : List AV → Option AV := goF Φ3 nm_divmod_pos ps_divmod_pos st_divmod_pos
noncomputable def Φ9 : Nat → List AV → Option AV
  | 2 => φ2
  | 4 => φ4
  | 6 => φ6
  | 8 => φ8
  | _ => fun _ => none
noncomputable def φ9 : List AV → Option AV := goF Φ9 nm_law_distances ps_law_distances st_law_distances
noncomputable def Φ11 : Nat → List AV → Option AV
  | 3 => φ3
  | 9 => φ9
  | 10 => φ10
  | _ => fun _ => none
noncomputable def φ11 : List AV → Option AV := goF Φ11 nm_law_depths ps_law_depths st_law_depths
noncomputable def Φ12 : Nat → List AV → Option AV
  | 2 => φ2
  | 7 => φ7
  | 11 => φ11
  | _ => fun _ => none
noncomputable def lawRun (ns : List Int) : Option Out := runS ⟨gcV, Φ12⟩ noΨ 20 st_law ([AV.ints ns].map some ++ List.replicate (nm_law.length - ps_law.length) none) none

theorem goF_ok {c : Cx} (W : Wld c) {n : Nat} {Φ : Nat → List AV → Option AV} {nm ps : List Str} {st : S} {sc : Scope} {f : Value} {body : List Stmt} (F : FnIs c f sc ps body) (hd : denS ⟨nm, gcN, gfN⟩ st = body) (wf : FnWf ⟨nm, gcN, gfN⟩ sc ps) (ws : wfS ⟨nm, gcN, gfN⟩ sc st = true)
    (hc : ∀ i l r, Φ i l = some r → CallOK c n (c.F i) l r) {args : List AV} {r : AV} (h : goF Φ nm ps st args = some r) : CallOK c (n + 2) f args r := by
  unfold goF at h
  split at h
  · rename_i ha
    obtain ⟨h1, h2⟩ := retP_some h
    subst hd
    exact fn_ok (T := ⟨nm, gcN, gfN⟩) wf ws F ha.1 (fun R hR => W.base.cx fun i l r e => by rw [hR]; exact hc i l r e) ha.2 h2 h1
  · cases h
theorem wf_mk {nm ps : List Str} {sc : Scope} (h1 : (decide (sc.kind = .function) && !sc.isCoroutine && !sc.isGenerator && nodupB nm && decide (nm.take ps.length = ps) && ps.all (fun x => decide (sc.names.lookup x = some .local) || decide (sc.names.lookup x = some .cell)) && sc.names.all (fun p => p.2 != .free)) = true) : FnWf ⟨nm, gcN, gfN⟩ sc ps := by
  simp only [Bool.and_eq_true, decide_eq_true_eq, Bool.not_eq_true', List.all_eq_true, Bool.or_eq_true, bne_iff_ne, ne_eq] at h1
  obtain ⟨⟨⟨⟨⟨⟨a, b⟩, c⟩, d⟩, e⟩, f⟩, g⟩ := h1
  exact ⟨a, b, c, d, ⟨nm.drop ps.length, by show nm = ps ++ _; conv => rhs; lhs; rw [← e]
                                            exact (List.take_append_drop _ _).symm⟩, f, fun x m => g _ m rfl⟩
section
variable {c : Cx} (W : Wld c)
include W
theorem noΦ_ok {n : Nat} : ∀ (i : Nat) (l : List AV) (r : AV), noΦ i l = some r → CallOK c n (c.F i) l r := fun _ _ _ h => by cases h
theorem φ0_ok {l : List AV} {r : AV} (h : φ0 l = some r) : CallOK c 2 (c.F 0) l r := goF_ok W W.f0 den_div2n1n (wf_mk (by decide +kernel)) wf_div2n1n (noΦ_ok W) h
theorem φ1_ok {l : List AV} {r : AV} (h : φ1 l = some r) : CallOK c 18 (c.F 1) l r := by
  unfold φ1 at h
  split at h
  · split at h
    · rename_i m hm
      split at h
      · rename_i hz
        split at h
        · rename_i h0
          cases h
          exact i2d_ok W.base W.tab W.t1 W.f1 W.k1 8 _ _ m _ hz.1 hz.2 hm (.inl ⟨h0, rfl⟩)
        · rename_i h0
          split at h
          · rename_i l' hl
            cases h
            exact i2d_ok W.base W.tab W.t1 W.f1 W.k1 8 _ _ m _ hz.1 hz.2 hm (.inr ⟨h0, hl⟩)
          · cases h
      · cases h
    · cases h
  · cases h
theorem φ2_ok {l : List AV} {r : AV} (h : φ2 l = some r) : CallOK c 18 (c.F 2) l r := by
  unfold φ2 at h
  split at h
  · split at h
    · split at h
      · cases h
        exact d2i_ok W.base W.tab W.t2 W.f2 W.k2 8 _ _ _ (by assumption) (by assumption)
      · cases h
    · cases h
  · cases h
theorem φ4_ok {l : List AV} {r : AV} (h : φ4 l = some r) : CallOK c 2 (c.F 4) l r := goF_ok W W.f4 den_Int2AP (wf_mk (by decide +kernel)) wf_Int2AP (noΦ_ok W) h
theorem φ5_ok {l : List AV} {r : AV} (h : φ5 l = some r) : CallOK c 2 (c.F 5) l r := goF_ok W W.f5 den_substitution_cost (wf_mk (by decide +kernel)) wf_substitution_cost (noΦ_ok W) h
theorem φ7_ok {l : List AV} {r : AV} (h : φ7 l = some r) : CallOK c 2 (c.F 7) l r := goF_ok W W.f7 den_law_table (wf_mk (by decide +kernel)) wf_law_table (noΦ_ok W) h
theorem φ8_ok {l : List AV} {r : AV} (h : φ8 l = some r) : CallOK c 2 (c.F 8) l r := goF_ok W W.f8 den_law_letters (wf_mk (by decide +kernel)) wf_law_letters (noΦ_ok W) h
theorem φ10_ok {l : List AV} {r : AV} (h : φ10 l = some r) : CallOK c 2 (c.F 10) l r := goF_ok W W.f10 den_law_least (wf_mk (by decide +kernel)) wf_law_least (noΦ_ok W) h
theorem φ6_ok {l : List AV} {r : AV} (h : φ6 l = some r) : CallOK c 4 (c.F 6) l r := goF_ok W W.f6 den_levenshtein_distance (wf_mk (by decide +kernel)) wf_levenshtein_distance (fun i l r e => by
  unfold Φ6 at e
  split at e
  · exact φ5_ok W e
  · cases e) h
theorem φ3_ok {l : List AV} {r : AV} (h : φ3 l = some r) : CallOK c 20 (c.F 3) l r := goF_ok W W.f3 den_divmod_pos (wf_mk (by decide +kernel)) wf_divmod_pos (fun i l r e => by
  unfold Φ3 at e
  split at e
  · exact (φ0_ok W e).mono (by omega)
  · exact φ1_ok W e
  · exact φ2_ok W e
  · cases e) h
theorem φ9_ok {l : List AV} {r : AV} (h : φ9 l = some r) : CallOK c 20 (c.F 9) l r := goF_ok W W.f9 den_law_distances (wf_mk (by decide +kernel)) wf_law_distances (fun i l r e => by
  unfold Φ9 at e
  split at e
  · exact φ2_ok W e
  · exact (φ4_ok W e).mono (by omega)
  · exact (φ6_ok W e).mono (by omega)
  · exact (φ8_ok W e).mono (by omega)
  · cases e) h
theorem φ11_ok {l : List AV} {r : AV} (h : φ11 l = some r) : CallOK c 22 (c.F 11) l r := goF_ok W W.f11 den_law_depths (wf_mk (by decide +kernel)) wf_law_depths (fun i l r e => by
  unfold Φ11 at e
  split at e
  · exact φ3_ok W e
  · exact φ9_ok W e
  · exact (φ10_ok W e).mono (by omega)
  · cases e) h
theorem Φ12_ok (i : Nat) (l : List AV) (r : AV) (e : Φ12 i l = some r) : CallOK c 22 (c.F i) l r := by
  unfold Φ12 at e
  split at e
  · exact (φ2_ok W e).mono (by omega)
  · exact (φ7_ok W e).mono (by omega)
  · exact φ11_ok W e
  · cases e
end
theorem law_main (plan : ∀ ns : List Int, ns.length ≤ 63 → lawRun ns = some (.ret (.bool true))) (c : Cx) (W : Wld c) (f : Value) (F : FnIs c f sc_law ps_law (bodyOf "law")) (ns : List Int) (hz : ns.length ≤ 63) : LawC c f ns := by
  intro A s vs R Q rm g fr rv p
  rw [← den_law] at F
  exact fn_okC (T := ⟨nm_law, gcN, gfN⟩) (n := 22) (G := ⟨gcV, Φ12⟩) (r := .bool true) (fuel := 20) (wf_mk (by decide +kernel)) wf_law F rfl (fun R hR => W.base.cx fun i l r e => by rw [hR]; exact Φ12_ok W i l r e) rfl rfl (plan ns hz) ⟨rm.hd, by have := rm.dp; omega, by have := rm.un; omega⟩ g fr rv p
end Mine
theorem Mine.holds_pp (plan : ∀ ns : List Int, ns.length ≤ 63 → Mine.lawRun ns = some (.ret (.bool true))) : PySem.Challenge.rw_sr0043_01.Holds :=
  Mine.holds_p fun c W f F ns hz => Mine.law_main plan c W f F ns hz
end TextP1

section TextP2
open PySem PySem.W PyProof.Rows PySem.Calls PySem.Spec
namespace Mine
mutual
noncomputable def eqAV : AV → AV → Bool
  | .none, .none => true
  | .bool a, .bool b => a == b
  | .int a, .int b => a == b
  | .str x, .str y => x == y
  | .byt a, .byt b => a == b
  | .ints a, .ints b => a == b
  | .list a, .list b => eqAVs a b
  | .tup a, .tup b => eqAVs a b
  | _, _ => false
noncomputable def eqAVs : List AV → List AV → Bool
  | [], [] => true
  | a :: r, b :: q => eqAV a b && eqAVs r q
  | _, _ => false
end
mutual
theorem eqAV_eq : ∀ (a b : AV), eqAV a b = true → a = b
  | .none, b, h => by cases b <;> first | rfl | exact Bool.noConfusion h
  | .bool _, b, h => by cases b <;> first | exact Bool.noConfusion h | exact congrArg AV.bool (eq_of_beq h)
  | .int _, b, h => by cases b <;> first | exact Bool.noConfusion h | exact congrArg AV.int (eq_of_beq h)
  | .str _, b, h => by cases b <;> first | exact Bool.noConfusion h | exact congrArg AV.str (eq_of_beq h)
  | .byt _, b, h => by cases b <;> first | exact Bool.noConfusion h | exact congrArg AV.byt (eq_of_beq h)
  | .ints _, b, h => by cases b <;> first | exact Bool.noConfusion h | exact congrArg AV.ints (eq_of_beq h)
  | .range .., b, h => Bool.noConfusion h
  | .box, b, h => Bool.noConfusion h
  | .fn _, b, h => Bool.noConfusion h
  | .list a, b, h => by cases b <;> first | exact Bool.noConfusion h | exact congrArg AV.list (eqAVs_eq a _ h)
  | .tup a, b, h => by cases b <;> first | exact Bool.noConfusion h | exact congrArg AV.tup (eqAVs_eq a _ h)
theorem eqAVs_eq : ∀ (a b : List AV), eqAVs a b = true → a = b
  | [], [], _ => rfl
  | [], _ :: _, h => Bool.noConfusion h
  | _ :: _, [], h => Bool.noConfusion h
  | x :: a, y :: b, h => by
    have h : (eqAV x y && eqAVs a b) = true := h
    rw [eqAV_eq x y (Bool.and_eq_true_iff.mp h).1, eqAVs_eq a b (Bool.and_eq_true_iff.mp h).2]
end
noncomputable def isO (o : Option AV) (a : AV) : Bool := match o with
  | some x => eqAV x a
  | none => false
theorem isO_eq {o : Option AV} {a : AV} (h : isO o a = true) : o = some a := by
  cases o with
  | none => exact Bool.noConfusion h
  | some x => exact congrArg some (eqAV_eq x a h)
noncomputable def bt (m p : Nat) : Nat := (m / 2 ^ p) % 2
noncomputable def numS : Nat → Nat → Nat
  | 0, _ => 0
  | n + 1, r => r % 2 + 16 * numS n (r / 2)
/-- the number whose digit at the place p is 2p + bit -/
noncomputable def numN (n s : Nat) : Nat := numS n s + (if n = 5 then 0x86420 else 0xa86420)
noncomputable def bitsL (n r : Nat) : List AV := (List.range n).map fun p => .int (bt r p : Nat)
noncomputable def digsL (n r : Nat) : List AV := (List.range n).map fun p => .int ((2 * p + bt r p : Nat))
noncomputable def lets (n s : Nat) : List Nat := ((List.range n).map fun p => 65 + 2 * p + bt s p).reverse
noncomputable def wordB (n s : Nat) : Array UInt8 := ((lets n s).map fun x => UInt8.ofNat x).toArray
noncomputable def wordS (n s : Nat) : Str := ⟨(lets n s).toArray⟩
noncomputable def allT (n : Nat) (p : Nat → Bool) : Bool := (List.range n).all p
theorem allT_get {n : Nat} {p : Nat → Bool} (h : allT n p = true) {i : Nat} (hi : i < n) : p i = true := by
  unfold allT at h; rw [List.all_eq_true] at h; exact h i (List.mem_range.2 hi)
theorem bits5 : allT 32 (fun r => isO (φ2 [.list (bitsL 5 r), .int 4]) (.int (numS 5 r))) = true := by decide +kernel
end Mine
end TextP2

section TextQ1
open PySem PySem.W PyProof.Rows PySem.Calls PySem.Spec
namespace Mine
noncomputable def mk (xs : List Nat) : Str := ⟨xs.toArray⟩
noncomputable def ch (x : Nat) : Str := ⟨#[x]⟩
theorem mk_len (xs : List Nat) : (mk xs).length = xs.length := by show xs.toArray.size = _; simp
theorem mk_beq (xs ys : List Nat) : (mk xs == mk ys) = decide (xs = ys) := by
  by_cases h : xs = ys
  · subst h; simp
  · rw [decide_eq_false h, beq_eq_false_iff_ne]
    intro e; unfold mk at e; simp at e; exact h e
theorem ch_beq (x y : Nat) : (ch x == ch y) = decide (x = y) := by
  by_cases h : x = y
  · subst h; simp
  · rw [decide_eq_false h, beq_eq_false_iff_ne]
    intro e; unfold ch at e; simp at e; exact h e
theorem mk_item {xs : List Nat} {i : Nat} {x : Nat} (h : xs[i]? = some x) : itemAt (mk xs) (i : Int) = some (ch x) := by
  have hi : i < xs.length := (List.getElem?_eq_some_iff.1 h).1
  unfold itemAt seqIndex?
  rw [mk_len]
  simp [show ¬ ((i : Int) < 0) by omega, hi]
  exact ⟨x, by simpa [mk] using h, rfl⟩
theorem mk_itemN {xs : List Nat} {q : Nat} {x : Nat} (hq : q < xs.length) (h : xs[xs.length - 1 - q]? = some x) : itemAt (mk xs) (-(q : Int) - 1) = some (ch x) := by
  unfold itemAt seqIndex?
  rw [mk_len]
  have e : (-(q : Int) - 1 + xs.length).toNat = xs.length - 1 - q := by omega
  simp [show (-(q : Int) - 1 < 0) by omega, show (0 ≤ -(q : Int) - 1 + xs.length) by omega, show (-(q : Int) - 1 + xs.length < xs.length) by omega, e]
  exact ⟨x, by simpa [mk] using h, rfl⟩
theorem slice_from {xs : List Nat} {p : Nat} (h : p ≤ xs.length) : Txt.slice (mk xs) (some (p : Int)) none = mk (xs.drop p) := by
  have := slice_from_eq (x := mk xs) (i := (p : Int)) (b := (xs.length : Int)) (by omega) (by rw [mk_len]; omega) (by rw [mk_len])
  rw [this]
  unfold mk
  simp
  rw [List.take_of_length_le (by simp)]
theorem slice_to {xs : List Nat} {q : Nat} (h0 : 0 < q) (h : q ≤ xs.length) : Txt.slice (mk xs) none (some (-(q : Int))) = mk (xs.take (xs.length - q)) := by
  have := beq_iff_eq.mp (slice_closes_to_neg (x := mk xs) (j := -(q : Int)) (k := -(q : Int) + xs.length) (by omega) (by rw [mk_len]; omega) (by rw [mk_len]))
  rw [this]
  unfold mk
  simp
  congr 1
  omega
theorem slice_all (x : Str) : Txt.slice x none none = x := by
  have h : PySem.Builtin.Str.strSliceIndices none none 1 x.length = (List.range x.length).map (fun (i : Nat) => i) := by
    unfold PySem.Builtin.Str.strSliceIndices sliceRange
    simp
    congr 1
    split <;> omega
  unfold Txt.slice
  rw [h]
  simp
noncomputable def ham : List Nat → List Nat → Nat
  | x :: xs, y :: ys => (if x = y then 0 else 1) + ham xs ys
  | _, _ => 0
theorem ham_self : ∀ xs : List Nat, ham xs xs = 0
  | [] => rfl
  | x :: xs => by simp [ham, ham_self xs]
theorem ham_split : ∀ (c : Nat) (xs ys : List Nat), xs.length = ys.length → ham xs ys = ham (xs.take c) (ys.take c) + ham (xs.drop c) (ys.drop c)
  | 0, xs, ys, _ => by cases xs <;> cases ys <;> simp [ham]
  | c + 1, [], [], _ => by simp [ham]
  | c + 1, x :: xs, y :: ys, h => by
    simp only [ham, List.take_succ_cons, List.drop_succ_cons]
    rw [ham_split c xs ys (by simpa using h)]; omega
  | c + 1, [], y :: ys, h => by simp at h
  | c + 1, x :: xs, [], h => by simp at h
theorem ham_le : ∀ (xs ys : List Nat), ham xs ys ≤ xs.length
  | [], ys => by simp [ham]
  | x :: xs, [] => by simp [ham]
  | x :: xs, y :: ys => by
    simp only [ham, List.length_cons]
    have := ham_le xs ys
    split <;> omega
theorem ham_take_succ : ∀ (c : Nat) (xs ys : List Nat) (x y : Nat), xs[c]? = some x → ys[c]? = some y → ham (xs.take (c + 1)) (ys.take (c + 1)) = ham (xs.take c) (ys.take c) + (if x = y then 0 else 1)
  | 0, a :: xs, b :: ys, x, y, h1, h2 => by
    simp at h1 h2; subst h1 h2
    simp [ham]
  | c + 1, a :: xs, b :: ys, x, y, h1, h2 => by
    have := ham_take_succ c xs ys x y (by simpa using h1) (by simpa using h2)
    simp only [List.take_succ_cons, ham] at this ⊢
    omega
  | 0, [], _, _, _, h1, _ => by simp at h1
  | c + 1, [], _, _, _, h1, _ => by simp at h1
  | 0, _ :: _, [], _, _, _, h2 => by simp at h2
  | c + 1, _ :: _, [], _, _, _, h2 => by simp at h2
theorem first_diff : ∀ (xs ys : List Nat), xs.length = ys.length → xs ≠ ys → ∃ c x y, c < xs.length ∧ xs.take c = ys.take c ∧ xs[c]? = some x ∧ ys[c]? = some y ∧ x ≠ y
  | [], [], _, h => absurd rfl h
  | a :: xs, b :: ys, hl, h => by
    by_cases e : a = b
    · subst e
      obtain ⟨c, x, y, h1, h2, h3, h4, h5⟩ := first_diff xs ys (by simpa using hl) (fun q => h (by rw [q]))
      exact ⟨c + 1, x, y, by simpa using h1, by simp [h2], by simpa using h3, by simpa using h4, h5⟩
    · exact ⟨0, a, b, by simp, rfl, rfl, rfl, e⟩
  | [], _ :: _, hl, _ => by simp at hl
  | _ :: _, [], hl, _ => by simp at hl
theorem take_get {xs ys : List Nat} {c i : Nat} (h : xs.take c = ys.take c) (hi : i < c) : xs[i]? = ys[i]? := by
  have := congrArg (fun l => l[i]?) h
  simpa [List.getElem?_take, hi] using this
theorem drop_get {xs ys : List Nat} {c i : Nat} (h : xs.drop c = ys.drop c) (hi : c ≤ i) : xs[i]? = ys[i]? := by
  have := congrArg (fun l => l[i - c]?) h
  simpa [List.getElem?_drop, show c + (i - c) = i by omega] using this
theorem last_diff (xs ys : List Nat) (hl : xs.length = ys.length) (h : xs ≠ ys) : ∃ q x y, q < xs.length ∧ xs.drop (xs.length - q) = ys.drop (ys.length - q) ∧ xs[xs.length - 1 - q]? = some x ∧ ys[ys.length - 1 - q]? = some y ∧ x ≠ y := by
  obtain ⟨c, x, y, h1, h2, h3, h4, h5⟩ := first_diff xs.reverse ys.reverse (by simpa using hl) (fun e => h (by simpa using congrArg List.reverse e))
  rw [List.length_reverse] at h1
  refine ⟨c, x, y, h1, ?_, ?_, ?_, h5⟩
  · rw [List.take_reverse, List.take_reverse] at h2
    simpa using h2
  · rw [List.getElem?_reverse h1] at h3
    exact h3
  · rw [List.getElem?_reverse (by omega)] at h4
    exact h4
end Mine
end TextQ1

section TextQ0
open PySem PySem.W PyProof.Rows PySem.Calls PySem.Spec
namespace Mine
theorem bindE {α β : Type} {x : Option α} {f : α → Option β} {a : α} (h : x = some a) : x.bind f = f a := by rw [h]; rfl
section
variable {Ψ : Nat → List AV → List Int → Option (List Int)} {G : Env0} {f : Nat} {ρ ρ' : Sto} {μ μ' : Option (List Int)} {k : S} {p q : Pos}
theorem run_asg {i : Nat} {e : X} {a : AV} (h : ev G μ e ρ = some a) (hi : i < ρ.length) : runS G Ψ f (.asg i q e p k) ρ μ = runS G Ψ f k (ρ.set i (some a)) μ := (bindE h).trans (bindE (ifO_pos hi))
theorem run_asg2 {i j : Nat} {q' : Pos} {e : X} {a : AV} (h : ev G μ e ρ = some a) (hi : i < ρ.length) (hj : j < ρ.length) : runS G Ψ f (.asg2 i q j q' e p k) ρ μ = runS G Ψ f k ((ρ.set i (some a)).set j (some a)) μ := (bindE h).trans (bindE (ifO_pos ⟨hi, hj⟩))
theorem run_sto {i : Nat} {qs : Pos} {ie e : X} {l : List Int} {v : Int} {j : Nat} (hb : isBox ρ i = true) (h : ev G (some l) e ρ = some (.int v)) (h2 : ev G (some l) ie ρ = some (.int j)) (hj : j < l.length) :
    runS G Ψ f (.sto i q ie qs e p k) ρ (some l) = runS G Ψ f k ρ (some (l.set j v)) :=
  (bindE (x := ifO (isBox ρ i = true) ()) (ifO_pos hb)).trans ((bindE h).trans ((bindE (x := iv (.int v)) rfl).trans ((bindE h2).trans ((bindE (x := iv (.int j)) rfl).trans ((bindE (x := some l) rfl).trans (bindE (ifO_pos ⟨Int.natCast_nonneg j, Int.ofNat_lt.2 hj⟩)))))))
theorem run_app {i : Nat} {q1 q2 : Pos} {e : X} {l : List Int} {v : Int} (hb : isBox ρ i = true) (h : ev G (some l) e ρ = some (.int v)) (hz : l.length ≤ 1000) : runS G Ψ f (.app i q1 q2 e p q k) ρ (some l) = runS G Ψ f k ρ (some (l ++ [v])) :=
  (bindE (x := ifO (isBox ρ i = true) ()) (ifO_pos hb)).trans ((bindE h).trans ((bindE (x := iv (.int v)) rfl).trans ((bindE (x := some l) rfl).trans (bindE (ifO_pos hz)))))
theorem run_iteT {t : X} {a b : S} (h : tv G μ t ρ = some true) (ha : runS G Ψ f a ρ μ = some (.fall ρ' μ')) : runS G Ψ f (.ite t a b p k) ρ μ = runS G Ψ f k ρ' μ' := (bindE h).trans (bindE ha)
theorem run_iteF {t : X} {a : S} (h : tv G μ t ρ = some false) : runS G Ψ f (.ite t a .nil p k) ρ μ = runS G Ψ f k ρ μ := (bindE h).trans (bindE (x := some (Out.fall ρ μ)) rfl)
theorem run_nil : runS G Ψ f .nil ρ μ = some (.fall ρ μ) := rfl
theorem run_ret {e : X} {i : Int} (h : ev G μ e ρ = some (.int i)) : runS G Ψ f (.ret e p) ρ μ = some (.ret (.int i)) := bindI h rfl
theorem run_retL {e : X} {l : List AV} (h : ev G μ e ρ = some (.list l)) : runS G Ψ f (.ret e p) ρ μ = some (.ret (.list l)) := bindI h rfl
theorem run_retA {e : X} {b : Bool} (h : ev G μ e ρ = some (.bool b)) : runS G Ψ f (.ret e p) ρ μ = some (.ret (.bool b)) := bindI h rfl
theorem run_retBox {e : X} {l : List Int} (h : ev G (some l) e ρ = some .box) : runS G Ψ f (.ret e p) ρ (some l) = some (.ret (.list (l.map .int))) := bindI h rfl
theorem run_iteR {t : X} {b : S} {e : X} {i : Int} (h : tv G μ t ρ = some true) (ha : ev G μ e ρ = some (.int i)) : runS G Ψ f (.ite t (.ret e q) b p k) ρ μ = some (.ret (.int i)) := (bindE h).trans (bindE (run_ret (Ψ := Ψ) (G := G) (f := f) (p := q) ha))
theorem run_for {t : Tg} {it : X} {b : S} {xs : List AV} (h : src G μ it ρ = some xs) (ha : forO t (fun ρ μ => runS G Ψ f b ρ μ) xs ρ μ = some (.fall ρ' μ')) : runS G Ψ f (.for t it b p k) ρ μ = runS G Ψ f k ρ' μ' := (bindE h).trans (bindE ha)
theorem run_whl {t : X} {b : S} (ha : whileO (fun ρ μ => tv G μ t ρ) (fun ρ μ => runS G Ψ f b ρ μ) f ρ μ = some (.fall ρ' μ')) : runS G Ψ f (.whl t b p k) ρ μ = runS G Ψ f k ρ' μ' := bindE ha
theorem run_bxr {i : Nat} {q1 q2 q3 q4 q5 q6 : Pos} {as : X} {l l' : List AV} {r : AV} {ns : List Int} (h : evs G none as ρ = some l) (h1 : evB .range l = some r) (h2 : evB .list [r] = some (.list l')) (h3 : asInts l' = some ns) (hi : i < ρ.length) :
    runS G Ψ f (.bxr i q1 q2 q3 as q4 q5 q6 k) ρ none = runS G Ψ f k (ρ.set i (some .box)) (some ns) :=
  (bindE h).trans ((bindE h1).trans ((bindE h2).trans ((bindE (x := lv (.list l')) rfl).trans ((bindE h3).trans (bindE (ifO_pos ⟨hi, rfl⟩))))))
theorem run_bxl {i : Nat} {q1 q2 q3 : Pos} {es : X} {l : List AV} {ns : List Int} (h : evs G none es ρ = some l) (h3 : asInts l = some ns) (hi : i < ρ.length) (hz : ns.length ≤ 1000) :
    runS G Ψ f (.bxl i q1 es q2 q3 k) ρ none = runS G Ψ f k (ρ.set i (some .box)) (some ns) := (bindE h).trans ((bindE h3).trans (bindE (ifO_pos ⟨hi, hz, rfl⟩)))
theorem ev_bin {o : Operator} {l r : X} {a b c : AV} (h1 : ev G μ l ρ = some a) (h2 : ev G μ r ρ = some b) (h3 : evBin o a b = some c) : ev G μ (.bin o l r p) ρ = some c := bindI h1 (bindI h2 h3)
theorem ev_idx {l r : X} {a b c : AV} (h1 : ev G μ l ρ = some a) (h2 : ev G μ r ρ = some b) (h3 : evIdx μ a b = some c) : ev G μ (.idx l r p) ρ = some c := bindI h1 (bindI h2 h3)
theorem ev_var {i : Nat} {a : AV} (h : (ρ[i]?).join = some a) : ev G μ (.var i p) ρ = some a := h
theorem ev_cst {i : Int} {k : Nat} : ev G μ (.cst (.int i) k p) ρ = some (.int i) := rfl
theorem ev_gcs {i : Nat} {a : AV} (h : G.gc[i]? = some a) : ev G μ (.gcs i p) ρ = some a := h
theorem ev_cal {i : Nat} {as : X} {l : List AV} {r : AV} (hi : i < 90) (h : evs G μ as ρ = some l) (h2 : G.Φ i l = some r) : ev G μ (.cal (.gfn i q) as p) ρ = some r := bindI (x := hdOf (.gfn i q) ρ) (if_pos hi) (bindI h h2)
theorem ev_blt {b : Blt} {as : X} {l : List AV} {r : AV} (h : evs G μ as ρ = some l) (h2 : evBx μ b l = some r) : ev G μ (.blt b q as p) ρ = some r := bindI h h2
theorem ev_met {m : Met} {o as : X} {a r : AV} {l : List AV} (h1 : ev G μ o ρ = some a) (h : evs G μ as ρ = some l) (h2 : evM m a l = some r) : ev G μ (.met m o q as p) ρ = some r := bindI h1 (bindI h h2)
theorem ev_cmp {o : CmpOp} {l r : X} {a b : AV} {c : Bool} (h1 : ev G μ l ρ = some a) (h2 : ev G μ r ρ = some b) (h3 : evCmp o a b = some c) : ev G μ (.cmp o l r p) ρ = some (.bool c) := bindI h1 (bindI h2 (by rw [h3]; rfl))
theorem ev_nil : ev G μ .nil ρ = some .none := rfl
theorem ev_ife {t : X} {a b : Int} {k1 k2 : Nat} {r : Pos} {c : Bool} (h : tv G μ t ρ = some c) : ev G μ (.ife t (.cst (.int a) k1 p) (.cst (.int b) k2 q) r) ρ = some (.int (if c = true then a else b)) := by
  show orE (tv G μ t ρ) (some (.int a)) (some (.int b)) = _
  rw [h]
  cases c <;> rfl
theorem ev_lst {es : X} {l : List AV} (h : evs G μ es ρ = some l) (hz : l.length ≤ 1000) : ev G μ (.lst es p) ρ = some (.list l) := bindI h (ifO_pos hz)
theorem evs_cons {h t : X} {a : AV} {l : List AV} (h1 : ev G μ h ρ = some a) (h2 : evs G μ t ρ = some l) : evs G μ (.cons h t) ρ = some (a :: l) := bindI h1 (bindI h2 rfl)
theorem evs_nil : evs G μ .nil ρ = some [] := rfl
theorem tv_cmp {o : CmpOp} {l r : X} {a b : AV} {c : Bool} (h1 : ev G μ l ρ = some a) (h2 : ev G μ r ρ = some b) (h3 : evCmp o a b = some c) : tv G μ (.cmp o l r p) ρ = some c := bindI h1 (bindI h2 h3)
theorem tv_bor {l r : X} {b : Bool} (h : tv G μ l ρ = some false) (h2 : tv G μ r ρ = some b) : tv G μ (.bor l r p) ρ = some b := by
  show orT (tv G μ l ρ) (tv G μ r ρ) = _
  rw [h]; exact h2
theorem tv_band {x y z : X} {b : Bool} (h : tv G μ x ρ = some true) (h2 : tv G μ y ρ = some true) (h3 : tv G μ z ρ = some b) : tv G μ (.ban x y z p) ρ = some b := by
  show andT (tv G μ x ρ) (andT (tv G μ y ρ) (tv G μ z ρ)) = _
  rw [h, h2]; exact h3
theorem tv_sliE {e lo hi st : X} {v : AV} {b : Bool} (h : ev G μ (.sli e lo hi st q p) ρ = some v) (ht : truth v = some b) : tv G μ (.sli e lo hi st q p) ρ = some b := bindI (x := ev G μ (.sli e lo hi st q p) ρ) h ht
theorem ev_sli {e lo hi st : X} {a l u s c : AV} (h1 : ev G μ e ρ = some a) (h2 : ev G μ lo ρ = some l) (h3 : ev G μ hi ρ = some u) (h4 : ev G μ st ρ = some s) (h5 : evSli a l u s = some c) : ev G μ (.sli e lo hi st q p) ρ = some c := bindI h1 (bindI h2 (bindI h3 (bindI h4 h5)))
theorem src_var {v : Nat} {l : List AV} (h : (ρ[v]?).join = some (.list l)) : src G μ (.var v p) ρ = some l := bindI h rfl
theorem src_blt {b : Blt} {as : X} {l xs : List AV} (h : evs G μ as ρ = some l) (h2 : srcB b l = some xs) : src G μ (.blt b q as p) ρ = some xs := bindI h h2
theorem setT_one {i : Nat} {a : AV} (h : i < ρ.length) : setT (.one i p) a ρ = some (ρ.set i (some a)) := if_pos h
end
theorem evBx_min2 (μ : Option (List Int)) (a b : Int) : evBx μ .min [.int a, .int b] = some (.int (if b < a then b else a)) := rfl
theorem evBin_add (a b : Int) : evBin .Add (.int a) (.int b) = some (.int (a + b)) := rfl
theorem evBin_sub (a b : Int) : evBin .Sub (.int a) (.int b) = some (.int (a - b)) := rfl
theorem evBin_mul {a b : Int} (h : small b = true) : evBin .Mult (.int a) (.int b) = some (.int (a * b)) := ifO_pos (.inl h)
theorem evBin_xor (a b : Int) : evBin .BitXor (.int a) (.int b) = some (.int (Builtin.bitXor a b)) := rfl
theorem evBin_cat {a b : List AV} (h : a.length + b.length ≤ 1000) : evBin .Add (.list a) (.list b) = some (.list (a ++ b)) := ifO_pos h
theorem evBin_mod2 (a : Int) : evBin .Mod (.int a) (.int 2) = some (.int (a.fmod 2)) := ifO_pos (p := (2 : Int) ≠ 0) (by decide)
theorem evBin_shr {a : Int} {n : Nat} : evBin .RShift (.int a) (.int (n : Nat)) = some (.int (a.fdiv (2 ^ n))) := ifO_pos (Int.natCast_nonneg n)
theorem evCmp_lt (a b : Int) : evCmp .Lt (.int a) (.int b) = some (decide (a < b)) := rfl
theorem evCmp_gt (a b : Int) : evCmp .Gt (.int a) (.int b) = some (decide (a > b)) := rfl
theorem evCmp_eq (a b : Int) : evCmp .Eq (.int a) (.int b) = some (a == b) := rfl
theorem evCmp_str (x y : Str) : evCmp .Eq (.str x) (.str y) = some (x == y) := rfl
theorem sml {a : Nat} (h : a < 1000) : small (a : Int) = true := decide_eq_true (by omega)
theorem in62 {j : Nat} (h : j < 1000) : 0 ≤ (j : Int) ∧ (j : Int) < 2 ^ 62 := by omega
theorem evIdx_box {l : List Int} {j : Nat} {d : Int} (hj : j < 1000) (hl : l[j]? = some d) : evIdx (some l) .box (.int (j : Int)) = some (.int d) :=
  bindI (x := iv (.int (j : Int))) rfl (bindI (x := ifO (0 ≤ (j : Int) ∧ (j : Int) < 2 ^ 62) ()) (ifO_pos (in62 hj)) (bindI (x := some l) rfl (by rw [Int.toNat_natCast, hl]; rfl)))
theorem evIdx_list {μ : Option (List Int)} {l : List AV} {j : Nat} {d : AV} (hj : j < 1000) (hl : l[j]? = some d) : evIdx μ (.list l) (.int (j : Int)) = some d :=
  bindI (x := iv (.int (j : Int))) rfl (bindI (x := ifO (0 ≤ (j : Int) ∧ (j : Int) < 2 ^ 62) ()) (ifO_pos (in62 hj)) (by rw [Int.toNat_natCast, hl]))
theorem evIdx_list0 {μ : Option (List Int)} {a : AV} {l : List AV} : evIdx μ (.list (a :: l)) (.int 0) = some a := evIdx_list (j := 0) (by decide) rfl
theorem evIdx_strI {μ : Option (List Int)} {xs : List Nat} {j : Int} {x : Nat} (hj : small j = true) (hl : itemAt (mk xs) j = some (ch x)) : evIdx μ (.str (mk xs)) (.int j) = some (.str (ch x)) :=
  bindI (x := iv (.int j)) rfl (bindI (x := ifO (small j = true) ()) (ifO_pos hj) (by rw [hl]; rfl))
theorem evIdx_str {μ : Option (List Int)} {xs : List Nat} {j x : Nat} (hj : j < 1000) (hl : xs[j]? = some x) : evIdx μ (.str (mk xs)) (.int (j : Int)) = some (.str (ch x)) := evIdx_strI (sml hj) (mk_item hl)
/-- a comprehension, item by item -/
theorem catO_map {α : Type} {f : AV → Option (List AV)} {F H : α → AV} : ∀ (zs : List α), (∀ z ∈ zs, f (F z) = some [H z]) → catO f (zs.map F) = some (zs.map H)
  | [], _ => rfl
  | z :: zs, h => by
    have ih := catO_map zs fun z hz => h z (List.mem_cons_of_mem _ hz)
    rw [List.map_cons]
    unfold catO
    rw [h z List.mem_cons_self]
    dsimp only
    rw [ih]
    rfl
theorem catO_nil {α : Type} {f : AV → Option (List AV)} {F : α → AV} : ∀ (zs : List α), (∀ z ∈ zs, f (F z) = some []) → catO f (zs.map F) = some []
  | [], _ => rfl
  | z :: zs, h => by
    have ih := catO_nil zs fun z hz => h z (List.mem_cons_of_mem _ hz)
    rw [List.map_cons]
    unfold catO
    rw [h z List.mem_cons_self]
    dsimp only
    rw [ih]
    rfl
theorem stepI {t : Tg} {cdv : Sto → Option Bool} {elv : Sto → Option AV} {ρ ρ' : Sto} {a b : AV} (h1 : setT t a ρ = some ρ') (h2 : cdv ρ' = some true) (h3 : elv ρ' = some b) : stepF t cdv elv ρ a = some [b] := by
  unfold stepF; rw [h1]; dsimp only; rw [h2]; dsimp only; rw [h3]
theorem stepN {t : Tg} {cdv : Sto → Option Bool} {elv : Sto → Option AV} {ρ ρ' : Sto} {a : AV} (h1 : setT t a ρ = some ρ') (h2 : cdv ρ' = some false) : stepF t cdv elv ρ a = some [] := by
  unfold stepF; rw [h1]; dsimp only; rw [h2]
theorem ev_com {α : Type} {G : Env0} {μ : Option (List Int)} {elt it : X} {t : Tg} {sc : Scope} {fv : List Nat} {p : Pos} {ρ : Sto} {F H : α → AV} (zs : List α) (h : src G μ it ρ = some (zs.map F)) (hz : zs.length ≤ 1000)
    (hi : ∀ z ∈ zs, ∃ ρ', setT t (F z) (mask fv 0 ρ) = some ρ' ∧ ev G μ elt ρ' = some (H z)) : ev G μ (.com elt t it .nil sc fv p) ρ = some (.list (zs.map H)) :=
  bindI h (bindI (catO_map zs (H := H) fun z hm => let ⟨_, e1, e2⟩ := hi z hm; stepI e1 rfl e2) (ifO_pos (by rw [List.length_map]; exact hz)))
theorem ev_comF {α : Type} {G : Env0} {μ : Option (List Int)} {elt it cnd : X} {t : Tg} {sc : Scope} {fv : List Nat} {p : Pos} {ρ : Sto} {F : α → AV} (zs : List α) (h : src G μ it ρ = some (zs.map F)) (hz : zs.length ≤ 1000)
    (hi : ∀ z ∈ zs, ∃ ρ', setT t (F z) (mask fv 0 ρ) = some ρ' ∧ tv G μ cnd ρ' = some false) : ev G μ (.com elt t it (.cons cnd .nil) sc fv p) ρ = some (.list []) :=
  bindI h (bindI (catO_nil zs fun z hm => let ⟨_, e1, e2⟩ := hi z hm; stepN e1 e2) (ifO_pos (by rw [List.length_map]; exact hz)))
end Mine
end TextQ0

section TextQ2
open PySem PySem.W PyProof.Rows PySem.Calls PySem.Spec
namespace Mine
theorem whileO_run {tst : Sto → Option (List Int) → Option Bool} {body : Sto → Option (List Int) → Option Out} (st : Nat → Sto) (μ : Option (List Int)) (c : Nat) (h1 : ∀ i < c, tst (st i) μ = some true ∧ body (st i) μ = some (.fall (st (i + 1)) μ)) (h2 : tst (st c) μ = some false) :
    ∀ (k i : Nat), i + k = c → ∀ fuel, k < fuel → whileO tst body fuel (st i) μ = some (.fall (st c) μ)
  | _, _, _, 0, hf => absurd hf (Nat.not_lt_zero _)
  | 0, i, e, f + 1, _ => by
    have : i = c := e
    subst this
    exact bindI h2 rfl
  | k + 1, i, e, f + 1, hf => by
    obtain ⟨a, b⟩ := h1 i (by omega)
    exact bindI a (bindI b (whileO_run st μ c h1 h2 k (i + 1) (by omega) f (Nat.lt_of_succ_lt_succ hf)))
theorem forO_run {t : Tg} {body : Sto → Option (List Int) → Option Out} (Inv : Nat → Sto → Option (List Int) → Prop) (n : Nat)
    (h : ∀ i ρ μ, i < n → Inv i ρ μ → ∃ ρ1 ρ' μ', setT t (.int i) ρ = some ρ1 ∧ body ρ1 μ = some (.fall ρ' μ') ∧ Inv (i + 1) ρ' μ') :
    ∀ (k i : Nat) (ρ : Sto) (μ : Option (List Int)), i + k = n → Inv i ρ μ → ∃ ρ' μ', forO t body (rangeL (i : Int) 1 k) ρ μ = some (.fall ρ' μ') ∧ Inv n ρ' μ'
  | 0, i, ρ, μ, e, hi => by
    have : i = n := e
    subst this
    exact ⟨ρ, μ, rfl, hi⟩
  | k + 1, i, ρ, μ, e, hi => by
    obtain ⟨ρ1, ρ', μ', a, b, c⟩ := h i ρ μ (by omega) hi
    obtain ⟨ρ2, μ2, d, f⟩ := forO_run Inv n h k (i + 1) ρ' μ' (by omega) c
    exact ⟨ρ2, μ2, bindI a (bindI b d), f⟩
noncomputable def S.nx : S → S
  | .asg _ _ _ _ k => k
  | .asg2 _ _ _ _ _ _ k => k
  | .bxr _ _ _ _ _ _ _ _ k => k
  | .ite _ _ _ _ k => k
  | .whl _ _ _ k => k
  | .for _ _ _ _ k => k
  | s => s
noncomputable def S.bd : S → S
  | .whl _ b _ _ => b
  | .for _ _ b _ _ => b
  | s => s
noncomputable def S.tt : S → X
  | .whl t _ _ _ => t
  | .for _ e _ _ _ => e
  | .ite t _ _ _ _ => t
  | .asg _ _ e _ _ => e
  | _ => .nil
noncomputable def lev1 : S := st_levenshtein_distance.nx
noncomputable def lev2 : S := lev1.nx
noncomputable def lev3 : S := lev2.nx
noncomputable def lev6 : S := lev3.nx.nx.nx
noncomputable def lev7 : S := lev6.nx
noncomputable def lev9 : S := lev7.nx.nx
noncomputable def lev13 : S := lev9.nx.nx.nx.nx
noncomputable def lev15 : S := lev13.nx.nx
noncomputable def lev16 : S := lev15.nx
noncomputable def levF : S := lev15.bd.nx.nx.nx
noncomputable def levG : S := levF.nx
section
variable {Φ : Nat → List AV → Option AV} {f : Nat}
noncomputable abbrev G' (Φ : Nat → List AV → Option AV) : Env0 := ⟨gcV, Φ⟩
/-- the state -/
noncomputable def stA (a b : List Nat) (mc : Int) (o3 o4 : Option AV) : Sto := [some (.str (mk a)), some (.str (mk b)), some (.int mc), o3, o4, none, none, none, none, none, none, none, none, none]
theorem ev_sliFrom {G : Env0} {μ : Option (List Int)} {v w : Nat} {q1 q2 q3 q4 : Pos} {ρ : Sto} {a : List Nat} {p : Nat} (h : (ρ[v]?).join = some (.str (mk a))) (h2 : (ρ[w]?).join = some (.int (p : Nat))) (hp : p ≤ a.length) : ev G μ (.sli (.var v q1) (.var w q2) .nil .nil q3 q4) ρ = some (.str (mk (a.drop p))) :=
  ev_sli (ev_var h) (ev_var h2) ev_nil ev_nil (by show some (AV.str (Txt.slice (mk a) (some (p : Int)) none)) = _; rw [slice_from hp])
theorem ev_orNone {G : Env0} {μ : Option (List Int)} {w : Nat} {q2 q3 q4 : Pos} {ρ : Sto} {q : Nat} (h2 : (ρ[w]?).join = some (.int (-(q : Nat)))) : ev G μ (.bor (.var w q2) (.cst .none 0 q3) q4) ρ = some (if q = 0 then .none else .int (-(q : Nat))) := by
  refine bindI (x := (ρ[w]?).join) h2 ?_
  by_cases h0 : q = 0
  · subst h0; rfl
  · rw [if_neg h0]
    have b0 : (-(q : Int) != 0) = true := by rw [bne_iff_ne]; omega
    show orE (some (-(q : Int) != 0)) _ _ = _
    rw [b0]; rfl
theorem ev_sliTo {G : Env0} {μ : Option (List Int)} {v w : Nat} {q1 q2 q3 q4 q5 q6 : Pos} {ρ : Sto} {a : List Nat} {q : Nat} (h : (ρ[v]?).join = some (.str (mk a))) (h2 : (ρ[w]?).join = some (.int (-(q : Nat)))) (hp : q ≤ a.length) :
    ev G μ (.sli (.var v q1) .nil (.bor (.var w q2) (.cst .none 0 q3) q4) .nil q5 q6) ρ = some (.str (mk (a.take (a.length - q)))) := by
  refine ev_sli (ev_var h) ev_nil (ev_orNone h2) ev_nil ?_
  by_cases h0 : q = 0
  · subst h0
    show some (AV.str (Txt.slice (mk a) none none)) = _
    rw [slice_all, Nat.sub_zero, List.take_length]
  · rw [if_neg h0]
    show some (AV.str (Txt.slice (mk a) none (some (-(q : Int))))) = _
    rw [slice_to (Nat.pos_of_ne_zero h0) hp]
theorem truth_mk {xs : List Nat} (h : 0 < xs.length) : truth (.str (mk xs)) = some true := by
  show some ((mk xs).length != 0) = _
  rw [mk_len, bne_iff_ne.2 (Nat.ne_of_gt h)]
theorem pre_test {a b : List Nat} {mc : Int} {o4 : Option AV} {p : Nat} {x y : Nat} {μ : Option (List Int)} (hz : a.length < 1000) (h1 : a[p]? = some x) (h2 : b[p]? = some y) : tv (G' Φ) μ lev2.tt (stA a b mc (some (.int p)) o4) = some (decide (x = y)) := by
  have l1 := (List.getElem?_eq_some_iff.1 h1).1
  have l2 := (List.getElem?_eq_some_iff.1 h2).1
  have hp : p < 1000 := Nat.lt_trans l1 hz
  show tv (G' Φ) μ (.ban (.sli (.var 0 _) (.var 3 _) .nil .nil _ _) (.sli (.var 1 _) (.var 3 _) .nil .nil _ _) (.cmp .Eq (.idx (.var 0 _) (.var 3 _) _) (.idx (.var 1 _) (.var 3 _) _) _) _) _ = _
  exact tv_band (tv_sliE (ev_sliFrom rfl rfl (Nat.le_of_lt l1)) (truth_mk (by rw [List.length_drop]; omega))) (tv_sliE (ev_sliFrom rfl rfl (Nat.le_of_lt l2)) (truth_mk (by rw [List.length_drop]; omega)))
    (tv_cmp (ev_idx (ev_var rfl) (ev_var rfl) (evIdx_str hp h1)) (ev_idx (ev_var rfl) (ev_var rfl) (evIdx_str hp h2)) ((evCmp_str _ _).trans (by rw [ch_beq])))
theorem pre_body {a b : List Nat} {mc : Int} {o4 : Option AV} {p : Nat} {μ : Option (List Int)} : runS (G' Φ) noΨ f lev2.bd (stA a b mc (some (.int p)) o4) μ = some (.fall (stA a b mc (some (.int (p + 1 : Nat))) o4) μ) := rfl
theorem pre_loop {a b : List Nat} {mc : Int} {o4 : Option AV} {μ : Option (List Int)} (hz : a.length < 1000) (hl : a.length = b.length) {c x y : Nat} (hc : c < a.length) (ht : a.take c = b.take c) (hx : a[c]? = some x) (hy : b[c]? = some y) (hne : x ≠ y) (hf : c < f) :
    runS (G' Φ) noΨ f lev2 (stA a b mc (some (.int 0)) o4) μ = runS (G' Φ) noΨ f lev3 (stA a b mc (some (.int c)) o4) μ := by
  have := whileO_run (tst := fun ρ μ => tv (G' Φ) μ lev2.tt ρ) (body := fun ρ μ => runS (G' Φ) noΨ f lev2.bd ρ μ) (fun i => stA a b mc (some (.int (i : Nat))) o4) μ c (fun i hi => by
      have hi' : i < a.length := by omega
      have g1 : a[i]? = some a[i] := List.getElem?_eq_getElem hi'
      have g2 : b[i]? = some a[i] := by rw [← take_get ht hi]; exact g1
      refine ⟨?_, pre_body⟩
      show tv _ _ _ _ = _
      rw [pre_test hz g1 g2]; simp) (by
      show tv _ _ _ _ = _
      rw [pre_test hz hx hy]; simp [hne]) c 0 (by omega) f hf
  exact run_whl (G := G' Φ) (t := lev2.tt) (b := lev2.bd) (k := lev3) (p := ⟨0, 0, 0, 0⟩) this
theorem post_test {a b : List Nat} {mc : Int} {o3 : Option AV} {q : Nat} {x y : Nat} {μ : Option (List Int)} (hz : a.length < 1000) (hl : a.length = b.length) (hq : q < a.length) (h1 : a[a.length - 1 - q]? = some x) (h2 : b[b.length - 1 - q]? = some y) :
    tv (G' Φ) μ lev6.tt (stA a b mc o3 (some (.int (-(q : Nat))))) = some (decide (x = y)) := by
  have sm : small (-(q : Int) - 1) = true := decide_eq_true (by omega)
  have hqb : q < b.length := hl ▸ hq
  show tv (G' Φ) μ (.ban (.sli (.var 0 _) .nil (.bor (.var 4 _) (.cst .none 0 _) _) .nil _ _) (.sli (.var 1 _) .nil (.bor (.var 4 _) (.cst .none 0 _) _) .nil _ _) (.cmp .Eq (.idx (.var 0 _) (.bin .Sub (.var 4 _) (.cst (.int 1) 0 _) _) _) (.idx (.var 1 _) (.bin .Sub (.var 4 _) (.cst (.int 1) 0 _) _) _) _) _) _ = _
  exact tv_band (tv_sliE (ev_sliTo rfl rfl (Nat.le_of_lt hq)) (truth_mk (by rw [List.length_take]; omega))) (tv_sliE (ev_sliTo rfl rfl (Nat.le_of_lt hqb)) (truth_mk (by rw [List.length_take]; omega)))
    (tv_cmp (ev_idx (ev_var rfl) (ev_bin (ev_var rfl) ev_cst (evBin_sub _ _)) (evIdx_strI sm (mk_itemN hq h1))) (ev_idx (ev_var rfl) (ev_bin (ev_var rfl) ev_cst (evBin_sub _ _)) (evIdx_strI sm (mk_itemN hqb h2))) ((evCmp_str _ _).trans (by rw [ch_beq])))
theorem post_body {a b : List Nat} {mc : Int} {o3 : Option AV} {q : Nat} {μ : Option (List Int)} : runS (G' Φ) noΨ f lev6.bd (stA a b mc o3 (some (.int (-(q : Nat))))) μ = some (.fall (stA a b mc o3 (some (.int (-((q + 1 : Nat) : Int))))) μ) := by
  show some (Out.fall (stA a b mc o3 (some (.int (-(q : Int) - 1)))) μ) = _
  rw [show -(q : Int) - 1 = -((q + 1 : Nat) : Int) by omega]
theorem post_loop {a b : List Nat} {mc : Int} {o3 : Option AV} {μ : Option (List Int)} (hz : a.length < 1000) (hl : a.length = b.length) {c x y : Nat} (hc : c < a.length) (ht : a.drop (a.length - c) = b.drop (b.length - c)) (hx : a[a.length - 1 - c]? = some x) (hy : b[b.length - 1 - c]? = some y) (hne : x ≠ y) (hf : c < f) :
    runS (G' Φ) noΨ f lev6 (stA a b mc o3 (some (.int 0))) μ = runS (G' Φ) noΨ f lev7 (stA a b mc o3 (some (.int (-(c : Nat))))) μ := by
  have := whileO_run (tst := fun ρ μ => tv (G' Φ) μ lev6.tt ρ) (body := fun ρ μ => runS (G' Φ) noΨ f lev6.bd ρ μ) (fun i => stA a b mc o3 (some (.int (-(i : Nat))))) μ c (fun i hi => by
      have hi' : a.length - 1 - i < a.length := by omega
      have g1 : a[a.length - 1 - i]? = some a[a.length - 1 - i] := List.getElem?_eq_getElem hi'
      have g2 : b[b.length - 1 - i]? = some a[a.length - 1 - i] := by
        rw [← hl] at ht ⊢
        rw [← drop_get ht (by omega)]; exact g1
      refine ⟨?_, post_body⟩
      show tv _ _ _ _ = _
      rw [post_test hz hl (by omega) g1 g2]; simp) (by
      show tv _ _ _ _ = _
      rw [post_test hz hl hc hx hy]; simp [hne]) c 0 (by omega) f hf
  exact run_whl (G := G' Φ) (t := lev6.tt) (b := lev6.bd) (k := lev7) (p := ⟨0, 0, 0, 0⟩) this
end
end Mine
end TextQ2

section TextQ3
open PySem PySem.W PyProof.Rows PySem.Calls PySem.Spec
namespace Mine
noncomputable def hh (a b : List Nat) (t : Nat) : Nat := ham (a.take t) (b.take t)
noncomputable def Dd (a b : List Nat) (i j : Nat) : Nat := 2 * (max i j - min i j + hh a b (min i j))
noncomputable def rowD (a b : List Nat) (i j : Nat) : List Int := (List.range a.length).map fun t => if t < j then (Dd a b (i + 1) (t + 1) : Int) else Dd a b i (t + 1)
theorem rowD_len (a b : List Nat) (i j : Nat) : (rowD a b i j).length = a.length := by simp [rowD]
theorem rowD_get {a b : List Nat} {i j : Nat} (h : j < a.length) : (rowD a b i j)[j]? = some (Dd a b i (j + 1) : Int) := by simp [rowD, h]
theorem rowD_set {a b : List Nat} {i j : Nat} (h : j < a.length) : (rowD a b i j).set j (Dd a b (i + 1) (j + 1) : Int) = rowD a b i (j + 1) := by
  apply List.ext_getElem?
  intro t
  rw [List.getElem?_set]
  by_cases e : j = t
  · subst e; simp [rowD, h]
  · rw [if_neg e]
    simp only [rowD, List.getElem?_map, List.getElem?_range]
    by_cases ht : t < a.length
    · rw [List.getElem?_range ht]
      simp only [Option.map_some]
      congr 1
      by_cases h2 : t < j
      · rw [if_pos h2, if_pos (by omega)]
      · rw [if_neg h2, if_neg (by omega)]
    · rw [List.getElem?_eq_none (by simp; omega)]; rfl
theorem rowD_end (a b : List Nat) (i : Nat) : rowD a b i a.length = rowD a b (i + 1) 0 := by
  unfold rowD
  apply List.map_congr_left
  intro t ht
  rw [List.mem_range] at ht
  rw [if_pos ht, if_neg (by omega)]
theorem hh_succ {a b : List Nat} {t x y : Nat} (h1 : a[t]? = some x) (h2 : b[t]? = some y) : hh a b (t + 1) = hh a b t + (if x = y then 0 else 1) := ham_take_succ t a b x y h1 h2
noncomputable def stI (a b : List Nat) (mc : Int) (o3 o4 : Option AV) (r i : Int) (y : Nat) (dist mn : Int) (o11 o12 o13 : Option AV) : Sto :=
  [some (.str (mk a)), some (.str (mk b)), some (.int mc), o3, o4, some .box, some (.int r), some (.int i), some (.str (ch y)), some (.int dist), some (.int mn), o11, o12, o13]
section
variable {Φ : Nat → List AV → Option AV} {f : Nat}
noncomputable def nid (r d : Int) : Int := (if d < r then d else r) + 2
noncomputable def nre (r d s : Int) : Int := if s < nid r d then s else nid r d
set_option maxHeartbeats 2000000
theorem in_body {a b : List Nat} {mc : Int} {o3 o4 : Option AV} {r i : Int} {y : Nat} {dist mn : Int} {o12 o13 : Option AV} {j x : Nat} {cst d : Int} {l : List Int} (hx : a[j]? = some x) (hΦ : Φ 5 [.str (ch y), .str (ch x)] = some (.int cst)) (hl : l[j]? = some d) (hj : j < 1000) :
    runS (G' Φ) noΨ f levF.bd (stI a b mc o3 o4 r i y dist mn (some (.int j)) o12 o13) (some l) =
      some (.fall (stI a b mc o3 o4 (nre r d (dist + cst)) i y d (if nre r d (dist + cst) < mn then nre r d (dist + cst) else mn) (some (.int j)) (some (.int (dist + cst))) (some (.int (nid r d)))) (some (l.set j (nre r d (dist + cst))))) := by
  have i1 := evIdx_str (μ := some l) hj hx
  have i2 := evIdx_box hj hl
  have hjl : j < l.length := (List.getElem?_eq_some_iff.1 hl).1
  show runS (G' Φ) noΨ f (.asg 12 _ (.bin .Add (.var 9 _) (.cal (.gfn 5 _) (.cons (.var 8 _) (.cons (.idx (.var 0 _) (.var 11 _) _) .nil)) _) _) _ (.asg 9 _ (.idx (.var 5 _) (.var 11 _) _) _ (.asg 13 _ (.bin .Add (.blt .min _ (.cons (.var 6 _) (.cons (.var 9 _) .nil)) _) (.gcs 2 _) _) _ (.asg 6 _ (.blt .min _ (.cons (.var 13 _) (.cons (.var 12 _) .nil)) _) _ (.sto 5 _ (.var 11 _) _ (.var 6 _) _ (.ite (.cmp .Lt (.var 6 _) (.var 10 _) _) (.asg 10 _ (.var 6 _) _ .nil) .nil _ .nil)))))) _ _ = _
  unfold stI
  rw [run_asg (a := .int (dist + cst)) (ev_bin (ev_var rfl) (ev_cal (by decide) (evs_cons (ev_var rfl) (evs_cons (ev_idx (ev_var rfl) (ev_var rfl) i1) evs_nil)) hΦ) (evBin_add _ _)) (by simp)]
  simp only [List.set_cons_succ, List.set_cons_zero]
  rw [run_asg (a := .int d) (ev_idx (ev_var rfl) (ev_var rfl) i2) (by simp)]
  simp only [List.set_cons_succ, List.set_cons_zero]
  rw [run_asg (a := .int (nid r d)) (ev_bin (ev_blt (evs_cons (ev_var rfl) (evs_cons (ev_var rfl) evs_nil)) (evBx_min2 _ _ _)) (ev_gcs rfl) (evBin_add _ _)) (by simp)]
  simp only [List.set_cons_succ, List.set_cons_zero]
  rw [run_asg (a := .int (nre r d (dist + cst))) (ev_blt (evs_cons (ev_var rfl) (evs_cons (ev_var rfl) evs_nil)) (evBx_min2 _ _ _)) (by simp)]
  simp only [List.set_cons_succ, List.set_cons_zero]
  rw [run_sto (v := nre r d (dist + cst)) (j := j) rfl (ev_var rfl) (ev_var rfl) hjl]
  by_cases hm : nre r d (dist + cst) < mn
  · rw [run_iteT (tv_cmp (ev_var rfl) (ev_var rfl) (by rw [evCmp_lt, decide_eq_true hm])) (by rw [run_asg (ev_var rfl) (by simp), run_nil]), run_nil, if_pos hm]
    rfl
  · rw [run_iteF (tv_cmp (ev_var rfl) (ev_var rfl) (by rw [evCmp_lt, decide_eq_false hm])), run_nil, if_neg hm]
end
end Mine
end TextQ3

section TextQ4
open PySem PySem.W PyProof.Rows PySem.Calls PySem.Spec
namespace Mine
theorem hh_zero (a b : List Nat) : hh a b 0 = 0 := by simp [hh, ham]
theorem hh_le (a b : List Nat) (t : Nat) : hh a b t ≤ t := Nat.le_trans (ham_le _ _) (by simp; omega)
theorem hh_step {a b : List Nat} {t : Nat} (h1 : t < a.length) (h2 : t < b.length) : hh a b t ≤ hh a b (t + 1) ∧ hh a b (t + 1) ≤ hh a b t + 1 := by
  have := hh_succ (a := a) (b := b) (List.getElem?_eq_getElem h1) (List.getElem?_eq_getElem h2)
  split at this <;> omega
theorem Dd_le {a b : List Nat} {i j L : Nat} (hi : i ≤ L) (hj : j ≤ L) : Dd a b i j ≤ 2 * L := by
  unfold Dd
  have := hh_le a b (min i j)
  omega
theorem nre_eq {r d s t : Int} (h1 : t ≤ s) (h2 : t ≤ r + 2) (h3 : t ≤ d + 2) (h : t = s ∨ t = r + 2 ∨ t = d + 2) : nre r d s = t := by
  unfold nre nid
  (repeat' split) <;> omega
theorem Dd_a (a b : List Nat) (i k : Nat) : Dd a b i (i + k) = 2 * (k + hh a b i) := by
  unfold Dd
  rw [Nat.max_eq_right (Nat.le_add_right i k), Nat.min_eq_left (Nat.le_add_right i k), Nat.add_sub_cancel_left]
theorem Dd_b (a b : List Nat) (j k : Nat) : Dd a b (j + k) j = 2 * (k + hh a b j) := by
  unfold Dd
  rw [Nat.max_eq_left (Nat.le_add_right j k), Nat.min_eq_right (Nat.le_add_right j k), Nat.add_sub_cancel_left]
theorem cell_1 {h0 h1 k : Nat} (s : h0 ≤ h1 ∧ h1 ≤ h0 + 1) : nre ((2 * (k + h1) : Nat) : Int) ((2 * (k + 2 + h0) : Nat) : Int) (((2 * (k + 1 + h0) : Nat) : Int) + 2) = ((2 * (k + 1 + h1) : Nat) : Int) :=
  nre_eq (by omega) (by omega) (by omega) (.inr (.inl (by omega)))
theorem cell_2 {h0 h1 k : Nat} {r : Int} (s : h0 ≤ h1 ∧ h1 ≤ h0 + 1) (hr : r = (2 * (k + 2 + h0) : Nat) ∨ r = 2 * ((k : Int) + 1)) (h2 : r = 2 * ((k : Int) + 1) → h0 = 0) : nre r ((2 * (k + h1) : Nat) : Int) (((2 * (k + 1 + h0) : Nat) : Int) + 2) = ((2 * (k + 1 + h1) : Nat) : Int) := by
  rcases hr with e | e
  · exact nre_eq (by omega) (by omega) (by omega) (.inr (.inr (by omega)))
  · have := h2 e
    exact nre_eq (by omega) (by omega) (by omega) (.inr (.inr (by omega)))
theorem cell_3 {h0 h1 c : Nat} {r : Int} (s : h1 = h0 + c) (hc : c ≤ 1) (hr : r = (2 * (1 + h0) : Nat) ∨ (r = 0 ∧ h0 = 0)) : nre r ((2 * (1 + h0) : Nat) : Int) (((2 * (0 + h0) : Nat) : Int) + ((2 * c : Nat) : Int)) = ((2 * (0 + h1) : Nat) : Int) := by
  rcases hr with e | ⟨e, e0⟩
  · exact nre_eq (by omega) (by omega) (by omega) (.inl (by omega))
  · exact nre_eq (by omega) (by omega) (by omega) (.inl (by omega))
/-- the cell of the table -/
theorem cell_eq {a b : List Nat} {i j x y : Nat} {r : Int} (hl : a.length = b.length) (hi : i < b.length) (hj : j < a.length) (hx : a[j]? = some x) (hy : b[i]? = some y) (cross : i ≠ j → y ≠ x) (r0 : j = 0 → r = 2 * (i : Nat)) (r1 : 0 < j → r = (Dd a b (i + 1) j : Nat)) :
    nre r (Dd a b i (j + 1) : Nat) ((Dd a b i j : Nat) + (if y = x then 0 else 2)) = (Dd a b (i + 1) (j + 1) : Nat) := by
  have z := hh_zero a b
  rcases Nat.lt_trichotomy i j with h | h | h
  · have s := hh_step (a := a) (b := b) (t := i) (Nat.lt_trans h hj) hi
    rw [if_neg (cross (Nat.ne_of_lt h)), r1 (Nat.lt_of_le_of_lt (Nat.zero_le _) h)]
    obtain ⟨k, rfl⟩ := Nat.exists_eq_add_of_le h
    clear hj hx hy cross r0 r1 z h
    have e1 := Dd_a a b i (k + 2)
    have e2 := Dd_a a b i (k + 1)
    have e3 := Dd_a a b (i + 1) k
    have e4 := Dd_a a b (i + 1) (k + 1)
    rw [show i + 1 + k + 1 = i + (k + 2) by omega, e1, show i + 1 + k = i + (k + 1) by omega, e2, show i + (k + 1) = i + 1 + k by omega, e3, show i + (k + 2) = i + 1 + (k + 1) by omega, e4]
    exact cell_1 s
  · subst h
    have s := hh_succ hx hy
    have e1 := Dd_a a b i 1
    have e2 := Dd_a a b i 0
    have e3 := Dd_b a b i 1
    have e4 := Dd_a a b (i + 1) 0
    rw [Nat.add_zero] at e2 e4
    rw [e1, e2, e4]
    have hc : (if y = x then (0 : Int) else 2) = ((2 * (if x = y then 0 else 1) : Nat) : Int) := by
      by_cases e : y = x
      · rw [if_pos e, if_pos e.symm]; rfl
      · rw [if_neg e, if_neg (fun q => e q.symm)]; rfl
    rw [hc]
    refine cell_3 s (by split <;> omega) ?_
    rcases Nat.eq_zero_or_pos i with h0 | h0
    · right
      exact ⟨by rw [r0 h0, h0]; rfl, by rw [h0]; exact z⟩
    · left
      rw [r1 h0, e3]
  · have s := hh_step (a := a) (b := b) (t := j) hj (Nat.lt_trans h hi)
    rw [if_neg (cross (Nat.ne_of_gt h))]
    obtain ⟨k, rfl⟩ := Nat.exists_eq_add_of_le h
    clear hi hx hy cross h
    have e1 := Dd_b a b (j + 1) k
    have e2 := Dd_b a b j (k + 1)
    have e3 := Dd_b a b j (k + 2)
    have e4 := Dd_b a b (j + 1) (k + 1)
    rw [e1, show j + 1 + k + 1 = j + 1 + (k + 1) by omega, e4, show j + 1 + k = j + (k + 1) by omega, e2]
    refine cell_2 s ?_ ?_
    · rcases Nat.eq_zero_or_pos j with h0 | h0
      · right; rw [r0 h0, h0]; omega
      · left; rw [r1 h0, show j + 1 + k + 1 = j + (k + 2) by omega, e3]
    · intro e
      rcases Nat.eq_zero_or_pos j with h0 | h0
      · rw [h0]; exact z
      · have := r1 h0
        rw [show j + 1 + k + 1 = j + (k + 2) by omega, e3] at this
        omega
section
variable {Φ : Nat → List AV → Option AV} {f : Nat}
noncomputable def InvI (a b : List Nat) (mc : Int) (o3 o4 : Option AV) (i y : Nat) (j : Nat) (ρ : Sto) (μ : Option (List Int)) : Prop :=
  ∃ r mn o11 o12 o13, ρ = stI a b mc o3 o4 r (i : Nat) y (Dd a b i j : Nat) mn o11 o12 o13 ∧ μ = some (rowD a b i j) ∧ (j = 0 → r = 2 * (i : Nat)) ∧ (0 < j → r = (Dd a b (i + 1) j : Nat) ∧ mn ≤ 2 * (a.length : Nat))
theorem in_loop {a b : List Nat} {mc : Int} {o3 o4 : Option AV} {i y : Nat} {pt : Pos} {ρ : Sto} {μ : Option (List Int)} (hΦ : ∀ x y, x ∈ a → y ∈ b → Φ 5 [.str (ch y), .str (ch x)] = some (.int (if y = x then 0 else 2))) (hz : a.length < 1000) (hl : a.length = b.length) (hi : i < b.length) (hy : b[i]? = some y)
    (cross : ∀ (i j x : Nat), a[j]? = some x → b[i]? = some x → i = j) (h0 : InvI a b mc o3 o4 i y 0 ρ μ) :
    ∃ ρ' μ', forO (.one 11 pt) (fun ρ μ => runS (G' Φ) noΨ f levF.bd ρ μ) (rangeL 0 1 a.length) ρ μ = some (.fall ρ' μ') ∧ InvI a b mc o3 o4 i y a.length ρ' μ' := by
  refine forO_run (InvI a b mc o3 o4 i y) a.length (fun j ρ μ hj inv => ?_) a.length 0 ρ μ (by omega) h0
  obtain ⟨r, mn, o11, o12, o13, rfl, rfl, r0, r1⟩ := inv
  have hx : a[j]? = some a[j] := List.getElem?_eq_getElem hj
  have hb := in_body (Φ := Φ) (f := f) (a := a) (b := b) (mc := mc) (o3 := o3) (o4 := o4) (r := r) (i := (i : Nat)) (y := y) (dist := (Dd a b i j : Nat)) (mn := mn) (o12 := o12) (o13 := o13) hx (hΦ _ _ (List.mem_of_getElem? hx) (List.mem_of_getElem? hy)) (rowD_get (b := b) (i := i) hj) (by omega)
  have ce := cell_eq hl hi hj hx hy (fun hne e => hne (cross i j y (by rw [hx, e]) hy)) r0 (fun h => (r1 h).1)
  rw [ce] at hb
  refine ⟨_, _, _, rfl, hb, ?_⟩
  refine ⟨_, _, _, _, _, rfl, by rw [rowD_set hj], fun e => by omega, fun _ => ⟨rfl, ?_⟩⟩
  have := Dd_le (a := a) (b := b) (i := i + 1) (j := j + 1) (L := a.length) (by omega) (by omega)
  split <;> omega
theorem range_all : allT 7 (fun L => match itemsOf (.range 0 (L : Nat) 1) with
    | some l => eqAVs l (rangeL 0 1 L)
    | none => false) = true := by decide +kernel
theorem range_items (L : Nat) (h : L ≤ 6) : itemsOf (.range 0 (L : Int) 1) = some (rangeL 0 1 L) := by
  have := allT_get range_all (i := L) (by omega)
  split at this
  · rename_i l e; rw [e, eqAVs_eq _ _ this]
  · cases this
theorem evB_range1 (n : Int) : evB .range [.int n] = some (.range 0 n 1) := rfl
theorem ev_len {G : Env0} {μ : Option (List Int)} {v : Nat} {q1 q2 q3 : Pos} {ρ : Sto} {a : List Nat} (h : (ρ[v]?).join = some (.str (mk a))) : ev G μ (.blt .len q1 (.cons (.var v q2) .nil) q3) ρ = some (.int a.length) :=
  ev_blt (evs_cons (ev_var h) evs_nil) (by show some (AV.int ((mk a).length : Nat)) = _; rw [mk_len])
theorem src_len {G : Env0} {μ : Option (List Int)} {v : Nat} {q1 q2 q3 q4 q5 : Pos} {ρ : Sto} {a : List Nat} (h : (ρ[v]?).join = some (.str (mk a))) (hz : a.length ≤ 6) : src G μ (.blt .range q1 (.cons (.blt .len q2 (.cons (.var v q3) .nil) q4) .nil) q5) ρ = some (rangeL 0 1 a.length) :=
  src_blt (evs_cons (ev_len h) evs_nil) (by show (evB .range [AV.int (a.length : Int)]).bind itemsOf = _; rw [evB_range1, Option.bind_some, range_items _ hz])
noncomputable def InvO (a b : List Nat) (mc : Int) (o3 o4 : Option AV) (i : Nat) (ρ : Sto) (μ : Option (List Int)) : Prop :=
  ∃ r o7 o8 o9 o10 o11 o12 o13, ρ = [some (.str (mk a)), some (.str (mk b)), some (.int mc), o3, o4, some .box, some (.int r), o7, o8, o9, o10, o11, o12, o13] ∧ μ = some (rowD a b i 0) ∧ (0 < i → r = (Dd a b i a.length : Nat))
theorem evBin_mul2 (a : Int) : evBin .Mult (.int a) (.int 2) = some (.int (a * 2)) := evBin_mul (by decide)
theorem out_loop {a b : List Nat} {mc : Int} {o3 o4 : Option AV} {pt : Pos} {ρ : Sto} {μ : Option (List Int)} (hΦ : ∀ x y, x ∈ a → y ∈ b → Φ 5 [.str (ch y), .str (ch x)] = some (.int (if y = x then 0 else 2))) (hz : a.length ≤ 6) (hn : 0 < a.length) (hl : a.length = b.length) (hmc : 2 * (a.length : Int) ≤ mc)
    (cross : ∀ (i j x : Nat), a[j]? = some x → b[i]? = some x → i = j) (h0 : InvO a b mc o3 o4 0 ρ μ) :
    ∃ ρ' μ', forO (.one 7 pt) (fun ρ μ => runS (G' Φ) noΨ f lev15.bd ρ μ) (rangeL 0 1 b.length) ρ μ = some (.fall ρ' μ') ∧ InvO a b mc o3 o4 b.length ρ' μ' := by
  refine forO_run (InvO a b mc o3 o4) b.length (fun i ρ μ hi inv => ?_) b.length 0 ρ μ (by omega) h0
  obtain ⟨r, o7, o8, o9, o10, o11, o12, o13, rfl, rfl, rr⟩ := inv
  have hy : b[i]? = some b[i] := List.getElem?_eq_getElem hi
  have i1 := evIdx_str (μ := some (rowD a b i 0)) (by omega) hy
  obtain ⟨ρ', μ', hloop, r', mn, v11, v12, v13, rfl, rfl, _, r1⟩ := in_loop (Φ := Φ) (f := f) (a := a) (b := b) (mc := mc) (o3 := o3) (o4 := o4) (i := i) (y := b[i]) (pt := ⟨111, 12, 111, 17⟩) (ρ := stI a b mc o3 o4 (2 * (i : Nat)) (i : Nat) b[i] (2 * (i : Nat)) 9223372036854775807 o11 o12 o13) (μ := some (rowD a b i 0))
    hΦ (by omega) hl hi hy cross ⟨_, _, _, _, _, by
      have : ((Dd a b i 0 : Nat) : Int) = 2 * (i : Nat) := by
        unfold Dd
        rw [show min i 0 = 0 by omega, hh_zero]
        omega
      rw [this], rfl, fun _ => rfl, fun h => absurd h (by omega)⟩
  obtain ⟨r1a, r1b⟩ := r1 hn
  refine ⟨_, stI a b mc o3 o4 r' (i : Nat) b[i] (Dd a b i a.length : Nat) mn v11 v12 v13, some (rowD a b i a.length), rfl, ?_, ?_⟩
  · show runS (G' Φ) noΨ f (.asg 8 _ (.idx (.var 1 _) (.var 7 _) _) _ (.asg2 9 _ 6 _ (.bin .Mult (.var 7 _) (.gcs 2 _) _) _ (.asg 10 _ (.cst (.int 9223372036854775807) 0 _) _ levF))) _ _ = _
    simp only [List.set_cons_succ, List.set_cons_zero]
    rw [run_asg (a := .str (ch b[i])) (ev_idx (ev_var rfl) (ev_var rfl) i1) (by simp)]
    simp only [List.set_cons_succ, List.set_cons_zero]
    rw [run_asg2 (a := .int (2 * (i : Nat))) (ev_bin (ev_var rfl) (ev_gcs rfl) (by rw [evBin_mul2, Int.mul_comm])) (by simp) (by simp)]
    simp only [List.set_cons_succ, List.set_cons_zero]
    rw [run_asg (a := .int 9223372036854775807) rfl (by simp)]
    simp only [List.set_cons_succ, List.set_cons_zero]
    show runS (G' Φ) noΨ f (.for (.one 11 ⟨111, 12, 111, 17⟩) (.blt .range _ (.cons (.blt .len _ (.cons (.var 0 _) .nil) _) .nil) _) levF.bd _ (.ite (.cmp .Gt (.var 10 _) (.var 2 _) _) (.ret _ _) .nil _ .nil)) _ _ = _
    unfold stI at hloop ⊢
    rw [run_for (src_len rfl hz) hloop, run_iteF (tv_cmp (ev_var rfl) (ev_var rfl) (by rw [evCmp_gt, decide_eq_false (by omega)])), run_nil]
  · exact ⟨_, _, _, _, _, _, _, _, rfl, by rw [rowD_end], fun _ => r1a⟩
end
end Mine
end TextQ4

section TextQ5
open PySem PySem.W PyProof.Rows PySem.Calls PySem.Spec
namespace Mine
section
variable {Φ : Nat → List AV → Option AV} {f : Nat}
theorem tv_notS {G : Env0} {μ : Option (List Int)} {v : Nat} {q p : Pos} {ρ : Sto} {a : List Nat} (h : (ρ[v]?).join = some (.str (mk a))) (h2 : 0 < a.length) : tv G μ (.not (.var v q) p) ρ = some false := by
  show (((ρ[v]?).join).bind truth).map (! ·) = _
  rw [h, show (some (AV.str (mk a))).bind truth = some true from truth_mk h2]
  rfl
noncomputable def row0 (L : Nat) : List Int := (List.range L).map fun t => ((2 * (t + 1) : Nat) : Int)
theorem row_all : allT 7 (fun L => match evB .list [.range 2 (2 * ((L : Nat) + 1)) 2] with
    | some (.list l) => eqAVs l ((row0 L).map .int) && decide (asInts ((row0 L).map .int) = some (row0 L))
    | _ => false) = true := by decide +kernel
theorem row_list (L : Nat) (h : L ≤ 6) : evB .list [.range 2 (2 * ((L : Int) + 1)) 2] = some (.list ((row0 L).map .int)) ∧ asInts ((row0 L).map .int) = some (row0 L) := by
  have := allT_get row_all (i := L) (by omega)
  split at this
  · rename_i l e
    simp only [Bool.and_eq_true, decide_eq_true_eq] at this
    rw [e, eqAVs_eq _ _ this.1]
    exact ⟨rfl, this.2⟩
  · cases this
theorem row0_D (a b : List Nat) : row0 a.length = rowD a b 0 0 := by
  unfold row0 rowD
  apply List.map_congr_left
  intro t _
  rw [if_neg (by omega)]
  unfold Dd
  rw [show min 0 (t + 1) = 0 by omega, hh_zero]
  congr 1
theorem evB_range3 {a b : Int} : evB .range [.int a, .int b, .int 2] = some (.range a b 2) := ifO_pos (p := (2 : Int) ≠ 0 ∧ small 2 = true) ⟨by decide, by decide⟩
theorem lev_tail {a b : List Nat} {mc : Int} {o3 o4 : Option AV} (hΦ : ∀ x y, x ∈ a → y ∈ b → Φ 5 [.str (ch y), .str (ch x)] = some (.int (if y = x then 0 else 2))) (hz : a.length ≤ 6) (hn : 0 < a.length) (hl : a.length = b.length) (hmc : 2 * (a.length : Int) ≤ mc)
    (cross : ∀ (i j x : Nat), a[j]? = some x → b[i]? = some x → i = j) : runS (G' Φ) noΨ f lev9 (stA a b mc o3 o4) none = some (.ret (.int ((2 * ham a b : Nat) : Int))) := by
  have g1 : ∀ (μ : Option (List Int)) (p : Pos) (ρ : Sto), ev (G' Φ) μ (.gcs 1 p) ρ = some (.int 40) := fun μ p ρ => rfl
  have g2 : ∀ (μ : Option (List Int)) (p : Pos) (ρ : Sto), ev (G' Φ) μ (.gcs 2 p) ρ = some (.int 2) := fun μ p ρ => rfl
  show runS (G' Φ) noΨ f (.ite (.bor (.not (.var 0 _) _) (.not (.var 1 _) _) _) (.ret _ _) .nil _
    (.ite (.bor (.cmp .Gt (.blt .len _ (.cons (.var 0 _) .nil) _) (.gcs 1 _) _) (.cmp .Gt (.blt .len _ (.cons (.var 1 _) .nil) _) (.gcs 1 _) _) _) _ .nil _
    (.ite (.cmp .Lt (.blt .len _ (.cons (.var 1 _) .nil) _) (.blt .len _ (.cons (.var 0 _) .nil) _) _) _ .nil _
    (.ite (.cmp .Gt (.bin .Mult (.bin .Sub (.blt .len _ (.cons (.var 1 _) .nil) _) (.blt .len _ (.cons (.var 0 _) .nil) _) _) (.gcs 2 _) _) (.var 2 _) _) (.ret _ _) .nil _ lev13)))) _ _ = _
  rw [stA]
  rw [run_iteF (tv_bor (tv_notS rfl hn) (tv_notS rfl (by omega)))]
  rw [run_iteF (tv_bor (tv_cmp (ev_len rfl) (g1 _ _ _) (by rw [evCmp_gt, decide_eq_false (by omega)])) (tv_cmp (ev_len rfl) (g1 _ _ _) (by rw [evCmp_gt, decide_eq_false (by omega)])))]
  rw [run_iteF (tv_cmp (ev_len rfl) (ev_len rfl) (by rw [evCmp_lt, decide_eq_false (by omega)]))]
  rw [run_iteF (tv_cmp (ev_bin (ev_bin (ev_len rfl) (ev_len rfl) (evBin_sub _ _)) (g2 _ _ _) (evBin_mul (by decide))) (ev_var rfl) (by rw [evCmp_gt, decide_eq_false (by rw [hl]; omega)]))]
  obtain ⟨l1, l2⟩ := row_list a.length hz
  have sm : small ((a.length : Int) + 1) = true := sml (a := a.length + 1) (by omega)
  show runS (G' Φ) noΨ f (.bxr 5 _ _ _ (.cons (.gcs 2 _) (.cons (.bin .Mult (.gcs 2 _) (.bin .Add (.blt .len _ (.cons (.var 0 _) .nil) _) (.cst (.int 1) 0 _) _) _) (.cons (.gcs 2 _) .nil))) _ _ _
    (.asg 6 _ (.cst (.int 0) 0 _) _ (.for (.one 7 ⟨107, 8, 107, 14⟩) (.blt .range _ (.cons (.blt .len _ (.cons (.var 1 _) .nil) _) .nil) _) lev15.bd _ lev16))) _ _ = _
  rw [run_bxr (evs_cons (g2 _ _ _) (evs_cons (ev_bin (g2 _ _ _) (ev_bin (ev_len rfl) rfl (evBin_add _ _)) (evBin_mul sm)) (evs_cons (g2 _ _ _) evs_nil))) evB_range3 l1 l2 (by simp)]
  simp only [List.set_cons_succ, List.set_cons_zero]
  rw [run_asg (a := .int 0) rfl (by simp)]
  simp only [List.set_cons_succ, List.set_cons_zero]
  obtain ⟨ρ', μ', hloop, r, v7, v8, v9, v10, v11, v12, v13, rfl, rfl, rr⟩ := out_loop (Φ := Φ) (f := f) (a := a) (b := b) (mc := mc) (o3 := o3) (o4 := o4) (pt := ⟨107, 8, 107, 14⟩) (ρ := [some (.str (mk a)), some (.str (mk b)), some (.int mc), o3, o4, some .box, some (.int 0), none, none, none, none, none, none, none]) (μ := some (row0 a.length)) hΦ hz hn hl hmc cross
    ⟨_, _, _, _, _, _, _, _, rfl, by rw [row0_D a b], fun h => absurd h (by omega)⟩
  rw [run_for (src_len rfl (by omega)) hloop]
  show runS (G' Φ) noΨ f (.ret (.var 6 _) _) _ _ = _
  rw [run_ret (ev_var rfl), rr (by omega)]
  unfold Dd hh
  rw [show min b.length a.length = a.length by omega, show max b.length a.length - a.length = 0 by omega, List.take_length, hl, List.take_length, Nat.zero_add]
theorem lev_run {xs ys : List Nat} {mc : Int} (hΦ : ∀ x y, x ∈ xs → y ∈ ys → Φ 5 [.str (ch y), .str (ch x)] = some (.int (if y = x then 0 else 2))) (hz : xs.length ≤ 6) (hl : xs.length = ys.length) (hmc : 2 * (xs.length : Int) ≤ mc) (hf : 7 < f)
    (cross : ∀ (i j x : Nat), xs[j]? = some x → ys[i]? = some x → i = j) : runS (G' Φ) noΨ f st_levenshtein_distance (stA xs ys mc none none) none = some (.ret (.int ((2 * ham xs ys : Nat) : Int))) := by
  show runS (G' Φ) noΨ f (.ite (.cmp .Eq (.var 0 _) (.var 1 _) _) (.ret (.cst (.int 0) 0 _) _) .nil _ (.asg 3 _ (.cst (.int 0) 0 _) _ lev2)) _ _ = _
  by_cases he : xs = ys
  · subst he
    rw [run_iteR (i := 0) (tv_cmp (ev_var rfl) (ev_var rfl) (by show some (mk xs == mk xs) = _; rw [mk_beq, decide_eq_true rfl])) rfl, ham_self]
    rfl
  · rw [run_iteF (tv_cmp (a := .str (mk xs)) (b := .str (mk ys)) (ev_var rfl) (ev_var rfl) (by show some (mk xs == mk ys) = _; rw [mk_beq, decide_eq_false he]))]
    rw [run_asg (a := .int 0) rfl (by simp [stA])]
    obtain ⟨c, x, y, hc, ht, hx, hy, hne⟩ := first_diff xs ys hl he
    have e1 : (stA xs ys mc none none).set 3 (some (.int 0)) = stA xs ys mc (some (.int 0)) none := rfl
    rw [e1, pre_loop (by omega) hl hc ht hx hy hne (by omega)]
    show runS (G' Φ) noΨ f (.asg 0 _ (.sli (.var 0 _) (.var 3 _) .nil .nil _ _) _ (.asg 1 _ (.sli (.var 1 _) (.var 3 _) .nil .nil _ _) _ (.asg 4 _ (.cst (.int 0) 0 _) _ lev6))) _ _ = _
    rw [stA, run_asg (ev_sliFrom rfl rfl (by omega)) (by simp)]
    simp only [List.set_cons_succ, List.set_cons_zero]
    rw [run_asg (ev_sliFrom rfl rfl (by omega)) (by simp)]
    simp only [List.set_cons_succ, List.set_cons_zero]
    rw [run_asg (a := .int 0) rfl (by simp)]
    simp only [List.set_cons_succ, List.set_cons_zero]
    have hl2 : (xs.drop c).length = (ys.drop c).length := by simp [hl]
    have hne2 : xs.drop c ≠ ys.drop c := fun e => hne (by
      have := drop_get e (Nat.le_refl c)
      rw [hx, hy] at this; cases this; rfl)
    obtain ⟨q, x', y', hq, ht2, hx2, hy2, hne3⟩ := last_diff (xs.drop c) (ys.drop c) hl2 hne2
    have hq' : q < xs.length - c := by simpa using hq
    have e2 : ([some (.str (mk (xs.drop c))), some (.str (mk (ys.drop c))), some (.int mc), some (.int (c : Nat)), some (.int 0), none, none, none, none, none, none, none, none, none] : Sto) = stA (xs.drop c) (ys.drop c) mc (some (.int (c : Nat))) (some (.int 0)) := rfl
    rw [e2, post_loop (by simp; omega) hl2 hq ht2 hx2 hy2 hne3 (by omega)]
    show runS (G' Φ) noΨ f (.asg 0 _ (.sli (.var 0 _) .nil (.bor (.var 4 _) (.cst .none 0 _) _) .nil _ _) _ (.asg 1 _ (.sli (.var 1 _) .nil (.bor (.var 4 _) (.cst .none 0 _) _) .nil _ _) _ lev9)) _ _ = _
    rw [stA, run_asg (ev_sliTo rfl rfl (by omega)) (by simp)]
    simp only [List.set_cons_succ, List.set_cons_zero]
    rw [run_asg (ev_sliTo rfl rfl (by omega)) (by simp)]
    simp only [List.set_cons_succ, List.set_cons_zero]
    generalize hA : (xs.drop c).take ((xs.drop c).length - q) = a
    generalize hB : (ys.drop c).take ((ys.drop c).length - q) = b
    have la : a.length = xs.length - c - q := by rw [← hA]; simp
    have lb : b.length = xs.length - c - q := by rw [← hB]; simp; try omega
    have ga : ∀ (i x : Nat), a[i]? = some x → xs[c + i]? = some x := fun i x e => by
      rw [← hA, List.getElem?_take] at e
      split at e
      · rw [List.getElem?_drop] at e; exact e
      · cases e
    have gb : ∀ (i x : Nat), b[i]? = some x → ys[c + i]? = some x := fun i x e => by
      rw [← hB, List.getElem?_take] at e
      split at e
      · rw [List.getElem?_drop] at e; exact e
      · cases e
    have e3 : ([some (.str (mk a)), some (.str (mk b)), some (.int mc), some (.int (c : Nat)), some (.int (-(q : Nat))), none, none, none, none, none, none, none, none, none] : Sto) = stA a b mc (some (.int (c : Nat))) (some (.int (-(q : Nat)))) := rfl
    rw [e3, lev_tail (fun x y mx my => ?_) (by omega) (by omega) (by omega) (by omega) (fun i j x e1 e2 => by
      have := cross (c + i) (c + j) x (ga j x e1) (gb i x e2); omega)]
    · have ht2' : (xs.drop c).drop ((xs.drop c).length - q) = (ys.drop c).drop ((xs.drop c).length - q) := by rw [ht2, hl2]
      have hh1 := ham_split c xs ys hl
      have hh2 := ham_split ((xs.drop c).length - q) (xs.drop c) (ys.drop c) hl2
      rw [ht2', ham_self] at hh2
      rw [ht, ham_self] at hh1
      rw [hA, hl2, hB] at hh2
      rw [hh1, hh2]
      simp
    · obtain ⟨i, hi, rfl⟩ := List.getElem_of_mem mx
      obtain ⟨j, hj, rfl⟩ := List.getElem_of_mem my
      exact hΦ _ _ (List.mem_of_getElem? (ga i _ (List.getElem?_eq_getElem hi))) (List.mem_of_getElem? (gb j _ (List.getElem?_eq_getElem hj)))
end
end Mine
end TextQ5

section TextP3
open PySem PySem.W PyProof.Rows PySem.Calls PySem.Spec
namespace Mine
theorem bits6 : allT 64 (fun r => isO (φ2 [.list (bitsL 6 r), .int 4]) (.int (numS 6 r))) = true := by decide +kernel
theorem digs5 : allT 32 (fun r => isO (φ2 [.list (digsL 5 r), .int 4]) (.int (numN 5 r))) = true := by decide +kernel
theorem digs6 : allT 64 (fun r => isO (φ2 [.list (digsL 6 r), .int 4]) (.int (numN 6 r))) = true := by decide +kernel
theorem ap5 : allT 32 (fun s => isO (φ4 [.int (numN 5 s)]) (.byt (wordB 5 s))) = true := by decide +kernel
theorem ap6 : allT 64 (fun s => isO (φ4 [.int (numN 6 s)]) (.byt (wordB 6 s))) = true := by decide +kernel
theorem le5 : allT 32 (fun s => isO (φ8 [.int (numN 5 s), .int 5]) (.byt (wordB 5 s))) = true := by decide +kernel
theorem le6 : allT 64 (fun s => isO (φ8 [.int (numN 6 s), .int 6]) (.byt (wordB 6 s))) = true := by decide +kernel
theorem dvT : allT 7 (fun d => allT 3 fun r => isO (φ3 [.int (2 ^ (r + 1) * d : Nat), .int (2 ^ (r + 1) : Nat)]) (.tup [.int (d : Nat), .int 0])) = true := by decide +kernel
theorem xr5 : allT 32 (fun s => allT 32 fun r => Builtin.bitXor (numN 5 s : Nat) (numS 5 r : Nat) == (numN 5 (s ^^^ r) : Nat)) = true := by decide +kernel
theorem xr6 : allT 64 (fun s => allT 64 fun r => Builtin.bitXor (numN 6 s : Nat) (numS 6 r : Nat) == (numN 6 (s ^^^ r) : Nat)) = true := by decide +kernel
theorem as5 : allT 32 (fun s => asciiStr (wordB 5 s) == some (wordS 5 s)) = true := by decide +kernel
theorem as6 : allT 64 (fun s => asciiStr (wordB 6 s) == some (wordS 6 s)) = true := by decide +kernel
noncomputable def popc : Nat → Nat → Nat
  | 0, _ => 0
  | n + 1, m => m % 2 + popc n (m / 2)
theorem hm5 : allT 32 (fun s => allT 32 fun u => ham (lets 5 s) (lets 5 u) == popc 5 (s ^^^ u)) = true := by decide +kernel
theorem hm6 : allT 64 (fun s => allT 64 fun u => ham (lets 6 s) (lets 6 u) == popc 6 (s ^^^ u)) = true := by decide +kernel
theorem lower_letters : allT 16 (fun i => Txt.lower (ch (65 + i)) == ch (97 + i)) = true := by decide +kernel
theorem ev_low {G : Env0} {μ : Option (List Int)} {v i : Nat} {q1 q2 p : Pos} {ρ : Sto} (hi : i < 16) (h : (ρ[v]?).join = some (.str (ch (65 + i)))) : ev G μ (.met .lower (.var v q1) q2 .nil p) ρ = some (.str (ch (97 + i))) := by
  have e := eq_of_beq (allT_get lower_letters hi)
  refine ev_met (ev_var h) evs_nil ?_
  show ifO ((Txt.lower (ch (65 + i))).length ≤ 1000) (AV.str (Txt.lower (ch (65 + i)))) = _
  rw [e]
  exact ifO_pos (by show 1 ≤ 1000; decide)
theorem run_sub (i j : Nat) (hi : i < 16) (hj : j < 16) : runS ⟨gcV, noΦ⟩ noΨ 20 st_substitution_cost [some (.str (ch (65 + i))), some (.str (ch (65 + j)))] none = some (.ret (.int (if i = j then 0 else 2))) := by
  unfold st_substitution_cost
  by_cases e : i = j
  · subst e
    rw [run_iteR (tv_cmp (ev_var rfl) (ev_var rfl) ((evCmp_str _ _).trans (by rw [ch_beq, decide_eq_true rfl]))) ev_cst, if_pos rfl]
  · rw [run_iteF (tv_cmp (a := .str (ch (65 + i))) (b := .str (ch (65 + j))) (ev_var rfl) (ev_var rfl) ((evCmp_str _ _).trans (by rw [ch_beq, decide_eq_false (by omega)])))]
    rw [run_iteF (tv_cmp (ev_low hi rfl) (ev_low hj rfl) ((evCmp_str _ _).trans (by rw [ch_beq, decide_eq_false (by omega)])))]
    rw [run_ret (i := 2) (ev_gcs rfl), if_neg e]
theorem φ5_eq {x y : Nat} (hx : 65 ≤ x ∧ x < 81) (hy : 65 ≤ y ∧ y < 81) : φ5 [.str (ch y), .str (ch x)] = some (.int (if y = x then 0 else 2)) := by
  obtain ⟨i, rfl⟩ : ∃ i, x = 65 + i := ⟨x - 65, by omega⟩
  obtain ⟨j, rfl⟩ : ∃ j, y = 65 + j := ⟨y - 65, by omega⟩
  unfold φ5 goF
  rw [if_pos ⟨rfl, rfl⟩, show ([AV.str (ch (65 + j)), .str (ch (65 + i))].map some ++ List.replicate (nm_substitution_cost.length - ps_substitution_cost.length) none) = [some (.str (ch (65 + j))), some (.str (ch (65 + i)))] from rfl, run_sub j i (by omega) (by omega)]
  have e : (65 + j = 65 + i) ↔ (j = i) := by omega
  simp only [retP, plain, if_true, e]
end Mine
end TextP3

section TextP4
open PySem PySem.W PyProof.Rows PySem.Calls PySem.Spec
namespace Mine
noncomputable abbrev Ok (n : Nat) : Prop := n = 5 ∨ n = 6
section
variable {n : Nat} (hn : Ok n)
include hn
theorem c_bits {r : Nat} (h : r < 2 ^ n) : φ2 [.list (bitsL n r), .int 4] = some (.int (numS n r)) := by
  rcases hn with rfl | rfl
  · exact isO_eq (allT_get bits5 h)
  · exact isO_eq (allT_get bits6 h)
theorem c_digs {r : Nat} (h : r < 2 ^ n) : φ2 [.list (digsL n r), .int 4] = some (.int (numN n r)) := by
  rcases hn with rfl | rfl
  · exact isO_eq (allT_get digs5 h)
  · exact isO_eq (allT_get digs6 h)
theorem c_ap {r : Nat} (h : r < 2 ^ n) : φ4 [.int (numN n r)] = some (.byt (wordB n r)) := by
  rcases hn with rfl | rfl
  · exact isO_eq (allT_get ap5 h)
  · exact isO_eq (allT_get ap6 h)
theorem c_le {r : Nat} (h : r < 2 ^ n) : φ8 [.int (numN n r), .int n] = some (.byt (wordB n r)) := by
  rcases hn with rfl | rfl
  · exact isO_eq (allT_get le5 h)
  · exact isO_eq (allT_get le6 h)
theorem c_xr {s r : Nat} (h : s < 2 ^ n) (h2 : r < 2 ^ n) : Builtin.bitXor (numN n s) (numS n r) = (numN n (s ^^^ r) : Nat) := by
  rcases hn with rfl | rfl
  · exact eq_of_beq (allT_get (allT_get xr5 h) h2)
  · exact eq_of_beq (allT_get (allT_get xr6 h) h2)
theorem c_as {r : Nat} (h : r < 2 ^ n) : asciiStr (wordB n r) = some (wordS n r) := by
  rcases hn with rfl | rfl
  · exact eq_of_beq (allT_get as5 h)
  · exact eq_of_beq (allT_get as6 h)
theorem c_ham {s r : Nat} (h : s < 2 ^ n) (h2 : r < 2 ^ n) : ham (lets n s) (lets n r) = popc n (s ^^^ r) := by
  rcases hn with rfl | rfl
  · exact eq_of_beq (allT_get (allT_get hm5 h) h2)
  · exact eq_of_beq (allT_get (allT_get hm6 h) h2)
omit hn in
theorem bt_lt (m p : Nat) : bt m p < 2 := Nat.mod_lt _ (by omega)
omit hn in
theorem lets_len (n s : Nat) : (lets n s).length = n := by simp [lets]
omit hn in
theorem lets_get {n s t x : Nat} (h : (lets n s)[t]? = some x) : t < n ∧ x = 65 + 2 * (n - 1 - t) + bt s (n - 1 - t) := by
  have ht : t < n := by
    have := (List.getElem?_eq_some_iff.1 h).1
    rw [lets_len] at this; exact this
  refine ⟨ht, ?_⟩
  unfold lets at h
  rw [List.getElem?_reverse (by simpa using ht)] at h
  rw [List.getElem?_map, List.length_map, List.length_range, List.getElem?_range (by omega)] at h
  simpa using h.symm
theorem c_lev {s u : Nat} (h : s < 2 ^ n) (h2 : u < 2 ^ n) : φ6 [.str (wordS n s), .str (wordS n u), .int (2 * n : Nat)] = some (.int ((2 * popc n (s ^^^ u) : Nat) : Int)) := by
  have rng : ∀ {n s x : Nat}, Ok n → x ∈ lets n s → 65 ≤ x ∧ x < 81 := fun {n s x} ho hx => by
    obtain ⟨i, hi, rfl⟩ := List.getElem_of_mem hx
    obtain ⟨a, b⟩ := lets_get (List.getElem?_eq_getElem hi)
    have := bt_lt s (n - 1 - i)
    rcases ho with rfl | rfl <;> omega
  have hr := lev_run (Φ := Φ6) (f := 20) (xs := lets n s) (ys := lets n u) (mc := ((2 * n : Nat) : Int)) (fun x y hx hy => φ5_eq (rng hn hx) (rng hn hy)) (by rw [lets_len]; rcases hn with rfl | rfl <;> omega) (by rw [lets_len, lets_len]) (by rw [lets_len]; omega) (by omega)
    (fun i j x e1 e2 => by
      obtain ⟨a1, a2⟩ := lets_get e1
      obtain ⟨b1, b2⟩ := lets_get e2
      have := bt_lt s (n - 1 - j)
      have := bt_lt u (n - 1 - i)
      omega)
  unfold φ6 goF
  rw [if_pos ⟨rfl, rfl⟩]
  have e : ([AV.str (wordS n s), .str (wordS n u), .int (2 * n : Nat)].map some ++ List.replicate (nm_levenshtein_distance.length - ps_levenshtein_distance.length) none) = stA (lets n s) (lets n u) ((2 * n : Nat) : Int) none none := rfl
  rw [e, hr, c_ham hn h h2]
  rfl
end
noncomputable def codesF (s : Nat) (rs : List Nat) : List Nat := rs.foldl (fun cs r => cs ++ cs.map (· ^^^ r)) [s]
theorem codes_lt {n : Nat} : ∀ (rs cs : List Nat), (∀ c ∈ cs, c < 2 ^ n) → (∀ r ∈ rs, r < 2 ^ n) → ∀ c ∈ rs.foldl (fun cs r => cs ++ cs.map (· ^^^ r)) cs, c < 2 ^ n
  | [], cs, h, _, c, hc => h c hc
  | r :: rs, cs, h, h2, c, hc => by
    refine codes_lt rs (cs ++ cs.map (· ^^^ r)) (fun c hc => ?_) (fun r' hr => h2 r' (List.mem_cons_of_mem _ hr)) c hc
    rcases List.mem_append.1 hc with q | q
    · exact h c q
    · obtain ⟨d, hd, rfl⟩ := List.mem_map.1 q
      exact Nat.xor_lt_two_pow (h d hd) (h2 r List.mem_cons_self)
theorem codes_shift (s : Nat) : ∀ (rs cs : List Nat), rs.foldl (fun cs r => cs ++ cs.map (· ^^^ r)) (cs.map (s ^^^ ·)) = (rs.foldl (fun cs r => cs ++ cs.map (· ^^^ r)) cs).map (s ^^^ ·)
  | [], cs => rfl
  | r :: rs, cs => by
    rw [List.foldl_cons, List.foldl_cons, ← codes_shift s rs (cs ++ cs.map (· ^^^ r))]
    congr 1
    rw [List.map_append, List.map_map, List.map_map]
    congr 1
    apply List.map_congr_left
    intro c _
    exact Nat.xor_assoc s c r
theorem codes_eq (s : Nat) (rs : List Nat) : codesF s rs = (codesF 0 rs).map (s ^^^ ·) := by
  have := codes_shift s rs [0]
  simpa [codesF] using this
theorem codes_head : ∀ (rs : List Nat) (s : Nat) (cs : List Nat), ∃ r, rs.foldl (fun cs r => cs ++ cs.map (· ^^^ r)) (s :: cs) = s :: r
  | [], s, cs => ⟨cs, rfl⟩
  | r :: rs, s, cs => codes_head rs s (cs ++ (s :: cs).map (· ^^^ r))
end Mine
end TextP4

section TextP5
open PySem PySem.W PyProof.Rows PySem.Calls PySem.Spec
namespace Mine
noncomputable def numAV (n s : Nat) : AV := .int (numN n s : Nat)
noncomputable def rowAV (n r : Nat) : AV := .list (bitsL n r)
noncomputable abbrev G9 : Env0 := ⟨gcV, Φ9⟩
theorem foldl_len : ∀ (rs cs : List Nat), (rs.foldl (fun cs r => cs ++ cs.map (· ^^^ r)) cs).length = cs.length * 2 ^ rs.length
  | [], cs => by simp
  | r :: rs, cs => by
    rw [List.foldl_cons, foldl_len rs]
    simp [Nat.pow_succ]
    rw [Nat.mul_comm (2 ^ rs.length) 2, ← Nat.mul_assoc]
    congr 1
    omega
theorem dist_loop {n : Nat} (hn : Ok n) {o0 o1 o2 : Option AV} {pt p1 p2 p3 p4 p5 p6 p7 p8 p9 p10 p11 p12 p13 p14 p15 p16 : Pos} {s1 : Scope} : ∀ (rs cs : List Nat) (o4 o5 : Option AV), (∀ c ∈ cs, c < 2 ^ n) → (∀ r ∈ rs, r < 2 ^ n) → cs.length * 2 ^ rs.length ≤ 8 →
    ∃ o4' o5', forO (.one 4 pt) (fun ρ μ => runS G9 noΨ 20 (.asg 5 p1 (.cal (.gfn 2 p2) (.cons (.var 4 p3) (.cons (.cst (.int 4) 0 p4) .nil)) p5) p6 (.asg 3 p7 (.bin .Add (.var 3 p8) (.com (.bin .BitXor (.var 8 p9) (.var 5 p10) p11) (.one 8 p12) (.var 3 p13) .nil s1 [5] p14) p15) p16 .nil)) ρ μ) (rs.map (rowAV n))
      [o0, o1, o2, some (.list (cs.map (numAV n))), o4, o5, none, none, none, none, none] none = some (.fall [o0, o1, o2, some (.list ((rs.foldl (fun cs r => cs ++ cs.map (· ^^^ r)) cs).map (numAV n))), o4', o5', none, none, none, none, none] none)
  | [], cs, o4, o5, _, _, _ => ⟨o4, o5, rfl⟩
  | r :: rs, cs, o4, o5, h, h2, hz => by
    have hr := h2 r List.mem_cons_self
    have hz' : cs.length * 2 ^ rs.length * 2 ≤ 8 := by rw [List.length_cons, Nat.pow_succ, ← Nat.mul_assoc] at hz; exact hz
    have h1 : 1 ≤ 2 ^ rs.length := Nat.one_le_two_pow
    have hc8 : cs.length ≤ 8 := by
      have : cs.length * 1 ≤ cs.length * 2 ^ rs.length := Nat.mul_le_mul_left _ h1
      omega
    obtain ⟨o4', o5', ih⟩ := dist_loop hn (o0 := o0) (o1 := o1) (o2 := o2) (pt := pt) (p1 := p1) (p2 := p2) (p3 := p3) (p4 := p4) (p5 := p5) (p6 := p6) (p7 := p7) (p8 := p8) (p9 := p9) (p10 := p10) (p11 := p11) (p12 := p12) (p13 := p13) (p14 := p14) (p15 := p15) (p16 := p16) (s1 := s1) rs (cs ++ cs.map (· ^^^ r)) (some (rowAV n r)) (some (.int (numS n r : Nat))) (fun c hc => by
      rcases List.mem_append.1 hc with q | q
      · exact h c q
      · obtain ⟨d, hd, rfl⟩ := List.mem_map.1 q
        exact Nat.xor_lt_two_pow (h d hd) hr) (fun r' hm => h2 r' (List.mem_cons_of_mem _ hm)) (by simp only [List.length_append, List.length_map]; rw [← Nat.two_mul, Nat.mul_comm 2, Nat.mul_assoc, Nat.mul_comm 2, ← Nat.mul_assoc]; exact hz')
    refine ⟨o4', o5', ?_⟩
    rw [List.foldl_cons, List.map_cons]
    refine bindI (x := setT (.one 4 pt) (rowAV n r) _) (setT_one (by simp)) ?_
    simp only [List.set_cons_succ, List.set_cons_zero]
    rw [run_asg (a := .int (numS n r : Nat)) (ev_cal (by decide) (evs_cons (ev_var rfl) (evs_cons ev_cst evs_nil)) (c_bits hn hr)) (by simp)]
    simp only [List.set_cons_succ, List.set_cons_zero]
    rw [run_asg (a := .list (cs.map (numAV n) ++ cs.map fun c => numAV n (c ^^^ r))) (ev_bin (ev_var rfl) (ev_com (F := numAV n) (H := fun c => numAV n (c ^^^ r)) cs (src_var rfl) (by omega) fun c hc => ⟨_, rfl, ?_⟩) (evBin_cat (by simp; omega))) (by simp)]
    · simp only [List.set_cons_succ, List.set_cons_zero]
      rw [run_nil]
      rw [← ih, List.map_append, List.map_map]
      rfl
    · refine ev_bin (a := numAV n c) (b := .int (numS n r : Nat)) (ev_var rfl) (ev_var rfl) ?_
      unfold numAV
      rw [evBin_xor, c_xr hn (h c hc) hr]
theorem bytes_map {f : Nat → Array UInt8} : ∀ cs : List Nat, bytesOf (cs.map fun c => AV.byt (f c)) = some (cs.map f)
  | [] => rfl
  | c :: cs => by simp only [List.map_cons, bytesOf, bytes_map cs]
theorem eqLists_same {f : Nat → Array UInt8} {cs : List Nat} (h : cs ≠ []) : evCmp .NotEq (.list (cs.map fun c => AV.byt (f c))) (.list (cs.map fun c => AV.byt (f c))) = some false := by
  obtain ⟨c, r, rfl⟩ := List.exists_cons_of_ne_nil h
  have e : intsOf (.list ((c :: r).map fun c => AV.byt (f c))) = none := rfl
  show (eqLists _ _).map (! ·) = _
  unfold eqLists
  rw [e]
  dsimp only
  rw [bytes_map]
  dsimp only
  rw [decide_eq_true rfl]
  rfl
noncomputable def farL (n : Nat) (rs : List Nat) : List Int := (codesF 0 rs).map fun z => ((2 * popc n z : Nat) : Int)
theorem plainL_rows (n : Nat) : ∀ rs : List Nat, plainL (rs.map (rowAV n)) = true
  | [] => rfl
  | r :: rs => by
    have h : ∀ l : List Nat, plainL (l.map fun p => AV.int (bt r p : Nat)) = true := fun l => by
      induction l with
      | nil => rfl
      | cons a l ih => simp only [List.map_cons, plainL, plain, ih, Bool.and_self]
    simp only [List.map_cons, plainL, plainL_rows n rs, rowAV, plain, bitsL, h, Bool.and_self]
theorem cst_ascii : cstOf (.str "ascii") = some (.str "ascii") := by
  show (if (Str.ofString "ascii").length ≤ 1000 then some (AV.str "ascii") else none) = _
  rw [if_pos (by decide)]
theorem evM_dec {b : Array UInt8} {x : Str} (h : asciiStr b = some x) : evM .decode (.byt b) [.str "ascii"] = some (.str x) := by
  show (ifO ((Str.ofString "ascii" == Str.ofString "ascii") = true) ()).bind (fun _ => (asciiStr b).map AV.str) = _
  rw [ifO_pos (beq_self_eq_true _), h]; rfl
theorem dist_run {n s : Nat} (hn : Ok n) (hs : s < 2 ^ n) (rs : List Nat) (hr : ∀ r ∈ rs, r < 2 ^ n) (hz : rs.length ≤ 3) : φ9 [.list (rs.map (rowAV n)), .int (numN n s : Nat), .int (n : Nat)] = some (.list ((farL n rs).map .int)) := by
  have hz8 : 1 * 2 ^ rs.length ≤ 8 := by
    have : 2 ^ rs.length ≤ 2 ^ 3 := Nat.pow_le_pow_right (by omega) hz
    omega
  have main : runS G9 noΨ 20 st_law_distances [some (.list (rs.map (rowAV n))), some (numAV n s), some (.int (n : Nat)), none, none, none, none, none, none, none, none] none = some (.ret (.list ((farL n rs).map .int))) := by
    unfold st_law_distances
    rw [run_asg (a := .list ([s].map (numAV n))) (ev_lst (l := [numAV n s]) (evs_cons (ev_var rfl) evs_nil) (by show 1 ≤ 1000; decide)) (by simp)]
    simp only [List.set_cons_succ, List.set_cons_zero]
    have cl := codes_lt (n := n) rs [s] (fun c hc => by simp at hc; subst hc; exact hs) hr
    obtain ⟨o4, o5, hl⟩ := dist_loop hn (o0 := some (.list (rs.map (rowAV n)))) (o1 := some (numAV n s)) (o2 := some (.int (n : Nat))) (pt := ⟨130, 8, 130, 11⟩) rs [s] none none (fun c hc => by simp at hc; subst hc; exact hs) hr hz8
    rw [run_for (src_var rfl) hl]
    have hcs : (rs.foldl (fun cs r => cs ++ cs.map (· ^^^ r)) [s]).length ≤ 8 := by rw [foldl_len]; exact hz8
    obtain ⟨tl, htl⟩ := codes_head rs s []
    have hhd : (codesF s rs) = s :: tl := htl
    have hmap := codes_eq s rs
    have hfold : rs.foldl (fun cs r => cs ++ cs.map (· ^^^ r)) [s] = codesF s rs := rfl
    rw [hfold] at hcs cl ⊢
    have hne : codesF s rs ≠ [] := by rw [hhd]; simp
    generalize hC : codesF s rs = C at *
    have hfar : (farL n rs).map AV.int = C.map fun c => AV.int ((2 * popc n (c ^^^ s) : Nat) : Int) := by
      unfold farL
      rw [hmap, List.map_map, List.map_map]
      apply List.map_congr_left
      intro z _
      show AV.int _ = AV.int _
      rw [Nat.xor_comm (s ^^^ z) s, ← Nat.xor_assoc, Nat.xor_self, Nat.zero_xor]
    rw [hfar]
    clear hfar hmap hfold
    rw [run_asg (a := .list (C.map fun c => .byt (wordB n c))) (ev_com (F := numAV n) (H := fun c => .byt (wordB n c)) C (src_var rfl) (by omega) fun c hc => ⟨_, rfl, ev_cal (by decide) (evs_cons (ev_var rfl) evs_nil) (c_ap hn (cl c hc))⟩) (by simp)]
    simp only [List.set_cons_succ, List.set_cons_zero]
    rw [run_iteF (tv_cmp (ev_var rfl) (ev_com (F := numAV n) (H := fun c => .byt (wordB n c)) C (src_var rfl) (by omega) fun c hc => ⟨_, rfl, ev_cal (by decide) (evs_cons (ev_var rfl) (evs_cons (ev_var rfl) evs_nil)) (c_le hn (cl c hc))⟩) (eqLists_same hne))]
    rw [run_asg (a := .list (C.map fun c => .str (wordS n c))) (ev_com (F := fun c => .byt (wordB n c)) (H := fun c => .str (wordS n c)) C (src_var rfl) (by omega) fun c hc => ⟨_, rfl, ?_⟩) (by simp)]
    · simp only [List.set_cons_succ, List.set_cons_zero]
      refine run_retL (ev_com (F := fun c => .str (wordS n c)) (H := fun c => AV.int ((2 * popc n (c ^^^ s) : Nat) : Int)) C (src_var rfl) (by omega) fun c hc => ⟨_, rfl, ?_⟩)
      refine ev_cal (by decide) (evs_cons (ev_var rfl) (evs_cons (ev_idx (b := .int 0) (ev_var rfl) ev_cst (c := .str (wordS n s)) (by rw [hhd]; exact evIdx_list0)) (evs_cons (ev_bin (ev_cst) (ev_var rfl) (evBin_mul (sml (a := n) (by rcases hn with rfl | rfl <;> omega)))) evs_nil))) ?_
      have := c_lev hn (cl c hc) hs
      rw [show ((2 * n : Nat) : Int) = 2 * (n : Int) by omega] at this
      exact this
    · refine ev_met (ev_var (a := .byt (wordB n c)) rfl) (evs_cons (a := .str "ascii") cst_ascii evs_nil) ?_
      exact evM_dec (c_as hn (cl c hc))
  unfold φ9 goF
  rw [if_pos ⟨rfl, by simp only [plainL, plain, plainL_rows, Bool.and_self]⟩]
  have e : ([AV.list (rs.map (rowAV n)), .int (numN n s : Nat), .int (n : Nat)].map some ++ List.replicate (nm_law_distances.length - ps_law_distances.length) none) = [some (.list (rs.map (rowAV n))), some (numAV n s), some (.int (n : Nat)), none, none, none, none, none, none, none, none] := rfl
  rw [e, main]
  unfold retP
  dsimp only
  rw [if_pos (by unfold plain; exact plainL_ints _)]
end Mine
end TextP5

section TextP6
open PySem PySem.W PyProof.Rows PySem.Calls PySem.Spec
namespace Mine
noncomputable abbrev G11 : Env0 := ⟨gcV, Φ11⟩
noncomputable def pairs : Nat → List Nat → List (Nat × Nat)
  | _, [] => []
  | k, d :: r => (k, d) :: pairs (k + 1) r
noncomputable def leastL : Nat → List Nat → List AV
  | _, [] => []
  | k, d :: r => .int (2 ^ (k + 1) * d : Nat) :: leastL (k + 1) r
theorem enum_least : ∀ (ds : List Nat) (k : Nat), enumL k (leastL k ds) = (pairs k ds).map fun p => .tup [.int (p.1 : Nat), .int (2 ^ (p.1 + 1) * p.2 : Nat)]
  | [], _ => rfl
  | d :: r, k => by simp only [leastL, enumL, pairs, List.map_cons, enum_least r (k + 1)]
theorem pairs_snd : ∀ (ds : List Nat) (k : Nat), (pairs k ds).map (·.2) = ds
  | [], _ => rfl
  | d :: r, k => by simp only [pairs, List.map_cons, pairs_snd r (k + 1)]
theorem pairs_len : ∀ (ds : List Nat) (k : Nat), (pairs k ds).length = ds.length
  | [], _ => rfl
  | d :: r, k => by simp only [pairs, List.length_cons, pairs_len r (k + 1)]
theorem pairs_mem : ∀ (ds : List Nat) (k : Nat) (p : Nat × Nat), p ∈ pairs k ds → p.1 < k + ds.length ∧ p.2 ∈ ds
  | [], _, p, h => by simp [pairs] at h
  | d :: r, k, p, h => by
    rcases List.mem_cons.1 h with e | e
    · subst e; simp
    · obtain ⟨a, b⟩ := pairs_mem r (k + 1) p e
      exact ⟨by simp only [List.length_cons]; omega, List.mem_cons_of_mem _ b⟩
theorem evBin_pow {a : Int} {k : Nat} (h : small a = true) (hk : k ≤ 1000) : evBin .Pow (.int a) (.int (k : Nat)) = some (.int (a ^ k)) :=
  ifO_pos (p := 0 ≤ (k : Int) ∧ (k : Int) ≤ 1000000 ∧ small a = true) ⟨by omega, by omega, h⟩
theorem depths_run {rows : AV} {s : Int} {n : Nat} {far : List AV} {ds : List Nat} (hp : plain rows = true) (h9 : φ9 [rows, .int s, .int (n : Nat)] = some (.list far)) (h10 : φ10 [.list far] = some (.list (leastL 0 ds))) (hd : ∀ d ∈ ds, d ≤ 6) (hl : ds.length ≤ 3) :
    φ11 [rows, .int s, .int (n : Nat)] = some (.list (ds.map fun d => .int (d : Nat))) := by
  have hz : (pairs 0 ds).length ≤ 1000 := by rw [pairs_len]; omega
  have main : runS G11 noΨ 20 st_law_depths [some rows, some (.int s), some (.int (n : Nat)), none, none, none, none, none, none] none = some (.ret (.list (ds.map fun d => .int (d : Nat)))) := by
    unfold st_law_depths
    rw [run_asg (a := .list far) (ev_cal (by decide) (evs_cons (ev_var rfl) (evs_cons (ev_var rfl) (evs_cons (ev_var rfl) evs_nil))) h9) (by simp)]
    simp only [List.set_cons_succ, List.set_cons_zero]
    rw [run_iteF (tv_cmp (b := .none) (ev_var rfl) rfl rfl)]
    rw [run_asg (a := .list ((pairs 0 ds).map fun p => .tup [.int (p.2 : Nat), .int 0])) (ev_com (F := fun p => .tup [.int (p.1 : Nat), .int (2 ^ (p.1 + 1) * p.2 : Nat)]) (pairs 0 ds) (by
        refine src_blt (evs_cons (ev_cal (by decide) (evs_cons (ev_var rfl) evs_nil) h10) evs_nil) ?_
        show some (enumL 0 (leastL 0 ds)) = _
        rw [enum_least]) hz fun p hm => ⟨_, rfl, ?_⟩) (by simp)]
    · simp only [List.set_cons_succ, List.set_cons_zero]
      rw [run_iteF (tv_cmp (a := .list []) (b := .list []) (ev_comF (F := fun p : Nat × Nat => .tup [.int (p.2 : Nat), .int 0]) (pairs 0 ds) (src_var rfl) hz fun p hm => ⟨_, rfl, tv_cmp (ev_var rfl) ev_cst (by rfl)⟩) (ev_lst evs_nil (by decide)) rfl)]
      have hmap : (ds.map fun d => AV.int (d : Nat)) = (pairs 0 ds).map fun p => AV.int (p.2 : Nat) := by
        conv => lhs; rw [← pairs_snd ds 0]
        rw [List.map_map]
        rfl
      rw [hmap]
      exact run_retL (ev_com (F := fun p : Nat × Nat => .tup [.int (p.2 : Nat), .int 0]) (pairs 0 ds) (src_var rfl) hz fun p hm => ⟨_, rfl, ev_var rfl⟩)
    · obtain ⟨a1, a2⟩ := pairs_mem ds 0 p hm
      have h6 := hd p.2 a2
      have hdv := isO_eq (allT_get (allT_get dvT (i := p.2) (by omega)) (i := p.1) (by omega))
      refine ev_cal (by decide) (evs_cons (ev_var rfl) (evs_cons (ev_bin ev_cst (ev_bin (ev_var rfl) ev_cst (evBin_add _ _)) (c := .int (2 ^ (p.1 + 1) : Nat)) ?_) evs_nil)) hdv
      have := evBin_pow (a := 2) (k := p.1 + 1) (by decide) (by omega)
      rw [show ((p.1 : Nat) : Int) + 1 = ((p.1 + 1 : Nat) : Int) by omega, this]
      congr 2
  unfold φ11 goF
  rw [if_pos ⟨rfl, by simp only [plainL, plain, hp, Bool.and_self]⟩]
  have e : ([rows, .int s, .int (n : Nat)].map some ++ List.replicate (nm_law_depths.length - ps_law_depths.length) none) = [some rows, some (.int s), some (.int (n : Nat)), none, none, none, none, none, none] := rfl
  rw [e, main]
  unfold retP
  dsimp only
  rw [if_pos (by
    unfold plain
    generalize ds = l
    induction l with
    | nil => rfl
    | cons a l ih => simp only [List.map_cons, plainL, plain, ih, Bool.and_self])]
end Mine
end TextP6

section TextP8
open PySem PySem.W PyProof.Rows PySem.Calls PySem.Spec
namespace Mine
noncomputable def pairsUV (len : Nat) : List (Nat × Nat) := ((List.range len).drop 1).flatMap fun u => ((List.range u).drop 1).map fun v => (u, v)
noncomputable def minI : List Int → Int
  | [] => 0
  | x :: r => minL r x
noncomputable def leastI (far : List Int) : List Int :=
  minI (far.drop 1) :: minI ((pairsUV far.length).map fun p => far.getD p.1 0 + far.getD p.2 0 + far.getD (p.1 ^^^ p.2) 0) :: (if far.length = 8 then [far.foldl (· + ·) 0] else [])
theorem xor8 : allT 8 (fun u => allT 8 fun v => Builtin.bitXor (u : Nat) (v : Nat) == (u ^^^ v : Nat)) = true := by decide +kernel
theorem rng1 : allT 9 (fun u => match itemsOf (.range 1 (u : Nat) 1) with
    | some l => eqAVs l (((List.range u).drop 1).map fun v => .int (v : Nat))
    | none => false) = true := by decide +kernel
theorem range1_items {u : Nat} (h : u < 9) : itemsOf (.range 1 (u : Int) 1) = some (((List.range u).drop 1).map fun v => .int (v : Nat)) := by
  have := allT_get rng1 h
  split at this
  · rename_i l e; rw [e, eqAVs_eq _ _ this]
  · cases this
theorem asInts_map : ∀ l : List Int, asInts (l.map .int) = some l
  | [] => rfl
  | a :: l => by simp only [List.map_cons, asInts, asInts_map l]
theorem evB_min1 {μ : Option (List Int)} {l : List Int} (h : l ≠ []) : evBx μ .min [.list (l.map .int)] = some (.int (minI l)) := by
  obtain ⟨x, r, rfl⟩ := List.exists_cons_of_ne_nil h
  exact bindI (x := intsOf (.list ((x :: r).map .int))) (asInts_map (x :: r)) rfl
theorem evB_sum1 {μ : Option (List Int)} {l : List Int} : evBx μ .sum [.list (l.map .int)] = some (.int (l.foldl (· + ·) 0)) := bindI (x := intsOf (.list (l.map .int))) (asInts_map l) rfl
theorem catO_flat {α β : Type} {f : AV → Option (List β)} {F : α → AV} {H : α → List β} : ∀ (zs : List α), (∀ z ∈ zs, f (F z) = some (H z)) → catO f (zs.map F) = some (zs.flatMap H)
  | [], _ => rfl
  | z :: zs, h => by
    have ih := catO_flat zs fun z hz => h z (List.mem_cons_of_mem _ hz)
    rw [List.map_cons, List.flatMap_cons]
    unfold catO
    rw [h z List.mem_cons_self]
    dsimp only
    rw [ih]
theorem ev_com2 {G : Env0} {μ : Option (List Int)} {elt it it2 : X} {t t2 : Tg} {sc : Scope} {fv : List Nat} {p : Pos} {ρ : Sto} {F : Nat → AV} {F2 : Nat → AV} {H : Nat → Nat → AV} (us : List Nat) (vs : Nat → List Nat) (h : src G μ it ρ = some (us.map F))
    (hz : (us.flatMap fun u => (vs u).map (H u)).length ≤ 1000)
    (hi : ∀ u ∈ us, ∃ ρ', setT t (F u) (mask fv 0 ρ) = some ρ' ∧ src G μ it2 ρ' = some ((vs u).map F2) ∧ ∀ v ∈ vs u, ∃ ρ2, setT t2 (F2 v) ρ' = some ρ2 ∧ ev G μ elt ρ2 = some (H u v)) :
    ev G μ (.com2 elt t it t2 it2 sc fv p) ρ = some (.list (us.flatMap fun u => (vs u).map (H u))) := by
  refine bindI h (bindI (catO_flat us (H := fun u => (vs u).map (H u)) fun u hu => ?_) (ifO_pos hz))
  obtain ⟨ρ', e1, e2, e3⟩ := hi u hu
  unfold step2F
  rw [e1]
  dsimp only
  rw [e2]
  dsimp only
  exact catO_map (vs u) fun v hv => let ⟨_, f1, f2⟩ := e3 v hv; stepI f1 rfl f2
noncomputable abbrev G0 : Env0 := ⟨gcV, noΦ⟩
theorem pick1 (far : List Int) (h : far.length = 4 ∨ far.length = 8) : pick (far.map AV.int) (some 1) none none = (far.drop 1).map AV.int := by
  have e4 : sliceRange (sliceBounds (some 1) none none 4).1 (sliceBounds (some 1) none none 4).2.1 (sliceBounds (some 1) none none 4).2.2 = [1, 2, 3] := by decide +kernel
  have e8 : sliceRange (sliceBounds (some 1) none none 8).1 (sliceBounds (some 1) none none 8).2.1 (sliceBounds (some 1) none none 8).2.2 = [1, 2, 3, 4, 5, 6, 7] := by decide +kernel
  unfold pick
  match far, h with
  | [a, b, c, d], _ => rw [show (List.map AV.int [a, b, c, d]).length = 4 from rfl, e4]; rfl
  | [a, b, c, d, e, f, g, i], _ => rw [show (List.map AV.int [a, b, c, d, e, f, g, i]).length = 8 from rfl, e8]; rfl
theorem ev_sliL {G : Env0} {μ : Option (List Int)} {v : Nat} {q1 q2 q3 q4 : Pos} {ρ : Sto} {far : List Int} (h : far.length = 4 ∨ far.length = 8) (hv : (ρ[v]?).join = some (.list (far.map .int))) : ev G μ (.sli (.var v q1) (.cst (.int 1) 0 q2) .nil .nil q3 q4) ρ = some (.list ((far.drop 1).map .int)) := by
  exact ev_sli (ev_var hv) ev_cst ev_nil ev_nil (by
    show ifO ((none : Option Int) ≠ some 0) (AV.list (pick (far.map .int) (some 1) none none)) = _
    rw [pick1 far h]
    exact ifO_pos (fun q => nomatch q))
theorem least_run (far : List Int) (h : far.length = 4 ∨ far.length = 8) : φ10 [.list (far.map .int)] = some (.list ((leastI far).map .int)) := by
  have hN : far.length ≤ 8 := by omega
  have hne : far.drop 1 ≠ [] := by
    intro e
    have := congrArg List.length e
    simp at this; omega
  have hpl : pairsUV far.length ≠ [] ∧ (pairsUV far.length).length ≤ 1000 := by
    rcases h with e | e <;> rw [e] <;> exact ⟨by decide, by decide⟩
  have hget : ∀ {i : Nat}, i < far.length → (far.map AV.int)[i]? = some (.int (far.getD i 0)) := fun {i} hi => by
    rw [List.getElem?_map, List.getElem?_eq_getElem hi, List.getD_eq_getElem?_getD, List.getElem?_eq_getElem hi]
    rfl
  have main : runS G0 noΨ 20 st_law_least [some (.list (far.map .int)), none, none, none] none = some (.ret (.list ((leastI far).map .int))) := by
    unfold st_law_least
    rw [run_bxl (ns := [minI (far.drop 1)]) (evs_cons (ev_blt (evs_cons (ev_sliL h rfl) evs_nil) (evB_min1 hne)) evs_nil) rfl (by simp) (by simp)]
    simp only [List.set_cons_succ, List.set_cons_zero]
    have hflat : ((pairsUV far.length).map fun p => far.getD p.1 0 + far.getD p.2 0 + far.getD (p.1 ^^^ p.2) 0).map AV.int = (((List.range far.length).drop 1).flatMap fun u => (((List.range u).drop 1).map fun v => AV.int (far.getD u 0 + far.getD v 0 + far.getD (u ^^^ v) 0))) := by
      unfold pairsUV
      rw [List.map_map, List.map_flatMap]
      congr 1
      funext u
      rw [List.map_map]
      rfl
    rw [run_app (v := minI ((pairsUV far.length).map fun p => far.getD p.1 0 + far.getD p.2 0 + far.getD (p.1 ^^^ p.2) 0)) rfl (ev_blt (evs_cons (ev_com2 (F := fun u => .int (u : Nat)) (F2 := fun u => .int (u : Nat)) (H := fun u v => AV.int (far.getD u 0 + far.getD v 0 + far.getD (u ^^^ v) 0)) ((List.range far.length).drop 1) (fun u => (List.range u).drop 1) ?_ ?_ fun u hu => ?_) evs_nil) ?_) (by simp)]
    · simp only [List.cons_append, List.nil_append]
      have hlen : ev G0 (some [minI (far.drop 1), minI ((pairsUV far.length).map fun p => far.getD p.1 0 + far.getD p.2 0 + far.getD (p.1 ^^^ p.2) 0)]) (.blt .len ⟨141, 7, 141, 10⟩ (.cons (.var 0 ⟨141, 11, 141, 14⟩) .nil) ⟨141, 7, 141, 15⟩) [some (.list (far.map .int)), some .box, none, none] = some (.int (far.length : Nat)) := ev_blt (evs_cons (ev_var rfl) evs_nil) (by show some (AV.int ((far.map AV.int).length : Nat)) = _; rw [List.length_map])
      have hret : ∀ {ρ : Sto} {p q : Pos} {l : List Int}, (ρ[1]?).join = some .box → runS G0 noΨ 20 (.ret (.var 1 p) q) ρ (some l) = some (.ret (.list (l.map .int))) := fun h => run_retBox (ev_var h)
      by_cases h8 : far.length = 8
      · rw [run_iteT (tv_cmp hlen ev_cst (by rw [h8]; rfl)) (by rw [run_app rfl (ev_blt (evs_cons (ev_var rfl) evs_nil) (r := .int (far.foldl (· + ·) 0)) evB_sum1) (by simp), run_nil]), hret rfl]
        unfold leastI
        rw [if_pos h8]
        rfl
      · rw [run_iteF (tv_cmp hlen ev_cst (by rw [show far.length = 4 by omega]; rfl)), hret rfl]
        unfold leastI
        rw [if_neg h8]
    · refine src_blt (evs_cons ev_cst (evs_cons (ev_blt (evs_cons (ev_var rfl) evs_nil) (r := .int (far.length : Nat)) (by show some (AV.int ((far.map AV.int).length : Nat)) = _; rw [List.length_map])) evs_nil)) ?_
      show (evB .range [.int 1, .int (far.length : Nat)]).bind itemsOf = _
      rw [show evB .range [.int 1, .int (far.length : Nat)] = some (.range 1 (far.length : Nat) 1) from rfl, Option.bind_some, range1_items (by omega)]
    · rw [← hflat, List.length_map, List.length_map]; exact hpl.2
    · rw [← hflat]
      exact evB_min1 (by simpa using hpl.1)
    · have hu8 : u < far.length := List.mem_range.1 (List.mem_of_mem_drop hu)
      refine ⟨_, rfl, ?_, fun v hv => ⟨_, rfl, ?_⟩⟩
      · refine src_blt (evs_cons ev_cst (evs_cons (ev_var rfl) evs_nil)) ?_
        show (evB .range [.int 1, .int (u : Nat)]).bind itemsOf = _
        rw [show evB .range [.int 1, .int (u : Nat)] = some (.range 1 (u : Nat) 1) from rfl, Option.bind_some, range1_items (by omega)]
      · have hvu : v < u := List.mem_range.1 (List.mem_of_mem_drop hv)
        have hx : u ^^^ v < far.length := by
          rcases h with e | e <;> rw [e] at hu8 ⊢
          · exact Nat.xor_lt_two_pow (n := 2) hu8 (by omega)
          · exact Nat.xor_lt_two_pow (n := 3) hu8 (by omega)
        have hb := eq_of_beq (allT_get (allT_get xor8 (i := u) (by omega)) (i := v) (by omega))
        refine ev_bin (ev_bin (ev_idx (ev_var rfl) (ev_var rfl) (evIdx_list (by omega) (hget hu8))) (ev_idx (ev_var rfl) (ev_var rfl) (evIdx_list (by omega) (hget (by omega)))) (evBin_add _ _)) (ev_idx (ev_var rfl) (ev_bin (ev_var rfl) (ev_var rfl) (evBin_xor _ _)) (by rw [hb]; exact evIdx_list (by omega) (hget hx))) (evBin_add _ _)
  unfold φ10 goF
  rw [if_pos ⟨rfl, by simp only [plainL, plain, plainL_ints, Bool.and_self]⟩]
  have e : ([AV.list (far.map .int)].map some ++ List.replicate (nm_law_least.length - ps_law_least.length) none) = [some (.list (far.map .int)), none, none, none] := rfl
  rw [e, main]
  unfold retP
  dsimp only
  rw [if_pos (by unfold plain; exact plainL_ints _)]
end Mine
end TextP8

section TextP7
open PySem PySem.W PyProof.Rows PySem.Calls PySem.Spec
namespace Mine
noncomputable def minN : List Nat → Nat
  | [] => 0
  | a :: r => r.foldl min a
noncomputable def ds8 (f : List Nat) (l : Nat) : List Nat :=
  minN (f.drop 1) :: minN ((pairsUV f.length).map fun p => f.getD p.1 0 + f.getD p.2 0 + f.getD (p.1 ^^^ p.2) 0) / 2 :: (if l = 3 then [f.foldl (· + ·) 0 / 4] else [])
noncomputable def dsF (n : Nat) (rs : List Nat) : List Nat := ds8 ((codesF 0 rs).map (popc n)) rs.length
noncomputable def shownC (k m : Nat) : List Nat := (List.range k).map fun i => 2 ^ i + 2 ^ k * (m / 8 ^ i % 8)
noncomputable def othersC (k m : Nat) : List Nat := (List.range 3).map fun j => ((List.range k).map fun i => bt m (3 * i + j) * 2 ^ i).foldl (· + ·) 0 + 2 ^ (k + j)
noncomputable def leastN : Nat → List Nat → List Int
  | _, [] => []
  | k, d :: r => (2 ^ (k + 1) * d : Nat) :: leastN (k + 1) r
noncomputable def toI (l : List Nat) : List Int := l.map fun (d : Nat) => (d : Int)
noncomputable def okL (n : Nat) (rs : List Nat) : Bool := decide (leastI (farL n rs) = leastN 0 (dsF n rs)) && (dsF n rs).all (fun d => decide (d ≤ 6)) && rs.all (fun r => decide (r < 2 ^ n))
noncomputable def fin (k m : Nat) : Bool :=
  let n := k + 3
  let S := shownC k m
  let O := othersC k m
  let A := toI (dsF n S)
  let B := toI (dsF n O)
  okL n S && okL n O && decide (sortI A = A) && decide (sortI B = B) && decide (sortI (A ++ B.map fun d => (n : Int) + 1 - d) = toI ((List.range n).map fun t => t + 1))
/-- three rows of six: the weights by table, the least, the least of a pair's three, the sum -/
noncomputable def pc (z : Nat) : Nat := 5266721624626081916652898579601397356032429460333936579656 / 8 ^ z % 8
theorem pc_eq : allT 64 (fun z => popc 6 z == pc z) = true := by decide +kernel
noncomputable def m1 (a b c d e f g : Nat) : Nat := min (min (min (min (min (min a b) c) d) e) f) g
noncomputable def m2 (a b c d e f g : Nat) : Nat := minN [b + a + c, c + a + b, c + b + a, d + a + e, d + b + f, d + c + g, e + a + d, e + b + g, e + c + f, e + d + a, f + a + g, f + b + d, f + c + e, f + d + b, f + e + c, g + a + f, g + b + e, g + c + d, g + d + c, g + e + b, g + f + a]
noncomputable def m3 (a b c d e f g : Nat) : Nat := 0 + 0 + a + b + c + d + e + f + g
noncomputable def w7 (K : Nat → Nat → Nat → Nat → Nat → Nat → Nat → Nat) (a b c : Nat) : Nat := K (pc a) (pc b) (pc (a ^^^ b)) (pc c) (pc (a ^^^ c)) (pc (b ^^^ c)) (pc (a ^^^ b ^^^ c))
theorem f8 {a b c : Nat} (ha : a < 64) (hb : b < 64) (hc : c < 64) : (codesF 0 [a, b, c]).map (popc 6) = [0, pc a, pc b, pc (a ^^^ b), pc c, pc (a ^^^ c), pc (b ^^^ c), pc (a ^^^ b ^^^ c)] := by
  have X : ∀ {x y : Nat}, x < 64 → y < 64 → x ^^^ y < 64 := fun h1 h2 => Nat.xor_lt_two_pow (n := 6) h1 h2
  have P : ∀ {z : Nat}, z < 64 → popc 6 z = pc z := fun h => eq_of_beq (allT_get pc_eq h)
  show [popc 6 0, popc 6 (0 ^^^ a), popc 6 (0 ^^^ b), popc 6 (0 ^^^ a ^^^ b), popc 6 (0 ^^^ c), popc 6 (0 ^^^ a ^^^ c), popc 6 (0 ^^^ b ^^^ c), popc 6 (0 ^^^ a ^^^ b ^^^ c)] = _
  rw [Nat.zero_xor, Nat.zero_xor, Nat.zero_xor, P ha, P hb, P hc, P (X ha hb), P (X ha hc), P (X hb hc), P (X (X ha hb) hc)]
  rfl
theorem e1 (a b c d e f g : Nat) : minN ([0, a, b, c, d, e, f, g].drop 1) = m1 a b c d e f g := by kernel_rfl
theorem e2 (a b c d e f g : Nat) : minN ((pairsUV [0, a, b, c, d, e, f, g].length).map fun p => [0, a, b, c, d, e, f, g].getD p.1 0 + [0, a, b, c, d, e, f, g].getD p.2 0 + [0, a, b, c, d, e, f, g].getD (p.1 ^^^ p.2) 0) = m2 a b c d e f g := by kernel_rfl
theorem e3 (a b c d e f g : Nat) : [0, a, b, c, d, e, f, g].foldl (· + ·) 0 = m3 a b c d e f g := by kernel_rfl
theorem ds3 {a b c : Nat} (ha : a < 64) (hb : b < 64) (hc : c < 64) : dsF 6 [a, b, c] = [w7 m1 a b c, w7 m2 a b c / 2, w7 m3 a b c / 4] := by
  unfold dsF ds8
  rw [f8 ha hb hc, e1, e2, e3]
  rfl
theorem minL_map (q : Nat) : ∀ (r : List Nat) (x : Nat), minL (r.map fun w => ((q * w : Nat) : Int)) ((q * x : Nat) : Int) = ((q * r.foldl min x : Nat) : Int)
  | [], _ => rfl
  | a :: r, x => by
    rw [List.map_cons, List.foldl_cons]
    unfold minL
    rw [← minL_map q r (min x a)]
    congr 1
    rcases Nat.le_total x a with h | h
    · rw [Nat.min_eq_left h, if_neg (by have := Nat.mul_le_mul_left q h; omega)]
    · rw [Nat.min_eq_right h]
      split
      · rfl
      · have := Nat.mul_le_mul_left q h; omega
theorem minI_map (q : Nat) : ∀ l : List Nat, minI (l.map fun w => ((q * w : Nat) : Int)) = ((q * minN l : Nat) : Int)
  | [] => rfl
  | a :: r => minL_map q r a
theorem sum_map : ∀ (l : List Nat) (x : Nat), (l.map fun w => ((2 * w : Nat) : Int)).foldl (· + ·) ((2 * x : Nat) : Int) = ((2 * l.foldl (· + ·) x : Nat) : Int)
  | [], _ => rfl
  | a :: r, x => by
    rw [List.map_cons, List.foldl_cons, List.foldl_cons, ← sum_map r (x + a)]
    congr 1
    omega
theorem getD_map (f : List Nat) (i : Nat) : (f.map fun w => ((2 * w : Nat) : Int)).getD i 0 = ((2 * f.getD i 0 : Nat) : Int) := by
  rw [List.getD_eq_getElem?_getD, List.getD_eq_getElem?_getD, List.getElem?_map]
  cases f[i]? <;> rfl
theorem least8 (f : List Nat) (l8 : f.length = 8) : leastI (f.map fun w => ((2 * w : Nat) : Int)) = [((2 * minN (f.drop 1) : Nat) : Int), ((2 * minN ((pairsUV f.length).map fun p => f.getD p.1 0 + f.getD p.2 0 + f.getD (p.1 ^^^ p.2) 0) : Nat) : Int), ((2 * f.foldl (· + ·) 0 : Nat) : Int)] := by
  unfold leastI
  rw [← List.map_drop, minI_map, List.length_map, if_pos l8, ← sum_map f 0]
  rw [show ((pairsUV f.length).map fun p => (f.map fun w => ((2 * w : Nat) : Int)).getD p.1 0 + (f.map fun w => ((2 * w : Nat) : Int)).getD p.2 0 + (f.map fun w => ((2 * w : Nat) : Int)).getD (p.1 ^^^ p.2) 0) =
      ((pairsUV f.length).map fun p => f.getD p.1 0 + f.getD p.2 0 + f.getD (p.1 ^^^ p.2) 0).map fun w => ((2 * w : Nat) : Int) from ?_, minI_map]
  · rfl
  rw [List.map_map]
  apply List.map_congr_left
  intro p _
  rw [getD_map, getD_map, getD_map]
  show _ = ((2 * (f.getD p.1 0 + f.getD p.2 0 + f.getD (p.1 ^^^ p.2) 0) : Nat) : Int)
  omega
theorem least_ok {a b c : Nat} (ha : a < 64) (hb : b < 64) (hc : c < 64) (h2 : w7 m2 a b c % 2 = 0) (h3 : w7 m3 a b c % 4 = 0) : leastI (farL 6 [a, b, c]) = leastN 0 (dsF 6 [a, b, c]) := by
  rw [ds3 ha hb hc]
  have e : farL 6 [a, b, c] = ((codesF 0 [a, b, c]).map (popc 6)).map fun w => ((2 * w : Nat) : Int) := by unfold farL; rw [List.map_map]; rfl
  rw [e, f8 ha hb hc, least8 _ rfl, e1, e2, e3]
  show [((2 * w7 m1 a b c : Nat) : Int), ((2 * w7 m2 a b c : Nat) : Int), ((2 * w7 m3 a b c : Nat) : Int)] = [((2 * w7 m1 a b c : Nat) : Int), ((4 * (w7 m2 a b c / 2) : Nat) : Int), ((8 * (w7 m3 a b c / 4) : Nat) : Int)]
  rw [show 2 * w7 m2 a b c = 4 * (w7 m2 a b c / 2) by omega, show 2 * w7 m3 a b c = 8 * (w7 m3 a b c / 4) by omega]
theorem fin2 : allT 64 (fin 2) = true := by decide +kernel
noncomputable def good : List Nat := [406919233, 541139009, 543238209, 543305793, 675356769, 677455969, 677523553, 679620737, 809574498, 811673698, 811741282, 813770882, 813838466, 816001187]
noncomputable def pack (a b c z : Nat) : Nat := w7 m1 a b c + 16 * (w7 m2 a b c + 32 * (w7 m3 a b c + 128 * z))
noncomputable def inB (a b c : Nat) : Bool := Nat.ble (w7 m1 a b c) 15 && Nat.ble (w7 m2 a b c) 31 && Nat.ble (w7 m3 a b c) 127 && Nat.ble a 63 && Nat.ble b 63 && Nat.ble c 63
noncomputable def sh (m i : Nat) : Nat := 2 ^ i + 2 ^ 3 * (m / 8 ^ i % 8)
noncomputable def ot (m j : Nat) : Nat := 0 + bt m (3 * 0 + j) * 2 ^ 0 + bt m (3 * 1 + j) * 2 ^ 1 + bt m (3 * 2 + j) * 2 ^ 2 + 2 ^ (3 + j)
noncomputable def fast (m : Nat) : Bool := inB (sh m 0) (sh m 1) (sh m 2) && inB (ot m 0) (ot m 1) (ot m 2) && good.any (Nat.beq (pack (sh m 0) (sh m 1) (sh m 2) (pack (ot m 0) (ot m 1) (ot m 2) 0)))
theorem fast3 : allT 512 fast = true := by decide +kernel
theorem good_ok : (good.all fun g => g / 16 % 32 % 2 == 0 && g / 16 / 32 % 128 % 4 == 0 && Nat.ble (g % 16) 6 && Nat.ble (g / 16 % 32 / 2) 6 && Nat.ble (g / 16 / 32 % 128 / 4) 6 && g / 16 / 32 / 128 / 16 % 32 % 2 == 0 && g / 16 / 32 / 128 / 16 / 32 % 4 == 0 && Nat.ble (g / 16 / 32 / 128 % 16) 6 && Nat.ble (g / 16 / 32 / 128 / 16 % 32 / 2) 6 && Nat.ble (g / 16 / 32 / 128 / 16 / 32 / 4) 6 &&
    decide (sortI (toI [g % 16, g / 16 % 32 / 2, g / 16 / 32 % 128 / 4]) = toI [g % 16, g / 16 % 32 / 2, g / 16 / 32 % 128 / 4]) && decide (sortI (toI [g / 16 / 32 / 128 % 16, g / 16 / 32 / 128 / 16 % 32 / 2, g / 16 / 32 / 128 / 16 / 32 / 4]) = toI [g / 16 / 32 / 128 % 16, g / 16 / 32 / 128 / 16 % 32 / 2, g / 16 / 32 / 128 / 16 / 32 / 4]) &&
    decide (sortI (toI [g % 16, g / 16 % 32 / 2, g / 16 / 32 % 128 / 4] ++ (toI [g / 16 / 32 / 128 % 16, g / 16 / 32 / 128 / 16 % 32 / 2, g / 16 / 32 / 128 / 16 / 32 / 4]).map fun d => ((3 + 3 : Nat) : Int) + 1 - d) = toI ((List.range (3 + 3)).map fun t => t + 1))) = true := by decide +kernel
theorem okL_of {a b c : Nat} (ha : a < 64) (hb : b < 64) (hc : c < 64) (h2 : w7 m2 a b c % 2 = 0) (h3 : w7 m3 a b c % 4 = 0) (d1 : w7 m1 a b c ≤ 6) (d2 : w7 m2 a b c / 2 ≤ 6) (d3 : w7 m3 a b c / 4 ≤ 6) : okL 6 [a, b, c] = true := by
  have l := least_ok ha hb hc h2 h3
  unfold okL
  rw [decide_eq_true l, ds3 ha hb hc]
  simp only [List.all_cons, List.all_nil, Bool.and_true, Bool.true_and, Bool.and_eq_true, decide_eq_true_eq]
  exact ⟨⟨d1, d2, d3⟩, ha, hb, hc⟩
theorem inB_of {a b c : Nat} (h : inB a b c = true) : w7 m1 a b c < 16 ∧ w7 m2 a b c < 32 ∧ w7 m3 a b c < 128 ∧ a < 64 ∧ b < 64 ∧ c < 64 := by
  unfold inB at h
  simp only [Bool.and_eq_true, Nat.ble_eq] at h
  exact ⟨Nat.lt_succ_of_le h.1.1.1.1.1, Nat.lt_succ_of_le h.1.1.1.1.2, Nat.lt_succ_of_le h.1.1.1.2, Nat.lt_succ_of_le h.1.1.2, Nat.lt_succ_of_le h.1.2, Nat.lt_succ_of_le h.2⟩
theorem dm {x k : Nat} (h : x < k) (y : Nat) : (x + k * y) % k = x ∧ (x + k * y) / k = y :=
  ⟨by rw [Nat.add_mul_mod_self_left, Nat.mod_eq_of_lt h], by rw [Nat.add_mul_div_left _ _ (Nat.zero_lt_of_lt h), Nat.div_eq_of_lt h, Nat.zero_add]⟩
theorem fin3 {m : Nat} (hm : m < 512) : fin 3 m = true := by
  have h := allT_get fast3 hm
  unfold fast at h
  rw [Bool.and_eq_true, Bool.and_eq_true, List.any_eq_true] at h
  obtain ⟨⟨hs, ho⟩, g, hg, e⟩ := h
  obtain ⟨s1, s2, s3, s4, s5, s6⟩ := inB_of hs
  obtain ⟨o1, o2, o3, o4, o5, o6⟩ := inB_of ho
  have e := Nat.eq_of_beq_eq_true e
  have hg := List.all_eq_true.mp good_ok g hg
  unfold pack at e
  have eS : shownC 3 m = [sh m 0, sh m 1, sh m 2] := rfl
  have eO : othersC 3 m = [ot m 0, ot m 1, ot m 2] := rfl
  unfold fin
  rw [eS, eO]
  dsimp only
  generalize sh m 0 = a at *
  generalize sh m 1 = b at *
  generalize sh m 2 = c at *
  generalize ot m 0 = x at *
  generalize ot m 1 = y at *
  generalize ot m 2 = z at *
  subst e
  rw [(dm s1 _).1, (dm s1 _).2, (dm s2 _).1, (dm s2 _).2, (dm s3 _).1, (dm s3 _).2, (dm o1 _).1, (dm o1 _).2, (dm o2 _).1, (dm o2 _).2, Nat.mul_zero, Nat.add_zero] at hg
  simp only [Bool.and_eq_true, beq_iff_eq, Nat.ble_eq] at hg
  obtain ⟨⟨⟨⟨⟨⟨⟨⟨⟨⟨⟨⟨g1, g2⟩, g3⟩, g4⟩, g5⟩, g6⟩, g7⟩, g8⟩, g9⟩, g10⟩, g11⟩, g12⟩, g13⟩ := hg
  rw [okL_of s4 s5 s6 g1 g2 g3 g4 g5, okL_of o4 o5 o6 g6 g7 g8 g9 g10, ds3 s4 s5 s6, ds3 o4 o5 o6, g11, g12, g13]
  rfl
end Mine
end TextP7

section TextP9
open PySem PySem.W PyProof.Rows PySem.Calls PySem.Spec
namespace Mine
theorem rng0 : allT 7 (fun u => match itemsOf (.range 0 (u : Nat) 1) with
    | some l => eqAVs l ((List.range u).map fun v => .int (v : Nat))
    | none => false) = true := by decide +kernel
theorem range0_items {u : Nat} (h : u ≤ 6) : itemsOf (.range 0 (u : Int) 1) = some ((List.range u).map fun v => .int (v : Nat)) := by
  have := allT_get rng0 (i := u) (by omega)
  split at this
  · rename_i l e; rw [e, eqAVs_eq _ _ this]
  · cases this
theorem src_rng {G : Env0} {μ : Option (List Int)} {as : X} {q p : Pos} {ρ : Sto} {L : Nat} (h : evs G μ as ρ = some [.int (L : Nat)]) (hz : L ≤ 6) : src G μ (.blt .range q as p) ρ = some ((List.range L).map fun v => .int (v : Nat)) := 
  src_blt h (by show (evB .range [.int (L : Nat)]).bind itemsOf = _; rw [evB_range1, Option.bind_some, range0_items hz])
theorem bits_exist : ∀ (n : Nat) (f : Nat → Nat), (∀ p, f p < 2) → ∃ s < 2 ^ n, ∀ p < n, bt s p = f p
  | 0, _, _ => ⟨0, by simp, fun p h => by omega⟩
  | n + 1, f, hf => by
    obtain ⟨s, hs, h⟩ := bits_exist n (fun p => f (p + 1)) fun p => hf (p + 1)
    have h0 := hf 0
    refine ⟨f 0 + 2 * s, by rw [Nat.pow_succ]; omega, fun p hp => ?_⟩
    cases p with
    | zero => unfold bt; rw [Nat.pow_zero, Nat.div_one]; omega
    | succ p =>
      have := h p (by omega)
      unfold bt at this ⊢
      have e : 2 ^ (p + 1) = 2 * 2 ^ p := by rw [Nat.pow_succ, Nat.mul_comm]
      rw [e, ← Nat.div_div_eq_div_mul, show (f 0 + 2 * s) / 2 = s by omega]
      exact this
noncomputable def tabAV (k m : Nat) : AV := .list ((List.range k).map fun i => .list ((List.range 3).map fun j => .int (bt m (3 * i + j) : Nat)))
theorem fmod2 (x : Int) : x.fmod 2 = 0 ∨ x.fmod 2 = 1 := by
  rw [Int.fmod_eq_emod_of_nonneg _ (by omega)]; omega
theorem evSli9 {l : List Int} {a : Int} : evSli (.ints l) (.int a) .none (.int 9) = some (.ints (pickNums l (some a) none (some 9))) := ifO_pos (p := (some (9 : Int)) ≠ some 0) (by decide)
theorem plainL_mapI {α : Type} (f : α → Int) : ∀ l : List α, plainL (l.map fun x => AV.int (f x)) = true
  | [] => rfl
  | a :: l => by simp only [List.map_cons, plainL, plain, plainL_mapI f l, Bool.and_self]
theorem plainL_mapL {α : Type} (f : α → AV) (h : ∀ a, plain (f a) = true) : ∀ l : List α, plainL (l.map f) = true
  | [] => rfl
  | a :: l => by simp only [List.map_cons, plainL, h a, plainL_mapL f h l, Bool.and_self]
noncomputable def bitsV : List Int := [1, 1, 0, 0, 1, 1, 1, 0, 1]
theorem table_run (ns : List Int) {k : Nat} (hk : k ≤ 3) : ∃ m < 2 ^ (3 * k), φ7 [.ints ns, .int (k : Nat)] = some (tabAV k m) := by
  let t : Nat → Nat → Int := fun i j => (bitsV.getD (3 * i + j) 0 + (pickNums ns (some ((3 * i : Nat) + (j : Nat) : Int)) none (some 9)).foldl (· + ·) 0).fmod 2
  obtain ⟨m, hm, hb⟩ := bits_exist (3 * k) (fun q => (t (q / 3) (q % 3)).toNat) (fun q => by
    rcases fmod2 (bitsV.getD (3 * (q / 3) + q % 3) 0 + (pickNums ns (some ((3 * (q / 3) : Nat) + (q % 3 : Nat) : Int)) none (some 9)).foldl (· + ·) 0) with e | e
    · show (Int.toNat (Int.fmod _ _)) < 2
      rw [e]; decide
    · show (Int.toNat (Int.fmod _ _)) < 2
      rw [e]; decide)
  refine ⟨m, hm, ?_⟩
  have hT : tabAV k m = .list ((List.range k).map fun i => .list ((List.range 3).map fun j => .int (t i j))) := by
    unfold tabAV
    congr 1
    apply List.map_congr_left
    intro i hi
    rw [List.mem_range] at hi
    congr 1
    apply List.map_congr_left
    intro j hj
    rw [List.mem_range] at hj
    have := hb (3 * i + j) (by omega)
    rw [show (3 * i + j) / 3 = i by omega, show (3 * i + j) % 3 = j by omega] at this
    rw [this]
    congr 1
    rcases fmod2 (bitsV.getD (3 * i + j) 0 + (pickNums ns (some ((3 * i : Nat) + (j : Nat) : Int)) none (some 9)).foldl (· + ·) 0) with e | e
    · show ((Int.toNat (Int.fmod _ _) : Nat) : Int) = Int.fmod _ _
      rw [e]; rfl
    · show ((Int.toNat (Int.fmod _ _) : Nat) : Int) = Int.fmod _ _
      rw [e]; rfl
  rw [hT]
  have main : runS G0 noΨ 20 st_law_table [some (.ints ns), some (.int (k : Nat)), none, none, none] none = some (.ret (.list ((List.range k).map fun i => .list ((List.range 3).map fun j => .int (t i j))))) := by
    unfold st_law_table
    rw [run_asg (a := .list (bitsV.map .int)) (ev_lst (l := bitsV.map .int) (evs_cons ev_cst (evs_cons ev_cst (evs_cons ev_cst (evs_cons ev_cst (evs_cons ev_cst (evs_cons ev_cst (evs_cons ev_cst (evs_cons ev_cst (evs_cons ev_cst evs_nil))))))))) (by decide)) (by simp)]
    simp only [List.set_cons_succ, List.set_cons_zero]
    refine run_retL (ev_com (F := fun i : Nat => AV.int (i : Nat)) (H := fun i => .list ((List.range 3).map fun j => .int (t i j))) (List.range k) (src_rng (evs_cons (ev_var rfl) evs_nil) (by omega)) (by simp; omega) fun i hi => ⟨_, rfl, ?_⟩)
    rw [List.mem_range] at hi
    refine ev_com (F := fun j : Nat => AV.int (j : Nat)) (H := fun j => .int (t i j)) (List.range 3) (src_rng (L := 3) (evs_cons ev_cst evs_nil) (by omega)) (by simp) fun j hj => ⟨_, rfl, ?_⟩
    rw [List.mem_range] at hj
    have hidx : ∀ {μ : Option (List Int)}, evIdx μ (.list (bitsV.map .int)) (.int (((3 * i + j : Nat) : Nat) : Int)) = some (.int (bitsV.getD (3 * i + j) 0)) := fun {μ} => by
      refine evIdx_list (by omega) ?_
      have hlt : 3 * i + j < bitsV.length := by show 3 * i + j < 9; omega
      rw [List.getElem?_map, List.getElem?_eq_getElem hlt, List.getD_eq_getElem?_getD, List.getElem?_eq_getElem hlt]
      rfl
    have e3 : (3 : Int) * (i : Nat) + (j : Nat) = ((3 * i + j : Nat) : Int) := by omega
    have e3' : ((3 * i : Nat) + (j : Nat) : Int) = ((3 * i + j : Nat) : Int) := by omega
    have hij : ∀ {ρ : Sto} {p1 p2 p3 p4 p5 : Pos}, (ρ[3]?).join = some (.int (i : Nat)) → (ρ[4]?).join = some (.int (j : Nat)) → ev G0 none (.bin .Add (.bin .Mult (.cst (.int 3) 0 p1) (.var 3 p2) p3) (.var 4 p4) p5) ρ = some (.int ((3 * i + j : Nat) : Nat)) := fun h1 h2 => by
      rw [← e3]
      exact ev_bin (ev_bin ev_cst (ev_var h1) (evBin_mul (sml (by omega)))) (ev_var h2) (evBin_add _ _)
    refine ev_bin (ev_bin (ev_idx (ev_var rfl) (hij rfl rfl) hidx) (ev_blt (evs_cons (a := .ints (pickNums ns (some ((3 * i + j : Nat) : Int)) none (some 9))) ?_ evs_nil) (r := .int ((pickNums ns (some ((3 * i + j : Nat) : Int)) none (some 9)).foldl (· + ·) 0)) rfl) (evBin_add _ _)) ev_cst ?_
    · exact ev_sli (ev_var (a := .ints ns) rfl) (hij rfl rfl) ev_nil ev_cst evSli9
    · rw [evBin_mod2]
      show _ = some (AV.int (Int.fmod _ 2))
      rw [e3']
  unfold φ7 goF
  rw [if_pos ⟨rfl, rfl⟩]
  have e : ([AV.ints ns, .int (k : Nat)].map some ++ List.replicate (nm_law_table.length - ps_law_table.length) none) = [some (.ints ns), some (.int (k : Nat)), none, none, none] := rfl
  rw [e, main]
  unfold retP
  dsimp only
  rw [if_pos (by unfold plain; exact plainL_mapL _ (fun i => by unfold plain; exact plainL_mapI _ _) _)]
end Mine
end TextP9

section TextP10
open PySem PySem.W PyProof.Rows PySem.Calls PySem.Spec
namespace Mine
noncomputable abbrev G12 : Env0 := ⟨gcV, Φ12⟩
theorem bt_dig {m i j : Nat} (hj : j < 3) : bt m (3 * i + j) = bt (m / 8 ^ i % 8) j := by
  unfold bt
  rw [Nat.pow_add, Nat.pow_mul, ← Nat.div_div_eq_div_mul, show 2 ^ 3 = 8 from rfl]
  generalize m / 8 ^ i = x
  match j, hj with
  | 0, _ => rw [Nat.pow_zero, Nat.div_one, Nat.div_one]; exact (Nat.mod_mod_of_dvd x (show 2 ∣ 8 from ⟨4, rfl⟩)).symm
  | 1, _ => rw [Nat.pow_one, show x % 8 / 2 = x / 2 % 4 from Nat.mod_mul_right_div_self x 2 4]; exact (Nat.mod_mod_of_dvd (x / 2) (show 2 ∣ 4 from ⟨2, rfl⟩)).symm
  | 2, _ => rw [show 2 ^ 2 = 4 from rfl, show x % 8 / 4 = x / 4 % 2 from Nat.mod_mul_right_div_self x 4 2, Nat.mod_mod]
noncomputable def unitL (k i : Nat) : List AV := (List.range k).map fun p => .int (if p = i then 1 else 0)
theorem shT2 : allT 2 (fun i => allT 8 fun t => eqAVs (unitL 2 i ++ ((List.range 3).map fun j => .int (bt t j : Nat))) (bitsL 5 (2 ^ i + 2 ^ 2 * t))) = true := by decide +kernel
theorem shT3 : allT 3 (fun i => allT 8 fun t => eqAVs (unitL 3 i ++ ((List.range 3).map fun j => .int (bt t j : Nat))) (bitsL 6 (2 ^ i + 2 ^ 3 * t))) = true := by decide +kernel
theorem shown_row {k i m : Nat} (hk : k = 2 ∨ k = 3) (hi : i < k) : unitL k i ++ ((List.range 3).map fun j => AV.int (bt m (3 * i + j) : Nat)) = bitsL (k + 3) (2 ^ i + 2 ^ k * (m / 8 ^ i % 8)) := by
  have e : ((List.range 3).map fun j => AV.int (bt m (3 * i + j) : Nat)) = (List.range 3).map fun j => AV.int (bt (m / 8 ^ i % 8) j : Nat) := by
    apply List.map_congr_left
    intro j hj
    rw [bt_dig (List.mem_range.1 hj)]
  rw [e]
  have ht : m / 8 ^ i % 8 < 8 := Nat.mod_lt _ (by omega)
  rcases hk with rfl | rfl
  · exact eqAVs_eq _ _ (allT_get (allT_get shT2 hi) ht)
  · exact eqAVs_eq _ _ (allT_get (allT_get shT3 hi) ht)
theorem otT2 : allT 3 (fun j => allT 2 fun a => allT 2 fun b => eqAVs ([.int (a : Nat), .int (b : Nat)] ++ unitL 3 j) (bitsL 5 ([a * 2 ^ 0, b * 2 ^ 1].foldl (· + ·) 0 + 2 ^ (2 + j)))) = true := by decide +kernel
theorem otT3 : allT 3 (fun j => allT 2 fun a => allT 2 fun b => allT 2 fun c => eqAVs ([.int (a : Nat), .int (b : Nat), .int (c : Nat)] ++ unitL 3 j) (bitsL 6 ([a * 2 ^ 0, b * 2 ^ 1, c * 2 ^ 2].foldl (· + ·) 0 + 2 ^ (3 + j)))) = true := by decide +kernel
theorem others_row {k j m : Nat} (hk : k = 2 ∨ k = 3) (hj : j < 3) : ((List.range k).map fun i => AV.int (bt m (3 * i + j) : Nat)) ++ unitL 3 j = bitsL (k + 3) (((List.range k).map fun i => bt m (3 * i + j) * 2 ^ i).foldl (· + ·) 0 + 2 ^ (k + j)) := by
  rcases hk with rfl | rfl
  · exact eqAVs_eq _ _ (allT_get (allT_get (allT_get otT2 hj) (bt_lt m (3 * 0 + j))) (bt_lt m (3 * 1 + j)))
  · exact eqAVs_eq _ _ (allT_get (allT_get (allT_get (allT_get otT3 hj) (bt_lt m (3 * 0 + j))) (bt_lt m (3 * 1 + j))) (bt_lt m (3 * 2 + j)))
theorem unit_com {G : Env0} {μ : Option (List Int)} {x y : Nat} {q1 q2 q3 q4 q5 q6 q7 q8 q9 p : Pos} {sc : Scope} {fv : List Nat} {as : X} {ρ : Sto} {k i : Nat} (hk : k ≤ 6) (hs : evs G μ as ρ = some [.int (k : Nat)]) (hx : x < ρ.length) (hm : ∀ v : AV, ((((mask fv 0 ρ).set x (some v))[y]?).join = some (.int (i : Nat))) ∧ ((((mask fv 0 ρ).set x (some v))[x]?).join = some v)) (hl : (mask fv 0 ρ).length = ρ.length) :
    ev G μ (.com (.ife (.cmp .Eq (.var x q1) (.var y q2) q3) (.cst (.int 1) 0 q4) (.cst (.int 0) 0 q5) q6) (.one x q7) (.blt .range q8 as q9) .nil sc fv p) ρ = some (.list (unitL k i)) := by
  refine ev_com (F := fun p : Nat => AV.int (p : Nat)) (H := fun p => .int (if p = i then 1 else 0)) (List.range k) (src_rng hs hk) (by simp; omega) fun z hz => ⟨_, setT_one (by rw [hl]; exact hx), ?_⟩
  rw [ev_ife (tv_cmp (ev_var (hm _).2) (ev_var (hm _).1) (evCmp_eq _ _))]
  congr 2
  by_cases e : z = i
  · subst e; simp
  · rw [if_neg e, if_neg (by simp; omega)]
theorem leastL_N : ∀ (ds : List Nat) (k : Nat), (leastN k ds).map AV.int = leastL k ds
  | [], _ => rfl
  | d :: r, k => by simp only [leastN, leastL, List.map_cons, leastL_N r (k + 1)]
theorem told_run {n s : Nat} (hn : Ok n) (hs : s < 2 ^ n) {rs : List Nat} (hl : rs.length = 2 ∨ rs.length = 3) (h : okL n rs = true) : φ11 [.list (rs.map (rowAV n)), .int (numN n s : Nat), .int (n : Nat)] = some (.list ((toI (dsF n rs)).map .int)) := by
  unfold okL at h
  simp only [Bool.and_eq_true, decide_eq_true_eq, List.all_eq_true] at h
  obtain ⟨⟨h1, h2⟩, h3⟩ := h
  have hf : (farL n rs).length = 4 ∨ (farL n rs).length = 8 := by
    unfold farL codesF
    rw [List.length_map, foldl_len]
    rcases hl with e | e <;> rw [e]
    · exact .inl rfl
    · exact .inr rfl
  have hds : (dsF n rs).length ≤ 3 := by
    unfold dsF ds8
    simp only [List.length_cons]
    split <;> simp
  have := depths_run (rows := .list (rs.map (rowAV n))) (s := (numN n s : Nat)) (n := n) (far := (farL n rs).map .int) (ds := dsF n rs) (by unfold plain; exact plainL_rows n rs) (dist_run hn hs rs h3 (by omega)) (by rw [least_run _ hf, h1, leastL_N]) h2 hds
  rw [this]
  unfold toI
  rw [List.map_map]
  rfl
theorem eqLists_ints (a b : List Int) : evCmp .NotEq (.list (a.map .int)) (.list (b.map .int)) = some (!decide (a = b)) := by
  show (eqLists _ _).map (! ·) = _
  unfold eqLists
  rw [show intsOf (.list (a.map .int)) = some a from asInts_map a, show intsOf (.list (b.map .int)) = some b from asInts_map b]
  rfl
theorem eqLists_intsE (a b : List Int) : evCmp .Eq (.list (a.map .int)) (.list (b.map .int)) = some (decide (a = b)) := by
  show eqLists _ _ = _
  unfold eqLists
  rw [show intsOf (.list (a.map .int)) = some a from asInts_map a, show intsOf (.list (b.map .int)) = some b from asInts_map b]
theorem evBx_sorted {μ : Option (List Int)} {a : List Int} (h : a.length < 64) : evBx μ .sorted [.list (a.map .int)] = some (.list ((sortI a).map .int)) :=
  bindI (x := intsOf (.list (a.map .int))) (asInts_map a) (ifO_pos h)
theorem list_rng : allT 7 (fun n => isO (evB .list [.range 1 ((n : Nat) + 1) 1]) (.list ((toI ((List.range n).map fun t => t + 1)).map .int))) = true := by decide +kernel
theorem digs_exist (S : Int) (n : Nat) : ∃ s < 2 ^ n, (List.range n).map (fun p => AV.int (2 * (p : Nat) + (S.fdiv (2 ^ p)).fmod 2)) = digsL n s := by
  obtain ⟨s, hs, h⟩ := bits_exist n (fun p => ((S.fdiv (2 ^ p)).fmod 2).toNat) (fun p => by
    rcases fmod2 (S.fdiv (2 ^ p)) with e | e <;> rw [e] <;> decide)
  refine ⟨s, hs, ?_⟩
  unfold digsL
  apply List.map_congr_left
  intro p hp
  rw [h p (List.mem_range.1 hp)]
  congr 1
  rcases fmod2 (S.fdiv (2 ^ p)) with e | e <;> rw [e] <;> simp
end Mine
end TextP10

section TextP11
open PySem PySem.W PyProof.Rows PySem.Calls PySem.Spec
namespace Mine
theorem Φ12_7 : G12.Φ 7 = φ7 := by unfold G12 Φ12; rfl
theorem Φ12_11 : G12.Φ 11 = φ11 := by unfold G12 Φ12; rfl
theorem Φ12_2 : G12.Φ 2 = φ2 := by unfold G12 Φ12; rfl
theorem fin_ok {k m : Nat} (hk : k = 2 ∨ k = 3) (hm : m < 2 ^ (3 * k)) : fin k m = true := by
  rcases hk with rfl | rfl
  · exact allT_get fin2 hm
  · exact fin3 hm
theorem unit_sh {k i : Nat} {x : Option AV} {p1 p2 p3 p4 p5 p6 p7 p8 p9 p10 p11 : Pos} {sc : Scope} (hk : k ≤ 6) : ev G12 none (.com (.ife (.cmp .Eq (.var 10 p1) (.var 9 p2) p3) (.cst (.int 1) 0 p4) (.cst (.int 0) 0 p5) p6) (.one 10 p7) (.blt .range p8 (.cons (.var 1 p9) .nil) p10) .nil sc [9] p11) [none, some (.int (k : Nat)), none, x, none, none, none, none, none, some (AV.int (i : Nat)), none, none, none] = some (.list (unitL k i)) := by
  refine unit_com (k := k) (i := i) hk ?_ ?_ ?_ ?_
  · exact evs_cons (ev_var rfl) evs_nil
  · simp
  · exact fun v => ⟨rfl, rfl⟩
  · rfl
theorem digs_com {n : Nat} {ns : List Int} {o1 o3 o4 o5 : Option AV} {p1 p2 p3 p4 p5 p6 p7 p8 p9 p10 p11 p12 p13 p14 p15 p16 : Pos} {sc : Scope} (hn : n ≤ 6) :
    ev G12 none (.com (.bin .Add (.bin .Mult (.cst (.int 2) 0 p1) (.var 10 p2) p3) (.bin .Mod (.bin .RShift (.blt .sum p4 (.cons (.var 0 p5) .nil) p6) (.var 10 p7) p8) (.cst (.int 2) 0 p9) p10) p11) (.one 10 p12) (.blt .range p13 (.cons (.var 2 p14) .nil) p15) .nil sc [0] p16)
      [some (.ints ns), o1, some (.int (n : Nat)), o3, o4, o5, none, none, none, none, none, none, none] = some (.list ((List.range n).map (fun p => AV.int (2 * (p : Nat) + ((ns.foldl (· + ·) 0).fdiv (2 ^ p)).fmod 2)))) := by
  refine ev_com (F := fun i : Nat => AV.int (i : Nat)) (List.range n) ?_ ?_ ?_
  · exact src_rng (evs_cons (ev_var rfl) evs_nil) hn
  · simp; omega
  · intro p hp
    refine ⟨_, setT_one (by simp [mask]), ?_⟩
    have hp := List.mem_range.1 hp
    exact ev_bin (ev_bin ev_cst (ev_var (a := .int (p : Nat)) rfl) (evBin_mul (sml (by omega)))) (ev_bin (ev_bin (ev_blt (evs_cons (ev_var (a := .ints ns) rfl) evs_nil) (r := .int (ns.foldl (· + ·) 0)) rfl) (ev_var (a := .int (p : Nat)) rfl) evBin_shr) ev_cst (evBin_mod2 _)) (evBin_add _ _)
set_option maxHeartbeats 4000000
theorem law_run (ns : List Int) (hz : ns.length ≤ 63) : lawRun ns = some (.ret (.bool true)) := by
  obtain ⟨k, hk, hkt⟩ : ∃ k : Nat, (k = 2 ∨ k = 3) ∧ (if (decide ((ns.length : Int) > 5)) = true then (3 : Int) else 2) = (k : Nat) := by
    by_cases h : (ns.length : Int) > 5
    · exact ⟨3, .inr rfl, by rw [if_pos (decide_eq_true h)]; rfl⟩
    · exact ⟨2, .inl rfl, by rw [if_neg (by simpa using h)]; rfl⟩
  obtain ⟨m, hm, htab⟩ := table_run ns (k := k) (by omega)
  have htab' : G12.Φ 7 [.ints ns, .int (k : Nat)] = some (tabAV k m) := by rw [Φ12_7]; exact htab
  have hk6 : k ≤ 6 := by omega
  have hk9 : k + 3 ≤ 6 := by omega
  have hn : Ok (k + 3) := by omega
  obtain ⟨s, hs, hdig⟩ := digs_exist (ns.foldl (· + ·) 0) (k + 3)
  have hfin := fin_ok hk hm
  unfold fin at hfin
  simp only [Bool.and_eq_true, decide_eq_true_eq] at hfin
  obtain ⟨⟨⟨⟨g1, g2⟩, g3⟩, g4⟩, g5⟩ := hfin
  have lS : (shownC k m).length = 2 ∨ (shownC k m).length = 3 := by unfold shownC; simp; exact hk
  have lO : (othersC k m).length = 2 ∨ (othersC k m).length = 3 := by unfold othersC; simp
  have told : G12.Φ 11 [.list ((shownC k m).map (rowAV (k + 3))), .int (numN (k + 3) s : Nat), .int (k + 3 : Nat)] = some (.list ((toI (dsF (k + 3) (shownC k m))).map .int)) := by rw [Φ12_11]; exact told_run hn hs lS g1
  have back : G12.Φ 11 [.list ((othersC k m).map (rowAV (k + 3))), .int (numN (k + 3) s : Nat), .int (k + 3 : Nat)] = some (.list ((toI (dsF (k + 3) (othersC k m))).map .int)) := by rw [Φ12_11]; exact told_run hn hs lO g2
  have hdg : G12.Φ 2 [.list (digsL (k + 3) s), .int 4] = some (.int (numN (k + 3) s : Nat)) := by rw [Φ12_2]; exact c_digs hn hs
  have dl : ∀ rs, (toI (dsF (k + 3) rs)).length ≤ 3 := fun rs => by
    unfold toI dsF ds8
    rw [List.length_map]
    simp only [List.length_cons]
    split <;> simp
  generalize hA : toI (dsF (k + 3) (shownC k m)) = A at *
  generalize hB : toI (dsF (k + 3) (othersC k m)) = B at *
  have lA : A.length ≤ 3 := by rw [← hA]; exact dl _
  have lB : B.length ≤ 3 := by rw [← hB]; exact dl _
  clear dl g1 g2
  unfold lawRun
  rw [show ([AV.ints ns].map some ++ List.replicate (nm_law.length - ps_law.length) none) = [some (.ints ns), none, none, none, none, none, none, none, none, none, none, none, none] from rfl]
  unfold st_law
  rw [run_asg (a := .int (k : Nat)) (by rw [ev_ife (tv_cmp (ev_blt (evs_cons (ev_var rfl) evs_nil) (r := .int (ns.length : Nat)) rfl) ev_cst (evCmp_gt _ _)), hkt]) (by simp)]
  simp only [List.set_cons_succ, List.set_cons_zero]
  rw [run_asg (a := .int ((k + 3 : Nat) : Int)) (by rw [ev_bin (ev_var rfl) ev_cst (evBin_add _ _)]; rfl) (by simp)]
  simp only [List.set_cons_succ, List.set_cons_zero]
  rw [run_asg (a := tabAV k m) (ev_cal (by decide) (evs_cons (ev_var rfl) (evs_cons (ev_var rfl) evs_nil)) htab') (by simp)]
  simp only [List.set_cons_succ, List.set_cons_zero]
  -- shown
  refine (run_asg (a := .list ((shownC k m).map (rowAV (k + 3)))) ?_ (by simp)).trans ?_
  · unfold shownC
    rw [List.map_map]
    refine ev_com (F := fun i : Nat => AV.int (i : Nat)) (H := rowAV (k + 3) ∘ fun i => 2 ^ i + 2 ^ k * (m / 8 ^ i % 8)) (List.range k) (src_rng (evs_cons (ev_var rfl) evs_nil) (by omega)) (by simp; omega) fun i hi => ⟨_, setT_one (by simp [mask]), ?_⟩
    have hi := List.mem_range.1 hi
    have hmask : mask [1, 3] 0 [some (.ints ns), some (.int (k : Nat)), some (.int ((k + 3 : Nat) : Int)), some (tabAV k m), none, none, none, none, none, none, none, none, none] = [none, some (.int (k : Nat)), none, some (tabAV k m), none, none, none, none, none, none, none, none, none] := rfl
    rw [hmask]
    simp only [List.set_cons_succ, List.set_cons_zero]
    have hgoal : ((rowAV (k + 3) ∘ fun i => 2 ^ i + 2 ^ k * (m / 8 ^ i % 8)) i) = AV.list (unitL k i ++ ((List.range 3).map fun j => AV.int (bt m (3 * i + j) : Nat))) := by
      rw [shown_row hk hi]; rfl
    rw [hgoal]
    have hrow : ((List.range k).map fun i => AV.list ((List.range 3).map fun j => AV.int (bt m (3 * i + j) : Nat)))[i]? = some (.list ((List.range 3).map fun j => AV.int (bt m (3 * i + j) : Nat))) := by rw [List.getElem?_map, List.getElem?_range hi]; rfl
    refine ev_bin (a := .list (unitL k i)) (b := .list ((List.range 3).map fun j => AV.int (bt m (3 * i + j) : Nat))) ?_ ?_ (evBin_cat (by simp [unitL]; omega))
    · exact unit_sh hk6
    · exact ev_idx (ev_var (a := tabAV k m) rfl) (ev_var (a := .int (i : Nat)) rfl) (evIdx_list (by omega) hrow)
  simp only [List.set_cons_succ, List.set_cons_zero]
  -- others
  refine (run_asg (a := .list ((othersC k m).map (rowAV (k + 3)))) ?_ (by simp)).trans ?_
  · unfold othersC
    rw [List.map_map]
    refine ev_com (F := fun i : Nat => AV.int (i : Nat)) (H := rowAV (k + 3) ∘ fun j => ((List.range k).map fun i => bt m (3 * i + j) * 2 ^ i).foldl (· + ·) 0 + 2 ^ (k + j)) (List.range 3) (src_rng (L := 3) (evs_cons ev_cst evs_nil) (by omega)) (by simp) fun j hj => ⟨_, setT_one (by simp [mask]), ?_⟩
    have hj := List.mem_range.1 hj
    have hmask : mask [1, 3] 0 [some (.ints ns), some (.int (k : Nat)), some (.int ((k + 3 : Nat) : Int)), some (tabAV k m), some (.list ((shownC k m).map (rowAV (k + 3)))), none, none, none, none, none, none, none, none] = [none, some (.int (k : Nat)), none, some (tabAV k m), none, none, none, none, none, none, none, none, none] := rfl
    rw [hmask]
    simp only [List.set_cons_succ, List.set_cons_zero]
    have hgoal : ((rowAV (k + 3) ∘ fun j => ((List.range k).map fun i => bt m (3 * i + j) * 2 ^ i).foldl (· + ·) 0 + 2 ^ (k + j)) j) = AV.list (((List.range k).map fun i => AV.int (bt m (3 * i + j) : Nat)) ++ unitL 3 j) := by
      rw [others_row hk hj]; rfl
    rw [hgoal]
    refine ev_bin (ev_com (F := fun i : Nat => AV.int (i : Nat)) (H := fun i => AV.int (bt m (3 * i + j) : Nat)) (List.range k) (src_rng (evs_cons (ev_var rfl) evs_nil) (by omega)) (by simp; omega) fun i hi => ⟨_, setT_one (by simp [mask]), ?_⟩) (unit_com (k := 3) (i := j) (by omega) (evs_cons ev_cst evs_nil) (by simp) (fun v => ⟨rfl, rfl⟩) rfl) (evBin_cat (by simp [unitL]; omega))
    have hi := List.mem_range.1 hi
    have hmask2 : mask [11, 3] 0 [none, some (.int (k : Nat)), none, some (tabAV k m), none, none, none, none, none, none, none, some (AV.int (j : Nat)), none] = [none, none, none, some (tabAV k m), none, none, none, none, none, none, none, some (AV.int (j : Nat)), none] := rfl
    rw [hmask2]
    simp only [List.set_cons_succ, List.set_cons_zero]
    have hrow : ((List.range k).map fun i => AV.list ((List.range 3).map fun j => AV.int (bt m (3 * i + j) : Nat)))[i]? = some (.list ((List.range 3).map fun j => AV.int (bt m (3 * i + j) : Nat))) := by rw [List.getElem?_map, List.getElem?_range hi]; rfl
    have hcell : ((List.range 3).map fun j => AV.int (bt m (3 * i + j) : Nat))[j]? = some (AV.int (bt m (3 * i + j) : Nat)) := by rw [List.getElem?_map, List.getElem?_range hj]; rfl
    exact ev_idx (ev_idx (ev_var (a := tabAV k m) rfl) (ev_var (a := .int (i : Nat)) rfl) (evIdx_list (by omega) hrow)) (ev_var (a := .int (j : Nat)) rfl) (evIdx_list (by omega) hcell)
  simp only [List.set_cons_succ, List.set_cons_zero]
  -- start
  refine (run_asg (a := .int (numN (k + 3) s : Nat)) ?_ (by simp)).trans ?_
  · refine ev_cal (by decide) (evs_cons (a := .list (digsL (k + 3) s)) ?_ (evs_cons ev_cst evs_nil)) hdg
    rw [← hdig]
    exact digs_com hk9
  simp only [List.set_cons_succ, List.set_cons_zero]
  rw [run_asg (a := .list (A.map .int)) (ev_cal (by decide) (evs_cons (ev_var rfl) (evs_cons (ev_var rfl) (evs_cons (ev_var rfl) evs_nil))) told) (by simp)]
  simp only [List.set_cons_succ, List.set_cons_zero]
  rw [run_asg (a := .list (B.map .int)) (ev_cal (by decide) (evs_cons (ev_var rfl) (evs_cons (ev_var rfl) (evs_cons (ev_var rfl) evs_nil))) back) (by simp)]
  simp only [List.set_cons_succ, List.set_cons_zero]
  have hln : (k + 3 : Nat) = k + 3 := rfl
  rw [run_iteF (tv_bor (tv_cmp (ev_var rfl) (ev_blt (evs_cons (ev_var rfl) evs_nil) (evBx_sorted (a := A) (by omega))) (by rw [eqLists_ints, g3]; simp)) (tv_cmp (ev_var rfl) (ev_blt (evs_cons (ev_var rfl) evs_nil) (evBx_sorted (a := B) (by omega))) (by rw [eqLists_ints, g4]; simp)))]
  have hlist := isO_eq (allT_get list_rng (i := k + 3) (by omega))
  refine run_retA (ev_cmp (a := .list ((sortI (A ++ B.map fun d => ((k + 3 : Nat) : Int) + 1 - d)).map .int)) (b := .list ((toI ((List.range (k + 3)).map fun t => t + 1)).map .int)) (ev_blt (evs_cons (a := .list ((A ++ B.map fun d => ((k + 3 : Nat) : Int) + 1 - d).map .int)) ?_ evs_nil) (evBx_sorted (by simp; omega))) (ev_blt (evs_cons (ev_blt (evs_cons ev_cst (evs_cons (ev_bin (ev_var rfl) ev_cst (evBin_add _ _)) evs_nil)) (r := .range 1 (((k + 3 : Nat) : Int) + 1) 1) rfl) evs_nil) hlist) (by rw [eqLists_intsE, g5]; simp))
  rw [List.map_append]
  refine ev_bin (ev_var (a := .list (A.map .int)) rfl) (ev_com (F := AV.int) (H := fun d => AV.int (((k + 3 : Nat) : Int) + 1 - d)) B (src_var rfl) (by omega) fun d hd => ⟨_, rfl, ?_⟩) ?_
  · exact ev_bin (ev_bin (ev_var (a := .int ((k + 3 : Nat) : Int)) rfl) ev_cst (evBin_add _ _)) (ev_var (a := .int d) rfl) (evBin_sub _ _)
  · rw [evBin_cat (by simp; omega), List.map_map]
    rfl
end Mine
theorem Mine.holds_ppp : PySem.Challenge.rw_sr0043_01.Holds :=
  Mine.holds_pp Mine.law_run
end TextP11

theorem PySem.Challenge.cw_sr0043_01_holds : PySem.Challenge.rw_sr0043_01.Holds :=
  Mine.holds_ppp
