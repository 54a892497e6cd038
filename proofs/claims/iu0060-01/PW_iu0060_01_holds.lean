import PyProof.Rows.All
import Wide.All
import OpenK.AllK
import Wide.FinOn
import PyProof.AttrMissHeap
import KE.KDictOf
import PyProof.ZipIter
import KE.KSort
import KE.KSlice
import KE.KEqSeq
import KE.KEqDict
import KE.KDictSum
import KE.KDictFold
import PySem.Challenge.RW_iu0060_01
open PySem PySem.W PySem.Calls PyProof.Rows
set_option Elab.async false
set_option linter.unusedVariables false
section
set_option maxRecDepth 10000
namespace Mine

/-! ## the judgement -/
noncomputable abbrev St (z : Shared) (h : Heap) (tk : Nat) : Shared := ⟨h, z.gens, z.drawn, tk, z.os⟩
noncomputable def Wp {α : Type} (M : Model) (A : Around) (z : Shared) (t : Sem α) (Q : α → Heap → Prop) (h : Heap) : Prop :=
  ∀ tk, wpAny M A t (fun a s' => ∃ h' tk', s' = St z h' tk' ∧ Q a h') (fun _ _ => False) (St z h tk)

section
variable {α β : Type} {M : Model} {A : Around} {z : Shared} {h : Heap}
theorem Wp.go {t : Sem α} {Q : α → Heap → Prop} {Q' : α → Shared → Prop} {E : Value → Shared → Prop} (x : Wp M A z t Q h) (k : ∀ a h' tk', Q a h' → Q' a (St z h' tk')) (tk : Nat) : wpAny M A t Q' E (St z h tk) :=
  wpAny_mono (x tk) (fun a s' ⟨h', tk', e, q⟩ => e ▸ k a h' tk' q) fun _ _ f => f.elim
theorem Wp.mono {t : Sem α} {Q Q' : α → Heap → Prop} (x : Wp M A z t Q h) (k : ∀ a h', Q a h' → Q' a h') : Wp M A z t Q' h :=
  x.go fun a h' tk' q => ⟨h', tk', rfl, k a h' q⟩
theorem Wp.pure {a : α} {Q : α → Heap → Prop} (q : Q a h) : Wp M A z (Pure.pure a) Q h := fun tk => wpAny_pure ⟨h, tk, rfl, q⟩
theorem Wp.bind {m : Sem α} {f : α → Sem β} {Q : β → Heap → Prop} (x : Wp M A z m (fun a h1 => Wp M A z (f a) Q h1) h) : Wp M A z (m >>= f) Q h :=
  fun tk => wpAny_bind (x.go (fun a h1 t1 y => y t1) tk)
end
/-! ## what is to hold behind a step, by name -/
section
variable (M : Model) (A : Around) (z : Shared) (env : Env)
noncomputable abbrev QIf (body orelse : List Stmt) (Q : Flow → Heap → Prop) (b : Bool) (h : Heap) : Prop := (b = true → Wp M A z (execs body env) Q h) ∧ (b = false → Wp M A z (execs orelse env) Q h)
noncomputable abbrev QIfE (body orelse : Expr) (Q : Value → Heap → Prop) (b : Bool) (h : Heap) : Prop := (b = true → Wp M A z (eval body env) Q h) ∧ (b = false → Wp M A z (eval orelse env) Q h)
noncomputable abbrev QTr (Q : Bool → Heap → Prop) (v : Value) (h : Heap) : Prop := Wp M A z (truthy v) Q h
noncomputable abbrev QCmp2 (op : CmpOp) (a : Value) (Q : Value → Heap → Prop) (b : Value) (h : Heap) : Prop := Wp M A z (compareOp op a b) Q h
noncomputable abbrev QCmp1 (op : CmpOp) (r : Expr) (Q : Value → Heap → Prop) (a : Value) (h : Heap) : Prop := Wp M A z (eval r env) (QCmp2 M A z op a Q) h
noncomputable abbrev QBin2 (op : Operator) (a : Value) (Q : Value → Heap → Prop) (b : Value) (h : Heap) : Prop := Wp M A z (binaryOp op a b) Q h
noncomputable abbrev QBin1 (op : Operator) (r : Expr) (Q : Value → Heap → Prop) (a : Value) (h : Heap) : Prop := Wp M A z (eval r env) (QBin2 M A z op a Q) h
noncomputable abbrev QAnd (rest : List Expr) (pos : Pos) (whole : Sem Value) (Q : Bool → Heap → Prop) (c : Bool) (h : Heap) : Prop := (c = true → Wp M A z (isTrue (.BoolOp .And rest pos) env whole) Q h) ∧ (c = false → Q false h)
noncomputable abbrev QOr (rest : List Expr) (pos : Pos) (whole : Sem Value) (Q : Bool → Heap → Prop) (c : Bool) (h : Heap) : Prop := (c = true → Q true h) ∧ (c = false → Wp M A z (isTrue (.BoolOp .Or rest pos) env whole) Q h)
noncomputable abbrev QOrV (rest : List Expr) (pos : Pos) (v : Value) (Q : Value → Heap → Prop) (c : Bool) (h : Heap) : Prop := (c = true → Q v h) ∧ (c = false → Wp M A z (eval (.BoolOp .Or rest pos) env) Q h)
noncomputable abbrev QAndV (rest : List Expr) (pos : Pos) (v : Value) (Q : Value → Heap → Prop) (c : Bool) (h : Heap) : Prop := (c = true → Wp M A z (eval (.BoolOp .And rest pos) env) Q h) ∧ (c = false → Q v h)
noncomputable abbrev QOrV1 (rest : List Expr) (pos : Pos) (Q : Value → Heap → Prop) (v : Value) (h : Heap) : Prop := Wp M A z (truthy v) (QOrV M A z env rest pos v Q) h
noncomputable abbrev QAndV1 (rest : List Expr) (pos : Pos) (Q : Value → Heap → Prop) (v : Value) (h : Heap) : Prop := Wp M A z (truthy v) (QAndV M A z env rest pos v Q) h
noncomputable abbrev QAttr (nm : Str) (Q : Value → Heap → Prop) (o : Value) (h : Heap) : Prop := Wp M A z (getAttr o nm true) Q h
noncomputable abbrev QM2 (pos : Pos) (args : List Expr) (kws : List Keyword) (Q : Value → Heap → Prop) (fx : Value × List Value) (h : Heap) : Prop := Wp M A z (callWith pos fx.1 fx.2 (backTo pos (starEach args env)) (backToKw pos (keywordEach kws env))) Q h
noncomputable abbrev QM1 (nm : Str) (pl : Sem Bool) (pos : Pos) (args : List Expr) (kws : List Keyword) (Q : Value → Heap → Prop) (ov : Value) (h : Heap) : Prop := Wp M A z (getMethod ov nm pl) (QM2 M A z env pos args kws Q) h
noncomputable abbrev QF1 (pos : Pos) (args : List Expr) (kws : List Keyword) (Q : Value → Heap → Prop) (f : Value) (h : Heap) : Prop := Wp M A z (callWith pos f [] (backTo pos (starEach args env)) (backToKw pos (keywordEach kws env))) Q h
noncomputable abbrev QE (K : Frag) (f : Value) (first : List Value) (Q : Value → Heap → Prop) (vs : List Value) (h : Heap) : Prop := K.In h ∧ Wp M A z (call f (first ++ vs)) Q h
noncomputable abbrev QB (f : Value) (first : List Value) (Q : Value → Heap → Prop) (vs : List Value) (h : Heap) : Prop := Wp M A z (call f (first ++ vs)) Q h
noncomputable abbrev QT (T : String) (Q : Value → Heap → Prop) (vs : List Value) (h : Heap) : Prop := Wp M A z (call (.type T) vs) Q h
noncomputable abbrev QA2 (v : Value) (Q : List Value → Heap → Prop) (vs : List Value) (h : Heap) : Prop := Q (v :: vs) h
noncomputable abbrev QA1 (pos : Pos) (rest : List Expr) (Q : List Value → Heap → Prop) (v : Value) (h : Heap) : Prop := Wp M A z (spliced (backTo pos (starEach rest env))) (QA2 v Q) h
noncomputable abbrev QK1 (rest : List (Sem Value)) (Q : List Value → Heap → Prop) (v : Value) (h : Heap) : Prop := Wp M A z (evalAll rest) (QA2 v Q) h
noncomputable abbrev QSub2 (value slice : Expr) (o : Value) (Q : Value → Heap → Prop) (i : Value) (h : Heap) : Prop := Wp M A z (subscriptTail value slice o i) Q h
noncomputable abbrev QSub1 (value slice : Expr) (Q : Value → Heap → Prop) (o : Value) (h : Heap) : Prop := Wp M A z (eval slice env) (QSub2 M A z value slice o Q) h
noncomputable abbrev QPut2 (nm : Str) (v : Value) (Q : Flow → Heap → Prop) (ov : Value) (h : Heap) : Prop := Wp M A z (setAttr ov nm v) (fun _ => Q .next) h
noncomputable abbrev QPut1 (y : Str) (p0 : Pos) (nm : Str) (Q : Flow → Heap → Prop) (v : Value) (h : Heap) : Prop := Wp M A z (eval (.Name y p0) env) (QPut2 M A z nm v Q) h
end
noncomputable abbrev QRet (Q : Flow → Heap → Prop) (v : Value) (h : Heap) : Prop := Q (.ret v) h
noncomputable abbrev QNot (Q : Bool → Heap → Prop) (c : Bool) (h : Heap) : Prop := Q (!c) h
noncomputable abbrev QEx (Q : Flow → Heap → Prop) (v : Value) (h : Heap) : Prop := (∀ a, v ≠ .ref a) ∧ Q .next h
noncomputable abbrev QAt (Q : Flow → Heap → Prop) (b : Bool) (h : Heap) : Prop := b = true ∧ Q .next h
/-- the same of a code -/
noncomputable def Cd (M : Model) (A : Around) (z : Shared) (c : Code) (Q : Value → Heap → Prop) (h : Heap) : Prop :=
  ∀ tk, codeAny M A c (fun r s' => match r with
    | .ok (.ret v) => ∃ h' tk', s' = St z h' tk' ∧ Q v h'
    | _ => False) (St z h tk)
theorem Cd.call {M : Model} {A : Around} {z : Shared} {f : Value} {args : List Value} {kw : List (Str × Value)} {Q : Value → Heap → Prop} {h : Heap} (x : Cd M A z (.call f ⟨args, kw⟩) Q h) : Wp M A z (call f args kw) Q h :=
  fun tk => wpAny_call (codeAny_mono (x tk) fun r s' q => by
    rcases r with e | (v | _ | _ | _) <;> first | exact q | exact q.elim)
theorem Cd.mono {M : Model} {A : Around} {z : Shared} {c : Code} {Q Q' : Value → Heap → Prop} {h : Heap} (x : Cd M A z c Q h) (k : ∀ v h', Q v h' → Q' v h') : Cd M A z c Q' h :=
  fun tk => codeAny_mono (x tk) fun r s' q => by
    rcases r with e | (_ | _ | _ | v) <;> first | exact q.elim | skip
    obtain ⟨h', tk', e, q⟩ := q
    exact ⟨h', tk', e, k _ h' q⟩

/-! ## the ledger: addresses with what is known of the object -/
/-- ex: this very object, never to change (such an entry may stand twice); dc: an object of which P holds -/
inductive Cell where
  | ex (o : Obj)
  | dc (P : Obj → Prop)
noncomputable def Cell.Ok : Cell → Obj → Prop
  | .ex o₀, o => o = o₀
  | .dc P, o => P o
noncomputable def Cell.Fz : Cell → Prop
  | .ex _ => True
  | .dc _ => False
noncomputable abbrev Led := List (Addr × Cell)
noncomputable def addrs (l : Led) : List Addr := l.map (·.1)
noncomputable abbrev isObj (o₀ : Obj) : Cell := .ex o₀
/-- two entries: of one address only if both are frozen -/
noncomputable def Apart (p q : Addr × Cell) : Prop := p.1 = q.1 → p.2.Fz ∧ q.2.Fz
noncomputable def Nd (l : Led) : Prop := l.Pairwise Apart
noncomputable def Keeps (own l : Led) : Prop := ∀ p ∈ own, p.2.Fz → p ∈ l
structure Has (h : Heap) (led : Led) : Prop where
  get : ∀ p ∈ led, ∃ o, h.get? p.1 = some o ∧ p.2.Ok o
structure Own (g h : Heap) (led : Led) : Prop where
  has : Has h led
  off : ∀ p ∈ led, g.get? p.1 = none
  nd : Nd led
structure Ow (g : Heap) (L : Addr) (h : Heap) (led : Led) : Prop where
  own : Own g h led
  ne : ∀ p ∈ led, p.1 ≠ L
structure Gd (K : Frag) (ro : List (Addr × Obj)) (g : Heap) : Prop where
  kin : K.In g
  top : ∃ p loose mean mg mb, Top p loose mean mg mb g
  ro : ∀ p ∈ ro, g.get? p.1 = some p.2
noncomputable def Room (A : Around) (k : Nat) : Prop := A.handled = none ∧ A.depth + k < 990 ∧ A.units + 8 * k < 9800
structure Sub (a led : Led) : Prop where
  mem : ∀ e ∈ a, e ∈ led
  nd : Nd a

theorem Gd.keeps {K : Frag} {ro : List (Addr × Obj)} {g g' : Heap} (G : Gd K ro g) (k : ∀ b o, g.get? b = some o → g'.get? b = some o) : Gd K ro g' :=
  ⟨G.kin.keeps k, let ⟨p, l, m, a, b, T⟩ := G.top; ⟨p, l, m, a, b, T.keeps k⟩, fun p hp => k _ _ (G.ro p hp)⟩
theorem Gd.more {K : Frag} {ro ro' : List (Addr × Obj)} {g : Heap} (G : Gd K ro g) (k : ∀ p ∈ ro', g.get? p.1 = some p.2) : Gd K ro' g := ⟨G.kin, G.top, k⟩
theorem Room.le {A : Around} {k k' : Nat} (R : Room A k) (h : k' ≤ k) : Room A k' := ⟨R.1, by have := R.2.1; omega, by have := R.2.2; omega⟩
theorem Room.deeper {A : Around} {k : Nat} (R : Room A (k + 1)) (env : Env) : Room (A.deeper env) k :=
  ⟨R.1, by have := R.2.1; show A.depth + 1 + k < 990; omega, by have := R.2.2; show A.units + 3 + 8 * k < 9800; omega⟩

theorem addrs_append (a b : Led) : addrs (a ++ b) = addrs a ++ addrs b := List.map_append
theorem mem_addrs {l : Led} {p : Addr × Cell} (h : p ∈ l) : p.1 ∈ addrs l := List.mem_map_of_mem h
theorem Apart.symm {p q : Addr × Cell} (h : Apart p q) : Apart q p := fun e => (h e.symm).symm
theorem Nd.perm {l l' : Led} (n : Nd l) (p : l.Perm l') : Nd l' := (p.pairwise_iff (fun h => Apart.symm h)).mp n
theorem nodup_append {a b : Led} : Nd (a ++ b) ↔ Nd a ∧ Nd b ∧ ∀ p ∈ a, ∀ q ∈ b, Apart p q := List.pairwise_append
theorem Nd.nil : Nd [] := List.Pairwise.nil
theorem same_of_nodup {h : Heap} {l : Led} {p q : Addr × Cell} (H : Has h l) (nd : Nd l) (hp : p ∈ l) (hq : q ∈ l) (e : p.1 = q.1) : p = q := by
  by_cases hpq : p = q
  · exact hpq
  · have ap : Apart p q := by
      obtain ⟨i, hi, rfl⟩ := List.mem_iff_getElem.mp hp
      obtain ⟨j, hj, rfl⟩ := List.mem_iff_getElem.mp hq
      rcases Nat.lt_trichotomy i j with h1 | h1 | h1
      · exact List.pairwise_iff_getElem.mp nd i j hi hj h1
      · subst h1; exact absurd rfl hpq
      · exact (List.pairwise_iff_getElem.mp nd j i hj hi h1).symm
    obtain ⟨f1, f2⟩ := ap e
    obtain ⟨o, e1, p1⟩ := H.get p hp
    obtain ⟨o', e2, p2⟩ := H.get q hq
    rw [e, e2] at e1
    obtain ⟨a, c⟩ := p
    obtain ⟨b, c'⟩ := q
    cases c with
    | dc _ => exact f1.elim
    | ex x =>
      cases c' with
      | dc _ => exact f2.elim
      | ex y =>
        have e1 := Option.some.inj e1
        have p1 : o = x := p1
        have p2 : o' = y := p2
        have e3 : x = y := p1.symm.trans (e1.symm.trans p2)
        have e : a = b := e
        rw [e, e3]

section
variable {g h : Heap} {L : Addr} {led led' a b : Led} {m : Str → Option Value}
theorem Ow.has (O : Ow g L h led) : Has h led := O.own.has
theorem Ow.nd (O : Ow g L h led) : Nd led := O.own.nd
theorem Ow.get (O : Ow g L h led) {x : Addr} {P : Cell} (hm : (x, P) ∈ led) : ∃ o, h.get? x = some o ∧ P.Ok o := O.own.has.get _ hm
theorem Ow.obj (O : Ow g L h led) {x : Addr} {o : Obj} (hm : (x, isObj o) ∈ led) : h.get? x = some o := by
  obtain ⟨o', e, rfl⟩ := O.get hm
  exact e
theorem Ow.sub (O : Ow g L h led) (s : Sub a led) : Ow g L h a :=
  ⟨⟨⟨fun p hp => O.has.get p (s.mem p hp)⟩, fun p hp => O.own.off p (s.mem p hp), s.nd⟩, fun p hp => O.ne p (s.mem p hp)⟩
theorem Ow.perm (O : Ow g L h led) (p : led.Perm led') : Ow g L h led' :=
  O.sub ⟨fun q hq => p.mem_iff.mpr hq, O.nd.perm p⟩
theorem Ow.left (O : Ow g L h (a ++ b)) : Ow g L h a := O.sub ⟨fun q hq => List.mem_append_left _ hq, (nodup_append.mp O.nd).1⟩
theorem Ow.right (O : Ow g L h (a ++ b)) : Ow g L h b := O.sub ⟨fun q hq => List.mem_append_right _ hq, (nodup_append.mp O.nd).2.1⟩
theorem Sub.refl (O : Ow g L h a) : Sub a a := ⟨fun _ h => h, O.nd⟩
theorem Sub.trans {c : Led} (s : Sub a b) (t : Sub b c) : Sub a c := ⟨fun e h => t.mem e (s.mem e h), s.nd⟩
theorem Ow.subL (O : Ow g L h (a ++ b)) : Sub a (a ++ b) := ⟨fun _ h => List.mem_append_left _ h, O.left.nd⟩
theorem Ow.subR (O : Ow g L h (a ++ b)) : Sub b (a ++ b) := ⟨fun _ h => List.mem_append_right _ h, O.right.nd⟩
/-- a cell's word made weaker -/
theorem Ow.weaken {x : Addr} {P P' : Obj → Prop} {rest : Led} (O : Ow g L h ((x, .dc P) :: rest)) (w : ∀ o, P o → P' o) : Ow g L h ((x, .dc P') :: rest) :=
  ⟨⟨⟨fun p hp => by
    rcases List.mem_cons.mp hp with rfl | hp
    · obtain ⟨o, e, q⟩ := O.get (List.mem_cons_self ..); exact ⟨o, e, w o q⟩
    · exact O.has.get p (List.mem_cons_of_mem _ hp)⟩, fun p hp => by
    rcases List.mem_cons.mp hp with rfl | hp
    · exact O.own.off (x, .dc P) (List.mem_cons_self ..)
    · exact O.own.off p (List.mem_cons_of_mem _ hp), List.pairwise_cons.mpr ⟨fun q hq e => (List.pairwise_cons.mp O.nd).1 q hq e, (List.pairwise_cons.mp O.nd).2⟩⟩, fun p hp => by
    rcases List.mem_cons.mp hp with rfl | hp
    · exact O.ne (x, .dc P) (List.mem_cons_self ..)
    · exact O.ne p (List.mem_cons_of_mem _ hp)⟩
/-- the exact objects -/
noncomputable def ex (h : Heap) (led : Led) : List (Addr × Obj) := led.map fun p => (p.1, (h.get? p.1).getD default)
theorem Ow.news (O : Ow g L h led) : News g L h (ex h led) := fun q hq => by
  obtain ⟨p, hp, rfl⟩ := List.mem_map.mp hq
  obtain ⟨o, e, _⟩ := O.has.get p hp
  exact ⟨by show h.get? p.1 = some ((h.get? p.1).getD default); rw [e]; rfl, O.ne p hp, O.own.off p hp⟩
theorem Ow.ofNews {h' : Heap} (O : Ow g L h led) (N : News g L h' (ex h led)) : Ow g L h' led :=
  ⟨⟨⟨fun p hp => by
    obtain ⟨o, e, q⟩ := O.has.get p hp
    have := (N _ (List.mem_map_of_mem (f := fun p : Addr × Cell => (p.1, (h.get? p.1).getD default)) hp)).1
    exact ⟨o, by rw [this]; show some ((h.get? p.1).getD default) = some o; rw [e]; rfl, q⟩⟩, O.own.off, O.nd⟩, O.ne⟩
end

/-- what a call does: it takes the ledger own (all else of g kept), and gives a value and a new ledger -/
noncomputable def Does (prog : Program) (w : World) (K : Frag) (ro : List (Addr × Obj)) (k : Nat) (f : Value) (args : List Value) (kw : List (Str × Value)) (own : Led) (post : Value → Led → Prop) : Prop :=
  ∀ (A : Around) (z : Shared) (g h : Heap) (Q : Value → Heap → Prop), Room A k → Gd K ro g → g.StaysIn h → g.objs.size ≤ h.objs.size → Own g h own →
    (∀ v own' h', g.StaysIn h' → Own g h' own' → post v own' → Q v h') → Cd (model prog w) A z (.call f ⟨args, kw⟩) Q h

section
variable {prog : Program} {w : World} {K : Frag} {ro : List (Addr × Obj)} {k : Nat} {f : Value} {args : List Value} {kw : List (Str × Value)} {A : Around} {z : Shared} {g h : Heap} {L : Addr} {m : Str → Option Value}

theorem Does.mono {own : Led} {post post' : Value → Led → Prop} (D : Does prog w K ro k f args kw own post) (hp : ∀ v l, post v l → post' v l) : Does prog w K ro k f args kw own post' :=
  fun A z g h Q R G st sz o kont => D A z g h Q R G st sz o fun v l h' st' o' p => kont v l h' st' o' (hp v l p)
theorem Does.le {k' : Nat} {own : Led} {post : Value → Led → Prop} (D : Does prog w K ro k f args kw own post) (hk : k ≤ k') : Does prog w K ro k' f args kw own post :=
  fun A z g h Q R G st sz o kont => D A z g h Q (R.le hk) G st sz o kont

/-- a call upon a part of the frame's ledger: what is left of the rest -/
theorem Does.useG {la led : Led} {post : Value → Led → Prop} {Q : Value → Heap → Prop} (D : Does prog w K ro k f args kw la post) (R : Room A k) (G : Gd K ro g) (F : Fr g L h m) (O : Ow g L h led) (s : Sub la led)
    (kont : ∀ v la' h', Fr g L h' m → Ow g L h' la' → (∀ p ∈ led, p.1 ∉ addrs la → p.1 ∉ addrs la' ∧ h'.get? p.1 = h.get? p.1) → post v la' → Q v h') : Cd (model prog w) A z (.call f ⟨args, kw⟩) Q h := by
  have nm : ∀ b o, g.get? b = some o → b ∉ addrs la := fun b o e q => by
    obtain ⟨p, hp, rfl⟩ := List.mem_map.mp q
    rw [O.own.off p (s.mem p hp)] at e; cases e
  have st : g.StaysIn (hideAll h (addrs la)) := fun b o e => hideAll_get _ (F.keep b o e) (nm b o e)
  have nL : L ∉ addrs la := fun q => by
    obtain ⟨p, hp, e⟩ := List.mem_map.mp q
    exact O.ne p (s.mem p hp) e
  refine D A z (hideAll h (addrs la)) h Q R (G.keeps st) (fun b o e => of_hideAll _ e) (Nat.le_of_eq (hideAll_size _ _))
    ⟨⟨fun p hp => O.has.get p (s.mem p hp)⟩, fun p hp => hideAll_none _ (mem_addrs hp), s.nd⟩ fun v la' h' st' o' hp => ?_
  have gt : ∀ b o, h.get? b = some o → b ∉ addrs la → h'.get? b = some o := fun b o e hb => st' _ _ (hideAll_get _ e hb)
  have off : ∀ b o, h.get? b = some o → b ∉ addrs la → b ∉ addrs la' := fun b o e hb q => by
    obtain ⟨p, hp, rfl⟩ := List.mem_map.mp q
    have := o'.off p hp
    rw [hideAll_get _ e hb] at this; cases this
  obtain ⟨oL, es, ep, hL, r⟩ := F.ns
  refine kont v la' h' ⟨⟨oL, es, ep, gt L oL hL nL, r⟩, fun b o e => gt b o (F.keep b o e) (nm b o e), F.above⟩ ⟨⟨o'.has, fun p hp => ?_, o'.nd⟩, fun p hp e => ?_⟩ (fun p hp hn => ?_) hp
  · cases q : g.get? p.1 with
    | none => rfl
    | some o => exact absurd (mem_addrs hp) (off p.1 o (F.keep _ _ q) (nm _ _ q))
  · exact off L oL hL nL (e ▸ mem_addrs hp)
  · obtain ⟨o, e, _⟩ := O.has.get p hp
    exact ⟨off _ _ e hn, by rw [gt _ _ e hn, e]⟩
/-- the rest stays -/
theorem Does.use {la rest : Led} {post : Value → Led → Prop} {Q : Value → Heap → Prop} (D : Does prog w K ro k f args kw la post) (R : Room A k) (G : Gd K ro g) (F : Fr g L h m) (O : Ow g L h (la ++ rest)) (hK : ∀ v l, post v l → Keeps la l)
    (kont : ∀ v la' h', Fr g L h' m → Ow g L h' (la' ++ rest) → post v la' → Q v h') : Cd (model prog w) A z (.call f ⟨args, kw⟩) Q h := by
  obtain ⟨n1, n2, n3⟩ := nodup_append.mp O.nd
  refine D.useG R G F O O.subL fun v la' h' F' O' kp hp => ?_
  -- a cell of the rest: of la too (then frozen), or apart from it
  have cs : ∀ p ∈ rest, (p ∈ la' ∧ p.2.Fz) ∨ (p.1 ∉ addrs la ∧ p.1 ∉ addrs la' ∧ h'.get? p.1 = h.get? p.1) := fun p hp' => by
    by_cases q : p.1 ∈ addrs la
    · obtain ⟨r, hr, e⟩ := List.mem_map.mp q
      have f := n3 r hr p hp' e
      have e2 : p = r := same_of_nodup O.has O.nd (List.mem_append_right _ hp') (List.mem_append_left _ hr) e.symm
      exact .inl ⟨hK v la' hp p (e2 ▸ hr) f.2, f.2⟩
    · exact .inr ⟨q, kp p (List.mem_append_right _ hp') q⟩
  refine kont v la' h' F' ⟨⟨⟨fun p hp => ?_⟩, fun p hp => ?_, ?_⟩, fun p hp => ?_⟩ hp
  · rcases List.mem_append.mp hp with hp | hp
    · exact O'.has.get p hp
    · rcases cs p hp with ⟨q, _⟩ | ⟨_, _, q⟩
      · exact O'.has.get p q
      · obtain ⟨o, e, q'⟩ := O.has.get p (List.mem_append_right _ hp)
        exact ⟨o, by rw [q, e], q'⟩
  · rcases List.mem_append.mp hp with hp | hp
    · exact O'.own.off p hp
    · exact O.own.off p (List.mem_append_right _ hp)
  · refine nodup_append.mpr ⟨O'.nd, n2, fun p hp q hq e => ?_⟩
    rcases cs q hq with ⟨q', f⟩ | ⟨_, q', _⟩
    · have : p = q := same_of_nodup O'.has O'.nd hp q' e
      exact ⟨this ▸ f, f⟩
    · exact absurd (mem_addrs hp) (e ▸ q')
  · rcases List.mem_append.mp hp with hp | hp
    · exact O'.ne p hp
    · exact O.ne p (List.mem_append_right _ hp)
/-- new cells, the old ones as they stood -/
theorem Does.useN {la led : Led} {post : Value → Led → Prop} {Q : Value → Heap → Prop} (D : Does prog w K ro k f args kw la fun v l => ∃ nw, l = nw ++ la ∧ post v nw) (R : Room A k) (G : Gd K ro g) (F : Fr g L h m) (O : Ow g L h led) (s : Sub la led)
    (kont : ∀ v nw h', Fr g L h' m → Ow g L h' (nw ++ led) → post v nw → Q v h') : Cd (model prog w) A z (.call f ⟨args, kw⟩) Q h := by
  refine D.useG R G F O s fun v la' h' F' O' kp ⟨nw, e, hp⟩ => ?_
  subst e
  have out : ∀ p ∈ led, p.1 ∉ addrs la → p.1 ∉ addrs (nw ++ la) ∧ h'.get? p.1 = h.get? p.1 := kp
  have dis : ∀ p ∈ nw, ∀ q ∈ led, Apart p q := fun p hp q hq e => by
    by_cases hq' : q.1 ∈ addrs la
    · obtain ⟨r, hr, er⟩ := List.mem_map.mp hq'
      have e2 : q = r := same_of_nodup O.has O.nd hq (s.mem r hr) er.symm
      exact (nodup_append.mp O'.nd).2.2 p hp q (e2 ▸ hr) e
    · exact absurd (mem_addrs (List.mem_append_left _ hp)) (e ▸ (out q hq hq').1)
  refine kont v nw h' F' ⟨⟨⟨fun p hp => ?_⟩, fun p hp => ?_, nodup_append.mpr ⟨(nodup_append.mp O'.nd).1, O.nd, dis⟩⟩, fun p hp => ?_⟩ hp
  · rcases List.mem_append.mp hp with hp | hp
    · exact O'.has.get p (List.mem_append_left _ hp)
    · by_cases hq' : p.1 ∈ addrs la
      · obtain ⟨r, hr, er⟩ := List.mem_map.mp hq'
        rw [same_of_nodup O.has O.nd hp (s.mem r hr) er.symm]
        exact O'.has.get r (List.mem_append_right _ hr)
      · obtain ⟨o, e, q⟩ := O.has.get p hp
        exact ⟨o, by rw [(out p hp hq').2, e], q⟩
  · rcases List.mem_append.mp hp with hp | hp
    · exact O'.own.off p (List.mem_append_left _ hp)
    · exact O.own.off p hp
  · rcases List.mem_append.mp hp with hp | hp
    · exact O'.ne p (List.mem_append_left _ hp)
    · exact O.ne p hp
/-- the ledger stays -/
theorem Does.useP {la led : Led} {post : Value → Prop} {Q : Value → Heap → Prop} (D : Does prog w K ro k f args kw la fun v l => l = la ∧ post v) (R : Room A k) (G : Gd K ro g) (F : Fr g L h m) (O : Ow g L h led) (s : Sub la led)
    (kont : ∀ v h', Fr g L h' m → Ow g L h' led → post v → Q v h') : Cd (model prog w) A z (.call f ⟨args, kw⟩) Q h :=
  Does.useN (post := fun v nw => nw = [] ∧ post v) (D.mono fun v l ⟨e, p⟩ => ⟨[], e, rfl, p⟩) R G F O s fun v nw h' F' O' p => kont v h' F' O'.right p.2

/-! ## a name bound -/
noncomputable def upd (m : Str → Option Value) (x : Str) (v : Value) : Str → Option Value := fun y => if y = x then some v else m y
noncomputable abbrev QAs (g : Heap) (L : Addr) (x : Str) (Q : Flow → Heap → Prop) (v : Value) (h : Heap) : Prop := ∃ m1 led1, Fr g L h m1 ∧ Ow g L h led1 ∧ ∀ h2, Fr g L h2 (upd m1 x v) → Ow g L h2 led1 → Q .next h2

/-! ## entering a def -/
noncomputable def Ret (g : Heap) (L : Addr) (post : Value → Led → Prop) (fl : Flow) (h' : Heap) : Prop :=
  ∃ m' own', Fr g L h' m' ∧ Ow g L h' own' ∧ post (match fl with | .ret v => v | _ => .none) own'

structure FnIs (K : Frag) (f : Addr) (qual : Str) (params : Arguments) (body : List Stmt) (scope : Scope) (cl : List (Str × Addr)) (dV cdv : Value) : Prop where
  at_ : ∃ oc od osl name kV doc pm an ct, K.lookup f = some ⟨oc, od, .func (fnX name qual params body scope cl dV kV doc pm an cdv ct), osl⟩
  code : codeIn K cdv qual = true
  plain : scope.isCoroutine = false ∧ scope.isGenerator = false ∧ scope.kind = .function ∧ ∀ x ∈ scope.names, x.2 ≠ .cell

theorem does_enter {fa : Addr} {qual : Str} {params : Arguments} {body : List Stmt} {scope : Scope} {cl : List (Str × Addr)} {dV cdv : Value} {own : Led} {post : Value → Led → Prop} (I : FnIs K fa qual params body scope cl dV cdv) (binds : List (Str × Value))
    (hbind : ∀ (s : Shared) name kV doc pm an ct, K.In s.heap → BindsTo s (fnX name qual params body scope cl dV kV doc pm an cdv ct) ⟨args, kw⟩ binds) (hloc : ∀ y ∈ binds, scope.names.lookup y.1 = some .local)
    (body_ : ∀ (A : Around) (z : Shared) (g : Heap) (L : Addr) (h : Heap), Room A k → Gd K ro g → Fr g L h (fun y => binds.reverse.lookup y) → Ow g L h own →
      Wp (model prog w) A z (execs body (envX qual scope L fa cdv cl)) (Ret g L post) h) : Does prog w K ro (k + 1) (.ref fa) args kw own post := by
  intro A z g h Q R G st sz o kont tk
  obtain ⟨oc, od, osl, name, kV, doc, pm, an, ct, hK⟩ := I.at_
  obtain ⟨p, lo, me, mg, mb, T⟩ := G.top
  have X : K.In h := G.kin.keeps st
  refine (codeAny_call_def (fd := fnX name qual params body scope cl dV kV doc pm an cdv ct) (body := body) (binds := binds) (by have := R.2.1; show A.depth < 1000; omega) (X _ _ hK) rfl (T.nolimit.keeps st) (codeRec_of X I.code) rfl
    (hbind _ _ _ _ _ _ _ X) I.plain.2.2.2 hloc (fun h₁ hns hk₁ => ?_) I.plain.1 I.plain.2.1 I.plain.2.2.1)
  have F₁ : Fr g h.objs.size h₁ (fun y => binds.reverse.lookup y) := ⟨hns, fun b x e => hk₁ b x (st b x e), sz⟩
  have O₁ : Ow g h.objs.size h₁ own := ⟨⟨⟨fun q hq => let ⟨x, e, p⟩ := o.has.get q hq; ⟨x, hk₁ _ _ e, p⟩⟩, o.off, o.nd⟩, fun q hq => let ⟨x, e, p⟩ := o.has.get q hq; Nat.ne_of_lt (Heap.lt_size e)⟩
  have W := body_ (A.deeper (envX qual scope h.objs.size fa cdv cl)) z g h.objs.size h₁ (R.deeper _) G F₁ O₁
  refine W.go (fun fl h' tk' q => ?_) _
  obtain ⟨m', own', F', O', hp⟩ := q
  exact ⟨h', tk', rfl, kont _ own' h' F'.keep O'.own hp⟩
end
end Mine
end
section
set_option maxRecDepth 10000
namespace Mine

/-! ## dicts of objects by their fields -/
noncomputable def Fields (o : Obj) (fs : Str → Option Value) (b : Nat) : Prop := ∃ es n, o = dictOf es n ∧ (∀ y, getL y es = some (fs y)) ∧ es.length ≤ b

noncomputable def fnd (y : Str) (es : List DictEntry) : Option Value := (es.find? (·.key.isStr y)).map (·.val)
theorem getL_eq (y : Str) (es : List DictEntry) : getL y es = match fnd y es with | some v => some (some v) | none => if es.any (·.refKey) then none else some none := by
  unfold getL fnd
  cases es.find? (·.key.isStr y) <;> rfl
theorem isStr_str (x y : Str) (tk : Tok) : (Value.str x tk).isStr y = (x == y) := rfl
theorem fnd_put {x : Str} {hs : Int} {tk : Tok} {v : Value} (y : Str) : ∀ es : List DictEntry, fnd y (putL x hs (.str x tk) v es) = if y = x then some v else fnd y es
  | [] => by
    unfold putL fnd
    by_cases h : y = x
    · subst h; simp [isStr_str]
    · have : (x == y) = false := by simpa using fun e => h e.symm
      simp [isStr_str, this, h]
  | e :: r => by
    unfold putL
    by_cases hx : e.key.isStr x = true
    · rw [if_pos hx]
      unfold fnd
      by_cases h : y = x
      · subst h; simp [hx]
      · have : e.key.isStr y = false := by
          cases q : e.key.isStr y with
          | false => rfl
          | true => exact absurd (Value.isStr_inj _ _ _ q hx) h
        simp [this, h]
    · rw [if_neg hx]
      have ih := fnd_put (x := x) (hs := hs) (tk := tk) (v := v) y r
      unfold fnd at ih ⊢
      by_cases hy : e.key.isStr y = true
      · have : y ≠ x := fun q => hx (q ▸ hy)
        simp [hy, this]
      · simp only [Bool.not_eq_true] at hy
        simp only [List.find?_cons, hy]
        exact ih
theorem any_put {x : Str} {hs : Int} {tk : Tok} {v : Value} : ∀ es : List DictEntry, (putL x hs (.str x tk) v es).any (·.refKey) = es.any (·.refKey)
  | [] => rfl
  | e :: r => by
    unfold putL
    by_cases hx : e.key.isStr x = true
    · rw [if_pos hx]; rfl
    · rw [if_neg hx, List.any_cons, List.any_cons, any_put r]
theorem len_put {x : Str} {hs : Int} {tk : Tok} {v : Value} : ∀ es : List DictEntry, (putL x hs (.str x tk) v es).length = if (fnd x es).isSome then es.length else es.length + 1
  | [] => rfl
  | e :: r => by
    unfold putL
    by_cases hx : e.key.isStr x = true
    · rw [if_pos hx]; simp [fnd, hx]
    · rw [if_neg hx]
      have ih := len_put (x := x) (hs := hs) (tk := tk) (v := v) r
      have : fnd x (e :: r) = fnd x r := by
        simp only [Bool.not_eq_true] at hx
        unfold fnd; rw [List.find?_cons, hx]
      rw [List.length_cons, ih, this]
      split <;> simp
theorem Fields.put {o : Obj} {fs : Str → Option Value} {b : Nat} (D : Fields o fs b) (x : Str) (hs : Int) (tk : Tok) (v : Value) :
    ∃ es n, Obj.putName x hs (.str x tk) v o = dictOf es n ∧ Fields (dictOf es n) (upd fs x v) (b + 1) ∧ ((fs x).isSome = true → Fields (dictOf es n) (upd fs x v) b) := by
  obtain ⟨es, n, rfl, hf, hb⟩ := D
  have hany : es.any (·.refKey) = false ∧ ∀ y, fnd y es = fs y := by
    have key : ∀ y, (fnd y es).isNone = true → es.any (·.refKey) = false := fun y hy => by
      have := hf y
      rw [getL_eq] at this
      cases q : fnd y es with
      | some v => rw [q] at hy; cases hy
      | none =>
        rw [q] at this
        dsimp only at this
        split at this
        · cases this
        · rename_i hq; exact Bool.eq_false_iff.mpr hq
    have val : ∀ y, fnd y es = fs y := fun y => by
      have := hf y
      rw [getL_eq] at this
      cases q : fnd y es with
      | some v => rw [q] at this; exact Option.some.inj this
      | none =>
        rw [q] at this
        dsimp only at this
        split at this
        · cases this
        · exact Option.some.inj this
    refine ⟨?_, val⟩
    by_cases h : ∃ y, (fnd y es).isNone = true
    · obtain ⟨y, hy⟩ := h; exact key y hy
    · exfalso
      -- a name that is longer than every key
      have big : ∀ l : List DictEntry, ∃ k : Nat, ∀ n, k < n → fnd (⟨Array.replicate n 0⟩ : Str) l = none := by
        intro l
        induction l with
        | nil => exact ⟨0, fun _ _ => rfl⟩
        | cons e r ih =>
          obtain ⟨k, hk⟩ := ih
          cases q : e.key with
          | str s t =>
            refine ⟨max k s.cps.size, fun n hn => ?_⟩
            have h1 := hk n (by omega)
            unfold fnd at h1 ⊢
            have : e.key.isStr (⟨Array.replicate n 0⟩ : Str) = false := by
              rw [q, isStr_str]
              simp only [beq_eq_false_iff_ne, ne_eq]
              intro e
              have : s.cps.size = n := by rw [e]; simp
              omega
            rw [List.find?_cons, this]; exact h1
          | _ =>
            refine ⟨k, fun n hn => ?_⟩
            have h1 := hk n hn
            unfold fnd at h1 ⊢
            have : e.key.isStr (⟨Array.replicate n 0⟩ : Str) = false := by rw [q]; rfl
            rw [List.find?_cons, this]; exact h1
      obtain ⟨k, hk⟩ := big es
      exact h ⟨_, by rw [hk (k + 1) (by omega)]; rfl⟩
  have hv : ∀ y, getL y (putL x hs (.str x tk) v es) = some (upd fs x v y) := fun y => by
    rw [getL_eq, fnd_put, any_put, hany.1, hany.2]
    unfold upd
    by_cases h : y = x
    · simp [h]
    · simp only [h, if_false]
      cases fs y <;> rfl
  refine ⟨_, _, putName_dict .., ⟨_, _, rfl, hv, ?_⟩, fun h => ⟨_, _, rfl, hv, ?_⟩⟩
  · rw [len_put]; split <;> omega
  · rw [len_put, hany.2, if_pos h]; exact hb
theorem Fields.look {o : Obj} {fs : Str → Option Value} {b : Nat} (D : Fields o fs b) (y : Str) : lookIn y o = some (fs y) := by
  obtain ⟨es, n, rfl, hf, _⟩ := D
  exact hf y
theorem Fields.empty : Fields emptyDict (fun _ => none) 0 := ⟨[], 0, rfl, fun _ => rfl, Nat.le_refl _⟩
theorem Fields.le {o : Obj} {fs : Str → Option Value} {b b' : Nat} (D : Fields o fs b) (h : b ≤ b') : Fields o fs b' := let ⟨es, n, e, f, l⟩ := D; ⟨es, n, e, f, Nat.le_trans l h⟩
theorem Fields.congr {o : Obj} {fs fs' : Str → Option Value} {b : Nat} (D : Fields o fs b) (h : ∀ y, fs y = fs' y) : Fields o fs' b := let ⟨es, n, e, f, l⟩ := D; ⟨es, n, e, fun y => h y ▸ f y, l⟩

/-! ## cells of an object -/
noncomputable def methNames : List Str := ["is_active", "id", "next", "score", "replace", "copy", "max_quality", "skip_to", "weight", "block_max_weight", "_made", "_find_first", "_find_next", "_first_b", "_replacement"]
noncomputable def NoMeth (fs : Str → Option Value) : Prop := ∀ n ∈ methNames, fs n = none
theorem NoMeth.upd {fs : Str → Option Value} {nm : Str} {v : Value} (h : NoMeth fs) (hn : nm ∉ methNames) : NoMeth (upd fs nm v) := fun n hm => by
  have e : n ≠ nm := fun e => hn (by rw [← e]; exact hm)
  show (if n = nm then some v else fs n) = none
  rw [if_neg e]
  exact h n hm
/-- one place is kept free for _id -/
noncomputable def dictB (b : Nat) (φ : (Str → Option Value) → Prop) : Cell := .dc fun o => ∃ fs, (Fields o fs b ∧ ((fs "_id").isSome = true ∨ ∃ b0, b = b0 + 1 ∧ Fields o fs b0)) ∧ NoMeth fs ∧ φ fs
noncomputable abbrev dictC (φ : (Str → Option Value) → Prop) : Cell := dictB 20 φ
/-- a node: its dict, its object -/
noncomputable def nodeB (b : Nat) (d x C : Addr) (φ : (Str → Option Value) → Prop) : Led := [(d, dictB b φ), (x, isObj (instObj C d))]
noncomputable abbrev nodeC (d x C : Addr) (φ : (Str → Option Value) → Prop) : Led := nodeB 20 d x C φ
theorem dictB.mono {b b' : Nat} {φ φ' : (Str → Option Value) → Prop} {o : Obj} (h : (dictB b φ).Ok o) (hb : b ≤ b') (hp : ∀ fs, φ fs → φ' fs) : (dictB b' φ').Ok o := let ⟨fs, f, n, p⟩ := h; ⟨fs, ⟨f.1.le hb, f.2.elim .inl fun ⟨b0, e, g⟩ => .inr ⟨b' - 1, by omega, g.le (by omega)⟩⟩, n, hp fs p⟩
theorem upd_same {m : Str → Option Value} {x : Str} {v : Value} : upd m x v x = some v := if_pos rfl
theorem upd_ne {m : Str → Option Value} {x y : Str} {v : Value} (h : y ≠ x) : upd m x v y = m y := if_neg h

/-! ## what is known of a class -/
structure ClsOk (K : Frag) (C : Addr) : Prop where
  get : plainGet K C "" = true
  dict : hasDictIn K C = true
  set : findIn K (.ref C) "__setattr__" = some (some (.builtin "object.__setattr__"))
  over : plainOver K C = true
noncomputable def FieldOk (K : Frag) (C : Addr) (nm : Str) : Prop := ∃ attr, findIn K (.ref C) nm = some attr ∧ noGet K attr = true ∧ takerIn K C nm = some none
noncomputable def MethOk (K : Frag) (C : Addr) (nm : Str) (f : Addr) : Prop := findIn K (.ref C) nm = some (some (.ref f)) ∧ isFn K (.ref f) = true ∧ keepIn K (.ref f) = true

section
variable {prog : Program} {w : World} {K : Frag} {ro : List (Addr × Obj)} {A : Around} {z : Shared} {g h : Heap} {L : Addr} {m : Str → Option Value} {led : Led}
  {qual : Str} {scope : Scope} {fa : Addr} {cdv : Value} {cl : List (Str × Addr)} {env : Env}

/-- an object of the ledger, its class, what its dict says -/
structure Sf (led : Led) (x C : Addr) (φ : (Str → Option Value) → Prop) : Prop where
  is_ : ∃ d, (x, isObj (instObj C d)) ∈ led ∧ ((∃ b, (d, dictB b φ) ∈ led) ∨ ((d, isObj emptyDict) ∈ led ∧ φ fun _ => none))
theorem Sf.mono {led led' : Led} {x C : Addr} {φ : (Str → Option Value) → Prop} (s : Sf led x C φ) (h : ∀ e ∈ led, e ∈ led') : Sf led' x C φ := let ⟨d, h1, h2⟩ := s.is_; ⟨d, h _ h1, h2.elim (fun ⟨b, h2⟩ => .inl ⟨b, h _ h2⟩) fun h2 => .inr ⟨h _ h2.1, h2.2⟩⟩
theorem Sf.node {b : Nat} {d x C : Addr} {φ : (Str → Option Value) → Prop} {rest : Led} : Sf (nodeB b d x C φ ++ rest) x C φ := ⟨d, by simp [nodeB], .inl ⟨b, by simp [nodeB]⟩⟩
theorem Sf.self {b : Nat} {d x C : Addr} {φ : (Str → Option Value) → Prop} : Sf (nodeB b d x C φ) x C φ := ⟨d, by simp [nodeB], .inl ⟨b, by simp [nodeB]⟩⟩
theorem Sf.inst {x C : Addr} {φ : (Str → Option Value) → Prop} (s : Sf led x C φ) (O : Ow g L h led) : ∃ d od fs b, InstAt h x (instObj C d) C (some od) ∧ Fields od fs b ∧ NoMeth fs ∧ φ fs := by
  obtain ⟨d, h1, ⟨b, h2⟩ | ⟨h2, p⟩⟩ := s.is_
  · obtain ⟨od, e, fs, f, n, p⟩ := O.get h2
    exact ⟨d, od, fs, b, ⟨O.obj h1, rfl, rfl, e⟩, f.1, n, p⟩
  · exact ⟨d, emptyDict, fun _ => none, 0, ⟨O.obj h1, rfl, rfl, O.obj h2⟩, Fields.empty, fun _ _ => rfl, p⟩

/-! ### reading names and fields -/
theorem W_name {x : Str} {pos : Pos} {v : Value} {Q : Value → Heap → Prop} (F : Fr g L h m) (hv : m x = some v) (q : Q v h)
    (hk : scope.kind = .function := by rfl) (hx : (envX qual scope L fa cdv cl).kindOf x = some .local := by rfl) (hd : (x == ("__debug__" : Str)) = false := by decide) :
    Wp (model prog w) A z (eval (.Name x pos) (envX qual scope L fa cdv cl)) Q h :=
  fun tk => nameX_L (s := St z h tk) F hv ⟨h, tk, rfl, q⟩ hk hx hd

theorem W_global {x : Str} {pos : Pos} {v : Value} {Q : Value → Heap → Prop} (F : Fr g L h m) (G : Gd K ro g) (e : nsIn K mainGlobals x = some (some v)) (q : Q v h)
    (hk : scope.kind = .function := by rfl) (hx : (envX qual scope L fa cdv cl).kindOf x = some .globalImplicit := by rfl) (hd : (x == ("__debug__" : Str)) = false := by decide) :
    Wp (model prog w) A z (eval (.Name x pos) (envX qual scope L fa cdv cl)) Q h := fun tk => by
  obtain ⟨p, lo, me, mg, mb, T⟩ := G.top
  exact nameX_K (s := St z h tk) F G.kin (topRead_of T) e ⟨h, tk, rfl, q⟩ hk hx hd
theorem W_builtin {x : Str} {pos : Pos} {v : Value} {Q : Value → Heap → Prop} (F : Fr g L h m) (G : Gd K ro g) (e : nsIn K mainGlobals x = some none) (hv : bootBuiltins x = some v) (hn : x ≠ "__name__") (q : Q v h)
    (hk : scope.kind = .function := by rfl) (hx : (envX qual scope L fa cdv cl).kindOf x = some .globalImplicit := by rfl) (hd : (x == ("__debug__" : Str)) = false := by decide) :
    Wp (model prog w) A z (eval (.Name x pos) (envX qual scope L fa cdv cl)) Q h := fun tk => by
  obtain ⟨p, lo, me, mg, mb, T⟩ := G.top
  exact nameX_B (s := St z h tk) F G.kin (topRead_of T) e hv hn ⟨h, tk, rfl, q⟩ hk hx hd

theorem plain_get {C : Addr} {nm : Str} (c : ClsOk K C) : plainGet K C nm = true := c.get
theorem W_getAttr {x C : Addr} {φ : (Str → Option Value) → Prop} {nm : Str} {ex : Bool} {R : Value → Prop} {Q : Value → Heap → Prop} (F : Fr g L h m) (G : Gd K ro g) (O : Ow g L h led) (c : ClsOk K C) (f : FieldOk K C nm)
    (s : Sf led x C φ) (hv : ∀ fs, φ fs → ∃ v, fs nm = some v ∧ handedIn v = true ∧ R v) (q : ∀ v, R v → Q v h) : Wp (model prog w) A z (getAttr (.ref x) nm ex) Q h := fun tk => by
  obtain ⟨attr, f1, f2, f3⟩ := f
  obtain ⟨d, od, fs, b, I, D, n, p⟩ := s.inst O
  obtain ⟨v, e, hh, r⟩ := hv fs p
  exact get_value (s := St z h tk) (G.kin.keeps F.keep) I (plainGet_of (plain_get (nm := nm) c)).1 (findObj_own c.dict f1 f2 (by rw [D.look, e])) hh ⟨h, tk + 1, rfl, q v r⟩
/-- a field that the object or its class holds -/
theorem W_getAttrC {x C : Addr} {φ : (Str → Option Value) → Prop} {nm : Str} {ex : Bool} {u : Value} {R : Value → Prop} {Q : Value → Heap → Prop} (F : Fr g L h m) (G : Gd K ro g) (O : Ow g L h led) (c : ClsOk K C)
    (f1 : findIn K (.ref C) nm = some (some u)) (f2 : specialIn K u "__get__" = some none) (hc : copiedNames.contains nm = false) (hu : handedIn u = true)
    (s : Sf led x C φ) (hv : ∀ fs, φ fs → (fs nm = none ∧ R u) ∨ ∃ v, fs nm = some v ∧ handedIn v = true ∧ R v) (q : ∀ v, R v → Q v h) : Wp (model prog w) A z (getAttr (.ref x) nm ex) Q h := fun tk => by
  obtain ⟨d, od, fs, b, I, D, n, p⟩ := s.inst O
  have pg := (plainGet_of (plain_get (nm := nm) c)).1
  rcases hv fs p with ⟨e, r⟩ | ⟨v, e, hh, r⟩
  · exact get_value (s := St z h tk) (G.kin.keeps F.keep) I pg (findObj_cls c.dict f1 f2 hu hc (by rw [D.look, e])) hu ⟨h, tk + 1, rfl, q u r⟩
  · exact get_value (s := St z h tk) (G.kin.keeps F.keep) I pg (findObj_own c.dict f1 (by show (specialIn K u "__get__" == some none) = true; rw [f2]; rfl) (by rw [D.look, e])) hh ⟨h, tk + 1, rfl, q v r⟩
theorem W_attr {y nm : Str} {p1 p2 : Pos} {Q : Value → Heap → Prop} (x : Wp (model prog w) A z (eval (.Name y p1) env) (QAttr (model prog w) A z nm Q) h) :
    Wp (model prog w) A z (eval (.Attribute (.Name y p1) nm p2) env) Q h := fun tk => Attribute_name (x.go (fun o h1 t1 k => k t1) tk)

/-! ### methods -/
theorem W_mcall {o : Expr} {nm : Str} {apos pos : Pos} {args : List Expr} {kws : List Keyword} {pl : Sem Bool} {Q : Value → Heap → Prop}
    (x : Wp (model prog w) A z (eval o env) (QM1 (model prog w) A z env nm pl pos args kws Q) h)
    (he : eval (.Call (.Attribute o nm apos) args kws pos) env = (do
      let ov ← eval o env
      standAt apos.atName
      let (f, first) ← holding [ov] (getMethod ov nm pl)
      callWith pos f first (backTo pos (starEach args env)) (backToKw pos (keywordEach kws env))) := by rfl) :
    Wp (model prog w) A z (eval (.Call (.Attribute o nm apos) args kws pos) env) Q h :=
  fun tk => methodCall_KW (x.go (fun ov h1 t1 k => k.go (fun fx h2 t2 k => k t2) t1) tk) he

structure Meth (K : Frag) (own : Led) (x : Addr) (nm : Str) (f : Addr) : Prop where
  is_ : ∃ C φ, Sf own x C φ ∧ nm ∈ methNames ∧ ClsOk K C ∧ MethOk K C nm f

theorem W_getMethod {own : Led} {x : Addr} {nm : Str} {f : Addr} {pl : Sem Bool} {Q : Value × List Value → Heap → Prop} (F : Fr g L h m) (G : Gd K ro g) (O : Ow g L h led) (hs : ∀ p ∈ own, p ∈ led) (M : Meth K own x nm f) (q : Q (.ref f, [.ref x]) h) :
    Wp (model prog w) A z (getMethod (.ref x) nm pl) Q h := fun tk => by
  obtain ⟨C, φ, s, hn, c, m1, m2, m3⟩ := M.is_
  obtain ⟨d, od, fs, b, I, D, n, p⟩ := (s.mono hs).inst O
  have pg := plainGet_of (plain_get (nm := nm) c)
  exact method_fn (s := St z h tk) (G.kin.keeps F.keep) I pg.1 pg.2 m1 (beq_iff_eq.mp m2) (by show (lookIn nm od).map _ = _; rw [D.look, n nm hn]; rfl) ⟨h, tk, rfl, q⟩
theorem Meth.keep {own : Led} {x : Addr} {nm : Str} {f : Addr} (M : Meth K own x nm f) : keepIn K (.ref f) = true := let ⟨_, _, _, _, _, _, _, m3⟩ := M.is_; m3

theorem W_callWith0 {f : Value} {first : List Value} {pos : Pos} {Q : Value → Heap → Prop} (F : Fr g L h m) (G : Gd K ro g) (hk : keepIn K f = true) (x : Wp (model prog w) A z (call f (first ++ [])) Q h) :
    Wp (model prog w) A z (callWith pos f first (backTo pos (starEach [] env)) (backToKw pos (keywordEach [] env))) Q h := fun tk => callWith_K0 (s := St z h tk) (G.kin.keeps F.keep) hk (x tk)
theorem W_callWithE {f : Value} {first : List Value} {e : Expr} {rest : List Expr} {pos : Pos} {Q : Value → Heap → Prop} (G : Gd K ro g) (hk : keepIn K f = true)
    (x : Wp (model prog w) A z (spliced (backTo pos (starEach (e :: rest) env))) (QE (model prog w) A z K f first Q) h)
    (he : starEach (e :: rest) env = (false, eval e env) :: starEach rest env := by rfl) (hplain : (backTo pos (starEach rest env)).any (·.1) = false := by rfl) :
    Wp (model prog w) A z (callWith pos f first (backTo pos (starEach (e :: rest) env)) (backToKw pos (keywordEach [] env))) Q h :=
  fun tk => callWith_K (s := St z h tk) G.kin hk (x.go (fun vs h1 t1 k => ⟨k.1, k.2 t1⟩) tk) he hplain
theorem W_argsN {pos : Pos} {Q : List Value → Heap → Prop} (q : Q [] h) : Wp (model prog w) A z (spliced (backTo pos (starEach [] env))) Q h := fun tk => spliced_none (s := St z h tk) ⟨h, tk, rfl, q⟩
theorem W_argsC {pos : Pos} {e : Expr} {rest : List Expr} {Q : List Value → Heap → Prop}
    (x : Wp (model prog w) A z (eval e env) (QA1 (model prog w) A z env pos rest Q) h)
    (he : starEach (e :: rest) env = (false, eval e env) :: starEach rest env := by rfl) : Wp (model prog w) A z (spliced (backTo pos (starEach (e :: rest) env))) Q h :=
  fun tk => spliced_more (x.go (fun v h1 t1 k => k.go (fun vs h2 t2 k => ⟨h2, t2, rfl, k⟩) t1) tk) he

/-- a method of an object of the ledger, with what its contract says -/
structure Can (prog : Program) (w : World) (K : Frag) (ro : List (Addr × Obj)) (k : Nat) (x : Addr) (nm : Str) (args : List Value) (own : Led) (post : Value → Led → Prop) : Prop where
  is_ : ∃ f, Meth K own x nm f ∧ Does prog w K ro k (.ref f) (.ref x :: args) [] own post
theorem Can.mono {k : Nat} {x : Addr} {nm : Str} {args : List Value} {own : Led} {post post' : Value → Led → Prop} (C : Can prog w K ro k x nm args own post) (h : ∀ v l, post v l → post' v l) : Can prog w K ro k x nm args own post' :=
  let ⟨f, M, D⟩ := C.is_; ⟨f, M, D.mono h⟩
theorem Can.le {k k' : Nat} {x : Addr} {nm : Str} {args : List Value} {own : Led} {post : Value → Led → Prop} (C : Can prog w K ro k x nm args own post) (h : k ≤ k') : Can prog w K ro k' x nm args own post :=
  let ⟨f, M, D⟩ := C.is_; ⟨f, M, D.le h⟩

/-- a plain evaluation: the heap stays -/
noncomputable def Ev (prog : Program) (w : World) (A : Around) (z : Shared) (env : Env) (h : Heap) (e : Expr) (v : Value) : Prop := ∀ Q : Value → Heap → Prop, Q v h → Wp (model prog w) A z (eval e env) Q h
theorem Ev.go {e : Expr} {v : Value} {Q : Value → Heap → Prop} (x : Ev prog w A z env h e v) (q : Q v h) : Wp (model prog w) A z (eval e env) Q h := x Q q
/-- the shape of a method's call in this text -/
noncomputable def CallIs (env : Env) (o : Expr) (nm : Str) (apos pos : Pos) (args : List Expr) (kws : List Keyword) : Prop :=
  eval (.Call (.Attribute o nm apos) args kws pos) env = (do
      let ov ← eval o env
      standAt apos.atName
      let (f, first) ← holding [ov] (getMethod ov nm (do return (← importBound o env).getD true))
      callWith pos f first (backTo pos (starEach args env)) (backToKw pos (keywordEach kws env)))
section
variable {own : Led} {k : Nat} {x : Addr} {nm : Str} {o e : Expr} {v : Value} {apos pos : Pos} {post : Value → Led → Prop} {Q : Value → Heap → Prop}
theorem W_meth0 {f : Addr} (M : Meth K own x nm f) (G : Gd K ro g) (F : Fr g L h m) (O : Ow g L h led) (s : Sub own led) (ho : Ev prog w A z env h o (.ref x))
    (c : Cd (model prog w) A z (.call (.ref f) ⟨[.ref x], []⟩) Q h) (he : CallIs env o nm apos pos [] []) : Wp (model prog w) A z (eval (.Call (.Attribute o nm apos) [] [] pos) env) Q h :=
  W_mcall (ho _ (W_getMethod F G O s.mem M (W_callWith0 F G M.keep c.call))) he
theorem W_meth1 {f : Addr} (M : Meth K own x nm f) (G : Gd K ro g) (F : Fr g L h m) (O : Ow g L h led) (s : Sub own led) (ho : Ev prog w A z env h o (.ref x)) (hv : Ev prog w A z env h e v)
    (c : Cd (model prog w) A z (.call (.ref f) ⟨[.ref x, v], []⟩) Q h) (he : CallIs env o nm apos pos [e] []) (hs : starEach [e] env = (false, eval e env) :: starEach [] env) : Wp (model prog w) A z (eval (.Call (.Attribute o nm apos) [e] [] pos) env) Q h :=
  W_mcall (ho _ (W_getMethod F G O s.mem M (W_callWithE G M.keep (W_argsC (hv _ (W_argsN ⟨G.kin.keeps F.keep, c.call⟩)) hs) hs rfl))) he
/-- ledger stays -/
theorem W_p0 {post : Value → Prop} (C : Can prog w K ro k x nm [] own fun v l => l = own ∧ post v) (R : Room A k) (G : Gd K ro g) (F : Fr g L h m) (O : Ow g L h led) (s : Sub own led) (ho : Ev prog w A z env h o (.ref x))
    (kont : ∀ v h', Fr g L h' m → Ow g L h' led → post v → Q v h') (he : CallIs env o nm apos pos [] [] := by rfl) : Wp (model prog w) A z (eval (.Call (.Attribute o nm apos) [] [] pos) env) Q h :=
  let ⟨f, M, D⟩ := C.is_; W_meth0 M G F O s ho (D.useP R G F O s kont) he
theorem W_p1 {post : Value → Prop} (C : Can prog w K ro k x nm [v] own fun v l => l = own ∧ post v) (R : Room A k) (G : Gd K ro g) (F : Fr g L h m) (O : Ow g L h led) (s : Sub own led) (ho : Ev prog w A z env h o (.ref x)) (hv : Ev prog w A z env h e v)
    (kont : ∀ v h', Fr g L h' m → Ow g L h' led → post v → Q v h') (he : CallIs env o nm apos pos [e] [] := by rfl) (hs : starEach [e] env = (false, eval e env) :: starEach [] env := by rfl) : Wp (model prog w) A z (eval (.Call (.Attribute o nm apos) [e] [] pos) env) Q h :=
  let ⟨f, M, D⟩ := C.is_; W_meth1 M G F O s ho hv (D.useP R G F O s kont) he hs
/-- new cells -/
theorem W_n0 (C : Can prog w K ro k x nm [] own fun v l => ∃ nw, l = nw ++ own ∧ post v nw) (R : Room A k) (G : Gd K ro g) (F : Fr g L h m) (O : Ow g L h led) (s : Sub own led) (ho : Ev prog w A z env h o (.ref x))
    (kont : ∀ v nw h', Fr g L h' m → Ow g L h' (nw ++ led) → post v nw → Q v h') (he : CallIs env o nm apos pos [] [] := by rfl) : Wp (model prog w) A z (eval (.Call (.Attribute o nm apos) [] [] pos) env) Q h :=
  let ⟨f, M, D⟩ := C.is_; W_meth0 M G F O s ho (D.useN R G F O s kont) he
theorem W_n1 (C : Can prog w K ro k x nm [v] own fun v l => ∃ nw, l = nw ++ own ∧ post v nw) (R : Room A k) (G : Gd K ro g) (F : Fr g L h m) (O : Ow g L h led) (s : Sub own led) (ho : Ev prog w A z env h o (.ref x)) (hv : Ev prog w A z env h e v)
    (kont : ∀ v nw h', Fr g L h' m → Ow g L h' (nw ++ led) → post v nw → Q v h') (he : CallIs env o nm apos pos [e] [] := by rfl) (hs : starEach [e] env = (false, eval e env) :: starEach [] env := by rfl) : Wp (model prog w) A z (eval (.Call (.Attribute o nm apos) [e] [] pos) env) Q h :=
  let ⟨f, M, D⟩ := C.is_; W_meth1 M G F O s ho hv (D.useN R G F O s kont) he hs
/-- the cells turn -/
theorem W_t0 {rest : Led} (C : Can prog w K ro k x nm [] own post) (hK : ∀ v l, post v l → Keeps own l) (R : Room A k) (G : Gd K ro g) (F : Fr g L h m) (O : Ow g L h (own ++ rest)) (ho : Ev prog w A z env h o (.ref x))
    (kont : ∀ v own' h', Fr g L h' m → Ow g L h' (own' ++ rest) → post v own' → Q v h') (he : CallIs env o nm apos pos [] [] := by rfl) : Wp (model prog w) A z (eval (.Call (.Attribute o nm apos) [] [] pos) env) Q h :=
  let ⟨f, M, D⟩ := C.is_; W_meth0 M G F O O.subL ho (D.use R G F O hK kont) he
theorem W_t1 {rest : Led} (C : Can prog w K ro k x nm [v] own post) (hK : ∀ v l, post v l → Keeps own l) (R : Room A k) (G : Gd K ro g) (F : Fr g L h m) (O : Ow g L h (own ++ rest)) (ho : Ev prog w A z env h o (.ref x)) (hv : Ev prog w A z env h e v)
    (kont : ∀ v own' h', Fr g L h' m → Ow g L h' (own' ++ rest) → post v own' → Q v h') (he : CallIs env o nm apos pos [e] [] := by rfl) (hs : starEach [e] env = (false, eval e env) :: starEach [] env := by rfl) : Wp (model prog w) A z (eval (.Call (.Attribute o nm apos) [e] [] pos) env) Q h :=
  let ⟨f, M, D⟩ := C.is_; W_meth1 M G F O O.subL ho hv (D.use R G F O hK kont) he hs
end

/-! ### statements -/
noncomputable def Nx (prog : Program) (w : World) (A : Around) (z : Shared) (env : Env) (rest : List Stmt) (Q : Flow → Heap → Prop) (f : Flow) (h : Heap) : Prop := match f with
  | .next => Wp (model prog w) A z (execs rest env) Q h
  | f => Q f h
theorem W_nil {Q : Flow → Heap → Prop} (q : Q .next h) : Wp (model prog w) A z (execs [] env) Q h := fun tk => wpAny_execs_nil ⟨h, tk, rfl, q⟩
theorem W_cons {st : Stmt} {rest : List Stmt} {Q : Flow → Heap → Prop} (x : Wp (model prog w) A z (exec st env) (Nx prog w A z env rest Q) h) : Wp (model prog w) A z (execs (st :: rest) env) Q h :=
  fun tk => wpAny_execs_cons (x.go (fun f h1 t1 k => by cases f <;> first | exact k t1 | exact ⟨h1, t1, rfl, k⟩) tk)
theorem W_ret {e : Expr} {pos : Pos} {Q : Flow → Heap → Prop} (x : Wp (model prog w) A z (eval e env) (QRet Q) h) : Wp (model prog w) A z (exec (.Return (some e) pos) env) Q h :=
  fun tk => wpAny_Return_some (x tk)
theorem W_ret0 {pos : Pos} {Q : Flow → Heap → Prop} (q : Q (.ret .none) h) : Wp (model prog w) A z (exec (.Return none pos) env) Q h := fun tk => wpAny_Return_none ⟨h, tk, rfl, q⟩
theorem W_if {test : Expr} {body orelse : List Stmt} {pos : Pos} {Q : Flow → Heap → Prop}
    (x : Wp (model prog w) A z (isTrue test env (eval test env)) (QIf (model prog w) A z env body orelse Q) h) :
    Wp (model prog w) A z (exec (.If test body orelse pos) env) Q h :=
  fun tk => wpAny_If (x.go (fun b h1 t1 k => by cases b; exact k.2 rfl t1; exact k.1 rfl t1) tk)
theorem W_assign {x : Str} {p1 p2 : Pos} {value : Expr} {Q : Flow → Heap → Prop}
    (v : Wp (model prog w) A z (eval value (envX qual scope L fa cdv cl)) (QAs g L x Q) h)
    (hs : swapsWith value (some (.Name x p1)) p2.line (envX qual scope L fa cdv cl) = pure false := by rfl) (hk : scope.kind = .function := by rfl) (hx : (envX qual scope L fa cdv cl).kindOf x = some .local := by rfl) :
    Wp (model prog w) A z (exec (.Assign [.Name x p1] value p2) (envX qual scope L fa cdv cl)) Q h :=
  fun tk => wpAny_Assign_Name (v.go (fun v h1 t1 k => by
    obtain ⟨m1, led1, F1, O1, k⟩ := k
    exact storeX_L (s := St z h1 t1) F1 O1.news (fun h2 F2 N2 => ⟨h2, t1 + 1, rfl, k h2 F2 (O1.ofNews N2)⟩) hk hx) tk) hs

/-! ### tests -/
theorem W_tcmp {l r : Expr} {op : CmpOp} {pos : Pos} {whole : Sem Value} {Q : Bool → Heap → Prop}
    (x : Wp (model prog w) A z (eval l env) (QCmp1 (model prog w) A z env op r (QTr (model prog w) A z Q)) h)
    (hm : behindInMarks op r = false := by with_unfolding_all rfl) : Wp (model prog w) A z (isTrue (.Compare l [op] [r] pos) env whole) Q h :=
  fun tk => wpAny_isTrue_Compare1 (x.go (fun a h1 t1 k => k.go (fun b h2 t2 k => k.go (fun c h3 t3 k => k t3) t2) t1) tk) hm
theorem W_tnot {e : Expr} {pos : Pos} {whole : Sem Value} {Q : Bool → Heap → Prop} (x : Wp (model prog w) A z (isTrue e env (eval e env)) (QNot Q) h) : Wp (model prog w) A z (isTrue (.UnaryOp .Not e pos) env whole) Q h :=
  fun tk => isTrue_not (x tk)
theorem W_tandN {pos : Pos} {whole : Sem Value} {Q : Bool → Heap → Prop} (q : Q true h) : Wp (model prog w) A z (isTrue (.BoolOp .And [] pos) env whole) Q h := fun tk => isTrue_and_nil (s := St z h tk) ⟨h, tk, rfl, q⟩
theorem W_torN {pos : Pos} {whole : Sem Value} {Q : Bool → Heap → Prop} (q : Q false h) : Wp (model prog w) A z (isTrue (.BoolOp .Or [] pos) env whole) Q h := fun tk => isTrue_or_nil (s := St z h tk) ⟨h, tk, rfl, q⟩
theorem W_tand {e : Expr} {rest : List Expr} {pos : Pos} {whole : Sem Value} {Q : Bool → Heap → Prop} (x : Wp (model prog w) A z (isTrue e env (eval e env)) (QAnd (model prog w) A z env rest pos whole Q) h) :
    Wp (model prog w) A z (isTrue (.BoolOp .And (e :: rest) pos) env whole) Q h :=
  fun tk => isTrue_and (x.go (fun c h1 t1 k => by cases c; exact ⟨h1, t1, rfl, k.2 rfl⟩; exact k.1 rfl t1) tk)
theorem W_tor {e : Expr} {rest : List Expr} {pos : Pos} {whole : Sem Value} {Q : Bool → Heap → Prop} (x : Wp (model prog w) A z (isTrue e env (eval e env)) (QOr (model prog w) A z env rest pos whole Q) h) :
    Wp (model prog w) A z (isTrue (.BoolOp .Or (e :: rest) pos) env whole) Q h :=
  fun tk => isTrue_or (x.go (fun c h1 t1 k => by cases c; exact k.2 rfl t1; exact ⟨h1, t1, rfl, k.1 rfl⟩) tk)
theorem W_tplain {e : Expr} {whole : Sem Value} {Q : Bool → Heap → Prop} (x : Wp (model prog w) A z whole (QTr (model prog w) A z Q) h)
    (he : isTrue e env whole = (do let v ← whole; standAt e.pos; holding [v] (truthy v)) := by rfl) : Wp (model prog w) A z (isTrue e env whole) Q h :=
  fun tk => isTrue_plain (x.go (fun v h1 t1 k => k t1) tk) he
theorem W_truthB {b : Bool} {Q : Bool → Heap → Prop} (q : Q b h) : Wp (model prog w) A z (truthy (.bool b)) Q h := fun tk => wpAny_truthy_bool ⟨h, tk, rfl, q⟩
theorem W_truthN {Q : Bool → Heap → Prop} (q : Q false h) : Wp (model prog w) A z (truthy .none) Q h := fun tk => truthy_none ⟨h, tk, rfl, q⟩
theorem W_truthI {i : Int} {t : Tok} {Q : Bool → Heap → Prop} (q : Q (i != 0) h) : Wp (model prog w) A z (truthy (.int i t)) Q h := fun tk => truthy_int (s := St z h tk) ⟨h, tk, rfl, q⟩

/-! ### operations -/
section
variable {a b : Int} {t u : Tok} {Q : Value → Heap → Prop}
theorem W_eq (q : Q (.bool (a == b)) h) : Wp (model prog w) A z (compareOp .Eq (.int a t) (.int b u)) Q h := fun tk => eq_int (s := St z h tk) ⟨h, tk, rfl, q⟩
theorem W_ne (q : Q (.bool (a != b)) h) : Wp (model prog w) A z (compareOp .NotEq (.int a t) (.int b u)) Q h := fun tk => ne_int (s := St z h tk) ⟨h, tk, rfl, q⟩
theorem W_lt (q : Q (.bool (decide (a < b))) h) : Wp (model prog w) A z (compareOp .Lt (.int a t) (.int b u)) Q h := fun tk => lt_int (s := St z h tk) ⟨h, tk, rfl, q⟩
theorem W_le (q : Q (.bool (decide (a ≤ b))) h) : Wp (model prog w) A z (compareOp .LtE (.int a t) (.int b u)) Q h := fun tk => le_int (s := St z h tk) ⟨h, tk, rfl, q⟩
theorem W_add (q : ∀ tk, Q (.int (a + b) tk) h) : Wp (model prog w) A z (binaryOp .Add (.int a t) (.int b u)) Q h := fun tk => add_int (s := St z h tk) ⟨h, tk + 1, rfl, q _⟩
theorem W_sub (q : ∀ tk, Q (.int (a - b) tk) h) : Wp (model prog w) A z (binaryOp .Sub (.int a t) (.int b u)) Q h := fun tk => sub_int (s := St z h tk) ⟨h, tk + 1, rfl, q _⟩
theorem W_mul (q : ∀ tk, Q (.int (a * b) tk) h) (hm : IntMulOk a b) : Wp (model prog w) A z (binaryOp .Mult (.int a t) (.int b u)) Q h := fun tk => mul_int (s := St z h tk) ⟨h, tk + 1, rfl, q _⟩ hm
end
theorem W_isNotNone {v : Value} {Q : Value → Heap → Prop} (hp : plainIs v .none = true) (q : Q (.bool (!(v == .none))) h) : Wp (model prog w) A z (compareOp .IsNot v .none) Q h := fun tk => wpAny_isNot_plain (s := St z h tk) hp ⟨h, tk, rfl, q⟩
theorem W_bin {l r : Expr} {op : Operator} {pos : Pos} {Q : Value → Heap → Prop} (x : Wp (model prog w) A z (eval l env) (QBin1 (model prog w) A z env op r Q) h) :
    Wp (model prog w) A z (eval (.BinOp l op r pos) env) Q h := fun tk => wpAny_BinOp (x.go (fun a h1 t1 k => k.go (fun b h2 t2 k => k t2) t1) tk)
theorem W_cmp {l r : Expr} {op : CmpOp} {pos : Pos} {Q : Value → Heap → Prop} (x : Wp (model prog w) A z (eval l env) (QCmp1 (model prog w) A z env op r Q) h)
    (hm : behindInMarks op r = false := by with_unfolding_all rfl) : Wp (model prog w) A z (eval (.Compare l [op] [r] pos) env) Q h := fun tk => wpAny_Compare1 (x.go (fun a h1 t1 k => k.go (fun b h2 t2 k => k t2) t1) tk) hm
theorem W_cint {i : Int} {k : Nat} {pos : Pos} {Q : Value → Heap → Prop} (q : ∀ tk, Q (.int i tk) h) : Wp (model prog w) A z (eval (.Constant (.int i) k pos) env) Q h := fun tk => wpAny_Constant_int ⟨h, tk + 1, rfl, q tk⟩
theorem W_cbool {c : Bool} {k : Nat} {pos : Pos} {Q : Value → Heap → Prop} (q : Q (.bool c) h) : Wp (model prog w) A z (eval (.Constant (.bool c) k pos) env) Q h := fun tk => Constant_bool ⟨h, tk, rfl, q⟩
theorem W_cnone {k : Nat} {pos : Pos} {Q : Value → Heap → Prop} (q : Q .none h) : Wp (model prog w) A z (eval (.Constant .none k pos) env) Q h := fun tk => Constant_none ⟨h, tk, rfl, q⟩
theorem W_or1 {op : BoolOp} {e : Expr} {pos : Pos} {Q : Value → Heap → Prop} (x : Wp (model prog w) A z (eval e env) Q h) : Wp (model prog w) A z (eval (.BoolOp op [e] pos) env) Q h := fun tk => BoolOp_one (x tk)
theorem W_or {e₁ e₂ : Expr} {rest : List Expr} {pos : Pos} {Q : Value → Heap → Prop}
    (x : Wp (model prog w) A z (eval e₁ env) (QOrV1 (model prog w) A z env (e₂ :: rest) pos Q) h) :
    Wp (model prog w) A z (eval (.BoolOp .Or (e₁ :: e₂ :: rest) pos) env) Q h :=
  fun tk => BoolOp_or (x.go (fun v h1 t1 k => k.go (fun c h2 t2 k => by cases c; exact k.2 rfl t2; exact ⟨h2, t2, rfl, k.1 rfl⟩) t1) tk)
theorem W_and {e₁ e₂ : Expr} {rest : List Expr} {pos : Pos} {Q : Value → Heap → Prop}
    (x : Wp (model prog w) A z (eval e₁ env) (QAndV1 (model prog w) A z env (e₂ :: rest) pos Q) h) :
    Wp (model prog w) A z (eval (.BoolOp .And (e₁ :: e₂ :: rest) pos) env) Q h :=
  fun tk => BoolOp_and (x.go (fun v h1 t1 k => k.go (fun c h2 t2 k => by cases c; exact ⟨h2, t2, rfl, k.2 rfl⟩; exact k.1 rfl t2) t1) tk)

/-! ### stores -/
theorem W_setAttr {x C d : Addr} {b : Nat} {φ φ' : (Str → Option Value) → Prop} {nm : Str} {v : Value} {rest : Led} {Q : Unit → Heap → Prop} (F : Fr g L h m) (G : Gd K ro g) (O : Ow g L h ((d, dictB b φ) :: rest)) (c : ClsOk K C) (f : FieldOk K C nm)
    (hx : (x, isObj (instObj C d)) ∈ rest) (hb : b ≤ 900) (b' : Nat) (hn : nm ∉ methNames) (hφ : ∀ fs, φ fs → φ' (upd fs nm v) ∧ (((fs nm).isSome = true ∨ nm = "_id") ∧ b ≤ b' ∨ b + 1 ≤ b'))
    (q : ∀ h', Fr g L h' m → Ow g L h' ((d, dictB b' φ') :: rest) → Q () h') :
    Wp (model prog w) A z (setAttr (.ref x) nm v) Q h := fun tk => by
  obtain ⟨attr, f1, f2, f3⟩ := f
  have X : K.In h := G.kin.keeps F.keep
  obtain ⟨od, hd, fs, ⟨D, D0⟩, n0, p⟩ := O.get (List.mem_cons_self ..)
  have I : InstAt h x (instObj C d) C (some od) := ⟨O.obj (List.mem_cons_of_mem _ hx), rfl, rfl, hd⟩
  have nd := List.pairwise_cons.mp O.nd
  have off : ∀ p ∈ ex h rest, p.1 ≠ d := by
    intro p hp e
    obtain ⟨r, hr, rfl⟩ := List.mem_map.mp hp
    exact (nd.1 r hr e.symm).1.elim
  have Or : Ow g L h rest := O.sub ⟨fun _ h => List.mem_cons_of_mem _ h, nd.2⟩
  have N : News g L h ([] ++ (d, od) :: ex h rest) := fun p hp => by
    rcases List.mem_cons.mp hp with rfl | hp
    · exact ⟨hd, O.ne (d, _) (List.mem_cons_self ..), O.own.off (d, _) (List.mem_cons_self ..)⟩
    · exact Or.news p hp
  obtain ⟨es, n, e, D1, D2⟩ := D.put nm (PyData.keyHash w.params nm) (tk + 1) v
  refine set_plain (s := St z h tk) X I c.set (osa_dict (s := { St z h tk with toks := tk + 1 }) (pre := []) (post := ex h rest) (od' := dictOf es n) (es := es) (n := n) F N X I rfl c.over f3 c.dict (by rw [D.look]; rfl) (fun _ hp => nomatch hp) off e rfl ?_ fun h' F' N' => ?_)
  · obtain ⟨es', n', e', _, l⟩ := D1
    cases e'
    omega
  · have Or' : Ow g L h' rest := Or.ofNews fun p hp => N' p (List.mem_cons_of_mem _ hp)
    have hd' := (N' (d, dictOf es n) (List.mem_cons_self ..))
    obtain ⟨w1, w2⟩ := hφ fs p
    have P' : (dictB b' φ').Ok (dictOf es n) := by
      rcases w2 with ⟨w2, w3⟩ | w2
      · rcases w2 with w2 | rfl
        · refine ⟨_, ⟨(D2 w2).le w3, ?_⟩, n0.upd hn, w1⟩
          rcases D0 with D0 | ⟨b0, e0, D0⟩
          · refine .inl ?_
            by_cases hh : ("_id" : Str) = nm
            · rw [hh, upd_same]; rfl
            · rw [upd_ne hh]; exact D0
          · refine .inr ⟨b' - 1, by omega, ?_⟩
            obtain ⟨es', n', e', D1', D2'⟩ := D0.put nm (PyData.keyHash w.params nm) (tk + 1) v
            have : dictOf es n = dictOf es' n' := e.symm.trans e'
            rw [this]
            exact (D2' w2).le (by omega)
        · rcases D0 with D0 | ⟨b0, e0, D0⟩
          · exact ⟨_, ⟨(D2 D0).le w3, .inl (by rw [upd_same]; rfl)⟩, n0.upd hn, w1⟩
          · obtain ⟨es', n', e', D1', D2'⟩ := D0.put "_id" (PyData.keyHash w.params "_id") (tk + 1) v
            have : dictOf es n = dictOf es' n' := e.symm.trans e'
            refine ⟨_, ⟨?_, .inl (by rw [upd_same]; rfl)⟩, n0.upd hn, w1⟩
            rw [this]
            exact D1'.le (by omega)
      · refine ⟨_, ⟨D1.le w2, ?_⟩, n0.upd hn, w1⟩
        rcases D0 with D0 | ⟨b0, e0, D0⟩
        · refine .inl ?_
          by_cases hh : ("_id" : Str) = nm
          · rw [hh, upd_same]; rfl
          · rw [upd_ne hh]; exact D0
        · refine .inr ⟨b' - 1, by omega, ?_⟩
          obtain ⟨es', n', e', D1', D2'⟩ := D0.put nm (PyData.keyHash w.params nm) (tk + 1) v
          have : dictOf es n = dictOf es' n' := e.symm.trans e'
          rw [this]
          exact D1'.le (by omega)
    refine ⟨h', tk + 1 + 1, rfl, q h' F' ⟨⟨⟨fun p hp => ?_⟩, fun p hp => ?_, List.pairwise_cons.mpr ⟨fun q hq e => (nd.1 q hq e).1.elim, nd.2⟩⟩, fun p hp => ?_⟩⟩
    · rcases List.mem_cons.mp hp with rfl | hp
      · exact ⟨_, hd'.1, P'⟩
      · exact Or'.has.get p hp
    · rcases List.mem_cons.mp hp with rfl | hp
      · exact hd'.2.2
      · exact Or'.own.off p hp
    · rcases List.mem_cons.mp hp with rfl | hp
      · exact hd'.2.1
      · exact Or'.ne p hp
theorem W_assignAttr {y nm : Str} {p0 p1 p2 : Pos} {value : Expr} {Q : Flow → Heap → Prop}
    (x : Wp (model prog w) A z (eval value env) (QPut1 (model prog w) A z env y p0 nm Q) h)
    (hs : swapsWith value (some (.Attribute (.Name y p0) nm p1)) p2.line env = pure false := by rfl) :
    Wp (model prog w) A z (exec (.Assign [.Attribute (.Name y p0) nm p1] value p2) env) Q h :=
  fun tk => plainObj_wpAny_Assign_Attribute (x.go (fun v h1 t1 k => k.go (fun ov h2 t2 k => k t2) t1) tk) hs
end
end Mine
end
section
set_option maxRecDepth 10000
namespace Mine
/-! ## the text by index -/
noncomputable def nth : List Stmt → Nat → Stmt
  | [], _ => .Pass ⟨0, 0, 0, 0⟩
  | s :: _, 0 => s
  | _ :: r, i + 1 => nth r i
noncomputable def clsBody : Stmt → List Stmt
  | .ClassDef _ _ _ b _ _ _ _ _ _ _ => b
  | _ => []
noncomputable def defBody : Stmt → List Stmt
  | .FunctionDef _ _ b _ _ _ _ _ _ _ => b
  | _ => []
noncomputable def defArgs : Stmt → Arguments
  | .FunctionDef _ a _ _ _ _ _ _ _ _ => a
  | _ => default
noncomputable def defScope : Stmt → Scope
  | .FunctionDef _ _ _ _ _ _ s _ _ _ => s
  | _ => default
noncomputable def topAt (i : Nat) : Stmt := nth PySem.Challenge.pw_iu0060_01.main.body i
noncomputable def mth (i j : Nat) : Stmt := nth (clsBody (topAt i)) j
/-! ## addresses -/
noncomputable abbrev cNull : Addr := 276
noncomputable abbrev cList : Addr := 430
noncomputable abbrev cUnion : Addr := 607
noncomputable abbrev cInter : Addr := 706
noncomputable abbrev cAndNot : Addr := 840
noncomputable abbrev cMaybe : Addr := 944
noncomputable abbrev cWrap : Addr := 1091
noncomputable abbrev cFilt : Addr := 1177
noncomputable abbrev cInv : Addr := 1283
noncomputable abbrev cReq : Addr := 1366
noncomputable abbrev cConst : Addr := 1421
noncomputable abbrev cBi : Addr := 491
noncomputable abbrev cAdd : Addr := 531
noncomputable abbrev f_NullMatcherClass_is_active : Addr := 252
noncomputable abbrev f_Matcher_replace : Addr := 112
noncomputable abbrev f_NullMatcherClass_copy : Addr := 273
noncomputable abbrev f_NullMatcherClass_max_quality : Addr := 231
noncomputable abbrev f_ListMatcher_is_active : Addr := 307
noncomputable abbrev f_ListMatcher_id : Addr := 378
noncomputable abbrev f_ListMatcher_next : Addr := 406
noncomputable abbrev f_ListMatcher_score : Addr := 427
noncomputable abbrev f_ListMatcher_replace : Addr := 343
noncomputable abbrev f_ListMatcher_copy : Addr := 335
noncomputable abbrev f_ListMatcher_max_quality : Addr := 357
noncomputable abbrev f_ListMatcher_skip_to : Addr := 321
noncomputable abbrev f_ListMatcher_weight : Addr := 413
noncomputable abbrev f_ListMatcher_block_max_weight : Addr := 420
noncomputable abbrev f_UnionMatcher_is_active : Addr := 562
noncomputable abbrev f_UnionMatcher_id : Addr := 576
noncomputable abbrev f_UnionMatcher_next : Addr := 583
noncomputable abbrev f_UnionMatcher_score : Addr := 597
noncomputable abbrev f_UnionMatcher_replace : Addr := 555
noncomputable abbrev f_BiMatcher_copy : Addr := 467
noncomputable abbrev f_AdditiveBiMatcher_max_quality : Addr := 507
noncomputable abbrev f_UnionMatcher_skip_to : Addr := 569
noncomputable abbrev f_UnionMatcher_made : Addr := 547
noncomputable abbrev f_IntersectionMatcher_is_active : Addr := 661
noncomputable abbrev f_IntersectionMatcher_id : Addr := 675
noncomputable abbrev f_IntersectionMatcher_next : Addr := 703
noncomputable abbrev f_AdditiveBiMatcher_score : Addr := 528
noncomputable abbrev f_IntersectionMatcher_replace : Addr := 654
noncomputable abbrev f_IntersectionMatcher_skip_to : Addr := 689
noncomputable abbrev f_IntersectionMatcher_made : Addr := 624
noncomputable abbrev f_IntersectionMatcher_find_first : Addr := 646
noncomputable abbrev f_IntersectionMatcher_find_next : Addr := 668
noncomputable abbrev f_AndNotMatcher_is_active : Addr := 752
noncomputable abbrev f_AndNotMatcher_id : Addr := 802
noncomputable abbrev f_AndNotMatcher_next : Addr := 809
noncomputable abbrev f_AndNotMatcher_score : Addr := 830
noncomputable abbrev f_AndNotMatcher_replace : Addr := 774
noncomputable abbrev f_AndNotMatcher_max_quality : Addr := 781
noncomputable abbrev f_AndNotMatcher_made : Addr := 723
noncomputable abbrev f_AndNotMatcher_find_first : Addr := 745
noncomputable abbrev f_AndNotMatcher_find_next : Addr := 759
noncomputable abbrev f_AndMaybeMatcher_is_active : Addr := 884
noncomputable abbrev f_AndMaybeMatcher_id : Addr := 891
noncomputable abbrev f_AndMaybeMatcher_next : Addr := 898
noncomputable abbrev f_AndMaybeMatcher_score : Addr := 934
noncomputable abbrev f_AndMaybeMatcher_replace : Addr := 913
noncomputable abbrev f_AndMaybeMatcher_made : Addr := 856
noncomputable abbrev f_AndMaybeMatcher_first_b : Addr := 877
noncomputable abbrev f_WrappingMatcher_is_active : Addr := 1011
noncomputable abbrev f_WrappingMatcher_id : Addr := 997
noncomputable abbrev f_WrappingMatcher_next : Addr := 1046
noncomputable abbrev f_WrappingMatcher_score : Addr := 1088
noncomputable abbrev f_WrappingMatcher_replace : Addr := 990
noncomputable abbrev f_WrappingMatcher_copy : Addr := 968
noncomputable abbrev f_WrappingMatcher_max_quality : Addr := 1067
noncomputable abbrev f_WrappingMatcher_skip_to : Addr := 1039
noncomputable abbrev f_WrappingMatcher_replacement : Addr := 982
noncomputable abbrev f_FilterMatcher_next : Addr := 1153
noncomputable abbrev f_FilterMatcher_copy : Addr := 1132
noncomputable abbrev f_FilterMatcher_replacement : Addr := 1139
noncomputable abbrev f_FilterMatcher_find_next : Addr := 1146
noncomputable abbrev f_InverseMatcher_is_active : Addr := 1217
noncomputable abbrev f_InverseMatcher_id : Addr := 1245
noncomputable abbrev f_InverseMatcher_next : Addr := 1259
noncomputable abbrev f_InverseMatcher_score : Addr := 1280
noncomputable abbrev f_InverseMatcher_copy : Addr := 1203
noncomputable abbrev f_InverseMatcher_skip_to : Addr := 1266
noncomputable abbrev f_InverseMatcher_replacement : Addr := 1210
noncomputable abbrev f_InverseMatcher_find_next : Addr := 1238
noncomputable abbrev f_RequireMatcher_score : Addr := 1356
noncomputable abbrev f_RequireMatcher_replace : Addr := 1321
noncomputable abbrev f_RequireMatcher_copy : Addr := 1306
noncomputable abbrev f_RequireMatcher_max_quality : Addr := 1328
noncomputable abbrev f_ConstantScoreWrapperMatcher_score : Addr := 1418
noncomputable abbrev f_ConstantScoreWrapperMatcher_copy : Addr := 1390
noncomputable abbrev f_ConstantScoreWrapperMatcher_max_quality : Addr := 1404
noncomputable abbrev f_ConstantScoreWrapperMatcher_replacement : Addr := 1397
noncomputable abbrev f_ListMatcher_init : Addr := 300
noncomputable abbrev f_BiMatcher_init : Addr := 446
noncomputable abbrev f_IntersectionMatcher_init : Addr := 632
noncomputable abbrev f_AndNotMatcher_init : Addr := 731
noncomputable abbrev f_AndMaybeMatcher_init : Addr := 863
noncomputable abbrev f_WrappingMatcher_init : Addr := 961
noncomputable abbrev f_FilterMatcher_init : Addr := 1118
noncomputable abbrev f_InverseMatcher_init : Addr := 1196
noncomputable abbrev f_RequireMatcher_init : Addr := 1299
noncomputable abbrev f_ConstantScoreWrapperMatcher_init : Addr := 1383
noncomputable abbrev f_NullMatcher : Addr := 285
noncomputable abbrev f_ExcludeMatcher : Addr := 1101
noncomputable abbrev f_law_cell : Addr := 1430
noncomputable abbrev f_law_leaf : Addr := 1435
noncomputable abbrev f_law_sum : Addr := 1440
noncomputable abbrev f_law_plain : Addr := 1445
noncomputable abbrev f_law_tree : Addr := 1450
structure FnRow where
  at_ : Addr
  qual : Str
  st : Stmt
  cl : List (Str × Addr)
  dV : Value
  cdv : Value
noncomputable def rf_NullMatcherClass_is_active : FnRow := ⟨252, "NullMatcherClass.is_active", mth 5 4, [], .none, .ref 251⟩
noncomputable def rf_Matcher_replace : FnRow := ⟨112, "Matcher.replace", mth 4 7, [], .ref 105, .ref 111⟩
noncomputable def rf_NullMatcherClass_copy : FnRow := ⟨273, "NullMatcherClass.copy", mth 5 7, [], .none, .ref 272⟩
noncomputable def rf_NullMatcherClass_max_quality : FnRow := ⟨231, "NullMatcherClass.max_quality", mth 5 1, [], .none, .ref 230⟩
noncomputable def rf_ListMatcher_is_active : FnRow := ⟨307, "ListMatcher.is_active", mth 7 1, [], .none, .ref 306⟩
noncomputable def rf_ListMatcher_id : FnRow := ⟨378, "ListMatcher.id", mth 7 11, [], .none, .ref 377⟩
noncomputable def rf_ListMatcher_next : FnRow := ⟨406, "ListMatcher.next", mth 7 15, [], .none, .ref 405⟩
noncomputable def rf_ListMatcher_score : FnRow := ⟨427, "ListMatcher.score", mth 7 18, [], .none, .ref 426⟩
noncomputable def rf_ListMatcher_replace : FnRow := ⟨343, "ListMatcher.replace", mth 7 6, [], .ref 336, .ref 342⟩
noncomputable def rf_ListMatcher_copy : FnRow := ⟨335, "ListMatcher.copy", mth 7 5, [], .none, .ref 334⟩
noncomputable def rf_ListMatcher_max_quality : FnRow := ⟨357, "ListMatcher.max_quality", mth 7 8, [], .none, .ref 356⟩
noncomputable def rf_ListMatcher_skip_to : FnRow := ⟨321, "ListMatcher.skip_to", mth 7 3, [], .none, .ref 320⟩
noncomputable def rf_ListMatcher_weight : FnRow := ⟨413, "ListMatcher.weight", mth 7 16, [], .none, .ref 412⟩
noncomputable def rf_ListMatcher_block_max_weight : FnRow := ⟨420, "ListMatcher.block_max_weight", mth 7 17, [], .none, .ref 419⟩
noncomputable def rf_UnionMatcher_is_active : FnRow := ⟨562, "UnionMatcher.is_active", mth 11 3, [], .none, .ref 561⟩
noncomputable def rf_UnionMatcher_id : FnRow := ⟨576, "UnionMatcher.id", mth 11 5, [], .none, .ref 575⟩
noncomputable def rf_UnionMatcher_next : FnRow := ⟨583, "UnionMatcher.next", mth 11 6, [], .none, .ref 582⟩
noncomputable def rf_UnionMatcher_score : FnRow := ⟨597, "UnionMatcher.score", mth 11 8, [], .none, .ref 596⟩
noncomputable def rf_UnionMatcher_replace : FnRow := ⟨555, "UnionMatcher.replace", mth 11 2, [], .ref 548, .ref 554⟩
noncomputable def rf_BiMatcher_copy : FnRow := ⟨467, "BiMatcher.copy", mth 9 3, [], .none, .ref 466⟩
noncomputable def rf_AdditiveBiMatcher_max_quality : FnRow := ⟨507, "AdditiveBiMatcher.max_quality", mth 10 0, [], .none, .ref 506⟩
noncomputable def rf_UnionMatcher_skip_to : FnRow := ⟨569, "UnionMatcher.skip_to", mth 11 4, [], .none, .ref 568⟩
noncomputable def rf_UnionMatcher_made : FnRow := ⟨547, "UnionMatcher._made", mth 11 1, [], .none, .ref 546⟩
noncomputable def rf_IntersectionMatcher_is_active : FnRow := ⟨661, "IntersectionMatcher.is_active", mth 12 5, [], .none, .ref 660⟩
noncomputable def rf_IntersectionMatcher_id : FnRow := ⟨675, "IntersectionMatcher.id", mth 12 7, [], .none, .ref 674⟩
noncomputable def rf_IntersectionMatcher_next : FnRow := ⟨703, "IntersectionMatcher.next", mth 12 11, [], .none, .ref 702⟩
noncomputable def rf_AdditiveBiMatcher_score : FnRow := ⟨528, "AdditiveBiMatcher.score", mth 10 3, [], .none, .ref 527⟩
noncomputable def rf_IntersectionMatcher_replace : FnRow := ⟨654, "IntersectionMatcher.replace", mth 12 4, [], .ref 647, .ref 653⟩
noncomputable def rf_IntersectionMatcher_skip_to : FnRow := ⟨689, "IntersectionMatcher.skip_to", mth 12 9, [], .none, .ref 688⟩
noncomputable def rf_IntersectionMatcher_made : FnRow := ⟨624, "IntersectionMatcher._made", mth 12 0, [], .none, .ref 623⟩
noncomputable def rf_IntersectionMatcher_find_first : FnRow := ⟨646, "IntersectionMatcher._find_first", mth 12 3, [], .none, .ref 645⟩
noncomputable def rf_IntersectionMatcher_find_next : FnRow := ⟨668, "IntersectionMatcher._find_next", mth 12 6, [], .none, .ref 667⟩
noncomputable def rf_AndNotMatcher_is_active : FnRow := ⟨752, "AndNotMatcher.is_active", mth 13 4, [], .none, .ref 751⟩
noncomputable def rf_AndNotMatcher_id : FnRow := ⟨802, "AndNotMatcher.id", mth 13 11, [], .none, .ref 801⟩
noncomputable def rf_AndNotMatcher_next : FnRow := ⟨809, "AndNotMatcher.next", mth 13 12, [], .none, .ref 808⟩
noncomputable def rf_AndNotMatcher_score : FnRow := ⟨830, "AndNotMatcher.score", mth 13 15, [], .none, .ref 829⟩
noncomputable def rf_AndNotMatcher_replace : FnRow := ⟨774, "AndNotMatcher.replace", mth 13 7, [], .ref 767, .ref 773⟩
noncomputable def rf_AndNotMatcher_max_quality : FnRow := ⟨781, "AndNotMatcher.max_quality", mth 13 8, [], .none, .ref 780⟩
noncomputable def rf_AndNotMatcher_made : FnRow := ⟨723, "AndNotMatcher._made", mth 13 0, [], .none, .ref 722⟩
noncomputable def rf_AndNotMatcher_find_first : FnRow := ⟨745, "AndNotMatcher._find_first", mth 13 3, [], .none, .ref 744⟩
noncomputable def rf_AndNotMatcher_find_next : FnRow := ⟨759, "AndNotMatcher._find_next", mth 13 5, [], .none, .ref 758⟩
noncomputable def rf_AndMaybeMatcher_is_active : FnRow := ⟨884, "AndMaybeMatcher.is_active", mth 14 4, [], .none, .ref 883⟩
noncomputable def rf_AndMaybeMatcher_id : FnRow := ⟨891, "AndMaybeMatcher.id", mth 14 5, [], .none, .ref 890⟩
noncomputable def rf_AndMaybeMatcher_next : FnRow := ⟨898, "AndMaybeMatcher.next", mth 14 6, [], .none, .ref 897⟩
noncomputable def rf_AndMaybeMatcher_score : FnRow := ⟨934, "AndMaybeMatcher.score", mth 14 11, [], .none, .ref 933⟩
noncomputable def rf_AndMaybeMatcher_replace : FnRow := ⟨913, "AndMaybeMatcher.replace", mth 14 8, [], .ref 906, .ref 912⟩
noncomputable def rf_AndMaybeMatcher_made : FnRow := ⟨856, "AndMaybeMatcher._made", mth 14 0, [], .none, .ref 855⟩
noncomputable def rf_AndMaybeMatcher_first_b : FnRow := ⟨877, "AndMaybeMatcher._first_b", mth 14 3, [], .none, .ref 876⟩
noncomputable def rf_WrappingMatcher_is_active : FnRow := ⟨1011, "WrappingMatcher.is_active", mth 16 7, [], .none, .ref 1010⟩
noncomputable def rf_WrappingMatcher_id : FnRow := ⟨997, "WrappingMatcher.id", mth 16 5, [], .none, .ref 996⟩
noncomputable def rf_WrappingMatcher_next : FnRow := ⟨1046, "WrappingMatcher.next", mth 16 12, [], .none, .ref 1045⟩
noncomputable def rf_WrappingMatcher_score : FnRow := ⟨1088, "WrappingMatcher.score", mth 16 18, [], .none, .ref 1087⟩
noncomputable def rf_WrappingMatcher_replace : FnRow := ⟨990, "WrappingMatcher.replace", mth 16 4, [], .ref 983, .ref 989⟩
noncomputable def rf_WrappingMatcher_copy : FnRow := ⟨968, "WrappingMatcher.copy", mth 16 1, [], .none, .ref 967⟩
noncomputable def rf_WrappingMatcher_max_quality : FnRow := ⟨1067, "WrappingMatcher.max_quality", mth 16 15, [], .none, .ref 1066⟩
noncomputable def rf_WrappingMatcher_skip_to : FnRow := ⟨1039, "WrappingMatcher.skip_to", mth 16 11, [], .none, .ref 1038⟩
noncomputable def rf_WrappingMatcher_replacement : FnRow := ⟨982, "WrappingMatcher._replacement", mth 16 3, [], .none, .ref 981⟩
noncomputable def rf_FilterMatcher_next : FnRow := ⟨1153, "FilterMatcher.next", mth 18 5, [], .none, .ref 1152⟩
noncomputable def rf_FilterMatcher_copy : FnRow := ⟨1132, "FilterMatcher.copy", mth 18 2, [], .none, .ref 1131⟩
noncomputable def rf_FilterMatcher_replacement : FnRow := ⟨1139, "FilterMatcher._replacement", mth 18 3, [], .none, .ref 1138⟩
noncomputable def rf_FilterMatcher_find_next : FnRow := ⟨1146, "FilterMatcher._find_next", mth 18 4, [], .none, .ref 1145⟩
noncomputable def rf_InverseMatcher_is_active : FnRow := ⟨1217, "InverseMatcher.is_active", mth 19 3, [], .none, .ref 1216⟩
noncomputable def rf_InverseMatcher_id : FnRow := ⟨1245, "InverseMatcher.id", mth 19 7, [], .none, .ref 1244⟩
noncomputable def rf_InverseMatcher_next : FnRow := ⟨1259, "InverseMatcher.next", mth 19 9, [], .none, .ref 1258⟩
noncomputable def rf_InverseMatcher_score : FnRow := ⟨1280, "InverseMatcher.score", mth 19 12, [], .none, .ref 1279⟩
noncomputable def rf_InverseMatcher_copy : FnRow := ⟨1203, "InverseMatcher.copy", mth 19 1, [], .none, .ref 1202⟩
noncomputable def rf_InverseMatcher_skip_to : FnRow := ⟨1266, "InverseMatcher.skip_to", mth 19 10, [], .none, .ref 1265⟩
noncomputable def rf_InverseMatcher_replacement : FnRow := ⟨1210, "InverseMatcher._replacement", mth 19 2, [], .none, .ref 1209⟩
noncomputable def rf_InverseMatcher_find_next : FnRow := ⟨1238, "InverseMatcher._find_next", mth 19 6, [], .none, .ref 1237⟩
noncomputable def rf_RequireMatcher_score : FnRow := ⟨1356, "RequireMatcher.score", mth 20 8, [], .none, .ref 1355⟩
noncomputable def rf_RequireMatcher_replace : FnRow := ⟨1321, "RequireMatcher.replace", mth 20 3, [], .ref 1314, .ref 1320⟩
noncomputable def rf_RequireMatcher_copy : FnRow := ⟨1306, "RequireMatcher.copy", mth 20 1, [], .none, .ref 1305⟩
noncomputable def rf_RequireMatcher_max_quality : FnRow := ⟨1328, "RequireMatcher.max_quality", mth 20 4, [], .none, .ref 1327⟩
noncomputable def rf_ConstantScoreWrapperMatcher_score : FnRow := ⟨1418, "ConstantScoreWrapperMatcher.score", mth 21 5, [], .none, .ref 1417⟩
noncomputable def rf_ConstantScoreWrapperMatcher_copy : FnRow := ⟨1390, "ConstantScoreWrapperMatcher.copy", mth 21 1, [], .none, .ref 1389⟩
noncomputable def rf_ConstantScoreWrapperMatcher_max_quality : FnRow := ⟨1404, "ConstantScoreWrapperMatcher.max_quality", mth 21 3, [], .none, .ref 1403⟩
noncomputable def rf_ConstantScoreWrapperMatcher_replacement : FnRow := ⟨1397, "ConstantScoreWrapperMatcher._replacement", mth 21 2, [], .none, .ref 1396⟩
noncomputable def rf_ListMatcher_init : FnRow := ⟨300, "ListMatcher.__init__", mth 7 0, [], .ref 293, .ref 299⟩
noncomputable def rf_BiMatcher_init : FnRow := ⟨446, "BiMatcher.__init__", mth 9 0, [], .none, .ref 445⟩
noncomputable def rf_IntersectionMatcher_init : FnRow := ⟨632, "IntersectionMatcher.__init__", mth 12 1, [("__class__", 613)], .none, .ref 631⟩
noncomputable def rf_AndNotMatcher_init : FnRow := ⟨731, "AndNotMatcher.__init__", mth 13 1, [("__class__", 712)], .none, .ref 730⟩
noncomputable def rf_AndMaybeMatcher_init : FnRow := ⟨863, "AndMaybeMatcher.__init__", mth 14 1, [], .none, .ref 862⟩
noncomputable def rf_WrappingMatcher_init : FnRow := ⟨961, "WrappingMatcher.__init__", mth 16 0, [], .ref 954, .ref 960⟩
noncomputable def rf_FilterMatcher_init : FnRow := ⟨1118, "FilterMatcher.__init__", mth 18 0, [("__class__", 1105)], .ref 1110, .ref 1117⟩
noncomputable def rf_InverseMatcher_init : FnRow := ⟨1196, "InverseMatcher.__init__", mth 19 0, [("__class__", 1183)], .ref 1188, .ref 1195⟩
noncomputable def rf_RequireMatcher_init : FnRow := ⟨1299, "RequireMatcher.__init__", mth 20 0, [], .none, .ref 1298⟩
noncomputable def rf_ConstantScoreWrapperMatcher_init : FnRow := ⟨1383, "ConstantScoreWrapperMatcher.__init__", mth 21 0, [], .ref 1376, .ref 1382⟩
noncomputable def rf_NullMatcher : FnRow := ⟨285, "NullMatcher", topAt 6, [], .none, .ref 284⟩
noncomputable def rf_ExcludeMatcher : FnRow := ⟨1101, "ExcludeMatcher", topAt 17, [], .ref 1094, .ref 1100⟩
noncomputable def rf_law_cell : FnRow := ⟨1430, "_law_cell", topAt 23, [], .none, .ref 1429⟩
noncomputable def rf_law_leaf : FnRow := ⟨1435, "_law_leaf", topAt 24, [], .none, .ref 1434⟩
noncomputable def rf_law_sum : FnRow := ⟨1440, "_law_sum", topAt 25, [], .none, .ref 1439⟩
noncomputable def rf_law_plain : FnRow := ⟨1445, "_law_plain", topAt 26, [], .none, .ref 1444⟩
noncomputable def rf_law_tree : FnRow := ⟨1450, "_law_tree", topAt 27, [], .none, .ref 1449⟩
noncomputable def fnTab : List FnRow := [rf_NullMatcherClass_is_active, rf_Matcher_replace, rf_NullMatcherClass_copy, rf_NullMatcherClass_max_quality, rf_ListMatcher_is_active, rf_ListMatcher_id, rf_ListMatcher_next, rf_ListMatcher_score, rf_ListMatcher_replace, rf_ListMatcher_copy, rf_ListMatcher_max_quality, rf_ListMatcher_skip_to, rf_ListMatcher_weight, rf_ListMatcher_block_max_weight, rf_UnionMatcher_is_active, rf_UnionMatcher_id, rf_UnionMatcher_next, rf_UnionMatcher_score, rf_UnionMatcher_replace, rf_BiMatcher_copy, rf_AdditiveBiMatcher_max_quality, rf_UnionMatcher_skip_to, rf_UnionMatcher_made, rf_IntersectionMatcher_is_active, rf_IntersectionMatcher_id, rf_IntersectionMatcher_next, rf_AdditiveBiMatcher_score, rf_IntersectionMatcher_replace, rf_IntersectionMatcher_skip_to, rf_IntersectionMatcher_made, rf_IntersectionMatcher_find_first, rf_IntersectionMatcher_find_next, rf_AndNotMatcher_is_active, rf_AndNotMatcher_id, rf_AndNotMatcher_next, rf_AndNotMatcher_score, rf_AndNotMatcher_replace, rf_AndNotMatcher_max_quality, rf_AndNotMatcher_made, rf_AndNotMatcher_find_first, rf_AndNotMatcher_find_next, rf_AndMaybeMatcher_is_active, rf_AndMaybeMatcher_id, rf_AndMaybeMatcher_next, rf_AndMaybeMatcher_score, rf_AndMaybeMatcher_replace, rf_AndMaybeMatcher_made, rf_AndMaybeMatcher_first_b, rf_WrappingMatcher_is_active, rf_WrappingMatcher_id, rf_WrappingMatcher_next, rf_WrappingMatcher_score, rf_WrappingMatcher_replace, rf_WrappingMatcher_copy, rf_WrappingMatcher_max_quality, rf_WrappingMatcher_skip_to, rf_WrappingMatcher_replacement, rf_FilterMatcher_next, rf_FilterMatcher_copy, rf_FilterMatcher_replacement, rf_FilterMatcher_find_next, rf_InverseMatcher_is_active, rf_InverseMatcher_id, rf_InverseMatcher_next, rf_InverseMatcher_score, rf_InverseMatcher_copy, rf_InverseMatcher_skip_to, rf_InverseMatcher_replacement, rf_InverseMatcher_find_next, rf_RequireMatcher_score, rf_RequireMatcher_replace, rf_RequireMatcher_copy, rf_RequireMatcher_max_quality, rf_ConstantScoreWrapperMatcher_score, rf_ConstantScoreWrapperMatcher_copy, rf_ConstantScoreWrapperMatcher_max_quality, rf_ConstantScoreWrapperMatcher_replacement, rf_ListMatcher_init, rf_BiMatcher_init, rf_IntersectionMatcher_init, rf_AndNotMatcher_init, rf_AndMaybeMatcher_init, rf_WrappingMatcher_init, rf_FilterMatcher_init, rf_InverseMatcher_init, rf_RequireMatcher_init, rf_ConstantScoreWrapperMatcher_init, rf_NullMatcher, rf_ExcludeMatcher, rf_law_cell]
/-- the defs whose scopes have cells -/
noncomputable def cfnTab : List FnRow := [rf_law_leaf, rf_law_sum, rf_law_plain, rf_law_tree]
noncomputable def clsTab : List Addr := [cNull, cList, cUnion, cInter, cAndNot, cMaybe, cWrap, cFilt, cInv, cReq, cConst, cBi, cAdd]
noncomputable def methTab : List (Addr × Str × Addr) := [
  (cNull, Str.ofString "is_active", f_NullMatcherClass_is_active),
  (cNull, Str.ofString "replace", f_Matcher_replace),
  (cNull, Str.ofString "copy", f_NullMatcherClass_copy),
  (cNull, Str.ofString "max_quality", f_NullMatcherClass_max_quality),
  (cList, Str.ofString "is_active", f_ListMatcher_is_active),
  (cList, Str.ofString "id", f_ListMatcher_id),
  (cList, Str.ofString "next", f_ListMatcher_next),
  (cList, Str.ofString "score", f_ListMatcher_score),
  (cList, Str.ofString "replace", f_ListMatcher_replace),
  (cList, Str.ofString "copy", f_ListMatcher_copy),
  (cList, Str.ofString "max_quality", f_ListMatcher_max_quality),
  (cList, Str.ofString "skip_to", f_ListMatcher_skip_to),
  (cList, Str.ofString "weight", f_ListMatcher_weight),
  (cList, Str.ofString "block_max_weight", f_ListMatcher_block_max_weight),
  (cUnion, Str.ofString "is_active", f_UnionMatcher_is_active),
  (cUnion, Str.ofString "id", f_UnionMatcher_id),
  (cUnion, Str.ofString "next", f_UnionMatcher_next),
  (cUnion, Str.ofString "score", f_UnionMatcher_score),
  (cUnion, Str.ofString "replace", f_UnionMatcher_replace),
  (cUnion, Str.ofString "copy", f_BiMatcher_copy),
  (cUnion, Str.ofString "max_quality", f_AdditiveBiMatcher_max_quality),
  (cUnion, Str.ofString "skip_to", f_UnionMatcher_skip_to),
  (cUnion, Str.ofString "_made", f_UnionMatcher_made),
  (cInter, Str.ofString "is_active", f_IntersectionMatcher_is_active),
  (cInter, Str.ofString "id", f_IntersectionMatcher_id),
  (cInter, Str.ofString "next", f_IntersectionMatcher_next),
  (cInter, Str.ofString "score", f_AdditiveBiMatcher_score),
  (cInter, Str.ofString "replace", f_IntersectionMatcher_replace),
  (cInter, Str.ofString "copy", f_BiMatcher_copy),
  (cInter, Str.ofString "max_quality", f_AdditiveBiMatcher_max_quality),
  (cInter, Str.ofString "skip_to", f_IntersectionMatcher_skip_to),
  (cInter, Str.ofString "_made", f_IntersectionMatcher_made),
  (cInter, Str.ofString "_find_first", f_IntersectionMatcher_find_first),
  (cInter, Str.ofString "_find_next", f_IntersectionMatcher_find_next),
  (cAndNot, Str.ofString "is_active", f_AndNotMatcher_is_active),
  (cAndNot, Str.ofString "id", f_AndNotMatcher_id),
  (cAndNot, Str.ofString "next", f_AndNotMatcher_next),
  (cAndNot, Str.ofString "score", f_AndNotMatcher_score),
  (cAndNot, Str.ofString "replace", f_AndNotMatcher_replace),
  (cAndNot, Str.ofString "copy", f_BiMatcher_copy),
  (cAndNot, Str.ofString "max_quality", f_AndNotMatcher_max_quality),
  (cAndNot, Str.ofString "_made", f_AndNotMatcher_made),
  (cAndNot, Str.ofString "_find_first", f_AndNotMatcher_find_first),
  (cAndNot, Str.ofString "_find_next", f_AndNotMatcher_find_next),
  (cMaybe, Str.ofString "is_active", f_AndMaybeMatcher_is_active),
  (cMaybe, Str.ofString "id", f_AndMaybeMatcher_id),
  (cMaybe, Str.ofString "next", f_AndMaybeMatcher_next),
  (cMaybe, Str.ofString "score", f_AndMaybeMatcher_score),
  (cMaybe, Str.ofString "replace", f_AndMaybeMatcher_replace),
  (cMaybe, Str.ofString "copy", f_BiMatcher_copy),
  (cMaybe, Str.ofString "max_quality", f_AdditiveBiMatcher_max_quality),
  (cMaybe, Str.ofString "_made", f_AndMaybeMatcher_made),
  (cMaybe, Str.ofString "_first_b", f_AndMaybeMatcher_first_b),
  (cWrap, Str.ofString "is_active", f_WrappingMatcher_is_active),
  (cWrap, Str.ofString "id", f_WrappingMatcher_id),
  (cWrap, Str.ofString "next", f_WrappingMatcher_next),
  (cWrap, Str.ofString "score", f_WrappingMatcher_score),
  (cWrap, Str.ofString "replace", f_WrappingMatcher_replace),
  (cWrap, Str.ofString "copy", f_WrappingMatcher_copy),
  (cWrap, Str.ofString "max_quality", f_WrappingMatcher_max_quality),
  (cWrap, Str.ofString "skip_to", f_WrappingMatcher_skip_to),
  (cWrap, Str.ofString "_replacement", f_WrappingMatcher_replacement),
  (cFilt, Str.ofString "is_active", f_WrappingMatcher_is_active),
  (cFilt, Str.ofString "id", f_WrappingMatcher_id),
  (cFilt, Str.ofString "next", f_FilterMatcher_next),
  (cFilt, Str.ofString "score", f_WrappingMatcher_score),
  (cFilt, Str.ofString "replace", f_WrappingMatcher_replace),
  (cFilt, Str.ofString "copy", f_FilterMatcher_copy),
  (cFilt, Str.ofString "max_quality", f_WrappingMatcher_max_quality),
  (cFilt, Str.ofString "_replacement", f_FilterMatcher_replacement),
  (cFilt, Str.ofString "_find_next", f_FilterMatcher_find_next),
  (cInv, Str.ofString "is_active", f_InverseMatcher_is_active),
  (cInv, Str.ofString "id", f_InverseMatcher_id),
  (cInv, Str.ofString "next", f_InverseMatcher_next),
  (cInv, Str.ofString "score", f_InverseMatcher_score),
  (cInv, Str.ofString "replace", f_WrappingMatcher_replace),
  (cInv, Str.ofString "copy", f_InverseMatcher_copy),
  (cInv, Str.ofString "max_quality", f_WrappingMatcher_max_quality),
  (cInv, Str.ofString "skip_to", f_InverseMatcher_skip_to),
  (cInv, Str.ofString "_replacement", f_InverseMatcher_replacement),
  (cInv, Str.ofString "_find_next", f_InverseMatcher_find_next),
  (cReq, Str.ofString "is_active", f_WrappingMatcher_is_active),
  (cReq, Str.ofString "id", f_WrappingMatcher_id),
  (cReq, Str.ofString "next", f_WrappingMatcher_next),
  (cReq, Str.ofString "score", f_RequireMatcher_score),
  (cReq, Str.ofString "replace", f_RequireMatcher_replace),
  (cReq, Str.ofString "copy", f_RequireMatcher_copy),
  (cReq, Str.ofString "max_quality", f_RequireMatcher_max_quality),
  (cReq, Str.ofString "skip_to", f_WrappingMatcher_skip_to),
  (cConst, Str.ofString "is_active", f_WrappingMatcher_is_active),
  (cConst, Str.ofString "id", f_WrappingMatcher_id),
  (cConst, Str.ofString "next", f_WrappingMatcher_next),
  (cConst, Str.ofString "score", f_ConstantScoreWrapperMatcher_score),
  (cConst, Str.ofString "replace", f_WrappingMatcher_replace),
  (cConst, Str.ofString "copy", f_ConstantScoreWrapperMatcher_copy),
  (cConst, Str.ofString "max_quality", f_ConstantScoreWrapperMatcher_max_quality),
  (cConst, Str.ofString "skip_to", f_WrappingMatcher_skip_to),
  (cConst, Str.ofString "_replacement", f_ConstantScoreWrapperMatcher_replacement)]
noncomputable def fieldTab : List (Addr × Str) := [(cList, Str.ofString "_ids"), (cList, Str.ofString "_weights"), (cList, Str.ofString "_all_weights"), (cList, Str.ofString "_values"), (cList, Str.ofString "_i"), (cList, Str.ofString "_format"), (cList, Str.ofString "_scorer"), (cList, Str.ofString "_term"), (cList, Str.ofString "_terminfo"), (cUnion, Str.ofString "a"), (cUnion, Str.ofString "b"), (cUnion, Str.ofString "_id"), (cInter, Str.ofString "a"), (cInter, Str.ofString "b"), (cAndNot, Str.ofString "a"), (cAndNot, Str.ofString "b"), (cMaybe, Str.ofString "a"), (cMaybe, Str.ofString "b"), (cWrap, Str.ofString "child"), (cWrap, Str.ofString "boost"), (cFilt, Str.ofString "child"), (cFilt, Str.ofString "boost"), (cFilt, Str.ofString "_ids"), (cFilt, Str.ofString "_exclude"), (cInv, Str.ofString "child"), (cInv, Str.ofString "boost"), (cInv, Str.ofString "limit"), (cInv, Str.ofString "_weight"), (cInv, Str.ofString "missing"), (cInv, Str.ofString "_id"), (cReq, Str.ofString "a"), (cReq, Str.ofString "b"), (cReq, Str.ofString "child"), (cReq, Str.ofString "boost"), (cConst, Str.ofString "child"), (cConst, Str.ofString "boost"), (cConst, Str.ofString "_score")]
noncomputable def initTab : List (Addr × Addr) := [(cList, f_ListMatcher_init), (cUnion, f_BiMatcher_init), (cInter, f_IntersectionMatcher_init), (cAndNot, f_AndNotMatcher_init), (cMaybe, f_AndMaybeMatcher_init), (cWrap, f_WrappingMatcher_init), (cFilt, f_FilterMatcher_init), (cInv, f_InverseMatcher_init), (cReq, f_RequireMatcher_init), (cConst, f_ConstantScoreWrapperMatcher_init)]
noncomputable def globTab : List (Str × Addr) := [(Str.ofString "NullMatcherClass", 276), (Str.ofString "ListMatcher", 430), (Str.ofString "UnionMatcher", 607), (Str.ofString "IntersectionMatcher", 706), (Str.ofString "AndNotMatcher", 840), (Str.ofString "AndMaybeMatcher", 944), (Str.ofString "WrappingMatcher", 1091), (Str.ofString "FilterMatcher", 1177), (Str.ofString "InverseMatcher", 1283), (Str.ofString "RequireMatcher", 1366), (Str.ofString "ConstantScoreWrapperMatcher", 1421), (Str.ofString "BiMatcher", 491), (Str.ofString "AdditiveBiMatcher", 531), (Str.ofString "NullMatcher", 285), (Str.ofString "ExcludeMatcher", 1101), (Str.ofString "_law_cell", 1430), (Str.ofString "_law_leaf", 1435), (Str.ofString "_law_sum", 1440), (Str.ofString "_law_plain", 1445), (Str.ofString "_law_tree", 1450)]
noncomputable def bltTab : List Str := [Str.ofString "len", Str.ofString "max", Str.ofString "min", Str.ofString "abs", Str.ofString "range", Str.ofString "dict", Str.ofString "list", Str.ofString "zip", Str.ofString "sorted", Str.ofString "super"]
inductive Dv | none | int (i : Int) | bool (b : Bool)
noncomputable def Dv.Is : Dv → Value → Prop
  | .none, v => v = .none
  | .int i, v => ∃ tk, v = .int i tk
  | .bool b, v => v = .bool b
noncomputable def DvAre : List Dv → List Value → Prop
  | [], [] => True
  | d :: ds, v :: vs => d.Is v ∧ DvAre ds vs
  | _, _ => False
noncomputable def DfOk (K : Frag) (a : Addr) (l : List Dv) : Prop := ∃ o n vs, K.lookup a = some o ∧ o.data = .seq (List.toArray vs) n ∧ DvAre l vs
structure SupOk (K : Frag) (D cc cda f2 : Addr) : Prop where
  code : ∃ ccl cdd vs ccs file tf, K.lookup cda = some ⟨ccl, cdd, .fields vs, ccs⟩ ∧ vs[2]? = some (.str file tf) ∧ ((PySem.Challenge.pw_iu0060_01.main.file : Str) == file) = true
  cell : ∃ cl cld csl, K.lookup cc = some ⟨cl, cld, .cell (some (.ref D)), csl⟩
  cls : ∃ cd, clsIn K D = some cd
  sub : mroIn K D (.ref D) = some true
  meth : ks_superIn K D D "__init__" = some (some (.ref f2)) ∧ typeIn K (.ref f2) = some (.type "function") ∧ fnIn K f2 = true
/-- as FnIs, where the scope has cells -/
structure FnIsC (K : Frag) (f : Addr) (qual : Str) (params : Arguments) (body : List Stmt) (scope : Scope) (cl : List (Str × Addr)) (dV cdv : Value) : Prop where
  at_ : ∃ oc od osl name kV doc pm an ct, K.lookup f = some ⟨oc, od, .func (fnX name qual params body scope cl dV kV doc pm an cdv ct), osl⟩
  code : codeIn K cdv qual = true
structure ClsInit (K : Frag) (C f : Addr) : Prop where
  get : specialIn K (.ref C) "__getattribute__" = some (some (.builtin "type.__getattribute__"))
  find : ∃ mc, typeIn K (.ref C) = some mc ∧ readsIn K C mc = true ∧ findCls K (.ref C) mc "__init__" = some (.val (.ref f))
  keep : keepIn K (.ref f) = true
noncomputable def supTab : List (Addr × Addr × Addr × Addr) := [(cInter, 613, 631, f_BiMatcher_init), (cAndNot, 712, 730, f_BiMatcher_init), (cFilt, 1105, 1117, f_WrappingMatcher_init), (cInv, 1183, 1195, f_WrappingMatcher_init)]
noncomputable def ciniTab : List (Addr × Addr) := [(cAdd, f_BiMatcher_init), (cWrap, f_WrappingMatcher_init)]
noncomputable def dflTab : List (Addr × List Dv) := [(105, [.int 0]), (336, [.int 0]), (548, [.int 0]), (647, [.int 0]), (767, [.int 0]), (906, [.int 0]), (983, [.int 0]), (1314, [.int 0]), (293, [.none, .none, .none, .none, .int 0, .none, .none, .none]), (954, [.int 1]), (1110, [.bool false, .int 1]), (1188, [.none, .int 1, .int 0]), (1376, [.int 1]), (1094, [.int 1])]
/-- what the walk asks of the written part -/
structure KOk (K : Frag) : Prop where
  fn : ∀ r ∈ fnTab, FnIs K r.at_ r.qual (defArgs r.st) (defBody r.st) (defScope r.st) r.cl r.dV r.cdv
  cfn : ∀ r ∈ cfnTab, FnIsC K r.at_ r.qual (defArgs r.st) (defBody r.st) (defScope r.st) r.cl r.dV r.cdv
  cls : ∀ C ∈ clsTab, ClsOk K C
  meth : ∀ e ∈ methTab, MethOk K e.1 e.2.1 e.2.2
  field : ∀ e ∈ fieldTab, FieldOk K e.1 e.2
  init : ∀ e ∈ initTab, MethOk K e.1 "__init__" e.2 ∧ makesIn K e.1 = true
  null : findIn K (.ref cNull) "__init__" = some (some (.builtin "object.__init__")) ∧ makesIn K cNull = true
  glob : ∀ e ∈ globTab, nsIn K mainGlobals e.1 = some (some (.ref e.2)) ∧ keepIn K (.ref e.2) = true
  blt : ∀ n ∈ bltTab, nsIn K mainGlobals n = some none
  uid : findIn K (.ref cUnion) "_id" = some (some .none) ∧ specialIn K .none "__get__" = some none
  sup : ∀ e ∈ supTab, SupOk K e.1 e.2.1 e.2.2.1 e.2.2.2
  any : nsIn K cStatics "thirdparty.any" = some none
  cini : ∀ e ∈ ciniTab, ClsInit K e.1 e.2
  dfl : ∀ e ∈ dflTab, DfOk K e.1 e.2
theorem at_ {α : Type} {l : List α} (i : Nat) {a : α} (h : l[i]? = some a) : a ∈ l := List.mem_of_getElem? h
theorem KOk.v_Matcher_replace {K : Frag} (k : KOk K) : DfOk K 105 [.int 0] := k.dfl _ (at_ 0 rfl)
theorem KOk.v_ListMatcher_replace {K : Frag} (k : KOk K) : DfOk K 336 [.int 0] := k.dfl _ (at_ 1 rfl)
theorem KOk.v_UnionMatcher_replace {K : Frag} (k : KOk K) : DfOk K 548 [.int 0] := k.dfl _ (at_ 2 rfl)
theorem KOk.v_IntersectionMatcher_replace {K : Frag} (k : KOk K) : DfOk K 647 [.int 0] := k.dfl _ (at_ 3 rfl)
theorem KOk.v_AndNotMatcher_replace {K : Frag} (k : KOk K) : DfOk K 767 [.int 0] := k.dfl _ (at_ 4 rfl)
theorem KOk.v_AndMaybeMatcher_replace {K : Frag} (k : KOk K) : DfOk K 906 [.int 0] := k.dfl _ (at_ 5 rfl)
theorem KOk.v_WrappingMatcher_replace {K : Frag} (k : KOk K) : DfOk K 983 [.int 0] := k.dfl _ (at_ 6 rfl)
theorem KOk.v_RequireMatcher_replace {K : Frag} (k : KOk K) : DfOk K 1314 [.int 0] := k.dfl _ (at_ 7 rfl)
theorem KOk.v_ListMatcher_init {K : Frag} (k : KOk K) : DfOk K 293 [.none, .none, .none, .none, .int 0, .none, .none, .none] := k.dfl _ (at_ 8 rfl)
theorem KOk.v_WrappingMatcher_init {K : Frag} (k : KOk K) : DfOk K 954 [.int 1] := k.dfl _ (at_ 9 rfl)
theorem KOk.v_FilterMatcher_init {K : Frag} (k : KOk K) : DfOk K 1110 [.bool false, .int 1] := k.dfl _ (at_ 10 rfl)
theorem KOk.v_InverseMatcher_init {K : Frag} (k : KOk K) : DfOk K 1188 [.none, .int 1, .int 0] := k.dfl _ (at_ 11 rfl)
theorem KOk.v_ConstantScoreWrapperMatcher_init {K : Frag} (k : KOk K) : DfOk K 1376 [.int 1] := k.dfl _ (at_ 12 rfl)
theorem KOk.v_ExcludeMatcher {K : Frag} (k : KOk K) : DfOk K 1094 [.int 1] := k.dfl _ (at_ 13 rfl)
theorem KOk.s_inter {K : Frag} (k : KOk K) : SupOk K cInter 613 631 f_BiMatcher_init := k.sup _ (at_ 0 rfl)
theorem KOk.s_andnot {K : Frag} (k : KOk K) : SupOk K cAndNot 712 730 f_BiMatcher_init := k.sup _ (at_ 1 rfl)
theorem KOk.s_filt {K : Frag} (k : KOk K) : SupOk K cFilt 1105 1117 f_WrappingMatcher_init := k.sup _ (at_ 2 rfl)
theorem KOk.s_inv {K : Frag} (k : KOk K) : SupOk K cInv 1183 1195 f_WrappingMatcher_init := k.sup _ (at_ 3 rfl)
theorem KOk.ci_add {K : Frag} (k : KOk K) : ClsInit K cAdd f_BiMatcher_init := k.cini _ (at_ 0 rfl)
theorem KOk.ci_wrap {K : Frag} (k : KOk K) : ClsInit K cWrap f_WrappingMatcher_init := k.cini _ (at_ 1 rfl)
theorem KOk.fn_law_leaf {K : Frag} (k : KOk K) : FnIsC K f_law_leaf rf_law_leaf.qual (defArgs rf_law_leaf.st) (defBody rf_law_leaf.st) (defScope rf_law_leaf.st) rf_law_leaf.cl rf_law_leaf.dV rf_law_leaf.cdv := k.cfn _ (at_ 0 rfl)
theorem KOk.fn_law_sum {K : Frag} (k : KOk K) : FnIsC K f_law_sum rf_law_sum.qual (defArgs rf_law_sum.st) (defBody rf_law_sum.st) (defScope rf_law_sum.st) rf_law_sum.cl rf_law_sum.dV rf_law_sum.cdv := k.cfn _ (at_ 1 rfl)
theorem KOk.fn_law_plain {K : Frag} (k : KOk K) : FnIsC K f_law_plain rf_law_plain.qual (defArgs rf_law_plain.st) (defBody rf_law_plain.st) (defScope rf_law_plain.st) rf_law_plain.cl rf_law_plain.dV rf_law_plain.cdv := k.cfn _ (at_ 2 rfl)
theorem KOk.fn_law_tree {K : Frag} (k : KOk K) : FnIsC K f_law_tree rf_law_tree.qual (defArgs rf_law_tree.st) (defBody rf_law_tree.st) (defScope rf_law_tree.st) rf_law_tree.cl rf_law_tree.dV rf_law_tree.cdv := k.cfn _ (at_ 3 rfl)
theorem KOk.fn_NullMatcherClass_is_active {K : Frag} (k : KOk K) : FnIs K f_NullMatcherClass_is_active rf_NullMatcherClass_is_active.qual (defArgs rf_NullMatcherClass_is_active.st) (defBody rf_NullMatcherClass_is_active.st) (defScope rf_NullMatcherClass_is_active.st) rf_NullMatcherClass_is_active.cl rf_NullMatcherClass_is_active.dV rf_NullMatcherClass_is_active.cdv := k.fn _ (at_ 0 rfl)
theorem KOk.fn_Matcher_replace {K : Frag} (k : KOk K) : FnIs K f_Matcher_replace rf_Matcher_replace.qual (defArgs rf_Matcher_replace.st) (defBody rf_Matcher_replace.st) (defScope rf_Matcher_replace.st) rf_Matcher_replace.cl rf_Matcher_replace.dV rf_Matcher_replace.cdv := k.fn _ (at_ 1 rfl)
theorem KOk.fn_NullMatcherClass_copy {K : Frag} (k : KOk K) : FnIs K f_NullMatcherClass_copy rf_NullMatcherClass_copy.qual (defArgs rf_NullMatcherClass_copy.st) (defBody rf_NullMatcherClass_copy.st) (defScope rf_NullMatcherClass_copy.st) rf_NullMatcherClass_copy.cl rf_NullMatcherClass_copy.dV rf_NullMatcherClass_copy.cdv := k.fn _ (at_ 2 rfl)
theorem KOk.fn_NullMatcherClass_max_quality {K : Frag} (k : KOk K) : FnIs K f_NullMatcherClass_max_quality rf_NullMatcherClass_max_quality.qual (defArgs rf_NullMatcherClass_max_quality.st) (defBody rf_NullMatcherClass_max_quality.st) (defScope rf_NullMatcherClass_max_quality.st) rf_NullMatcherClass_max_quality.cl rf_NullMatcherClass_max_quality.dV rf_NullMatcherClass_max_quality.cdv := k.fn _ (at_ 3 rfl)
theorem KOk.fn_ListMatcher_is_active {K : Frag} (k : KOk K) : FnIs K f_ListMatcher_is_active rf_ListMatcher_is_active.qual (defArgs rf_ListMatcher_is_active.st) (defBody rf_ListMatcher_is_active.st) (defScope rf_ListMatcher_is_active.st) rf_ListMatcher_is_active.cl rf_ListMatcher_is_active.dV rf_ListMatcher_is_active.cdv := k.fn _ (at_ 4 rfl)
theorem KOk.fn_ListMatcher_id {K : Frag} (k : KOk K) : FnIs K f_ListMatcher_id rf_ListMatcher_id.qual (defArgs rf_ListMatcher_id.st) (defBody rf_ListMatcher_id.st) (defScope rf_ListMatcher_id.st) rf_ListMatcher_id.cl rf_ListMatcher_id.dV rf_ListMatcher_id.cdv := k.fn _ (at_ 5 rfl)
theorem KOk.fn_ListMatcher_next {K : Frag} (k : KOk K) : FnIs K f_ListMatcher_next rf_ListMatcher_next.qual (defArgs rf_ListMatcher_next.st) (defBody rf_ListMatcher_next.st) (defScope rf_ListMatcher_next.st) rf_ListMatcher_next.cl rf_ListMatcher_next.dV rf_ListMatcher_next.cdv := k.fn _ (at_ 6 rfl)
theorem KOk.fn_ListMatcher_score {K : Frag} (k : KOk K) : FnIs K f_ListMatcher_score rf_ListMatcher_score.qual (defArgs rf_ListMatcher_score.st) (defBody rf_ListMatcher_score.st) (defScope rf_ListMatcher_score.st) rf_ListMatcher_score.cl rf_ListMatcher_score.dV rf_ListMatcher_score.cdv := k.fn _ (at_ 7 rfl)
theorem KOk.fn_ListMatcher_replace {K : Frag} (k : KOk K) : FnIs K f_ListMatcher_replace rf_ListMatcher_replace.qual (defArgs rf_ListMatcher_replace.st) (defBody rf_ListMatcher_replace.st) (defScope rf_ListMatcher_replace.st) rf_ListMatcher_replace.cl rf_ListMatcher_replace.dV rf_ListMatcher_replace.cdv := k.fn _ (at_ 8 rfl)
theorem KOk.fn_ListMatcher_copy {K : Frag} (k : KOk K) : FnIs K f_ListMatcher_copy rf_ListMatcher_copy.qual (defArgs rf_ListMatcher_copy.st) (defBody rf_ListMatcher_copy.st) (defScope rf_ListMatcher_copy.st) rf_ListMatcher_copy.cl rf_ListMatcher_copy.dV rf_ListMatcher_copy.cdv := k.fn _ (at_ 9 rfl)
theorem KOk.fn_ListMatcher_max_quality {K : Frag} (k : KOk K) : FnIs K f_ListMatcher_max_quality rf_ListMatcher_max_quality.qual (defArgs rf_ListMatcher_max_quality.st) (defBody rf_ListMatcher_max_quality.st) (defScope rf_ListMatcher_max_quality.st) rf_ListMatcher_max_quality.cl rf_ListMatcher_max_quality.dV rf_ListMatcher_max_quality.cdv := k.fn _ (at_ 10 rfl)
theorem KOk.fn_ListMatcher_skip_to {K : Frag} (k : KOk K) : FnIs K f_ListMatcher_skip_to rf_ListMatcher_skip_to.qual (defArgs rf_ListMatcher_skip_to.st) (defBody rf_ListMatcher_skip_to.st) (defScope rf_ListMatcher_skip_to.st) rf_ListMatcher_skip_to.cl rf_ListMatcher_skip_to.dV rf_ListMatcher_skip_to.cdv := k.fn _ (at_ 11 rfl)
theorem KOk.fn_ListMatcher_weight {K : Frag} (k : KOk K) : FnIs K f_ListMatcher_weight rf_ListMatcher_weight.qual (defArgs rf_ListMatcher_weight.st) (defBody rf_ListMatcher_weight.st) (defScope rf_ListMatcher_weight.st) rf_ListMatcher_weight.cl rf_ListMatcher_weight.dV rf_ListMatcher_weight.cdv := k.fn _ (at_ 12 rfl)
theorem KOk.fn_ListMatcher_block_max_weight {K : Frag} (k : KOk K) : FnIs K f_ListMatcher_block_max_weight rf_ListMatcher_block_max_weight.qual (defArgs rf_ListMatcher_block_max_weight.st) (defBody rf_ListMatcher_block_max_weight.st) (defScope rf_ListMatcher_block_max_weight.st) rf_ListMatcher_block_max_weight.cl rf_ListMatcher_block_max_weight.dV rf_ListMatcher_block_max_weight.cdv := k.fn _ (at_ 13 rfl)
theorem KOk.fn_UnionMatcher_is_active {K : Frag} (k : KOk K) : FnIs K f_UnionMatcher_is_active rf_UnionMatcher_is_active.qual (defArgs rf_UnionMatcher_is_active.st) (defBody rf_UnionMatcher_is_active.st) (defScope rf_UnionMatcher_is_active.st) rf_UnionMatcher_is_active.cl rf_UnionMatcher_is_active.dV rf_UnionMatcher_is_active.cdv := k.fn _ (at_ 14 rfl)
theorem KOk.fn_UnionMatcher_id {K : Frag} (k : KOk K) : FnIs K f_UnionMatcher_id rf_UnionMatcher_id.qual (defArgs rf_UnionMatcher_id.st) (defBody rf_UnionMatcher_id.st) (defScope rf_UnionMatcher_id.st) rf_UnionMatcher_id.cl rf_UnionMatcher_id.dV rf_UnionMatcher_id.cdv := k.fn _ (at_ 15 rfl)
theorem KOk.fn_UnionMatcher_next {K : Frag} (k : KOk K) : FnIs K f_UnionMatcher_next rf_UnionMatcher_next.qual (defArgs rf_UnionMatcher_next.st) (defBody rf_UnionMatcher_next.st) (defScope rf_UnionMatcher_next.st) rf_UnionMatcher_next.cl rf_UnionMatcher_next.dV rf_UnionMatcher_next.cdv := k.fn _ (at_ 16 rfl)
theorem KOk.fn_UnionMatcher_score {K : Frag} (k : KOk K) : FnIs K f_UnionMatcher_score rf_UnionMatcher_score.qual (defArgs rf_UnionMatcher_score.st) (defBody rf_UnionMatcher_score.st) (defScope rf_UnionMatcher_score.st) rf_UnionMatcher_score.cl rf_UnionMatcher_score.dV rf_UnionMatcher_score.cdv := k.fn _ (at_ 17 rfl)
theorem KOk.fn_UnionMatcher_replace {K : Frag} (k : KOk K) : FnIs K f_UnionMatcher_replace rf_UnionMatcher_replace.qual (defArgs rf_UnionMatcher_replace.st) (defBody rf_UnionMatcher_replace.st) (defScope rf_UnionMatcher_replace.st) rf_UnionMatcher_replace.cl rf_UnionMatcher_replace.dV rf_UnionMatcher_replace.cdv := k.fn _ (at_ 18 rfl)
theorem KOk.fn_BiMatcher_copy {K : Frag} (k : KOk K) : FnIs K f_BiMatcher_copy rf_BiMatcher_copy.qual (defArgs rf_BiMatcher_copy.st) (defBody rf_BiMatcher_copy.st) (defScope rf_BiMatcher_copy.st) rf_BiMatcher_copy.cl rf_BiMatcher_copy.dV rf_BiMatcher_copy.cdv := k.fn _ (at_ 19 rfl)
theorem KOk.fn_AdditiveBiMatcher_max_quality {K : Frag} (k : KOk K) : FnIs K f_AdditiveBiMatcher_max_quality rf_AdditiveBiMatcher_max_quality.qual (defArgs rf_AdditiveBiMatcher_max_quality.st) (defBody rf_AdditiveBiMatcher_max_quality.st) (defScope rf_AdditiveBiMatcher_max_quality.st) rf_AdditiveBiMatcher_max_quality.cl rf_AdditiveBiMatcher_max_quality.dV rf_AdditiveBiMatcher_max_quality.cdv := k.fn _ (at_ 20 rfl)
theorem KOk.fn_UnionMatcher_skip_to {K : Frag} (k : KOk K) : FnIs K f_UnionMatcher_skip_to rf_UnionMatcher_skip_to.qual (defArgs rf_UnionMatcher_skip_to.st) (defBody rf_UnionMatcher_skip_to.st) (defScope rf_UnionMatcher_skip_to.st) rf_UnionMatcher_skip_to.cl rf_UnionMatcher_skip_to.dV rf_UnionMatcher_skip_to.cdv := k.fn _ (at_ 21 rfl)
theorem KOk.fn_UnionMatcher_made {K : Frag} (k : KOk K) : FnIs K f_UnionMatcher_made rf_UnionMatcher_made.qual (defArgs rf_UnionMatcher_made.st) (defBody rf_UnionMatcher_made.st) (defScope rf_UnionMatcher_made.st) rf_UnionMatcher_made.cl rf_UnionMatcher_made.dV rf_UnionMatcher_made.cdv := k.fn _ (at_ 22 rfl)
theorem KOk.fn_IntersectionMatcher_is_active {K : Frag} (k : KOk K) : FnIs K f_IntersectionMatcher_is_active rf_IntersectionMatcher_is_active.qual (defArgs rf_IntersectionMatcher_is_active.st) (defBody rf_IntersectionMatcher_is_active.st) (defScope rf_IntersectionMatcher_is_active.st) rf_IntersectionMatcher_is_active.cl rf_IntersectionMatcher_is_active.dV rf_IntersectionMatcher_is_active.cdv := k.fn _ (at_ 23 rfl)
theorem KOk.fn_IntersectionMatcher_id {K : Frag} (k : KOk K) : FnIs K f_IntersectionMatcher_id rf_IntersectionMatcher_id.qual (defArgs rf_IntersectionMatcher_id.st) (defBody rf_IntersectionMatcher_id.st) (defScope rf_IntersectionMatcher_id.st) rf_IntersectionMatcher_id.cl rf_IntersectionMatcher_id.dV rf_IntersectionMatcher_id.cdv := k.fn _ (at_ 24 rfl)
theorem KOk.fn_IntersectionMatcher_next {K : Frag} (k : KOk K) : FnIs K f_IntersectionMatcher_next rf_IntersectionMatcher_next.qual (defArgs rf_IntersectionMatcher_next.st) (defBody rf_IntersectionMatcher_next.st) (defScope rf_IntersectionMatcher_next.st) rf_IntersectionMatcher_next.cl rf_IntersectionMatcher_next.dV rf_IntersectionMatcher_next.cdv := k.fn _ (at_ 25 rfl)
theorem KOk.fn_AdditiveBiMatcher_score {K : Frag} (k : KOk K) : FnIs K f_AdditiveBiMatcher_score rf_AdditiveBiMatcher_score.qual (defArgs rf_AdditiveBiMatcher_score.st) (defBody rf_AdditiveBiMatcher_score.st) (defScope rf_AdditiveBiMatcher_score.st) rf_AdditiveBiMatcher_score.cl rf_AdditiveBiMatcher_score.dV rf_AdditiveBiMatcher_score.cdv := k.fn _ (at_ 26 rfl)
theorem KOk.fn_IntersectionMatcher_replace {K : Frag} (k : KOk K) : FnIs K f_IntersectionMatcher_replace rf_IntersectionMatcher_replace.qual (defArgs rf_IntersectionMatcher_replace.st) (defBody rf_IntersectionMatcher_replace.st) (defScope rf_IntersectionMatcher_replace.st) rf_IntersectionMatcher_replace.cl rf_IntersectionMatcher_replace.dV rf_IntersectionMatcher_replace.cdv := k.fn _ (at_ 27 rfl)
theorem KOk.fn_IntersectionMatcher_skip_to {K : Frag} (k : KOk K) : FnIs K f_IntersectionMatcher_skip_to rf_IntersectionMatcher_skip_to.qual (defArgs rf_IntersectionMatcher_skip_to.st) (defBody rf_IntersectionMatcher_skip_to.st) (defScope rf_IntersectionMatcher_skip_to.st) rf_IntersectionMatcher_skip_to.cl rf_IntersectionMatcher_skip_to.dV rf_IntersectionMatcher_skip_to.cdv := k.fn _ (at_ 28 rfl)
theorem KOk.fn_IntersectionMatcher_made {K : Frag} (k : KOk K) : FnIs K f_IntersectionMatcher_made rf_IntersectionMatcher_made.qual (defArgs rf_IntersectionMatcher_made.st) (defBody rf_IntersectionMatcher_made.st) (defScope rf_IntersectionMatcher_made.st) rf_IntersectionMatcher_made.cl rf_IntersectionMatcher_made.dV rf_IntersectionMatcher_made.cdv := k.fn _ (at_ 29 rfl)
theorem KOk.fn_IntersectionMatcher_find_first {K : Frag} (k : KOk K) : FnIs K f_IntersectionMatcher_find_first rf_IntersectionMatcher_find_first.qual (defArgs rf_IntersectionMatcher_find_first.st) (defBody rf_IntersectionMatcher_find_first.st) (defScope rf_IntersectionMatcher_find_first.st) rf_IntersectionMatcher_find_first.cl rf_IntersectionMatcher_find_first.dV rf_IntersectionMatcher_find_first.cdv := k.fn _ (at_ 30 rfl)
theorem KOk.fn_IntersectionMatcher_find_next {K : Frag} (k : KOk K) : FnIs K f_IntersectionMatcher_find_next rf_IntersectionMatcher_find_next.qual (defArgs rf_IntersectionMatcher_find_next.st) (defBody rf_IntersectionMatcher_find_next.st) (defScope rf_IntersectionMatcher_find_next.st) rf_IntersectionMatcher_find_next.cl rf_IntersectionMatcher_find_next.dV rf_IntersectionMatcher_find_next.cdv := k.fn _ (at_ 31 rfl)
theorem KOk.fn_AndNotMatcher_is_active {K : Frag} (k : KOk K) : FnIs K f_AndNotMatcher_is_active rf_AndNotMatcher_is_active.qual (defArgs rf_AndNotMatcher_is_active.st) (defBody rf_AndNotMatcher_is_active.st) (defScope rf_AndNotMatcher_is_active.st) rf_AndNotMatcher_is_active.cl rf_AndNotMatcher_is_active.dV rf_AndNotMatcher_is_active.cdv := k.fn _ (at_ 32 rfl)
theorem KOk.fn_AndNotMatcher_id {K : Frag} (k : KOk K) : FnIs K f_AndNotMatcher_id rf_AndNotMatcher_id.qual (defArgs rf_AndNotMatcher_id.st) (defBody rf_AndNotMatcher_id.st) (defScope rf_AndNotMatcher_id.st) rf_AndNotMatcher_id.cl rf_AndNotMatcher_id.dV rf_AndNotMatcher_id.cdv := k.fn _ (at_ 33 rfl)
theorem KOk.fn_AndNotMatcher_next {K : Frag} (k : KOk K) : FnIs K f_AndNotMatcher_next rf_AndNotMatcher_next.qual (defArgs rf_AndNotMatcher_next.st) (defBody rf_AndNotMatcher_next.st) (defScope rf_AndNotMatcher_next.st) rf_AndNotMatcher_next.cl rf_AndNotMatcher_next.dV rf_AndNotMatcher_next.cdv := k.fn _ (at_ 34 rfl)
theorem KOk.fn_AndNotMatcher_score {K : Frag} (k : KOk K) : FnIs K f_AndNotMatcher_score rf_AndNotMatcher_score.qual (defArgs rf_AndNotMatcher_score.st) (defBody rf_AndNotMatcher_score.st) (defScope rf_AndNotMatcher_score.st) rf_AndNotMatcher_score.cl rf_AndNotMatcher_score.dV rf_AndNotMatcher_score.cdv := k.fn _ (at_ 35 rfl)
theorem KOk.fn_AndNotMatcher_replace {K : Frag} (k : KOk K) : FnIs K f_AndNotMatcher_replace rf_AndNotMatcher_replace.qual (defArgs rf_AndNotMatcher_replace.st) (defBody rf_AndNotMatcher_replace.st) (defScope rf_AndNotMatcher_replace.st) rf_AndNotMatcher_replace.cl rf_AndNotMatcher_replace.dV rf_AndNotMatcher_replace.cdv := k.fn _ (at_ 36 rfl)
theorem KOk.fn_AndNotMatcher_max_quality {K : Frag} (k : KOk K) : FnIs K f_AndNotMatcher_max_quality rf_AndNotMatcher_max_quality.qual (defArgs rf_AndNotMatcher_max_quality.st) (defBody rf_AndNotMatcher_max_quality.st) (defScope rf_AndNotMatcher_max_quality.st) rf_AndNotMatcher_max_quality.cl rf_AndNotMatcher_max_quality.dV rf_AndNotMatcher_max_quality.cdv := k.fn _ (at_ 37 rfl)
theorem KOk.fn_AndNotMatcher_made {K : Frag} (k : KOk K) : FnIs K f_AndNotMatcher_made rf_AndNotMatcher_made.qual (defArgs rf_AndNotMatcher_made.st) (defBody rf_AndNotMatcher_made.st) (defScope rf_AndNotMatcher_made.st) rf_AndNotMatcher_made.cl rf_AndNotMatcher_made.dV rf_AndNotMatcher_made.cdv := k.fn _ (at_ 38 rfl)
theorem KOk.fn_AndNotMatcher_find_first {K : Frag} (k : KOk K) : FnIs K f_AndNotMatcher_find_first rf_AndNotMatcher_find_first.qual (defArgs rf_AndNotMatcher_find_first.st) (defBody rf_AndNotMatcher_find_first.st) (defScope rf_AndNotMatcher_find_first.st) rf_AndNotMatcher_find_first.cl rf_AndNotMatcher_find_first.dV rf_AndNotMatcher_find_first.cdv := k.fn _ (at_ 39 rfl)
theorem KOk.fn_AndNotMatcher_find_next {K : Frag} (k : KOk K) : FnIs K f_AndNotMatcher_find_next rf_AndNotMatcher_find_next.qual (defArgs rf_AndNotMatcher_find_next.st) (defBody rf_AndNotMatcher_find_next.st) (defScope rf_AndNotMatcher_find_next.st) rf_AndNotMatcher_find_next.cl rf_AndNotMatcher_find_next.dV rf_AndNotMatcher_find_next.cdv := k.fn _ (at_ 40 rfl)
theorem KOk.fn_AndMaybeMatcher_is_active {K : Frag} (k : KOk K) : FnIs K f_AndMaybeMatcher_is_active rf_AndMaybeMatcher_is_active.qual (defArgs rf_AndMaybeMatcher_is_active.st) (defBody rf_AndMaybeMatcher_is_active.st) (defScope rf_AndMaybeMatcher_is_active.st) rf_AndMaybeMatcher_is_active.cl rf_AndMaybeMatcher_is_active.dV rf_AndMaybeMatcher_is_active.cdv := k.fn _ (at_ 41 rfl)
theorem KOk.fn_AndMaybeMatcher_id {K : Frag} (k : KOk K) : FnIs K f_AndMaybeMatcher_id rf_AndMaybeMatcher_id.qual (defArgs rf_AndMaybeMatcher_id.st) (defBody rf_AndMaybeMatcher_id.st) (defScope rf_AndMaybeMatcher_id.st) rf_AndMaybeMatcher_id.cl rf_AndMaybeMatcher_id.dV rf_AndMaybeMatcher_id.cdv := k.fn _ (at_ 42 rfl)
theorem KOk.fn_AndMaybeMatcher_next {K : Frag} (k : KOk K) : FnIs K f_AndMaybeMatcher_next rf_AndMaybeMatcher_next.qual (defArgs rf_AndMaybeMatcher_next.st) (defBody rf_AndMaybeMatcher_next.st) (defScope rf_AndMaybeMatcher_next.st) rf_AndMaybeMatcher_next.cl rf_AndMaybeMatcher_next.dV rf_AndMaybeMatcher_next.cdv := k.fn _ (at_ 43 rfl)
theorem KOk.fn_AndMaybeMatcher_score {K : Frag} (k : KOk K) : FnIs K f_AndMaybeMatcher_score rf_AndMaybeMatcher_score.qual (defArgs rf_AndMaybeMatcher_score.st) (defBody rf_AndMaybeMatcher_score.st) (defScope rf_AndMaybeMatcher_score.st) rf_AndMaybeMatcher_score.cl rf_AndMaybeMatcher_score.dV rf_AndMaybeMatcher_score.cdv := k.fn _ (at_ 44 rfl)
theorem KOk.fn_AndMaybeMatcher_replace {K : Frag} (k : KOk K) : FnIs K f_AndMaybeMatcher_replace rf_AndMaybeMatcher_replace.qual (defArgs rf_AndMaybeMatcher_replace.st) (defBody rf_AndMaybeMatcher_replace.st) (defScope rf_AndMaybeMatcher_replace.st) rf_AndMaybeMatcher_replace.cl rf_AndMaybeMatcher_replace.dV rf_AndMaybeMatcher_replace.cdv := k.fn _ (at_ 45 rfl)
theorem KOk.fn_AndMaybeMatcher_made {K : Frag} (k : KOk K) : FnIs K f_AndMaybeMatcher_made rf_AndMaybeMatcher_made.qual (defArgs rf_AndMaybeMatcher_made.st) (defBody rf_AndMaybeMatcher_made.st) (defScope rf_AndMaybeMatcher_made.st) rf_AndMaybeMatcher_made.cl rf_AndMaybeMatcher_made.dV rf_AndMaybeMatcher_made.cdv := k.fn _ (at_ 46 rfl)
theorem KOk.fn_AndMaybeMatcher_first_b {K : Frag} (k : KOk K) : FnIs K f_AndMaybeMatcher_first_b rf_AndMaybeMatcher_first_b.qual (defArgs rf_AndMaybeMatcher_first_b.st) (defBody rf_AndMaybeMatcher_first_b.st) (defScope rf_AndMaybeMatcher_first_b.st) rf_AndMaybeMatcher_first_b.cl rf_AndMaybeMatcher_first_b.dV rf_AndMaybeMatcher_first_b.cdv := k.fn _ (at_ 47 rfl)
theorem KOk.fn_WrappingMatcher_is_active {K : Frag} (k : KOk K) : FnIs K f_WrappingMatcher_is_active rf_WrappingMatcher_is_active.qual (defArgs rf_WrappingMatcher_is_active.st) (defBody rf_WrappingMatcher_is_active.st) (defScope rf_WrappingMatcher_is_active.st) rf_WrappingMatcher_is_active.cl rf_WrappingMatcher_is_active.dV rf_WrappingMatcher_is_active.cdv := k.fn _ (at_ 48 rfl)
theorem KOk.fn_WrappingMatcher_id {K : Frag} (k : KOk K) : FnIs K f_WrappingMatcher_id rf_WrappingMatcher_id.qual (defArgs rf_WrappingMatcher_id.st) (defBody rf_WrappingMatcher_id.st) (defScope rf_WrappingMatcher_id.st) rf_WrappingMatcher_id.cl rf_WrappingMatcher_id.dV rf_WrappingMatcher_id.cdv := k.fn _ (at_ 49 rfl)
theorem KOk.fn_WrappingMatcher_next {K : Frag} (k : KOk K) : FnIs K f_WrappingMatcher_next rf_WrappingMatcher_next.qual (defArgs rf_WrappingMatcher_next.st) (defBody rf_WrappingMatcher_next.st) (defScope rf_WrappingMatcher_next.st) rf_WrappingMatcher_next.cl rf_WrappingMatcher_next.dV rf_WrappingMatcher_next.cdv := k.fn _ (at_ 50 rfl)
theorem KOk.fn_WrappingMatcher_score {K : Frag} (k : KOk K) : FnIs K f_WrappingMatcher_score rf_WrappingMatcher_score.qual (defArgs rf_WrappingMatcher_score.st) (defBody rf_WrappingMatcher_score.st) (defScope rf_WrappingMatcher_score.st) rf_WrappingMatcher_score.cl rf_WrappingMatcher_score.dV rf_WrappingMatcher_score.cdv := k.fn _ (at_ 51 rfl)
theorem KOk.fn_WrappingMatcher_replace {K : Frag} (k : KOk K) : FnIs K f_WrappingMatcher_replace rf_WrappingMatcher_replace.qual (defArgs rf_WrappingMatcher_replace.st) (defBody rf_WrappingMatcher_replace.st) (defScope rf_WrappingMatcher_replace.st) rf_WrappingMatcher_replace.cl rf_WrappingMatcher_replace.dV rf_WrappingMatcher_replace.cdv := k.fn _ (at_ 52 rfl)
theorem KOk.fn_WrappingMatcher_copy {K : Frag} (k : KOk K) : FnIs K f_WrappingMatcher_copy rf_WrappingMatcher_copy.qual (defArgs rf_WrappingMatcher_copy.st) (defBody rf_WrappingMatcher_copy.st) (defScope rf_WrappingMatcher_copy.st) rf_WrappingMatcher_copy.cl rf_WrappingMatcher_copy.dV rf_WrappingMatcher_copy.cdv := k.fn _ (at_ 53 rfl)
theorem KOk.fn_WrappingMatcher_max_quality {K : Frag} (k : KOk K) : FnIs K f_WrappingMatcher_max_quality rf_WrappingMatcher_max_quality.qual (defArgs rf_WrappingMatcher_max_quality.st) (defBody rf_WrappingMatcher_max_quality.st) (defScope rf_WrappingMatcher_max_quality.st) rf_WrappingMatcher_max_quality.cl rf_WrappingMatcher_max_quality.dV rf_WrappingMatcher_max_quality.cdv := k.fn _ (at_ 54 rfl)
theorem KOk.fn_WrappingMatcher_skip_to {K : Frag} (k : KOk K) : FnIs K f_WrappingMatcher_skip_to rf_WrappingMatcher_skip_to.qual (defArgs rf_WrappingMatcher_skip_to.st) (defBody rf_WrappingMatcher_skip_to.st) (defScope rf_WrappingMatcher_skip_to.st) rf_WrappingMatcher_skip_to.cl rf_WrappingMatcher_skip_to.dV rf_WrappingMatcher_skip_to.cdv := k.fn _ (at_ 55 rfl)
theorem KOk.fn_WrappingMatcher_replacement {K : Frag} (k : KOk K) : FnIs K f_WrappingMatcher_replacement rf_WrappingMatcher_replacement.qual (defArgs rf_WrappingMatcher_replacement.st) (defBody rf_WrappingMatcher_replacement.st) (defScope rf_WrappingMatcher_replacement.st) rf_WrappingMatcher_replacement.cl rf_WrappingMatcher_replacement.dV rf_WrappingMatcher_replacement.cdv := k.fn _ (at_ 56 rfl)
theorem KOk.fn_FilterMatcher_next {K : Frag} (k : KOk K) : FnIs K f_FilterMatcher_next rf_FilterMatcher_next.qual (defArgs rf_FilterMatcher_next.st) (defBody rf_FilterMatcher_next.st) (defScope rf_FilterMatcher_next.st) rf_FilterMatcher_next.cl rf_FilterMatcher_next.dV rf_FilterMatcher_next.cdv := k.fn _ (at_ 57 rfl)
theorem KOk.fn_FilterMatcher_copy {K : Frag} (k : KOk K) : FnIs K f_FilterMatcher_copy rf_FilterMatcher_copy.qual (defArgs rf_FilterMatcher_copy.st) (defBody rf_FilterMatcher_copy.st) (defScope rf_FilterMatcher_copy.st) rf_FilterMatcher_copy.cl rf_FilterMatcher_copy.dV rf_FilterMatcher_copy.cdv := k.fn _ (at_ 58 rfl)
theorem KOk.fn_FilterMatcher_replacement {K : Frag} (k : KOk K) : FnIs K f_FilterMatcher_replacement rf_FilterMatcher_replacement.qual (defArgs rf_FilterMatcher_replacement.st) (defBody rf_FilterMatcher_replacement.st) (defScope rf_FilterMatcher_replacement.st) rf_FilterMatcher_replacement.cl rf_FilterMatcher_replacement.dV rf_FilterMatcher_replacement.cdv := k.fn _ (at_ 59 rfl)
theorem KOk.fn_FilterMatcher_find_next {K : Frag} (k : KOk K) : FnIs K f_FilterMatcher_find_next rf_FilterMatcher_find_next.qual (defArgs rf_FilterMatcher_find_next.st) (defBody rf_FilterMatcher_find_next.st) (defScope rf_FilterMatcher_find_next.st) rf_FilterMatcher_find_next.cl rf_FilterMatcher_find_next.dV rf_FilterMatcher_find_next.cdv := k.fn _ (at_ 60 rfl)
theorem KOk.fn_InverseMatcher_is_active {K : Frag} (k : KOk K) : FnIs K f_InverseMatcher_is_active rf_InverseMatcher_is_active.qual (defArgs rf_InverseMatcher_is_active.st) (defBody rf_InverseMatcher_is_active.st) (defScope rf_InverseMatcher_is_active.st) rf_InverseMatcher_is_active.cl rf_InverseMatcher_is_active.dV rf_InverseMatcher_is_active.cdv := k.fn _ (at_ 61 rfl)
theorem KOk.fn_InverseMatcher_id {K : Frag} (k : KOk K) : FnIs K f_InverseMatcher_id rf_InverseMatcher_id.qual (defArgs rf_InverseMatcher_id.st) (defBody rf_InverseMatcher_id.st) (defScope rf_InverseMatcher_id.st) rf_InverseMatcher_id.cl rf_InverseMatcher_id.dV rf_InverseMatcher_id.cdv := k.fn _ (at_ 62 rfl)
theorem KOk.fn_InverseMatcher_next {K : Frag} (k : KOk K) : FnIs K f_InverseMatcher_next rf_InverseMatcher_next.qual (defArgs rf_InverseMatcher_next.st) (defBody rf_InverseMatcher_next.st) (defScope rf_InverseMatcher_next.st) rf_InverseMatcher_next.cl rf_InverseMatcher_next.dV rf_InverseMatcher_next.cdv := k.fn _ (at_ 63 rfl)
theorem KOk.fn_InverseMatcher_score {K : Frag} (k : KOk K) : FnIs K f_InverseMatcher_score rf_InverseMatcher_score.qual (defArgs rf_InverseMatcher_score.st) (defBody rf_InverseMatcher_score.st) (defScope rf_InverseMatcher_score.st) rf_InverseMatcher_score.cl rf_InverseMatcher_score.dV rf_InverseMatcher_score.cdv := k.fn _ (at_ 64 rfl)
theorem KOk.fn_InverseMatcher_copy {K : Frag} (k : KOk K) : FnIs K f_InverseMatcher_copy rf_InverseMatcher_copy.qual (defArgs rf_InverseMatcher_copy.st) (defBody rf_InverseMatcher_copy.st) (defScope rf_InverseMatcher_copy.st) rf_InverseMatcher_copy.cl rf_InverseMatcher_copy.dV rf_InverseMatcher_copy.cdv := k.fn _ (at_ 65 rfl)
theorem KOk.fn_InverseMatcher_skip_to {K : Frag} (k : KOk K) : FnIs K f_InverseMatcher_skip_to rf_InverseMatcher_skip_to.qual (defArgs rf_InverseMatcher_skip_to.st) (defBody rf_InverseMatcher_skip_to.st) (defScope rf_InverseMatcher_skip_to.st) rf_InverseMatcher_skip_to.cl rf_InverseMatcher_skip_to.dV rf_InverseMatcher_skip_to.cdv := k.fn _ (at_ 66 rfl)
theorem KOk.fn_InverseMatcher_replacement {K : Frag} (k : KOk K) : FnIs K f_InverseMatcher_replacement rf_InverseMatcher_replacement.qual (defArgs rf_InverseMatcher_replacement.st) (defBody rf_InverseMatcher_replacement.st) (defScope rf_InverseMatcher_replacement.st) rf_InverseMatcher_replacement.cl rf_InverseMatcher_replacement.dV rf_InverseMatcher_replacement.cdv := k.fn _ (at_ 67 rfl)
theorem KOk.fn_InverseMatcher_find_next {K : Frag} (k : KOk K) : FnIs K f_InverseMatcher_find_next rf_InverseMatcher_find_next.qual (defArgs rf_InverseMatcher_find_next.st) (defBody rf_InverseMatcher_find_next.st) (defScope rf_InverseMatcher_find_next.st) rf_InverseMatcher_find_next.cl rf_InverseMatcher_find_next.dV rf_InverseMatcher_find_next.cdv := k.fn _ (at_ 68 rfl)
theorem KOk.fn_RequireMatcher_score {K : Frag} (k : KOk K) : FnIs K f_RequireMatcher_score rf_RequireMatcher_score.qual (defArgs rf_RequireMatcher_score.st) (defBody rf_RequireMatcher_score.st) (defScope rf_RequireMatcher_score.st) rf_RequireMatcher_score.cl rf_RequireMatcher_score.dV rf_RequireMatcher_score.cdv := k.fn _ (at_ 69 rfl)
theorem KOk.fn_RequireMatcher_replace {K : Frag} (k : KOk K) : FnIs K f_RequireMatcher_replace rf_RequireMatcher_replace.qual (defArgs rf_RequireMatcher_replace.st) (defBody rf_RequireMatcher_replace.st) (defScope rf_RequireMatcher_replace.st) rf_RequireMatcher_replace.cl rf_RequireMatcher_replace.dV rf_RequireMatcher_replace.cdv := k.fn _ (at_ 70 rfl)
theorem KOk.fn_RequireMatcher_copy {K : Frag} (k : KOk K) : FnIs K f_RequireMatcher_copy rf_RequireMatcher_copy.qual (defArgs rf_RequireMatcher_copy.st) (defBody rf_RequireMatcher_copy.st) (defScope rf_RequireMatcher_copy.st) rf_RequireMatcher_copy.cl rf_RequireMatcher_copy.dV rf_RequireMatcher_copy.cdv := k.fn _ (at_ 71 rfl)
theorem KOk.fn_RequireMatcher_max_quality {K : Frag} (k : KOk K) : FnIs K f_RequireMatcher_max_quality rf_RequireMatcher_max_quality.qual (defArgs rf_RequireMatcher_max_quality.st) (defBody rf_RequireMatcher_max_quality.st) (defScope rf_RequireMatcher_max_quality.st) rf_RequireMatcher_max_quality.cl rf_RequireMatcher_max_quality.dV rf_RequireMatcher_max_quality.cdv := k.fn _ (at_ 72 rfl)
theorem KOk.fn_ConstantScoreWrapperMatcher_score {K : Frag} (k : KOk K) : FnIs K f_ConstantScoreWrapperMatcher_score rf_ConstantScoreWrapperMatcher_score.qual (defArgs rf_ConstantScoreWrapperMatcher_score.st) (defBody rf_ConstantScoreWrapperMatcher_score.st) (defScope rf_ConstantScoreWrapperMatcher_score.st) rf_ConstantScoreWrapperMatcher_score.cl rf_ConstantScoreWrapperMatcher_score.dV rf_ConstantScoreWrapperMatcher_score.cdv := k.fn _ (at_ 73 rfl)
theorem KOk.fn_ConstantScoreWrapperMatcher_copy {K : Frag} (k : KOk K) : FnIs K f_ConstantScoreWrapperMatcher_copy rf_ConstantScoreWrapperMatcher_copy.qual (defArgs rf_ConstantScoreWrapperMatcher_copy.st) (defBody rf_ConstantScoreWrapperMatcher_copy.st) (defScope rf_ConstantScoreWrapperMatcher_copy.st) rf_ConstantScoreWrapperMatcher_copy.cl rf_ConstantScoreWrapperMatcher_copy.dV rf_ConstantScoreWrapperMatcher_copy.cdv := k.fn _ (at_ 74 rfl)
theorem KOk.fn_ConstantScoreWrapperMatcher_max_quality {K : Frag} (k : KOk K) : FnIs K f_ConstantScoreWrapperMatcher_max_quality rf_ConstantScoreWrapperMatcher_max_quality.qual (defArgs rf_ConstantScoreWrapperMatcher_max_quality.st) (defBody rf_ConstantScoreWrapperMatcher_max_quality.st) (defScope rf_ConstantScoreWrapperMatcher_max_quality.st) rf_ConstantScoreWrapperMatcher_max_quality.cl rf_ConstantScoreWrapperMatcher_max_quality.dV rf_ConstantScoreWrapperMatcher_max_quality.cdv := k.fn _ (at_ 75 rfl)
theorem KOk.fn_ConstantScoreWrapperMatcher_replacement {K : Frag} (k : KOk K) : FnIs K f_ConstantScoreWrapperMatcher_replacement rf_ConstantScoreWrapperMatcher_replacement.qual (defArgs rf_ConstantScoreWrapperMatcher_replacement.st) (defBody rf_ConstantScoreWrapperMatcher_replacement.st) (defScope rf_ConstantScoreWrapperMatcher_replacement.st) rf_ConstantScoreWrapperMatcher_replacement.cl rf_ConstantScoreWrapperMatcher_replacement.dV rf_ConstantScoreWrapperMatcher_replacement.cdv := k.fn _ (at_ 76 rfl)
theorem KOk.fn_ListMatcher_init {K : Frag} (k : KOk K) : FnIs K f_ListMatcher_init rf_ListMatcher_init.qual (defArgs rf_ListMatcher_init.st) (defBody rf_ListMatcher_init.st) (defScope rf_ListMatcher_init.st) rf_ListMatcher_init.cl rf_ListMatcher_init.dV rf_ListMatcher_init.cdv := k.fn _ (at_ 77 rfl)
theorem KOk.fn_BiMatcher_init {K : Frag} (k : KOk K) : FnIs K f_BiMatcher_init rf_BiMatcher_init.qual (defArgs rf_BiMatcher_init.st) (defBody rf_BiMatcher_init.st) (defScope rf_BiMatcher_init.st) rf_BiMatcher_init.cl rf_BiMatcher_init.dV rf_BiMatcher_init.cdv := k.fn _ (at_ 78 rfl)
theorem KOk.fn_IntersectionMatcher_init {K : Frag} (k : KOk K) : FnIs K f_IntersectionMatcher_init rf_IntersectionMatcher_init.qual (defArgs rf_IntersectionMatcher_init.st) (defBody rf_IntersectionMatcher_init.st) (defScope rf_IntersectionMatcher_init.st) rf_IntersectionMatcher_init.cl rf_IntersectionMatcher_init.dV rf_IntersectionMatcher_init.cdv := k.fn _ (at_ 79 rfl)
theorem KOk.fn_AndNotMatcher_init {K : Frag} (k : KOk K) : FnIs K f_AndNotMatcher_init rf_AndNotMatcher_init.qual (defArgs rf_AndNotMatcher_init.st) (defBody rf_AndNotMatcher_init.st) (defScope rf_AndNotMatcher_init.st) rf_AndNotMatcher_init.cl rf_AndNotMatcher_init.dV rf_AndNotMatcher_init.cdv := k.fn _ (at_ 80 rfl)
theorem KOk.fn_AndMaybeMatcher_init {K : Frag} (k : KOk K) : FnIs K f_AndMaybeMatcher_init rf_AndMaybeMatcher_init.qual (defArgs rf_AndMaybeMatcher_init.st) (defBody rf_AndMaybeMatcher_init.st) (defScope rf_AndMaybeMatcher_init.st) rf_AndMaybeMatcher_init.cl rf_AndMaybeMatcher_init.dV rf_AndMaybeMatcher_init.cdv := k.fn _ (at_ 81 rfl)
theorem KOk.fn_WrappingMatcher_init {K : Frag} (k : KOk K) : FnIs K f_WrappingMatcher_init rf_WrappingMatcher_init.qual (defArgs rf_WrappingMatcher_init.st) (defBody rf_WrappingMatcher_init.st) (defScope rf_WrappingMatcher_init.st) rf_WrappingMatcher_init.cl rf_WrappingMatcher_init.dV rf_WrappingMatcher_init.cdv := k.fn _ (at_ 82 rfl)
theorem KOk.fn_FilterMatcher_init {K : Frag} (k : KOk K) : FnIs K f_FilterMatcher_init rf_FilterMatcher_init.qual (defArgs rf_FilterMatcher_init.st) (defBody rf_FilterMatcher_init.st) (defScope rf_FilterMatcher_init.st) rf_FilterMatcher_init.cl rf_FilterMatcher_init.dV rf_FilterMatcher_init.cdv := k.fn _ (at_ 83 rfl)
theorem KOk.fn_InverseMatcher_init {K : Frag} (k : KOk K) : FnIs K f_InverseMatcher_init rf_InverseMatcher_init.qual (defArgs rf_InverseMatcher_init.st) (defBody rf_InverseMatcher_init.st) (defScope rf_InverseMatcher_init.st) rf_InverseMatcher_init.cl rf_InverseMatcher_init.dV rf_InverseMatcher_init.cdv := k.fn _ (at_ 84 rfl)
theorem KOk.fn_RequireMatcher_init {K : Frag} (k : KOk K) : FnIs K f_RequireMatcher_init rf_RequireMatcher_init.qual (defArgs rf_RequireMatcher_init.st) (defBody rf_RequireMatcher_init.st) (defScope rf_RequireMatcher_init.st) rf_RequireMatcher_init.cl rf_RequireMatcher_init.dV rf_RequireMatcher_init.cdv := k.fn _ (at_ 85 rfl)
theorem KOk.fn_ConstantScoreWrapperMatcher_init {K : Frag} (k : KOk K) : FnIs K f_ConstantScoreWrapperMatcher_init rf_ConstantScoreWrapperMatcher_init.qual (defArgs rf_ConstantScoreWrapperMatcher_init.st) (defBody rf_ConstantScoreWrapperMatcher_init.st) (defScope rf_ConstantScoreWrapperMatcher_init.st) rf_ConstantScoreWrapperMatcher_init.cl rf_ConstantScoreWrapperMatcher_init.dV rf_ConstantScoreWrapperMatcher_init.cdv := k.fn _ (at_ 86 rfl)
theorem KOk.fn_NullMatcher {K : Frag} (k : KOk K) : FnIs K f_NullMatcher rf_NullMatcher.qual (defArgs rf_NullMatcher.st) (defBody rf_NullMatcher.st) (defScope rf_NullMatcher.st) rf_NullMatcher.cl rf_NullMatcher.dV rf_NullMatcher.cdv := k.fn _ (at_ 87 rfl)
theorem KOk.fn_ExcludeMatcher {K : Frag} (k : KOk K) : FnIs K f_ExcludeMatcher rf_ExcludeMatcher.qual (defArgs rf_ExcludeMatcher.st) (defBody rf_ExcludeMatcher.st) (defScope rf_ExcludeMatcher.st) rf_ExcludeMatcher.cl rf_ExcludeMatcher.dV rf_ExcludeMatcher.cdv := k.fn _ (at_ 88 rfl)
theorem KOk.fn_law_cell {K : Frag} (k : KOk K) : FnIs K f_law_cell rf_law_cell.qual (defArgs rf_law_cell.st) (defBody rf_law_cell.st) (defScope rf_law_cell.st) rf_law_cell.cl rf_law_cell.dV rf_law_cell.cdv := k.fn _ (at_ 89 rfl)
theorem KOk.m_null_is_active {K : Frag} (k : KOk K) : MethOk K cNull "is_active" f_NullMatcherClass_is_active := k.meth _ (at_ 0 rfl)
theorem KOk.m_null_replace {K : Frag} (k : KOk K) : MethOk K cNull "replace" f_Matcher_replace := k.meth _ (at_ 1 rfl)
theorem KOk.m_null_copy {K : Frag} (k : KOk K) : MethOk K cNull "copy" f_NullMatcherClass_copy := k.meth _ (at_ 2 rfl)
theorem KOk.m_null_max_quality {K : Frag} (k : KOk K) : MethOk K cNull "max_quality" f_NullMatcherClass_max_quality := k.meth _ (at_ 3 rfl)
theorem KOk.m_leaf_is_active {K : Frag} (k : KOk K) : MethOk K cList "is_active" f_ListMatcher_is_active := k.meth _ (at_ 4 rfl)
theorem KOk.m_leaf_id {K : Frag} (k : KOk K) : MethOk K cList "id" f_ListMatcher_id := k.meth _ (at_ 5 rfl)
theorem KOk.m_leaf_next {K : Frag} (k : KOk K) : MethOk K cList "next" f_ListMatcher_next := k.meth _ (at_ 6 rfl)
theorem KOk.m_leaf_score {K : Frag} (k : KOk K) : MethOk K cList "score" f_ListMatcher_score := k.meth _ (at_ 7 rfl)
theorem KOk.m_leaf_replace {K : Frag} (k : KOk K) : MethOk K cList "replace" f_ListMatcher_replace := k.meth _ (at_ 8 rfl)
theorem KOk.m_leaf_copy {K : Frag} (k : KOk K) : MethOk K cList "copy" f_ListMatcher_copy := k.meth _ (at_ 9 rfl)
theorem KOk.m_leaf_max_quality {K : Frag} (k : KOk K) : MethOk K cList "max_quality" f_ListMatcher_max_quality := k.meth _ (at_ 10 rfl)
theorem KOk.m_leaf_skip_to {K : Frag} (k : KOk K) : MethOk K cList "skip_to" f_ListMatcher_skip_to := k.meth _ (at_ 11 rfl)
theorem KOk.m_leaf_weight {K : Frag} (k : KOk K) : MethOk K cList "weight" f_ListMatcher_weight := k.meth _ (at_ 12 rfl)
theorem KOk.m_leaf_block_max_weight {K : Frag} (k : KOk K) : MethOk K cList "block_max_weight" f_ListMatcher_block_max_weight := k.meth _ (at_ 13 rfl)
theorem KOk.m_union_is_active {K : Frag} (k : KOk K) : MethOk K cUnion "is_active" f_UnionMatcher_is_active := k.meth _ (at_ 14 rfl)
theorem KOk.m_union_id {K : Frag} (k : KOk K) : MethOk K cUnion "id" f_UnionMatcher_id := k.meth _ (at_ 15 rfl)
theorem KOk.m_union_next {K : Frag} (k : KOk K) : MethOk K cUnion "next" f_UnionMatcher_next := k.meth _ (at_ 16 rfl)
theorem KOk.m_union_score {K : Frag} (k : KOk K) : MethOk K cUnion "score" f_UnionMatcher_score := k.meth _ (at_ 17 rfl)
theorem KOk.m_union_replace {K : Frag} (k : KOk K) : MethOk K cUnion "replace" f_UnionMatcher_replace := k.meth _ (at_ 18 rfl)
theorem KOk.m_union_copy {K : Frag} (k : KOk K) : MethOk K cUnion "copy" f_BiMatcher_copy := k.meth _ (at_ 19 rfl)
theorem KOk.m_union_max_quality {K : Frag} (k : KOk K) : MethOk K cUnion "max_quality" f_AdditiveBiMatcher_max_quality := k.meth _ (at_ 20 rfl)
theorem KOk.m_union_skip_to {K : Frag} (k : KOk K) : MethOk K cUnion "skip_to" f_UnionMatcher_skip_to := k.meth _ (at_ 21 rfl)
theorem KOk.m_union_made {K : Frag} (k : KOk K) : MethOk K cUnion "_made" f_UnionMatcher_made := k.meth _ (at_ 22 rfl)
theorem KOk.m_inter_is_active {K : Frag} (k : KOk K) : MethOk K cInter "is_active" f_IntersectionMatcher_is_active := k.meth _ (at_ 23 rfl)
theorem KOk.m_inter_id {K : Frag} (k : KOk K) : MethOk K cInter "id" f_IntersectionMatcher_id := k.meth _ (at_ 24 rfl)
theorem KOk.m_inter_next {K : Frag} (k : KOk K) : MethOk K cInter "next" f_IntersectionMatcher_next := k.meth _ (at_ 25 rfl)
theorem KOk.m_inter_score {K : Frag} (k : KOk K) : MethOk K cInter "score" f_AdditiveBiMatcher_score := k.meth _ (at_ 26 rfl)
theorem KOk.m_inter_replace {K : Frag} (k : KOk K) : MethOk K cInter "replace" f_IntersectionMatcher_replace := k.meth _ (at_ 27 rfl)
theorem KOk.m_inter_copy {K : Frag} (k : KOk K) : MethOk K cInter "copy" f_BiMatcher_copy := k.meth _ (at_ 28 rfl)
theorem KOk.m_inter_max_quality {K : Frag} (k : KOk K) : MethOk K cInter "max_quality" f_AdditiveBiMatcher_max_quality := k.meth _ (at_ 29 rfl)
theorem KOk.m_inter_skip_to {K : Frag} (k : KOk K) : MethOk K cInter "skip_to" f_IntersectionMatcher_skip_to := k.meth _ (at_ 30 rfl)
theorem KOk.m_inter_made {K : Frag} (k : KOk K) : MethOk K cInter "_made" f_IntersectionMatcher_made := k.meth _ (at_ 31 rfl)
theorem KOk.m_inter_find_first {K : Frag} (k : KOk K) : MethOk K cInter "_find_first" f_IntersectionMatcher_find_first := k.meth _ (at_ 32 rfl)
theorem KOk.m_inter_find_next {K : Frag} (k : KOk K) : MethOk K cInter "_find_next" f_IntersectionMatcher_find_next := k.meth _ (at_ 33 rfl)
theorem KOk.m_andnot_is_active {K : Frag} (k : KOk K) : MethOk K cAndNot "is_active" f_AndNotMatcher_is_active := k.meth _ (at_ 34 rfl)
theorem KOk.m_andnot_id {K : Frag} (k : KOk K) : MethOk K cAndNot "id" f_AndNotMatcher_id := k.meth _ (at_ 35 rfl)
theorem KOk.m_andnot_next {K : Frag} (k : KOk K) : MethOk K cAndNot "next" f_AndNotMatcher_next := k.meth _ (at_ 36 rfl)
theorem KOk.m_andnot_score {K : Frag} (k : KOk K) : MethOk K cAndNot "score" f_AndNotMatcher_score := k.meth _ (at_ 37 rfl)
theorem KOk.m_andnot_replace {K : Frag} (k : KOk K) : MethOk K cAndNot "replace" f_AndNotMatcher_replace := k.meth _ (at_ 38 rfl)
theorem KOk.m_andnot_copy {K : Frag} (k : KOk K) : MethOk K cAndNot "copy" f_BiMatcher_copy := k.meth _ (at_ 39 rfl)
theorem KOk.m_andnot_max_quality {K : Frag} (k : KOk K) : MethOk K cAndNot "max_quality" f_AndNotMatcher_max_quality := k.meth _ (at_ 40 rfl)
theorem KOk.m_andnot_made {K : Frag} (k : KOk K) : MethOk K cAndNot "_made" f_AndNotMatcher_made := k.meth _ (at_ 41 rfl)
theorem KOk.m_andnot_find_first {K : Frag} (k : KOk K) : MethOk K cAndNot "_find_first" f_AndNotMatcher_find_first := k.meth _ (at_ 42 rfl)
theorem KOk.m_andnot_find_next {K : Frag} (k : KOk K) : MethOk K cAndNot "_find_next" f_AndNotMatcher_find_next := k.meth _ (at_ 43 rfl)
theorem KOk.m_maybe_is_active {K : Frag} (k : KOk K) : MethOk K cMaybe "is_active" f_AndMaybeMatcher_is_active := k.meth _ (at_ 44 rfl)
theorem KOk.m_maybe_id {K : Frag} (k : KOk K) : MethOk K cMaybe "id" f_AndMaybeMatcher_id := k.meth _ (at_ 45 rfl)
theorem KOk.m_maybe_next {K : Frag} (k : KOk K) : MethOk K cMaybe "next" f_AndMaybeMatcher_next := k.meth _ (at_ 46 rfl)
theorem KOk.m_maybe_score {K : Frag} (k : KOk K) : MethOk K cMaybe "score" f_AndMaybeMatcher_score := k.meth _ (at_ 47 rfl)
theorem KOk.m_maybe_replace {K : Frag} (k : KOk K) : MethOk K cMaybe "replace" f_AndMaybeMatcher_replace := k.meth _ (at_ 48 rfl)
theorem KOk.m_maybe_copy {K : Frag} (k : KOk K) : MethOk K cMaybe "copy" f_BiMatcher_copy := k.meth _ (at_ 49 rfl)
theorem KOk.m_maybe_max_quality {K : Frag} (k : KOk K) : MethOk K cMaybe "max_quality" f_AdditiveBiMatcher_max_quality := k.meth _ (at_ 50 rfl)
theorem KOk.m_maybe_made {K : Frag} (k : KOk K) : MethOk K cMaybe "_made" f_AndMaybeMatcher_made := k.meth _ (at_ 51 rfl)
theorem KOk.m_maybe_first_b {K : Frag} (k : KOk K) : MethOk K cMaybe "_first_b" f_AndMaybeMatcher_first_b := k.meth _ (at_ 52 rfl)
theorem KOk.m_wrap_is_active {K : Frag} (k : KOk K) : MethOk K cWrap "is_active" f_WrappingMatcher_is_active := k.meth _ (at_ 53 rfl)
theorem KOk.m_wrap_id {K : Frag} (k : KOk K) : MethOk K cWrap "id" f_WrappingMatcher_id := k.meth _ (at_ 54 rfl)
theorem KOk.m_wrap_next {K : Frag} (k : KOk K) : MethOk K cWrap "next" f_WrappingMatcher_next := k.meth _ (at_ 55 rfl)
theorem KOk.m_wrap_score {K : Frag} (k : KOk K) : MethOk K cWrap "score" f_WrappingMatcher_score := k.meth _ (at_ 56 rfl)
theorem KOk.m_wrap_replace {K : Frag} (k : KOk K) : MethOk K cWrap "replace" f_WrappingMatcher_replace := k.meth _ (at_ 57 rfl)
theorem KOk.m_wrap_copy {K : Frag} (k : KOk K) : MethOk K cWrap "copy" f_WrappingMatcher_copy := k.meth _ (at_ 58 rfl)
theorem KOk.m_wrap_max_quality {K : Frag} (k : KOk K) : MethOk K cWrap "max_quality" f_WrappingMatcher_max_quality := k.meth _ (at_ 59 rfl)
theorem KOk.m_wrap_skip_to {K : Frag} (k : KOk K) : MethOk K cWrap "skip_to" f_WrappingMatcher_skip_to := k.meth _ (at_ 60 rfl)
theorem KOk.m_wrap_replacement {K : Frag} (k : KOk K) : MethOk K cWrap "_replacement" f_WrappingMatcher_replacement := k.meth _ (at_ 61 rfl)
theorem KOk.m_filt_is_active {K : Frag} (k : KOk K) : MethOk K cFilt "is_active" f_WrappingMatcher_is_active := k.meth _ (at_ 62 rfl)
theorem KOk.m_filt_id {K : Frag} (k : KOk K) : MethOk K cFilt "id" f_WrappingMatcher_id := k.meth _ (at_ 63 rfl)
theorem KOk.m_filt_next {K : Frag} (k : KOk K) : MethOk K cFilt "next" f_FilterMatcher_next := k.meth _ (at_ 64 rfl)
theorem KOk.m_filt_score {K : Frag} (k : KOk K) : MethOk K cFilt "score" f_WrappingMatcher_score := k.meth _ (at_ 65 rfl)
theorem KOk.m_filt_replace {K : Frag} (k : KOk K) : MethOk K cFilt "replace" f_WrappingMatcher_replace := k.meth _ (at_ 66 rfl)
theorem KOk.m_filt_copy {K : Frag} (k : KOk K) : MethOk K cFilt "copy" f_FilterMatcher_copy := k.meth _ (at_ 67 rfl)
theorem KOk.m_filt_max_quality {K : Frag} (k : KOk K) : MethOk K cFilt "max_quality" f_WrappingMatcher_max_quality := k.meth _ (at_ 68 rfl)
theorem KOk.m_filt_replacement {K : Frag} (k : KOk K) : MethOk K cFilt "_replacement" f_FilterMatcher_replacement := k.meth _ (at_ 69 rfl)
theorem KOk.m_filt_find_next {K : Frag} (k : KOk K) : MethOk K cFilt "_find_next" f_FilterMatcher_find_next := k.meth _ (at_ 70 rfl)
theorem KOk.m_inv_is_active {K : Frag} (k : KOk K) : MethOk K cInv "is_active" f_InverseMatcher_is_active := k.meth _ (at_ 71 rfl)
theorem KOk.m_inv_id {K : Frag} (k : KOk K) : MethOk K cInv "id" f_InverseMatcher_id := k.meth _ (at_ 72 rfl)
theorem KOk.m_inv_next {K : Frag} (k : KOk K) : MethOk K cInv "next" f_InverseMatcher_next := k.meth _ (at_ 73 rfl)
theorem KOk.m_inv_score {K : Frag} (k : KOk K) : MethOk K cInv "score" f_InverseMatcher_score := k.meth _ (at_ 74 rfl)
theorem KOk.m_inv_replace {K : Frag} (k : KOk K) : MethOk K cInv "replace" f_WrappingMatcher_replace := k.meth _ (at_ 75 rfl)
theorem KOk.m_inv_copy {K : Frag} (k : KOk K) : MethOk K cInv "copy" f_InverseMatcher_copy := k.meth _ (at_ 76 rfl)
theorem KOk.m_inv_max_quality {K : Frag} (k : KOk K) : MethOk K cInv "max_quality" f_WrappingMatcher_max_quality := k.meth _ (at_ 77 rfl)
theorem KOk.m_inv_skip_to {K : Frag} (k : KOk K) : MethOk K cInv "skip_to" f_InverseMatcher_skip_to := k.meth _ (at_ 78 rfl)
theorem KOk.m_inv_replacement {K : Frag} (k : KOk K) : MethOk K cInv "_replacement" f_InverseMatcher_replacement := k.meth _ (at_ 79 rfl)
theorem KOk.m_inv_find_next {K : Frag} (k : KOk K) : MethOk K cInv "_find_next" f_InverseMatcher_find_next := k.meth _ (at_ 80 rfl)
theorem KOk.m_req_is_active {K : Frag} (k : KOk K) : MethOk K cReq "is_active" f_WrappingMatcher_is_active := k.meth _ (at_ 81 rfl)
theorem KOk.m_req_id {K : Frag} (k : KOk K) : MethOk K cReq "id" f_WrappingMatcher_id := k.meth _ (at_ 82 rfl)
theorem KOk.m_req_next {K : Frag} (k : KOk K) : MethOk K cReq "next" f_WrappingMatcher_next := k.meth _ (at_ 83 rfl)
theorem KOk.m_req_score {K : Frag} (k : KOk K) : MethOk K cReq "score" f_RequireMatcher_score := k.meth _ (at_ 84 rfl)
theorem KOk.m_req_replace {K : Frag} (k : KOk K) : MethOk K cReq "replace" f_RequireMatcher_replace := k.meth _ (at_ 85 rfl)
theorem KOk.m_req_copy {K : Frag} (k : KOk K) : MethOk K cReq "copy" f_RequireMatcher_copy := k.meth _ (at_ 86 rfl)
theorem KOk.m_req_max_quality {K : Frag} (k : KOk K) : MethOk K cReq "max_quality" f_RequireMatcher_max_quality := k.meth _ (at_ 87 rfl)
theorem KOk.m_req_skip_to {K : Frag} (k : KOk K) : MethOk K cReq "skip_to" f_WrappingMatcher_skip_to := k.meth _ (at_ 88 rfl)
theorem KOk.m_const_is_active {K : Frag} (k : KOk K) : MethOk K cConst "is_active" f_WrappingMatcher_is_active := k.meth _ (at_ 89 rfl)
theorem KOk.m_const_id {K : Frag} (k : KOk K) : MethOk K cConst "id" f_WrappingMatcher_id := k.meth _ (at_ 90 rfl)
theorem KOk.m_const_next {K : Frag} (k : KOk K) : MethOk K cConst "next" f_WrappingMatcher_next := k.meth _ (at_ 91 rfl)
theorem KOk.m_const_score {K : Frag} (k : KOk K) : MethOk K cConst "score" f_ConstantScoreWrapperMatcher_score := k.meth _ (at_ 92 rfl)
theorem KOk.m_const_replace {K : Frag} (k : KOk K) : MethOk K cConst "replace" f_WrappingMatcher_replace := k.meth _ (at_ 93 rfl)
theorem KOk.m_const_copy {K : Frag} (k : KOk K) : MethOk K cConst "copy" f_ConstantScoreWrapperMatcher_copy := k.meth _ (at_ 94 rfl)
theorem KOk.m_const_max_quality {K : Frag} (k : KOk K) : MethOk K cConst "max_quality" f_ConstantScoreWrapperMatcher_max_quality := k.meth _ (at_ 95 rfl)
theorem KOk.m_const_skip_to {K : Frag} (k : KOk K) : MethOk K cConst "skip_to" f_WrappingMatcher_skip_to := k.meth _ (at_ 96 rfl)
theorem KOk.m_const_replacement {K : Frag} (k : KOk K) : MethOk K cConst "_replacement" f_ConstantScoreWrapperMatcher_replacement := k.meth _ (at_ 97 rfl)
theorem KOk.d_leaf_ids_ {K : Frag} (k : KOk K) : FieldOk K cList "_ids" := k.field _ (at_ 0 rfl)
theorem KOk.d_leaf_weights_ {K : Frag} (k : KOk K) : FieldOk K cList "_weights" := k.field _ (at_ 1 rfl)
theorem KOk.d_leaf_all_weights_ {K : Frag} (k : KOk K) : FieldOk K cList "_all_weights" := k.field _ (at_ 2 rfl)
theorem KOk.d_leaf_values_ {K : Frag} (k : KOk K) : FieldOk K cList "_values" := k.field _ (at_ 3 rfl)
theorem KOk.d_leaf_i_ {K : Frag} (k : KOk K) : FieldOk K cList "_i" := k.field _ (at_ 4 rfl)
theorem KOk.d_leaf_format_ {K : Frag} (k : KOk K) : FieldOk K cList "_format" := k.field _ (at_ 5 rfl)
theorem KOk.d_leaf_scorer_ {K : Frag} (k : KOk K) : FieldOk K cList "_scorer" := k.field _ (at_ 6 rfl)
theorem KOk.d_leaf_term_ {K : Frag} (k : KOk K) : FieldOk K cList "_term" := k.field _ (at_ 7 rfl)
theorem KOk.d_leaf_terminfo_ {K : Frag} (k : KOk K) : FieldOk K cList "_terminfo" := k.field _ (at_ 8 rfl)
theorem KOk.d_union_a {K : Frag} (k : KOk K) : FieldOk K cUnion "a" := k.field _ (at_ 9 rfl)
theorem KOk.d_union_b {K : Frag} (k : KOk K) : FieldOk K cUnion "b" := k.field _ (at_ 10 rfl)
theorem KOk.d_union_id_ {K : Frag} (k : KOk K) : FieldOk K cUnion "_id" := k.field _ (at_ 11 rfl)
theorem KOk.d_inter_a {K : Frag} (k : KOk K) : FieldOk K cInter "a" := k.field _ (at_ 12 rfl)
theorem KOk.d_inter_b {K : Frag} (k : KOk K) : FieldOk K cInter "b" := k.field _ (at_ 13 rfl)
theorem KOk.d_andnot_a {K : Frag} (k : KOk K) : FieldOk K cAndNot "a" := k.field _ (at_ 14 rfl)
theorem KOk.d_andnot_b {K : Frag} (k : KOk K) : FieldOk K cAndNot "b" := k.field _ (at_ 15 rfl)
theorem KOk.d_maybe_a {K : Frag} (k : KOk K) : FieldOk K cMaybe "a" := k.field _ (at_ 16 rfl)
theorem KOk.d_maybe_b {K : Frag} (k : KOk K) : FieldOk K cMaybe "b" := k.field _ (at_ 17 rfl)
theorem KOk.d_wrap_child {K : Frag} (k : KOk K) : FieldOk K cWrap "child" := k.field _ (at_ 18 rfl)
theorem KOk.d_wrap_boost {K : Frag} (k : KOk K) : FieldOk K cWrap "boost" := k.field _ (at_ 19 rfl)
theorem KOk.d_filt_child {K : Frag} (k : KOk K) : FieldOk K cFilt "child" := k.field _ (at_ 20 rfl)
theorem KOk.d_filt_boost {K : Frag} (k : KOk K) : FieldOk K cFilt "boost" := k.field _ (at_ 21 rfl)
theorem KOk.d_filt_ids_ {K : Frag} (k : KOk K) : FieldOk K cFilt "_ids" := k.field _ (at_ 22 rfl)
theorem KOk.d_filt_exclude_ {K : Frag} (k : KOk K) : FieldOk K cFilt "_exclude" := k.field _ (at_ 23 rfl)
theorem KOk.d_inv_child {K : Frag} (k : KOk K) : FieldOk K cInv "child" := k.field _ (at_ 24 rfl)
theorem KOk.d_inv_boost {K : Frag} (k : KOk K) : FieldOk K cInv "boost" := k.field _ (at_ 25 rfl)
theorem KOk.d_inv_limit {K : Frag} (k : KOk K) : FieldOk K cInv "limit" := k.field _ (at_ 26 rfl)
theorem KOk.d_inv_weight_ {K : Frag} (k : KOk K) : FieldOk K cInv "_weight" := k.field _ (at_ 27 rfl)
theorem KOk.d_inv_missing {K : Frag} (k : KOk K) : FieldOk K cInv "missing" := k.field _ (at_ 28 rfl)
theorem KOk.d_inv_id_ {K : Frag} (k : KOk K) : FieldOk K cInv "_id" := k.field _ (at_ 29 rfl)
theorem KOk.d_req_a {K : Frag} (k : KOk K) : FieldOk K cReq "a" := k.field _ (at_ 30 rfl)
theorem KOk.d_req_b {K : Frag} (k : KOk K) : FieldOk K cReq "b" := k.field _ (at_ 31 rfl)
theorem KOk.d_req_child {K : Frag} (k : KOk K) : FieldOk K cReq "child" := k.field _ (at_ 32 rfl)
theorem KOk.d_req_boost {K : Frag} (k : KOk K) : FieldOk K cReq "boost" := k.field _ (at_ 33 rfl)
theorem KOk.d_const_child {K : Frag} (k : KOk K) : FieldOk K cConst "child" := k.field _ (at_ 34 rfl)
theorem KOk.d_const_boost {K : Frag} (k : KOk K) : FieldOk K cConst "boost" := k.field _ (at_ 35 rfl)
theorem KOk.d_const_score_ {K : Frag} (k : KOk K) : FieldOk K cConst "_score" := k.field _ (at_ 36 rfl)
theorem KOk.c_null {K : Frag} (k : KOk K) : ClsOk K cNull := k.cls _ (at_ 0 rfl)
theorem KOk.c_leaf {K : Frag} (k : KOk K) : ClsOk K cList := k.cls _ (at_ 1 rfl)
theorem KOk.c_union {K : Frag} (k : KOk K) : ClsOk K cUnion := k.cls _ (at_ 2 rfl)
theorem KOk.c_inter {K : Frag} (k : KOk K) : ClsOk K cInter := k.cls _ (at_ 3 rfl)
theorem KOk.c_andnot {K : Frag} (k : KOk K) : ClsOk K cAndNot := k.cls _ (at_ 4 rfl)
theorem KOk.c_maybe {K : Frag} (k : KOk K) : ClsOk K cMaybe := k.cls _ (at_ 5 rfl)
theorem KOk.c_wrap {K : Frag} (k : KOk K) : ClsOk K cWrap := k.cls _ (at_ 6 rfl)
theorem KOk.c_filt {K : Frag} (k : KOk K) : ClsOk K cFilt := k.cls _ (at_ 7 rfl)
theorem KOk.c_inv {K : Frag} (k : KOk K) : ClsOk K cInv := k.cls _ (at_ 8 rfl)
theorem KOk.c_req {K : Frag} (k : KOk K) : ClsOk K cReq := k.cls _ (at_ 9 rfl)
theorem KOk.c_const {K : Frag} (k : KOk K) : ClsOk K cConst := k.cls _ (at_ 10 rfl)
theorem KOk.i_leaf {K : Frag} (k : KOk K) : MethOk K cList "__init__" f_ListMatcher_init ∧ makesIn K cList = true := k.init _ (at_ 0 rfl)
theorem KOk.i_union {K : Frag} (k : KOk K) : MethOk K cUnion "__init__" f_BiMatcher_init ∧ makesIn K cUnion = true := k.init _ (at_ 1 rfl)
theorem KOk.i_inter {K : Frag} (k : KOk K) : MethOk K cInter "__init__" f_IntersectionMatcher_init ∧ makesIn K cInter = true := k.init _ (at_ 2 rfl)
theorem KOk.i_andnot {K : Frag} (k : KOk K) : MethOk K cAndNot "__init__" f_AndNotMatcher_init ∧ makesIn K cAndNot = true := k.init _ (at_ 3 rfl)
theorem KOk.i_maybe {K : Frag} (k : KOk K) : MethOk K cMaybe "__init__" f_AndMaybeMatcher_init ∧ makesIn K cMaybe = true := k.init _ (at_ 4 rfl)
theorem KOk.i_wrap {K : Frag} (k : KOk K) : MethOk K cWrap "__init__" f_WrappingMatcher_init ∧ makesIn K cWrap = true := k.init _ (at_ 5 rfl)
theorem KOk.i_filt {K : Frag} (k : KOk K) : MethOk K cFilt "__init__" f_FilterMatcher_init ∧ makesIn K cFilt = true := k.init _ (at_ 6 rfl)
theorem KOk.i_inv {K : Frag} (k : KOk K) : MethOk K cInv "__init__" f_InverseMatcher_init ∧ makesIn K cInv = true := k.init _ (at_ 7 rfl)
theorem KOk.i_req {K : Frag} (k : KOk K) : MethOk K cReq "__init__" f_RequireMatcher_init ∧ makesIn K cReq = true := k.init _ (at_ 8 rfl)
theorem KOk.i_const {K : Frag} (k : KOk K) : MethOk K cConst "__init__" f_ConstantScoreWrapperMatcher_init ∧ makesIn K cConst = true := k.init _ (at_ 9 rfl)
theorem KOk.g_NullMatcherClass {K : Frag} (k : KOk K) : nsIn K mainGlobals "NullMatcherClass" = some (some (.ref 276)) ∧ keepIn K (.ref 276) = true := k.glob _ (at_ 0 rfl)
theorem KOk.g_ListMatcher {K : Frag} (k : KOk K) : nsIn K mainGlobals "ListMatcher" = some (some (.ref 430)) ∧ keepIn K (.ref 430) = true := k.glob _ (at_ 1 rfl)
theorem KOk.g_UnionMatcher {K : Frag} (k : KOk K) : nsIn K mainGlobals "UnionMatcher" = some (some (.ref 607)) ∧ keepIn K (.ref 607) = true := k.glob _ (at_ 2 rfl)
theorem KOk.g_IntersectionMatcher {K : Frag} (k : KOk K) : nsIn K mainGlobals "IntersectionMatcher" = some (some (.ref 706)) ∧ keepIn K (.ref 706) = true := k.glob _ (at_ 3 rfl)
theorem KOk.g_AndNotMatcher {K : Frag} (k : KOk K) : nsIn K mainGlobals "AndNotMatcher" = some (some (.ref 840)) ∧ keepIn K (.ref 840) = true := k.glob _ (at_ 4 rfl)
theorem KOk.g_AndMaybeMatcher {K : Frag} (k : KOk K) : nsIn K mainGlobals "AndMaybeMatcher" = some (some (.ref 944)) ∧ keepIn K (.ref 944) = true := k.glob _ (at_ 5 rfl)
theorem KOk.g_WrappingMatcher {K : Frag} (k : KOk K) : nsIn K mainGlobals "WrappingMatcher" = some (some (.ref 1091)) ∧ keepIn K (.ref 1091) = true := k.glob _ (at_ 6 rfl)
theorem KOk.g_FilterMatcher {K : Frag} (k : KOk K) : nsIn K mainGlobals "FilterMatcher" = some (some (.ref 1177)) ∧ keepIn K (.ref 1177) = true := k.glob _ (at_ 7 rfl)
theorem KOk.g_InverseMatcher {K : Frag} (k : KOk K) : nsIn K mainGlobals "InverseMatcher" = some (some (.ref 1283)) ∧ keepIn K (.ref 1283) = true := k.glob _ (at_ 8 rfl)
theorem KOk.g_RequireMatcher {K : Frag} (k : KOk K) : nsIn K mainGlobals "RequireMatcher" = some (some (.ref 1366)) ∧ keepIn K (.ref 1366) = true := k.glob _ (at_ 9 rfl)
theorem KOk.g_ConstantScoreWrapperMatcher {K : Frag} (k : KOk K) : nsIn K mainGlobals "ConstantScoreWrapperMatcher" = some (some (.ref 1421)) ∧ keepIn K (.ref 1421) = true := k.glob _ (at_ 10 rfl)
theorem KOk.g_BiMatcher {K : Frag} (k : KOk K) : nsIn K mainGlobals "BiMatcher" = some (some (.ref 491)) ∧ keepIn K (.ref 491) = true := k.glob _ (at_ 11 rfl)
theorem KOk.g_AdditiveBiMatcher {K : Frag} (k : KOk K) : nsIn K mainGlobals "AdditiveBiMatcher" = some (some (.ref 531)) ∧ keepIn K (.ref 531) = true := k.glob _ (at_ 12 rfl)
theorem KOk.g_NullMatcher {K : Frag} (k : KOk K) : nsIn K mainGlobals "NullMatcher" = some (some (.ref 285)) ∧ keepIn K (.ref 285) = true := k.glob _ (at_ 13 rfl)
theorem KOk.g_ExcludeMatcher {K : Frag} (k : KOk K) : nsIn K mainGlobals "ExcludeMatcher" = some (some (.ref 1101)) ∧ keepIn K (.ref 1101) = true := k.glob _ (at_ 14 rfl)
theorem KOk.g_law_cell {K : Frag} (k : KOk K) : nsIn K mainGlobals "_law_cell" = some (some (.ref 1430)) ∧ keepIn K (.ref 1430) = true := k.glob _ (at_ 15 rfl)
theorem KOk.g_law_leaf {K : Frag} (k : KOk K) : nsIn K mainGlobals "_law_leaf" = some (some (.ref 1435)) ∧ keepIn K (.ref 1435) = true := k.glob _ (at_ 16 rfl)
theorem KOk.g_law_sum {K : Frag} (k : KOk K) : nsIn K mainGlobals "_law_sum" = some (some (.ref 1440)) ∧ keepIn K (.ref 1440) = true := k.glob _ (at_ 17 rfl)
theorem KOk.g_law_plain {K : Frag} (k : KOk K) : nsIn K mainGlobals "_law_plain" = some (some (.ref 1445)) ∧ keepIn K (.ref 1445) = true := k.glob _ (at_ 18 rfl)
theorem KOk.g_law_tree {K : Frag} (k : KOk K) : nsIn K mainGlobals "_law_tree" = some (some (.ref 1450)) ∧ keepIn K (.ref 1450) = true := k.glob _ (at_ 19 rfl)
end Mine
end
section
set_option maxRecDepth 100000
namespace Mine
noncomputable abbrev f_law : Addr := 1457
noncomputable def rf_law : FnRow := ⟨1457, "law", topAt 28, [], .none, .ref 1456⟩
/-! ## the facts of the written part, as looks -/
noncomputable def nameOf : List Value → Option Str
  | _ :: .str n _ :: _ => some n
  | _ => none
noncomputable def codeOf (K : Frag) (cd : Value) : Option Str := match cd with
  | .ref c => (match K.lookup c with
    | some ⟨_, _, .fields vs, _⟩ => nameOf vs.toList
    | _ => none)
  | _ => none
noncomputable def seenFn (K : Frag) (a : Addr) : Option (Str × Arguments × FuncBody × Scope × Addr × List (Str × Addr) × Value × Value × Addr × Option Str) := match K.lookup a with
  | some ⟨_, _, .func fd, _⟩ => some (fd.qualname, fd.params, fd.body, fd.scope, fd.globals, fd.closure, fd.defaults, fd.code, fd.builtins, codeOf K fd.code)
  | _ => none
noncomputable def wantFn (r : FnRow) : Option (Str × Arguments × FuncBody × Scope × Addr × List (Str × Addr) × Value × Value × Addr × Option Str) := some (r.qual, defArgs r.st, .stmts (defBody r.st), defScope r.st, mainGlobals, r.cl, r.dV, r.cdv, builtinsNs, some r.qual)
noncomputable def clsB (K : Frag) (C : Addr) : Bool := plainGet K C "" && hasDictIn K C && (findIn K (.ref C) "__setattr__" == some (some (.builtin "object.__setattr__"))) && plainOver K C
noncomputable def fieldB (K : Frag) (C : Addr) (nm : Str) : Bool := match findIn K (.ref C) nm with
  | some attr => noGet K attr && takerIn K C nm == some none
  | none => false
noncomputable def methB (K : Frag) (C : Addr) (nm : Str) (f : Addr) : Bool := findIn K (.ref C) nm == some (some (.ref f)) && isFn K (.ref f) && keepIn K (.ref f)
noncomputable def fileB (file0 : Str) (vs : Array Value) : Bool := match (vs[2]? : Option Value) with
  | some (.str file _) => file0 == file
  | _ => false
noncomputable def supB (file0 : Str) (K : Frag) (D cc cda f2 : Addr) : Bool :=
  (match K.lookup cda with
    | some ⟨_, _, .fields vs, _⟩ => fileB file0 vs
    | _ => false) &&
  (match K.lookup cc with
    | some ⟨_, _, .cell (some (.ref D')), _⟩ => D' == D
    | _ => false) && (clsIn K D).isSome && mroIn K D (.ref D) == some true && ks_superIn K D D "__init__" == some (some (.ref f2)) && typeIn K (.ref f2) == some (.type "function") && fnIn K f2
noncomputable def ciniB (K : Frag) (C f : Addr) : Bool := specialIn K (.ref C) "__getattribute__" == some (some (.builtin "type.__getattribute__")) &&
  (match typeIn K (.ref C) with
    | some mc => readsIn K C mc && (match findCls K (.ref C) mc "__init__" with
      | some (.val (.ref f')) => f' == f
      | _ => false)
    | none => false) && keepIn K (.ref f)
noncomputable def dvB : Dv → Value → Bool
  | .none, .none => true
  | .int i, .int j _ => i == j
  | .bool b, .bool c => b == c
  | _, _ => false
noncomputable def dvsB : List Dv → List Value → Bool
  | [], [] => true
  | d :: ds, v :: vs => dvB d v && dvsB ds vs
  | _, _ => false
noncomputable def dflB (K : Frag) (a : Addr) (l : List Dv) : Bool := match K.lookup a with
  | some ⟨_, _, .seq vs _, _⟩ => dvsB l vs.toList
  | _ => false
noncomputable def factsB (file0 : Str) (K : Frag) : Bool :=
  (clsTab.all fun C => clsB K C) && (methTab.all fun e => methB K e.1 e.2.1 e.2.2) && (fieldTab.all fun e => fieldB K e.1 e.2) &&
  (initTab.all fun e => methB K e.1 "__init__" e.2 && makesIn K e.1) && (findIn K (.ref cNull) "__init__" == some (some (.builtin "object.__init__")) && makesIn K cNull) &&
  (globTab.all fun e => nsIn K mainGlobals e.1 == some (some (.ref e.2)) && keepIn K (.ref e.2)) && (bltTab.all fun n => nsIn K mainGlobals n == some none) &&
  (findIn K (.ref cUnion) "_id" == some (some .none) && specialIn K .none "__get__" == some none) && (supTab.all fun e => supB file0 K e.1 e.2.1 e.2.2.1 e.2.2.2) && nsIn K cStatics "thirdparty.any" == some none &&
  (ciniTab.all fun e => ciniB K e.1 e.2) && (dflTab.all fun e => dflB K e.1 e.2) && nsIn K mainGlobals "law" == some (some (.ref f_law))
noncomputable def fnAddrs : List Addr := [1457, 252, 112, 273, 231, 307, 378, 406, 427, 343, 335, 357, 321, 413, 420, 562, 576, 583, 597, 555, 467, 507, 569, 547, 661, 675, 703, 528, 654, 689, 624, 646, 668, 752, 802, 809, 830, 774, 781, 723, 745, 759, 884, 891, 898, 934, 913, 856, 877, 1011, 997, 1046, 1088, 990, 968, 1067, 1039, 982, 1153, 1132, 1139, 1146, 1217, 1245, 1259, 1280, 1203, 1266, 1210, 1238, 1356, 1321, 1306, 1328, 1418, 1390, 1404, 1397, 300, 446, 632, 731, 863, 961, 1118, 1196, 1299, 1383, 285, 1101, 1430, 1435, 1440, 1445, 1450]
noncomputable def plainS (sc : Scope) : Bool := !sc.isCoroutine && !sc.isGenerator && (match sc.kind with | .function => true | _ => false) && sc.names.all fun x => match x.2 with | .cell => false | _ => true
end Mine
end
section
set_option maxRecDepth 100000
namespace Mine.Hd

noncomputable def evens {α : Type} : List α → List α
  | [] => []
  | [a] => [a]
  | a :: _ :: r => a :: evens r
noncomputable def odds {α : Type} : List α → List α
  | [] => []
  | [_] => []
  | _ :: b :: r => b :: odds r
noncomputable def ofL : Nat → List Obj → BT
  | 0, _ => .nil
  | _ + 1, [] => .nil
  | n + 1, x :: r => .node x (ofL n (evens r)) (ofL n (odds r))
theorem evens_get {α : Type} : ∀ (l : List α) (j : Nat), (evens l)[j]? = l[2 * j]?
  | [], _ => by simp [evens]
  | [a], j => by cases j <;> simp [evens]
  | a :: b :: r, j => by
    cases j with
    | zero => simp [evens]
    | succ j => simp [evens, evens_get r j, Nat.mul_succ]
theorem odds_get {α : Type} : ∀ (l : List α) (j : Nat), (odds l)[j]? = l[2 * j + 1]?
  | [], _ => by simp [odds]
  | [a], j => by simp [odds]
  | a :: b :: r, j => by
    cases j with
    | zero => simp [odds]
    | succ j => simp [odds, odds_get r j, Nat.mul_succ]
theorem evens_len {α : Type} : ∀ (l : List α), (evens l).length ≤ l.length
  | [] => by simp [evens]
  | [a] => by simp [evens]
  | a :: b :: r => by have := evens_len r; simp [evens]; omega
theorem odds_len {α : Type} : ∀ (l : List α), (odds l).length ≤ l.length
  | [] => by simp [odds]
  | [a] => by simp [odds]
  | a :: b :: r => by have := odds_len r; simp [odds]; omega
theorem get_ofL (n : Nat) : ∀ (l : List Obj), l.length ≤ n → ∀ i, (ofL n l).get i = l[i]? := by
  induction n with
  | zero =>
    intro l h i
    cases l with
    | nil => rfl
    | cons x r => simp at h
  | succ n ih =>
    intro l h i
    cases l with
    | nil => rfl
    | cons x r =>
      have hl : r.length ≤ n := by simpa using h
      rw [ofL, BT.get_node]
      by_cases h0 : i = 0
      · subst h0; simp
      · rw [if_neg h0]
        by_cases h1 : i % 2 = 1
        · rw [if_pos h1, ih _ (Nat.le_trans (evens_len r) hl), evens_get]
          obtain ⟨k, rfl⟩ : ∃ k, i = 2 * k + 1 := ⟨i / 2, by omega⟩
          rw [show (2 * k + 1) / 2 = k by omega]; simp
        · rw [if_neg h1, ih _ (Nat.le_trans (odds_len r) hl), odds_get]
          obtain ⟨k, rfl⟩ : ∃ k, i = 2 * k + 2 := ⟨i / 2 - 1, by omega⟩
          rw [show (2 * k + 2) / 2 - 1 = k by omega]; simp
theorem abs_ofL (l : List Obj) (n : Nat) (h : l.length ≤ n) (life : Life) : absHeap (ofL n l) l.length life = ⟨l.toArray, life⟩ := by
  have : (absHeap (ofL n l) l.length life).objs = l.toArray := by
    apply Array.ext_getElem?
    intro i
    rw [absHeap_at, get_ofL n l h]
    by_cases hi : i < l.length
    · rw [if_pos hi]; simp [hi]
    · rw [if_neg hi]; simp; omega
  exact congrArg (Heap.mk · life) this

noncomputable def topRunT (tb : String → Option Builtin) (p : Program) (w : World) (n₀ : Nat) (ann : Option Value) : Nat → SharedT → Thread → Option SharedT
  | 0, _, _ => none
  | n + 1, s, t => match through t with
    | true => some s
    | false => match stepOk n₀ ann t with
      | false => none
      | true => match stepT (denote tb) p w s t with
        | some (s', t') => topRunT tb p w n₀ ann n s' t'
        | none => none
theorem topRun_of {tb : String → Option Builtin} {p : Program} {w : World} {n₀ : Nat} {ann : Option Value} : ∀ {n : Nat} {s s' : SharedT} {t : Thread}, topRunT tb p w n₀ ann n s t = some s' → topRun tb p w n₀ ann n s.abs t = some s'.abs
  | 0, _, _, _, h => by cases h
  | n + 1, s, s', t, h => by
    unfold topRunT at h
    unfold topRun
    cases ht : through t with
    | true => rw [ht] at h; cases h; rfl
    | false =>
      rw [ht] at h
      cases hk : stepOk n₀ ann t with
      | false => rw [hk] at h; cases h
      | true =>
        rw [hk] at h
        dsimp only at h ⊢
        cases hs : stepT (denote tb) p w s t with
        | none => rw [hs] at h; cases h
        | some r =>
          obtain ⟨s₂, t₂⟩ := r
          rw [hs] at h
          rw [stepT_spec hs]
          exact topRun_of h

noncomputable def q (p : Program) : Program := view p [28]
noncomputable def loose : List Str := ["_wall", "ReadTooFar", "NoQualityAvailable", "Matcher", "NullMatcherClass", "NullMatcher", "ListMatcher", "BiMatcher", "AdditiveBiMatcher", "UnionMatcher", "IntersectionMatcher", "AndNotMatcher", "AndMaybeMatcher", "WrappingMatcher", "ExcludeMatcher", "FilterMatcher", "InverseMatcher", "RequireMatcher", "ConstantScoreWrapperMatcher", "_law_cell", "_law_leaf", "_law_sum", "_law_plain", "_law_tree"]
noncomputable def Xt (s : Shared) : Bool := recOk [] s
noncomputable def S0 (h₀ : Heap) (os : OsState) : SharedT := ⟨ofL 11 h₀.objs.toList, 11, {}, #[], boot_drawn, boot_toks, os⟩
noncomputable def order : List Addr := [2, 3, 276, 430, 607, 706, 840, 944, 1091, 1177, 1283, 1366, 1421, 491, 531, 275, 429, 606, 705, 839, 943, 1090, 1176, 1282, 1365, 1420, 490, 530, 105, 111, 112, 205, 206, 230, 231, 251, 252, 272, 273, 284, 285, 293, 299, 300, 306, 307, 320, 321, 334, 335, 336, 342, 343, 356, 357, 377, 378, 405, 406, 412, 413, 419, 420, 426, 427, 445, 446, 466, 467, 506, 507, 527, 528, 546, 547, 548, 554, 555, 561, 562, 568, 569, 575, 576, 582, 583, 596, 597, 613, 623, 624, 631, 632, 645, 646, 647, 653, 654, 660, 661, 667, 668, 674, 675, 688, 689, 702, 703, 712, 722, 723, 730, 731, 744, 745, 751, 752, 758, 759, 767, 773, 774, 780, 781, 801, 802, 808, 809, 829, 830, 855, 856, 862, 863, 876, 877, 883, 884, 890, 891, 897, 898, 906, 912, 913, 933, 934, 954, 960, 961, 967, 968, 981, 982, 983, 989, 990, 996, 997, 1010, 1011, 1038, 1039, 1045, 1046, 1066, 1067, 1087, 1088, 1094, 1100, 1101, 1105, 1110, 1117, 1118, 1131, 1132, 1138, 1139, 1145, 1146, 1152, 1153, 1183, 1188, 1195, 1196, 1202, 1203, 1209, 1210, 1216, 1217, 1237, 1238, 1244, 1245, 1258, 1259, 1265, 1266, 1279, 1280, 1298, 1299, 1305, 1306, 1314, 1320, 1321, 1327, 1328, 1355, 1356, 1376, 1382, 1383, 1389, 1390, 1396, 1397, 1403, 1404, 1417, 1418, 1429, 1430, 1434, 1435, 1439, 1440, 1444, 1445, 1449, 1450, 1456, 1457]
noncomputable def liveAt (s : SharedT) (a : Addr) : Option Obj := if a < s.n then (match s.tree.get a with | some o => alive o | none => none) else none
noncomputable def keyed (s : SharedT) : Frag := order.filterMap fun a => (liveAt s a).map fun o => (a, o)
noncomputable def R {α : Type} (p : Program) (h₀ : Heap) (obs : SharedT → α) (w : World) (os : OsState) := (topRunT treeTable p w 11 (some (.ref 6)) 9400 (S0 h₀ os) (topStub p)).map fun s =>
  ((staticsOk (importedModules p.main.body) h₀ s.abs.heap && namesBound p s.abs.heap && gensDone s.abs && laidKept h₀ s.abs.heap),
    openSeen (q p) loose (importedModules p.main.body) Xt true s.abs, obs s)
noncomputable def good {α : Type} (p : Program) (wants : α) := some (true, openGood (q p) loose, wants)
noncomputable def facts (s : SharedT) : Bool × List (Option (Str × Arguments × FuncBody × Scope × Addr × List (Str × Addr) × Value × Value × Addr × Option Str)) := (factsB PySem.Challenge.pw_iu0060_01.main.file (keyed s), fnAddrs.map fun a => seenFn (keyed s) a)
theorem lookup_mem {K : Frag} {a : Addr} {o : Obj} (h : K.lookup a = some o) : (a, o) ∈ K := by
  induction K with
  | nil => cases h
  | cons e K ih =>
    obtain ⟨b, x⟩ := e
    rw [List.lookup_cons] at h
    cases hb : a == b with
    | true =>
      rw [hb] at h
      cases h
      rw [beq_iff_eq.mp hb]
      exact List.mem_cons_self ..
    | false =>
      rw [hb] at h
      exact List.mem_cons_of_mem _ (ih h)
theorem keyed_in (s : SharedT) : (keyed s).In s.abs.heap := fun a o h => by
  obtain ⟨b, _, e⟩ := List.mem_filterMap.mp (lookup_mem h)
  obtain ⟨x, e1, e2⟩ := Option.map_eq_some_iff.mp e
  cases e2
  unfold liveAt at e1
  split at e1
  · rename_i hlt
    split at e1
    · rename_i y hy
      exact (abs_get hlt hy).trans e1
    · cases e1
  · cases e1
set_option maxHeartbeats 0
lay_quick Mine.Hd.R Mine.Hd.good
end Mine.Hd
end
section
set_option maxRecDepth 100000
set_option maxHeartbeats 0
namespace Mine.Hd
theorem R_is (w : World) (os : OsState) : R PySem.Challenge.pw_iu0060_01 (boot_heap w.params) facts w os = good PySem.Challenge.pw_iu0060_01 (true, (rf_law :: (fnTab ++ cfnTab)).map wantFn) := by
  rw [PySem.W.Fast.te2060671669689031103, PySem.W.Fast.te16507538255912886006]
  kernel_rfl
end Mine.Hd
end
section
set_option maxRecDepth 10000
namespace Mine

section
variable {prog : Program} {w : World} {K : Frag} {ro : List (Addr × Obj)} {A : Around} {z : Shared} {g h : Heap} {L : Addr} {m : Str → Option Value} {led : Led}
  {qual : Str} {scope : Scope} {fa : Addr} {cdv : Value} {cl : List (Str × Addr)} {env : Env}

theorem ev_name {x : Str} {pos : Pos} {v : Value} (F : Fr g L h m) (hv : m x = some v := by rfl)
    (hk : scope.kind = .function := by rfl) (hx : (envX qual scope L fa cdv cl).kindOf x = some .local := by rfl) (hd : (x == ("__debug__" : Str)) = false := by decide) :
    Ev prog w A z (envX qual scope L fa cdv cl) h (.Name x pos) v := fun Q q => W_name F hv q hk hx hd
/-- y.nm by what the object's cell says -/
theorem W_field {y nm : Str} {p1 p2 : Pos} {x C : Addr} {φ : (Str → Option Value) → Prop} {R : Value → Prop} {Q : Value → Heap → Prop} (F : Fr g L h m) (G : Gd K ro g) (O : Ow g L h led) (c : ClsOk K C) (f : FieldOk K C nm)
    (s : Sf led x C φ) (hv : ∀ fs, φ fs → ∃ v, fs nm = some v ∧ handedIn v = true ∧ R v) (q : ∀ v, R v → Q v h) (hy : m y = some (.ref x) := by rfl)
    (hk : scope.kind = .function := by rfl) (hx : (envX qual scope L fa cdv cl).kindOf y = some .local := by rfl) (hd : (y == ("__debug__" : Str)) = false := by decide) :
    Wp (model prog w) A z (eval (.Attribute (.Name y p1) nm p2) (envX qual scope L fa cdv cl)) Q h := W_attr (W_name F hy (W_getAttr F G O c f s hv q) hk hx hd)
theorem ev_field {y nm : Str} {p1 p2 : Pos} {x C : Addr} {φ : (Str → Option Value) → Prop} {v : Value} (F : Fr g L h m) (G : Gd K ro g) (O : Ow g L h led) (c : ClsOk K C) (f : FieldOk K C nm)
    (s : Sf led x C φ) (hv : ∀ fs, φ fs → fs nm = some v) (hy : m y = some (.ref x) := by rfl) (hh : handedIn v = true := by rfl)
    (hk : scope.kind = .function := by rfl) (hx : (envX qual scope L fa cdv cl).kindOf y = some .local := by rfl) (hd : (y == ("__debug__" : Str)) = false := by decide) :
    Ev prog w A z (envX qual scope L fa cdv cl) h (.Attribute (.Name y p1) nm p2) v := fun Q q =>
  W_field F G O c f s (R := fun u => u = v) (fun fs p => ⟨v, hv fs p, hh, rfl⟩) (fun u e => e ▸ q) hy hk hx hd
theorem ev_none {k : Nat} {pos : Pos} : Ev prog w A z env h (.Constant .none k pos) .none := fun Q q => W_cnone q
theorem ev_bool {c : Bool} {k : Nat} {pos : Pos} : Ev prog w A z env h (.Constant (.bool c) k pos) (.bool c) := fun Q q => W_cbool q

/-! ## calls that turn the first part, the second part, the one part, the whole -/
section
variable {S a b : Led} {k : Nat} {x : Addr} {nm : Str} {o e : Expr} {v : Value} {apos pos : Pos} {post : Value → Led → Prop} {Q : Value → Heap → Prop}
theorem permA : (S ++ (a ++ b)).Perm (a ++ (S ++ b)) := List.perm_append_comm_assoc S a b
theorem permB : (S ++ (a ++ b)).Perm (b ++ (S ++ a)) := by
  rw [← List.append_assoc]; exact List.perm_append_comm
theorem permC : (S ++ a).Perm (a ++ S) := List.perm_append_comm
theorem W_tA0 (C : Can prog w K ro k x nm [] a post) (hK : ∀ v l, post v l → Keeps a l) (R : Room A k) (G : Gd K ro g) (F : Fr g L h m) (O : Ow g L h (S ++ (a ++ b)))
    (ho : Ev prog w A z env h o (.ref x)) (kont : ∀ v a' h', Fr g L h' m → Ow g L h' (S ++ (a' ++ b)) → post v a' → Q v h') (he : CallIs env o nm apos pos [] [] := by rfl) :
    Wp (model prog w) A z (eval (.Call (.Attribute o nm apos) [] [] pos) env) Q h :=
  W_t0 C hK R G F (O.perm permA) ho (fun v a' h' F' O' p => kont v a' h' F' (O'.perm permA.symm) p) he
theorem W_tB0 (C : Can prog w K ro k x nm [] b post) (hK : ∀ v l, post v l → Keeps b l) (R : Room A k) (G : Gd K ro g) (F : Fr g L h m) (O : Ow g L h (S ++ (a ++ b)))
    (ho : Ev prog w A z env h o (.ref x)) (kont : ∀ v b' h', Fr g L h' m → Ow g L h' (S ++ (a ++ b')) → post v b' → Q v h') (he : CallIs env o nm apos pos [] [] := by rfl) :
    Wp (model prog w) A z (eval (.Call (.Attribute o nm apos) [] [] pos) env) Q h :=
  W_t0 C hK R G F (O.perm permB) ho (fun v a' h' F' O' p => kont v a' h' F' (O'.perm permB.symm) p) he
theorem W_tC0 (C : Can prog w K ro k x nm [] a post) (hK : ∀ v l, post v l → Keeps a l) (R : Room A k) (G : Gd K ro g) (F : Fr g L h m) (O : Ow g L h (S ++ a))
    (ho : Ev prog w A z env h o (.ref x)) (kont : ∀ v a' h', Fr g L h' m → Ow g L h' (S ++ a') → post v a' → Q v h') (he : CallIs env o nm apos pos [] [] := by rfl) :
    Wp (model prog w) A z (eval (.Call (.Attribute o nm apos) [] [] pos) env) Q h :=
  W_t0 C hK R G F (O.perm permC) ho (fun v a' h' F' O' p => kont v a' h' F' (O'.perm permC.symm) p) he
theorem W_tS0 (C : Can prog w K ro k x nm [] a post) (hK : ∀ v l, post v l → Keeps a l) (R : Room A k) (G : Gd K ro g) (F : Fr g L h m) (O : Ow g L h a)
    (ho : Ev prog w A z env h o (.ref x)) (kont : ∀ v a' h', Fr g L h' m → Ow g L h' a' → post v a' → Q v h') (he : CallIs env o nm apos pos [] [] := by rfl) :
    Wp (model prog w) A z (eval (.Call (.Attribute o nm apos) [] [] pos) env) Q h :=
  W_t0 (rest := []) C hK R G F (by rw [List.append_nil]; exact O) ho (fun v a' h' F' O' p => kont v a' h' F' (by rw [List.append_nil] at O'; exact O') p) he
theorem W_tA1 (C : Can prog w K ro k x nm [v] a post) (hK : ∀ v l, post v l → Keeps a l) (R : Room A k) (G : Gd K ro g) (F : Fr g L h m) (O : Ow g L h (S ++ (a ++ b)))
    (ho : Ev prog w A z env h o (.ref x)) (hv : Ev prog w A z env h e v) (kont : ∀ v a' h', Fr g L h' m → Ow g L h' (S ++ (a' ++ b)) → post v a' → Q v h')
    (he : CallIs env o nm apos pos [e] [] := by rfl) (hs : starEach [e] env = (false, eval e env) :: starEach [] env := by rfl) :
    Wp (model prog w) A z (eval (.Call (.Attribute o nm apos) [e] [] pos) env) Q h :=
  W_t1 C hK R G F (O.perm permA) ho hv (fun v a' h' F' O' p => kont v a' h' F' (O'.perm permA.symm) p) he hs
theorem W_tB1 (C : Can prog w K ro k x nm [v] b post) (hK : ∀ v l, post v l → Keeps b l) (R : Room A k) (G : Gd K ro g) (F : Fr g L h m) (O : Ow g L h (S ++ (a ++ b)))
    (ho : Ev prog w A z env h o (.ref x)) (hv : Ev prog w A z env h e v) (kont : ∀ v b' h', Fr g L h' m → Ow g L h' (S ++ (a ++ b')) → post v b' → Q v h')
    (he : CallIs env o nm apos pos [e] [] := by rfl) (hs : starEach [e] env = (false, eval e env) :: starEach [] env := by rfl) :
    Wp (model prog w) A z (eval (.Call (.Attribute o nm apos) [e] [] pos) env) Q h :=
  W_t1 C hK R G F (O.perm permB) ho hv (fun v a' h' F' O' p => kont v a' h' F' (O'.perm permB.symm) p) he hs
theorem W_tC1 (C : Can prog w K ro k x nm [v] a post) (hK : ∀ v l, post v l → Keeps a l) (R : Room A k) (G : Gd K ro g) (F : Fr g L h m) (O : Ow g L h (S ++ a))
    (ho : Ev prog w A z env h o (.ref x)) (hv : Ev prog w A z env h e v) (kont : ∀ v a' h', Fr g L h' m → Ow g L h' (S ++ a') → post v a' → Q v h')
    (he : CallIs env o nm apos pos [e] [] := by rfl) (hs : starEach [e] env = (false, eval e env) :: starEach [] env := by rfl) :
    Wp (model prog w) A z (eval (.Call (.Attribute o nm apos) [e] [] pos) env) Q h :=
  W_t1 C hK R G F (O.perm permC) ho hv (fun v a' h' F' O' p => kont v a' h' F' (O'.perm permC.symm) p) he hs
theorem sA {g h : Heap} {L : Addr} (O : Ow g L h (S ++ (a ++ b))) : Sub a (S ++ (a ++ b)) := ⟨fun e h => by simp [h], O.right.left.nd⟩
theorem sB {g h : Heap} {L : Addr} (O : Ow g L h (S ++ (a ++ b))) : Sub b (S ++ (a ++ b)) := ⟨fun e h => by simp [h], O.right.right.nd⟩
theorem sC {g h : Heap} {L : Addr} (O : Ow g L h (S ++ a)) : Sub a (S ++ a) := ⟨fun e h => by simp [h], O.right.nd⟩
end

/-! ## more statements -/
noncomputable def Lp (I : Nat → Heap → Prop) (n : Nat) (Q : Flow → Heap → Prop) (f : Flow) (h : Heap) : Prop := match f with
  | .next | .cont => ∃ m, m < n ∧ I m h
  | .brk => Q .next h
  | .ret v => Q (.ret v) h
noncomputable abbrev QWh (M : Model) (A : Around) (z : Shared) (env : Env) (body orelse : List Stmt) (I : Nat → Heap → Prop) (n : Nat) (Q : Flow → Heap → Prop) (b : Bool) (h : Heap) : Prop := (b = true → Wp M A z (execs body env) (Lp I n Q) h) ∧ (b = false → Wp M A z (execs orelse env) Q h)
theorem W_while {test : Expr} {body orelse : List Stmt} {pos : Pos} {Q : Flow → Heap → Prop} (I : Nat → Heap → Prop) (n : Nat) (h0 : I n h)
    (turn : ∀ n h, I n h → Wp (model prog w) A z (isTrue test env (eval test env)) (QWh (model prog w) A z env body orelse I n Q) h) :
    Wp (model prog w) A z (exec (.While test body orelse pos) env) Q h := fun tk => by
  refine wpAny_While (codeAny_whileLoop (fun n s => ∃ h tk, s = St z h tk ∧ I n h) ?_ n ⟨h, tk, rfl, h0⟩)
  rintro n s ⟨h, tk, rfl, hI⟩
  refine (turn n h hI).go (fun b h1 t1 k => ?_) tk
  cases b with
  | true =>
    refine (k.1 rfl).go (fun f h2 t2 k => ?_) t1
    cases f with
    | next => obtain ⟨m, hm, hI⟩ := k; exact ⟨m, hm, h2, t2, rfl, hI⟩
    | cont => obtain ⟨m, hm, hI⟩ := k; exact ⟨m, hm, h2, t2, rfl, hI⟩
    | brk => exact ⟨h2, t2, rfl, k⟩
    | ret v => exact ⟨h2, t2, rfl, k⟩
  | false => exact (k.2 rfl).go (fun f h2 t2 k => ⟨h2, t2, rfl, k⟩) t1
theorem W_expr {e : Expr} {pos : Pos} {Q : Flow → Heap → Prop} (x : Wp (model prog w) A z (eval e env) (QEx Q) h)
    (hi : interactive env = false := by rfl) (hs : swapsWith e none pos.line env = pure false := by rfl) : Wp (model prog w) A z (exec (.Expr e pos) env) Q h :=
  fun tk => wpAny_Expr (x.go (fun v h1 t1 k => by
    cases v <;> first | exact ⟨h1, t1, rfl, k.2⟩ | exact absurd rfl (k.1 _)) tk) hi hs
theorem W_assert {test : Expr} {msg : Option Expr} {pos : Pos} {Q : Flow → Heap → Prop} (x : Wp (model prog w) A z (isTrue test env (eval test env)) (QAt Q) h) :
    Wp (model prog w) A z (exec (.Assert test msg pos) env) Q h := fun tk => wpAny_Assert_holds (x.go (fun b h1 t1 k => ⟨k.1, h1, t1, rfl, k.2⟩) tk)
theorem W_break {pos : Pos} {Q : Flow → Heap → Prop} (q : Q .brk h) : Wp (model prog w) A z (exec (.Break pos) env) Q h := fun tk => wpAny_Break ⟨h, tk, rfl, q⟩
theorem W_continue {pos : Pos} {Q : Flow → Heap → Prop} (q : Q .cont h) : Wp (model prog w) A z (exec (.Continue pos) env) Q h := fun tk => wpAny_Continue ⟨h, tk, rfl, q⟩
theorem W_pass {pos : Pos} {Q : Flow → Heap → Prop} (q : Q .next h) : Wp (model prog w) A z (exec (.Pass pos) env) Q h := fun tk => wpAny_Pass ⟨h, tk, rfl, q⟩
theorem W_store {x : Str} {v : Value} {Q : Unit → Heap → Prop} (F : Fr g L h m) (O : Ow g L h led) (q : ∀ h2, Fr g L h2 (upd m x v) → Ow g L h2 led → Q () h2)
    (hk : scope.kind = .function := by rfl) (hx : (envX qual scope L fa cdv cl).kindOf x = some .local := by rfl) : Wp (model prog w) A z (storeName (envX qual scope L fa cdv cl) x v) Q h :=
  fun tk => storeX_L (s := St z h tk) F O.news (fun h2 F2 N2 => ⟨h2, tk + 1, rfl, q h2 F2 (O.ofNews N2)⟩) hk hx
theorem W_assignName {x : Str} {p1 : Pos} {v : Value} {Q : Unit → Heap → Prop} (F : Fr g L h m) (O : Ow g L h led) (q : ∀ h2, Fr g L h2 (upd m x v) → Ow g L h2 led → Q () h2)
    (hk : scope.kind = .function := by rfl) (hx : (envX qual scope L fa cdv cl).kindOf x = some .local := by rfl) : Wp (model prog w) A z (assign (.Name x p1) (envX qual scope L fa cdv cl) v) Q h := fun tk => by
  rw [arm_assign_Name]
  exact wpAny_bind (wpAny_standAt (wpAny_bindName (W_store F O q hk hx tk)))
theorem W_assign2 {x y : Str} {p1 p2 p3 : Pos} {value : Expr} {Q : Flow → Heap → Prop}
    (v : Wp (model prog w) A z (eval value (envX qual scope L fa cdv cl)) (fun v h1 => ∃ m1 led1, Fr g L h1 m1 ∧ Ow g L h1 led1 ∧ ∀ h2, Fr g L h2 (upd (upd m1 x v) y v) → Ow g L h2 led1 → Q .next h2) h)
    (hw : swappedStores [.Name x p1, .Name y p2] value (envX qual scope L fa cdv cl) = pure none := by rfl) (hk : scope.kind = .function := by rfl)
    (hx : (envX qual scope L fa cdv cl).kindOf x = some .local := by rfl) (hy : (envX qual scope L fa cdv cl).kindOf y = some .local := by rfl) :
    Wp (model prog w) A z (exec (.Assign [.Name x p1, .Name y p2] value p3) (envX qual scope L fa cdv cl)) Q h :=
  fun tk => wpAny_Assign_two (v.go (fun v h1 t1 k => by
    obtain ⟨m1, led1, F1, O1, k⟩ := k
    exact (W_assignName (Q := fun _ h2 => Wp (model prog w) A z (assign (.Name y p2) (envX qual scope L fa cdv cl) v) (fun _ => Q .next) h2) F1 O1 (fun h2 F2 O2 => W_assignName F2 O2 k hk hy) hk hx).go (fun _ h2 t2 k => k t2) t1) tk) rfl hw

/-- self.nm = value, the object's dict at the ledger's head -/
theorem W_put {y nm : Str} {p0 p1 p2 : Pos} {value : Expr} {v : Value} {x C d : Addr} {b : Nat} {φ : (Str → Option Value) → Prop} {rest : Led} {Q : Flow → Heap → Prop} (φ' : (Str → Option Value) → Prop) (b' : Nat) (F : Fr g L h m) (G : Gd K ro g) (O : Ow g L h (nodeB b d x C φ ++ rest)) (c : ClsOk K C) (f : FieldOk K C nm)
    (ev : Ev prog w A z (envX qual scope L fa cdv cl) h value v) (hφ : ∀ fs, φ fs → φ' (upd fs nm v) ∧ (((fs nm).isSome = true ∨ nm = "_id") ∧ b ≤ b' ∨ b + 1 ≤ b'))
    (q : ∀ h', Fr g L h' m → Ow g L h' (nodeB b' d x C φ' ++ rest) → Q .next h')
    (hn : nm ∉ methNames := by decide) (hb : b ≤ 900 := by first | omega | decide) (hy : m y = some (.ref x) := by rfl)
    (hs : swapsWith value (some (.Attribute (.Name y p0) nm p1)) p2.line (envX qual scope L fa cdv cl) = pure false := by rfl)
    (hk : scope.kind = .function := by rfl) (hl : (envX qual scope L fa cdv cl).kindOf y = some .local := by rfl) (hd : (y == ("__debug__" : Str)) = false := by decide) :
    Wp (model prog w) A z (exec (.Assign [.Attribute (.Name y p0) nm p1] value p2) (envX qual scope L fa cdv cl)) Q h :=
  W_assignAttr (ev.go (W_name F hy (W_setAttr F G O c f (List.mem_cons_self ..) hb b' hn hφ q) hk hl hd)) hs

/-! ## defs and classes by name -/
theorem W_fcall {id : Str} {p pos : Pos} {args : List Expr} {kws : List Keyword} {Q : Value → Heap → Prop}
    (x : Wp (model prog w) A z (eval (.Name id p) env) (QF1 (model prog w) A z env pos args kws Q) h) :
    Wp (model prog w) A z (eval (.Call (.Name id p) args kws pos) env) Q h := fun tk => wpAny_Call_Name_kw (x.go (fun f h1 t1 k => k t1) tk)
theorem W_callWithK {f : Value} {first : List Value} {e : Expr} {rest : List Expr} {kws : List Keyword} {pos : Pos} {Q : Value → Heap → Prop} (G : Gd K ro g) (hk : keepIn K f = true)
    (x : Wp (model prog w) A z (spliced (backTo pos (starEach (e :: rest) env))) (fun vs h1 => Wp (model prog w) A z (evalAll ((backToKw pos (keywordEach kws env)).map (·.2)))
      (fun ks h2 => K.In h2 ∧ Wp (model prog w) A z (call f (first ++ vs) (((backToKw pos (keywordEach kws env)).filterMap (·.1)).zip ks)) Q h2) h1) h)
    (hall : (backToKw pos (keywordEach kws env)).all (·.1.isSome) = true := by rfl)
    (hplain : ((backTo pos (starEach (e :: rest) env)).any (·.1) || (backToKw pos (keywordEach kws env)).any (·.1.isNone)) = false := by rfl) (he : starEach (e :: rest) env = (false, eval e env) :: starEach rest env := by rfl) :
    Wp (model prog w) A z (callWith pos f first (backTo pos (starEach (e :: rest) env)) (backToKw pos (keywordEach kws env))) Q h :=
  fun tk => callWith_KW G.kin hk hall (x.go (fun vs h1 t1 k => k.go (fun ks h2 t2 k => ⟨k.1, k.2 t2⟩) t1) tk) hplain he
theorem W_kwN {Q : List Value → Heap → Prop} (q : Q [] h) : Wp (model prog w) A z (evalAll []) Q h := fun tk => wpAny_evalAll_nil ⟨h, tk, rfl, q⟩
theorem W_kwC {x : Sem Value} {rest : List (Sem Value)} {Q : List Value → Heap → Prop} (y : Wp (model prog w) A z x (QK1 (model prog w) A z rest Q) h) :
    Wp (model prog w) A z (evalAll (x :: rest)) Q h := fun tk => wpAny_evalAll_cons (y.go (fun v h1 t1 k => k.go (fun vs h2 t2 k => ⟨h2, t2, rfl, k⟩) t1) tk)
theorem W_kwBack {e : Expr} {pos : Pos} {Q : Value → Heap → Prop} (y : Wp (model prog w) A z (eval e env) Q h) : Wp (model prog w) A z (do let v ← eval e env; standAt pos; pure v) Q h :=
  Wp.bind (y.mono fun v h1 q => Wp.bind (fun tk => wpAny_standAt ⟨h1, tk, rfl, fun tk => wpAny_pure ⟨h1, tk, rfl, q⟩⟩))

theorem Room.make {A : Around} {k : Nat} (R : Room A (k + 1)) (C : Addr) (args : List Value) (kw : List (Str × Value)) : Room (A.under (.builtin "type.__call__" ⟨.ref C :: args, kw⟩)) k :=
  ⟨R.1, by have := R.2.1; rw [depth_under_kw]; omega, by
    have := R.2.2
    show A.units + (Code.builtin "type.__call__" ⟨.ref C :: args, kw⟩).cUnits + 8 * k < 9800
    have : (Code.builtin "type.__call__" ⟨.ref C :: args, kw⟩).cUnits = 1 := rfl
    omega⟩
end

/-- a class called: its __init__ upon a new object -/
theorem does_make {prog : Program} {w : World} {K : Frag} {ro : List (Addr × Obj)} {k : Nat} {C fI : Addr} {args : List Value} {kw : List (Str × Value)} {own : Led} {post : Value → Led → Prop} (hi : MethOk K C "__init__" fI ∧ makesIn K C = true)
    (init : ∀ x d, Does prog w K ro k (.ref fI) (.ref x :: args) kw (nodeB 1 d x C (fun fs => ∀ y, fs y = none) ++ own) (fun v own' => v = .none ∧ post (.ref x) own')) :
    Does prog w K ro (k + 1) (.ref C) args kw own post := by
  intro A z g h Q R G st sz o kont tk
  -- a frame of no one: the ledger's own heap; the two new objects
  have X : K.In h := G.kin.keeps st
  have key := make_core (prog := prog) (w := w) (A := A) (C := C) (h := h) (g := z.gens) (d := z.drawn) (t := tk) (os := z.os) (rest := args) (kw := kw) (init := .ref fI)
    (R := fun r s' => match r with | .ok (.ret v) => (∃ h' tk', s' = St z h' tk' ∧ Q v h') | _ => False)
    (makes_of X hi.2) (looks_findIn X hi.1.1) (fun self => bind_fn X self (beq_iff_eq.mp hi.1.2.1)) (.inl rfl)
  refine key ?_
  have hx : ((h.push emptyDict).push (instObj C h.objs.size)).get? (h.objs.size + 1) = some (instObj C h.objs.size) := by
    have := Heap.get?_push_size (h.push emptyDict) (o := instObj C h.objs.size) rfl
    rwa [Heap.size_push] at this
  have hd : ((h.push emptyDict).push (instObj C h.objs.size)).get? h.objs.size = some emptyDict := Heap.get?_push_of_some _ (Heap.get?_push_size h rfl)
  have up : ∀ b o, h.get? b = some o → ((h.push emptyDict).push (instObj C h.objs.size)).get? b = some o := fun b o e => Heap.get?_push_of_some _ (Heap.get?_push_of_some _ e)
  have gn : ∀ b, h.objs.size ≤ b → g.get? b = none := fun b hb => by
    cases q : g.get? b with
    | none => rfl
    | some y => exact absurd (Heap.lt_size (st _ _ q)) (Nat.not_lt.mpr hb)
  have lt : ∀ p ∈ own, p.1 < h.objs.size := fun p hp => let ⟨x, e, _⟩ := o.has.get p hp; Heap.lt_size e
  have O' : Own g ((h.push emptyDict).push (instObj C h.objs.size)) (nodeB 1 h.objs.size (h.objs.size + 1) C (fun fs => ∀ y, fs y = none) ++ own) := by
    refine ⟨⟨fun p hp => ?_⟩, fun p hp => ?_, ?_⟩
    · rcases List.mem_cons.mp hp with rfl | hp
      · exact ⟨_, hd, fun _ => none, ⟨Fields.empty.le (by decide), .inr ⟨0, rfl, Fields.empty⟩⟩, fun _ _ => rfl, fun _ => rfl⟩
      · rcases List.mem_cons.mp hp with rfl | hp
        · exact ⟨_, hx, rfl⟩
        · obtain ⟨y, e, q⟩ := o.has.get p hp
          exact ⟨y, up _ _ e, q⟩
    · rcases List.mem_cons.mp hp with rfl | hp
      · exact gn _ (Nat.le_refl _)
      · rcases List.mem_cons.mp hp with rfl | hp
        · exact gn _ (Nat.le_succ _)
        · exact o.off p hp
    · refine List.pairwise_cons.mpr ⟨fun p hp e => ?_, List.pairwise_cons.mpr ⟨fun p hp e => ?_, o.nd⟩⟩
      · rcases List.mem_cons.mp hp with rfl | hp
        · exact absurd e (Nat.ne_of_lt (Nat.lt_succ_self _))
        · exact absurd (lt p hp) (by rw [← show h.objs.size = p.1 from e]; exact Nat.lt_irrefl _)
      · exact absurd (lt p hp) (by rw [← show h.objs.size + 1 = p.1 from e]; exact Nat.not_lt.mpr (Nat.le_succ _))
  have D := init (h.objs.size + 1) h.objs.size (A.under (.builtin "type.__call__" ⟨.ref C :: args, kw⟩)) z g ((h.push emptyDict).push (instObj C h.objs.size)) (fun v h' => v = .none ∧ Q (.ref (h.objs.size + 1)) h')
    (R.make C args kw) G (fun b x e => up _ _ (st _ _ e)) (by rw [Heap.size_push, Heap.size_push]; omega) O' (fun v own' h' st' o' p => ⟨p.1, kont _ own' h' st' o' p.2⟩)
  exact codeAny_mono (D tk) fun r s' q => by
    rcases r with e | (v | _ | _ | _) <;> first | exact q.elim | skip
    obtain ⟨h', tk', rfl, e, q⟩ := q
    exact ⟨e, h', tk', rfl, q⟩
end Mine
end
section
set_option maxRecDepth 10000
/-! plain tables: sorted lists of (id, score) -/
namespace Mine
noncomputable abbrev Tb := List (Int × Int)
noncomputable def Srt (T : Tb) : Prop := T.Pairwise fun a b => a.1 < b.1
noncomputable def lk (k : Int) (T : Tb) : Option Int := T.lookup k
noncomputable def dropLt (i : Int) (T : Tb) : Tb := T.dropWhile fun e => decide (e.1 < i)
noncomputable def mergeT (a : Tb) : Tb → Tb :=
  List.rec (fun b => b) (fun e a' ih b => List.rec (e :: a') (fun f b' ihb => if e.1 < f.1 then e :: ih (f :: b') else if f.1 < e.1 then f :: ihb else (e.1, e.2 + f.2) :: ih b') b) a
noncomputable def joinT (f : Int → Int → Int) (a b : Tb) : Tb := a.filterMap fun e => (lk e.1 b).map fun t => (e.1, f e.2 t)
noncomputable def diffT (a b : Tb) : Tb := a.filter fun e => (lk e.1 b).isNone
noncomputable def maybeT (a b : Tb) : Tb := a.map fun e => (e.1, e.2 + (lk e.1 b).getD 0)
noncomputable def mulT (c : Int) (a : Tb) : Tb := a.map fun e => (e.1, e.2 * c)
noncomputable def constT (c : Int) (a : Tb) : Tb := a.map fun e => (e.1, c)
noncomputable def filtT (ids : List Int) (ex : Bool) (a : Tb) : Tb := a.filter fun e => ids.contains e.1 != ex
noncomputable def invT (i wt : Int) (c : Tb) : Tb := (List.range 12).filterMap fun (k : Nat) => if i ≤ (k : Int) ∧ (lk (k : Int) c).isNone = true then some ((k : Int), wt) else none
/-- the first ids of two tables are one, where there are two -/
noncomputable def MeetT (a b : Tb) : Prop := ∀ e a' f b', a = e :: a' → b = f :: b' → e.1 = f.1

theorem Srt.tail {e : Int × Int} {T : Tb} (h : Srt (e :: T)) : Srt T := (List.pairwise_cons.mp h).2
theorem Srt.head {e : Int × Int} {T : Tb} (h : Srt (e :: T)) : ∀ f ∈ T, e.1 < f.1 := (List.pairwise_cons.mp h).1
theorem lk_nil (k : Int) : lk k [] = none := rfl
theorem lk_cons (k : Int) (e : Int × Int) (T : Tb) : lk k (e :: T) = if k = e.1 then some e.2 else lk k T := by
  unfold lk
  obtain ⟨a, b⟩ := e
  rw [List.lookup_cons]
  by_cases h : k = a
  · subst h; simp
  · have : (k == a) = false := by simpa using h
    simp [this, h]
theorem lk_none_of {k : Int} {T : Tb} (h : ∀ e ∈ T, e.1 ≠ k) : lk k T = none := by
  induction T with
  | nil => rfl
  | cons e r ih =>
    rw [lk_cons, if_neg (fun q => h e (List.mem_cons_self ..) q.symm)]
    exact ih fun f hf => h f (List.mem_cons_of_mem _ hf)
theorem lk_none_iff {k : Int} {T : Tb} : lk k T = none ↔ ∀ e ∈ T, e.1 ≠ k := by
  refine ⟨fun h => ?_, lk_none_of⟩
  induction T with
  | nil => intro e he; cases he
  | cons f r ih =>
    rw [lk_cons] at h
    by_cases q : k = f.1
    · rw [if_pos q] at h; cases h
    · rw [if_neg q] at h
      intro e he
      rcases List.mem_cons.mp he with rfl | he
      · exact fun z => q z.symm
      · exact ih h e he
theorem lk_head_lt {k : Int} {T : Tb} (h : Srt T) (hk : ∀ e T', T = e :: T' → k < e.1) : lk k T = none := by
  cases T with
  | nil => rfl
  | cons e r =>
    have h0 := hk e r rfl
    refine lk_none_of fun f hf => ?_
    rcases List.mem_cons.mp hf with rfl | hf
    · omega
    · have := h.head f hf; omega
theorem dropLt_nil (i : Int) : dropLt i [] = [] := rfl
theorem dropLt_cons (i : Int) (e : Int × Int) (T : Tb) : dropLt i (e :: T) = if e.1 < i then dropLt i T else e :: T := by
  unfold dropLt
  rw [List.dropWhile_cons]
  by_cases h : e.1 < i <;> simp [h]
theorem dropLt_ge {i : Int} {e : Int × Int} {T : Tb} (h : i ≤ e.1) : dropLt i (e :: T) = e :: T := by rw [dropLt_cons, if_neg (by omega)]
theorem dropLt_srt {i : Int} {T : Tb} (h : Srt T) : Srt (dropLt i T) := h.sublist (List.dropWhile_sublist _)
theorem dropLt_mem {i : Int} {T : Tb} (h : Srt T) : ∀ e ∈ dropLt i T, i ≤ e.1 ∧ e ∈ T := by
  induction T with
  | nil => intro e he; cases he
  | cons f r ih =>
    intro e he
    rw [dropLt_cons] at he
    by_cases q : f.1 < i
    · rw [if_pos q] at he
      exact ⟨(ih h.tail e he).1, List.mem_cons_of_mem _ (ih h.tail e he).2⟩
    · rw [if_neg q] at he
      refine ⟨?_, he⟩
      rcases List.mem_cons.mp he with rfl | he
      · omega
      · have := h.head e he; omega
theorem dropLt_lk {i k : Int} {T : Tb} (hk : i ≤ k) : lk k (dropLt i T) = lk k T := by
  induction T with
  | nil => rfl
  | cons e r ih =>
    rw [dropLt_cons]
    by_cases q : e.1 < i
    · rw [if_pos q, lk_cons, if_neg (by omega)]; exact ih
    · rw [if_neg q]
theorem dropLt_le {i j : Int} {T : Tb} (h : i ≤ j) : dropLt j (dropLt i T) = dropLt j T := by
  induction T with
  | nil => rfl
  | cons e r ih =>
    rw [dropLt_cons i e r]
    by_cases q : e.1 < i
    · rw [if_pos q, ih, dropLt_cons, if_pos (by omega)]
    · rw [if_neg q]
theorem dropLt_len (i : Int) (T : Tb) : (dropLt i T).length ≤ T.length := (List.dropWhile_sublist _).length_le
theorem mergeT_nil_left (b : Tb) : mergeT [] b = b := rfl
theorem mergeT_nil_right (a : Tb) : mergeT a [] = a := by cases a <;> rfl
theorem mergeT_cons (i s j t : Int) (a b : Tb) : mergeT ((i, s) :: a) ((j, t) :: b) = if i < j then (i, s) :: mergeT a ((j, t) :: b) else if j < i then (j, t) :: mergeT ((i, s) :: a) b else (i, s + t) :: mergeT a b := rfl
theorem mergeT_isEmpty (a b : Tb) : (mergeT a b).isEmpty = (a.isEmpty && b.isEmpty) := by
  match a, b with
  | [], b => simp [mergeT_nil_left]
  | a, [] => simp [mergeT_nil_right]
  | (i, s) :: a, (j, t) :: b => rw [mergeT_cons]; split <;> (try split) <;> rfl
theorem mergeT_dropLt (i : Int) : ∀ (n : Nat) (a b : Tb), a.length + b.length ≤ n → dropLt i (mergeT a b) = mergeT (dropLt i a) (dropLt i b) := by
  intro n
  induction n with
  | zero =>
    intro a b h
    have ha : a = [] := by cases a <;> simp_all
    subst ha
    rw [mergeT_nil_left, dropLt_nil, mergeT_nil_left]
  | succ n ih =>
    intro a b h
    match a, b with
    | [], b => rw [mergeT_nil_left, dropLt_nil, mergeT_nil_left]
    | a, [] => rw [mergeT_nil_right, dropLt_nil, mergeT_nil_right]
    | (p, s) :: a, (q, t) :: b =>
      simp only [List.length_cons] at h
      rw [mergeT_cons]
      by_cases h1 : p < q
      · rw [if_pos h1, dropLt_cons i (p, s)]
        by_cases h2 : p < i
        · rw [if_pos h2, ih a ((q, t) :: b) (by simp only [List.length_cons]; omega), dropLt_cons i (p, s) a, if_pos h2]
        · rw [if_neg h2, dropLt_ge (by show i ≤ p; omega), dropLt_ge (by show i ≤ q; omega), mergeT_cons, if_pos h1]
      · rw [if_neg h1]
        by_cases h3 : q < p
        · rw [if_pos h3, dropLt_cons i (q, t)]
          by_cases h2 : q < i
          · rw [if_pos h2, ih ((p, s) :: a) b (by simp only [List.length_cons]; omega), dropLt_cons i (q, t) b, if_pos h2]
          · rw [if_neg h2, dropLt_ge (by show i ≤ p; omega), dropLt_ge (by show i ≤ q; omega), mergeT_cons, if_neg h1, if_pos h3]
        · have e : p = q := by omega
          subst e
          rw [if_neg h3, dropLt_cons i (p, s + t)]
          by_cases h2 : p < i
          · rw [if_pos h2, ih a b (by omega), dropLt_cons i (p, s) a, dropLt_cons i (p, t) b, if_pos h2, if_pos h2]
          · rw [if_neg h2, dropLt_ge (by show i ≤ p; omega), dropLt_ge (by show i ≤ p; omega), mergeT_cons, if_neg h1, if_neg h3]
theorem dropLt_merge (i : Int) (a b : Tb) : dropLt i (mergeT a b) = mergeT (dropLt i a) (dropLt i b) := mergeT_dropLt i _ a b (Nat.le_refl _)
theorem mergeT_mem : ∀ (n : Nat) (a b : Tb), a.length + b.length ≤ n → ∀ k : Int, (∃ e ∈ mergeT a b, e.1 = k) → (∃ e ∈ a, e.1 = k) ∨ (∃ e ∈ b, e.1 = k) := by
  intro n
  induction n with
  | zero =>
    intro a b h
    have ha : a = [] := by cases a <;> simp_all
    subst ha
    intro k hk; rw [mergeT_nil_left] at hk; exact .inr hk
  | succ n ih =>
    intro a b h k hk
    match a, b with
    | [], b => rw [mergeT_nil_left] at hk; exact .inr hk
    | a, [] => rw [mergeT_nil_right] at hk; exact .inl hk
    | (p, s) :: a, (q, t) :: b =>
      simp only [List.length_cons] at h
      rw [mergeT_cons] at hk
      obtain ⟨e, he, rfl⟩ := hk
      split at he
      · rcases List.mem_cons.mp he with rfl | he
        · exact .inl ⟨_, List.mem_cons_self .., rfl⟩
        · rcases ih a ((q, t) :: b) (by simp only [List.length_cons]; omega) _ ⟨e, he, rfl⟩ with ⟨f, hf, q⟩ | z
          · exact .inl ⟨f, List.mem_cons_of_mem _ hf, q⟩
          · exact .inr z
      · split at he
        · rcases List.mem_cons.mp he with rfl | he
          · exact .inr ⟨_, List.mem_cons_self .., rfl⟩
          · rcases ih ((p, s) :: a) b (by simp only [List.length_cons]; omega) _ ⟨e, he, rfl⟩ with z | ⟨f, hf, q⟩
            · exact .inl z
            · exact .inr ⟨f, List.mem_cons_of_mem _ hf, q⟩
        · rcases List.mem_cons.mp he with rfl | he
          · exact .inl ⟨_, List.mem_cons_self .., rfl⟩
          · rcases ih a b (by omega) _ ⟨e, he, rfl⟩ with ⟨f, hf, q⟩ | ⟨f, hf, q⟩
            · exact .inl ⟨f, List.mem_cons_of_mem _ hf, q⟩
            · exact .inr ⟨f, List.mem_cons_of_mem _ hf, q⟩
theorem mergeT_srt : ∀ (n : Nat) (a b : Tb), a.length + b.length ≤ n → Srt a → Srt b → Srt (mergeT a b) := by
  intro n
  induction n with
  | zero =>
    intro a b h sa sb
    have ha : a = [] := by cases a <;> simp_all
    subst ha
    rw [mergeT_nil_left]; exact sb
  | succ n ih =>
    intro a b h sa sb
    match a, b with
    | [], b => rw [mergeT_nil_left]; exact sb
    | a, [] => rw [mergeT_nil_right]; exact sa
    | (p, s) :: a, (q, t) :: b =>
      simp only [List.length_cons] at h
      rw [mergeT_cons]
      split
      · refine List.pairwise_cons.mpr ⟨fun e he => ?_, ih a ((q, t) :: b) (by simp only [List.length_cons]; omega) sa.tail sb⟩
        rcases mergeT_mem _ a ((q, t) :: b) (Nat.le_refl _) e.1 ⟨e, he, rfl⟩ with ⟨f, hf, z⟩ | ⟨f, hf, z⟩
        · rw [← z]; exact sa.head f hf
        · rw [← z]
          rcases List.mem_cons.mp hf with rfl | hf
          · assumption
          · have := sb.head f hf; show p < f.1; simp only at this; omega
      · split
        · refine List.pairwise_cons.mpr ⟨fun e he => ?_, ih ((p, s) :: a) b (by simp only [List.length_cons]; omega) sa sb.tail⟩
          rcases mergeT_mem _ ((p, s) :: a) b (Nat.le_refl _) e.1 ⟨e, he, rfl⟩ with ⟨f, hf, z⟩ | ⟨f, hf, z⟩
          · rw [← z]
            rcases List.mem_cons.mp hf with rfl | hf
            · assumption
            · have := sa.head f hf; show q < f.1; simp only at this; omega
          · rw [← z]; exact sb.head f hf
        · have e : p = q := by omega
          subst e
          refine List.pairwise_cons.mpr ⟨fun e he => ?_, ih a b (by omega) sa.tail sb.tail⟩
          rcases mergeT_mem _ a b (Nat.le_refl _) e.1 ⟨e, he, rfl⟩ with ⟨f, hf, z⟩ | ⟨f, hf, z⟩
          · rw [← z]; exact sa.head f hf
          · rw [← z]; exact sb.head f hf
end Mine
end
section
set_option maxRecDepth 10000
namespace Mine

noncomputable def isInt (i : Int) (v : Value) : Prop := ∃ tk, v = .int i tk
theorem isInt.handed {i : Int} {v : Value} (h : isInt i v) : handedIn v = true := by obtain ⟨tk, rfl⟩ := h; rfl
noncomputable def Vn (v : Value) : Prop := v = .none ∨ ∃ b, v = .bool b

/-! ## the words of each kind of node -/
noncomputable def φLeaf (li lw : Addr) (i : Int) (fs : Str → Option Value) : Prop :=
  fs "_ids" = some (.ref li) ∧ fs "_weights" = some (.ref lw) ∧ fs "_all_weights" = some .none ∧ fs "_values" = some .none ∧ fs "_format" = some .none ∧ fs "_scorer" = some .none ∧ ∃ v, fs "_i" = some v ∧ isInt i v
noncomputable def φBi (xa xb : Addr) (fs : Str → Option Value) : Prop := fs "a" = some (.ref xa) ∧ fs "b" = some (.ref xb)
noncomputable def idOk (T : Tb) (o : Option Value) : Prop := o = none ∨ o = some .none ∨ ∃ v e T', o = some v ∧ T = e :: T' ∧ isInt e.1 v
noncomputable def φUnion (xa xb : Addr) (T : Tb) (fs : Str → Option Value) : Prop := φBi xa xb fs ∧ idOk T (fs "_id")
noncomputable def φWrap (xc : Addr) (c : Int) (fs : Str → Option Value) : Prop := fs "child" = some (.ref xc) ∧ ∃ v, fs "boost" = some v ∧ isInt c v
noncomputable def φFilt (xc : Addr) (c : Int) (li : Addr) (ex : Bool) (fs : Str → Option Value) : Prop := φWrap xc c fs ∧ fs "_ids" = some (.ref li) ∧ fs "_exclude" = some (.bool ex)
noncomputable def φInv (xc t : Addr) (wt i : Int) (fs : Str → Option Value) : Prop :=
  φWrap xc 1 fs ∧ (∃ v, fs "limit" = some v ∧ isInt 12 v) ∧ (∃ v, fs "_weight" = some v ∧ isInt wt v) ∧ fs "missing" = some (.ref t) ∧ ∃ v, fs "_id" = some v ∧ isInt i v
noncomputable def φConst (xc : Addr) (s : Int) (fs : Str → Option Value) : Prop := φWrap xc 1 fs ∧ ∃ v, fs "_score" = some v ∧ isInt s v
noncomputable def φReq (xa xb y : Addr) (fs : Str → Option Value) : Prop := φBi xa xb fs ∧ φWrap y 1 fs
noncomputable def tupC : Cell := isObj { cls := .type "tuple", data := .seq #[] }

/-- a Null: it never changes, and copies share it -/
noncomputable def nullC (d x : Addr) : Led := [(d, isObj emptyDict), (x, isObj (instObj cNull d))]
structure LeafOk (ro : List (Addr × Obj)) (li lw : Addr) (ids ws : List Int) : Prop where
  li : ∃ vs n, (li, listOf (List.toArray vs) n) ∈ ro ∧ IntsAre vs ids
  lw : ∃ vs n, (lw, listOf (List.toArray vs) n) ∈ ro ∧ IntsAre vs ws
  len : ws.length = ids.length
  short : ids.length ≤ 1000
  srt : ids.Pairwise (· < ·)
  lo : ∀ k ∈ ids, 0 ≤ k ∧ k < 12
  pos : ∀ k ∈ ws, 0 ≤ k
structure ListOk (ro : List (Addr × Obj)) (li : Addr) (ids : List Int) : Prop where
  li : ∃ vs n, (li, listOf (List.toArray vs) n) ∈ ro ∧ IntsAre vs ids
  len : ids.length ≤ 1000

/-- the ledger own bears, at x, a matcher whose table is T -/
inductive MRep (ro : List (Addr × Obj)) : Bool → Nat → Led → Addr → Tb → Prop
  | null {p : Bool} {n : Nat} {d x : Addr} : MRep ro p n (nullC d x) x []
  | leaf {p : Bool} {n : Nat} {d x li lw : Addr} {ids ws : List Int} {i : Nat} : LeafOk ro li lw ids ws → MRep ro p n (nodeC d x cList (φLeaf li lw i)) x ((ids.zip ws).drop i)
  | union {p pa pb : Bool} {n na nb : Nat} {d x xa xb : Addr} {la lb : Led} {Ta Tb : Tb} : (p = true → pa = true ∧ pb = true) → na < n → nb < n → MRep ro pa na la xa Ta → MRep ro pb nb lb xb Tb →
      MRep ro p n (nodeC d x cUnion (φUnion xa xb (mergeT Ta Tb)) ++ (la ++ lb)) x (mergeT Ta Tb)
  | inter {p : Bool} {n na nb : Nat} {d x xa xb : Addr} {la lb : Led} {Ta Tb : Tb} : na < n → nb < n → MRep ro true na la xa Ta → MRep ro true nb lb xb Tb → MeetT Ta Tb →
      MRep ro p n (nodeC d x cInter (φBi xa xb) ++ (la ++ lb)) x (joinT (· + ·) Ta Tb)
  | andnot {n na nb : Nat} {d x xa xb : Addr} {pa : Bool} {la lb : Led} {Ta Tb : Tb} : na < n → nb < n → MRep ro pa na la xa Ta → MRep ro true nb lb xb Tb → (∀ e T', Ta = e :: T' → lk e.1 Tb = none) →
      MRep ro false n (nodeC d x cAndNot (φBi xa xb) ++ (la ++ lb)) x (diffT Ta Tb)
  | maybe {n na nb : Nat} {d x xa xb : Addr} {pa : Bool} {la lb : Led} {Ta Tb : Tb} : na < n → nb < n → MRep ro pa na la xa Ta → MRep ro true nb lb xb Tb → (∀ e T' f U, Ta = e :: T' → Tb = f :: U → e.1 ≤ f.1) →
      MRep ro false n (nodeC d x cMaybe (φBi xa xb) ++ (la ++ lb)) x (maybeT Ta Tb)
  | wrap {p pc : Bool} {n nc : Nat} {d x xc : Addr} {c : Int} {lc : Led} {Tc : Tb} : (p = true → pc = true) → nc < n → 0 ≤ c → c ≤ 100 → MRep ro pc nc lc xc Tc →
      MRep ro p n (nodeC d x cWrap (φWrap xc c) ++ lc) x (mulT c Tc)
  | filt {n nc : Nat} {d x xc li : Addr} {c : Int} {ex : Bool} {ids : List Int} {pc : Bool} {lc : Led} {Tc : Tb} : nc < n → 0 ≤ c → c ≤ 100 → ListOk ro li ids → MRep ro pc nc lc xc Tc → (∀ e T', Tc = e :: T' → (ids.contains e.1 != ex) = true) →
      MRep ro false n (nodeC d x cFilt (φFilt xc c li ex) ++ lc) x (mulT c (filtT ids ex Tc))
  | inv {p : Bool} {n nc : Nat} {d x xc t : Addr} {wt i : Int} {lc : Led} {Tc : Tb} : nc < n → 0 ≤ i → MRep ro true nc lc xc Tc → (∀ e T', Tc = e :: T' → i < e.1) →
      MRep ro p n (nodeC d x cInv (φInv xc t wt i) ++ ([(t, tupC)] ++ lc)) x (invT i wt Tc)
  | req {p : Bool} {n na nb : Nat} {d x d2 y xa xb : Addr} {la lb : Led} {Ta Tb : Tb} : na + 1 < n → nb + 1 < n → MRep ro true na la xa Ta → MRep ro true nb lb xb Tb → MeetT Ta Tb →
      MRep ro p n (nodeC d x cReq (φReq xa xb y) ++ (nodeC d2 y cInter (φBi xa xb) ++ (la ++ lb))) x (joinT (fun s _ => s) Ta Tb)
  | const {p pc : Bool} {n nc : Nat} {d x xc : Addr} {s : Int} {lc : Led} {Tc : Tb} : (p = true → pc = true) → nc < n → 0 ≤ s → MRep ro pc nc lc xc Tc →
      MRep ro p n (nodeC d x cConst (φConst xc s) ++ lc) x (constT s Tc)

structure SpecAt (prog : Program) (w : World) (K : Frag) (ro : List (Addr × Obj)) (k : Nat) (p : Bool) (n : Nat) (own : Led) (x : Addr) (T : Tb) : Prop where
  active : Can prog w K ro k x "is_active" [] own fun v l => l = own ∧ v = .bool (!T.isEmpty)
  id : ∀ e T', T = e :: T' → Can prog w K ro k x "id" [] own fun v l => l = own ∧ isInt e.1 v
  score : ∀ e T', T = e :: T' → Can prog w K ro k x "score" [] own fun v l => l = own ∧ isInt e.2 v
  next : ∀ e T', T = e :: T' → Can prog w K ro k x "next" [] own fun v l => Vn v ∧ MRep ro p n l x T' ∧ Keeps own l
  maxq : Can prog w K ro k x "max_quality" [] own fun v l => l = own ∧ ∃ q, isInt q v ∧ 0 ≤ q
  copy : Can prog w K ro k x "copy" [] own fun v l => ∃ nw, l = nw ++ own ∧ ∃ y, v = .ref y ∧ MRep ro p n nw y T
  repl : ∀ args, (args = [] ∨ ∃ i tk, i ≤ 0 ∧ args = [.int i tk]) → Can prog w K ro k x "replace" args own fun v l => ∃ nw, l = nw ++ own ∧ ∃ y o1, v = .ref y ∧ Sub o1 (nw ++ own) ∧ MRep ro p n o1 y T
  skip : p = true → ∀ i tk e T', T = e :: T' → Can prog w K ro k x "skip_to" [.int i tk] own fun v l => Vn v ∧ MRep ro p n l x (dropLt i T) ∧ (i ≤ e.1 → l = own) ∧ Keeps own l
/-- all matchers of lesser rank keep the contracts -/
noncomputable def IH (prog : Program) (w : World) (K : Frag) (ro : List (Addr × Obj)) (n : Nat) : Prop := ∀ p m own x T, m < n → MRep ro p m own x T → SpecAt prog w K ro (12 * n) p m own x T

theorem Keeps.refl {l : Led} : Keeps l l := fun _ h _ => h
theorem Keeps.node {b b' : Nat} {d x C : Addr} {φ φ' : (Str → Option Value) → Prop} {r r' : Led} (k : Keeps r r') : Keeps (nodeB b d x C φ ++ r) (nodeB b' d x C φ' ++ r') := fun p hp f => by
  rcases List.mem_cons.mp hp with rfl | hp
  · exact f.elim
  · rcases List.mem_cons.mp hp with rfl | hp
    · simp [nodeB]
    · exact List.mem_append_right _ (k p hp f)
theorem Keeps.app {a a' b b' : Led} (k : Keeps a a') (k2 : Keeps b b') : Keeps (a ++ b) (a' ++ b') := fun p hp f => by
  rcases List.mem_append.mp hp with hp | hp
  · exact List.mem_append_left _ (k p hp f)
  · exact List.mem_append_right _ (k2 p hp f)
theorem Keeps.trans {a b c : Led} (k : Keeps a b) (k2 : Keeps b c) : Keeps a c := fun p hp f => k2 p (k p hp f) f
theorem MRep.up {ro : List (Addr × Obj)} {p : Bool} {n n' : Nat} {own : Led} {x : Addr} {T : Tb} (h : MRep ro p n own x T) (hn : n ≤ n') : MRep ro p n' own x T := by
  cases h with
  | null => exact .null
  | leaf h => exact .leaf h
  | union h1 h2 h3 h4 h5 => exact .union h1 (Nat.lt_of_lt_of_le h2 hn) (Nat.lt_of_lt_of_le h3 hn) h4 h5
  | inter h2 h3 h4 h5 h6 => exact .inter (Nat.lt_of_lt_of_le h2 hn) (Nat.lt_of_lt_of_le h3 hn) h4 h5 h6
  | andnot h2 h3 h4 h5 h6 => exact .andnot (Nat.lt_of_lt_of_le h2 hn) (Nat.lt_of_lt_of_le h3 hn) h4 h5 h6
  | maybe h2 h3 h4 h5 h6 => exact .maybe (Nat.lt_of_lt_of_le h2 hn) (Nat.lt_of_lt_of_le h3 hn) h4 h5 h6
  | wrap h1 h2 h3 h4 h5 => exact .wrap h1 (Nat.lt_of_lt_of_le h2 hn) h3 h4 h5
  | filt h2 h3 h4 h5 h6 h7 => exact .filt (Nat.lt_of_lt_of_le h2 hn) h3 h4 h5 h6 h7
  | inv h2 h3 h4 h5 => exact .inv (Nat.lt_of_lt_of_le h2 hn) h3 h4 h5
  | req h2 h3 h4 h5 h6 => exact .req (Nat.lt_of_lt_of_le h2 hn) (Nat.lt_of_lt_of_le h3 hn) h4 h5 h6
  | const h1 h2 h3 h4 => exact .const h1 (Nat.lt_of_lt_of_le h2 hn) h3 h4
theorem MRep.weak {ro : List (Addr × Obj)} {n : Nat} {own : Led} {x : Addr} {T : Tb} (p : Bool) (h : MRep ro true n own x T) : MRep ro p n own x T := by
  cases p with
  | true => exact h
  | false =>
    cases h with
    | null => exact .null
    | leaf h => exact .leaf h
    | union h1 h2 h3 h4 h5 => exact .union (fun e => nomatch e) h2 h3 h4 h5
    | inter h2 h3 h4 h5 h6 => exact .inter h2 h3 h4 h5 h6
    | wrap h1 h2 h3 h4 h5 => exact .wrap (fun e => nomatch e) h2 h3 h4 h5
    | inv h2 h3 h4 h5 => exact .inv h2 h3 h4 h5
    | req h2 h3 h4 h5 h6 => exact .req h2 h3 h4 h5 h6
    | const h1 h2 h3 h4 => exact .const (fun e => nomatch e) h2 h3 h4
end Mine
end
section
set_option maxRecDepth 10000
namespace Mine

section
variable {prog : Program} {w : World} {K : Frag} {ro : List (Addr × Obj)} {A : Around} {z : Shared} {g h : Heap} {L : Addr} {m : Str → Option Value} {led : Led}
  {qual : Str} {scope : Scope} {fa : Addr} {cdv : Value} {cl : List (Str × Addr)} {env : Env}

theorem Spec.le {k k' : Nat} {p : Bool} {n : Nat} {own : Led} {x : Addr} {T : Tb} (S : SpecAt prog w K ro k p n own x T) (h : k ≤ k') : SpecAt prog w K ro k' p n own x T :=
  ⟨S.active.le h, fun e T' q => (S.id e T' q).le h, fun e T' q => (S.score e T' q).le h, fun e T' q => (S.next e T' q).le h, S.maxq.le h, S.copy.le h, fun a q => (S.repl a q).le h, fun q i tk e T' q2 => (S.skip q i tk e T' q2).le h⟩
theorem IH.get {n k : Nat} (I : IH prog w K ro n) (hk : 12 * n ≤ k) {p : Bool} {m : Nat} {own : Led} {x : Addr} {T : Tb} (hm : m < n) (M : MRep ro p m own x T) : SpecAt prog w K ro k p m own x T := Spec.le (I p m own x T hm M) hk

theorem can {b : Nat} {d x C f : Addr} {φ : (Str → Option Value) → Prop} {rest : Led} {k : Nat} {nm : Str} {args : List Value} {post : Value → Led → Prop} (c : ClsOk K C) (M : MethOk K C nm f)
    (D : Does prog w K ro k (.ref f) (.ref x :: args) [] (nodeB b d x C φ ++ rest) post) (hn : nm ∈ methNames := by decide) : Can prog w K ro k x nm args (nodeB b d x C φ ++ rest) post :=
  ⟨⟨f, ⟨⟨C, φ, Sf.node, hn, c, M⟩⟩, D⟩⟩
theorem can0 {b : Nat} {d x C f : Addr} {φ : (Str → Option Value) → Prop} {k : Nat} {nm : Str} {args : List Value} {post : Value → Led → Prop} (c : ClsOk K C) (M : MethOk K C nm f)
    (D : Does prog w K ro k (.ref f) (.ref x :: args) [] (nodeB b d x C φ) post) (hn : nm ∈ methNames := by decide) : Can prog w K ro k x nm args (nodeB b d x C φ) post :=
  ⟨⟨f, ⟨⟨C, φ, Sf.self, hn, c, M⟩⟩, D⟩⟩

/-- the post named -/
theorem Can.via {k : Nat} {x : Addr} {nm : Str} {args : List Value} {own : Led} {P : Value → Led → Prop} (D : ∀ post : Value → Led → Prop, (∀ v l, P v l → post v l) → Can prog w K ro k x nm args own post) : Can prog w K ro k x nm args own P := D P fun _ _ h => h
theorem Does.via {k : Nat} {f : Value} {args : List Value} {own : Led} {P : Value → Led → Prop} (D : ∀ post : Value → Led → Prop, (∀ v l, P v l → post v l) → Does prog w K ro k f args [] own post) : Does prog w K ro k f args [] own P := D P fun _ _ h => h
theorem rt {post : Value → Led → Prop} {v : Value} (F : Fr g L h m) (O : Ow g L h led) (q : post v led) : Ret g L post (.ret v) h := ⟨m, led, F, O, q⟩
theorem rn {post : Value → Led → Prop} (F : Fr g L h m) (O : Ow g L h led) (q : post .none led) : Ret g L post .next h := ⟨m, led, F, O, q⟩

/-- a table with nothing left, with a head -/
theorem nil1 {T : Tb} (c : (!T.isEmpty) = false) : T = [] := by cases T with | nil => rfl | cons _ _ => cases c
theorem nil2 {T : Tb} (c : (!!T.isEmpty) = true) : T = [] := by cases T with | nil => rfl | cons _ _ => cases c
theorem nil3 {T : Tb} (c : T.isEmpty = true) : T = [] := by cases T with | nil => rfl | cons _ _ => cases c
theorem consP {T : Tb} {C : Prop} (c : (!T.isEmpty) = true) (k : ∀ i s r, T = (i, s) :: r → C) : C := by cases T with | nil => cases c | cons e r => exact k _ _ _ rfl
theorem consP2 {T : Tb} {C : Prop} (c : (!!T.isEmpty) = false) (k : ∀ i s r, T = (i, s) :: r → C) : C := by cases T with | nil => cases c | cons e r => exact k _ _ _ rfl
theorem consE {T : Tb} {C : Prop} (c : (!T.isEmpty) = true) (k : ∀ e r, T = e :: r → C) : C := by cases T with | nil => cases c | cons e r => exact k _ _ rfl
theorem consE2 {T : Tb} {C : Prop} (c : (!!T.isEmpty) = false) (k : ∀ e r, T = e :: r → C) : C := by cases T with | nil => cases c | cons e r => exact k _ _ rfl

/-- m after a store: the names read -/
theorem updS {m : Str → Option Value} {x : Str} {v : Value} : upd m x v x = some v := upd_same

/-- y = <plain> -/
theorem S_ev {y : Str} {p1 p2 : Pos} {e : Expr} {v : Value} {Q : Flow → Heap → Prop} (F : Fr g L h m) (O : Ow g L h led) (ev : Ev prog w A z (envX qual scope L fa cdv cl) h e v)
    (q : ∀ h2, Fr g L h2 (upd m y v) → Ow g L h2 led → Q .next h2)
    (hs : swapsWith e (some (.Name y p1)) p2.line (envX qual scope L fa cdv cl) = pure false := by rfl) (hk : scope.kind = .function := by rfl) (hx : (envX qual scope L fa cdv cl).kindOf y = some .local := by rfl) :
    Wp (model prog w) A z (exec (.Assign [.Name y p1] e p2) (envX qual scope L fa cdv cl)) Q h :=
  W_assign (ev.go ⟨m, led, F, O, q⟩) hs hk hx
/-- y = o.nm() -/
theorem S_p0 {own : Led} {k : Nat} {x : Addr} {nm y : Str} {o : Expr} {p1 p2 apos pos : Pos} {post : Value → Prop} {Q : Flow → Heap → Prop} (R : Room A k) (G : Gd K ro g) (F : Fr g L h m) (O : Ow g L h led)
    (C : Can prog w K ro k x nm [] own fun v l => l = own ∧ post v) (s : Sub own led) (ho : Ev prog w A z (envX qual scope L fa cdv cl) h o (.ref x))
    (q : ∀ v h2, post v → Fr g L h2 (upd m y v) → Ow g L h2 led → Q .next h2)
    (he : CallIs (envX qual scope L fa cdv cl) o nm apos pos [] [] := by rfl)
    (hs : swapsWith (.Call (.Attribute o nm apos) [] [] pos) (some (.Name y p1)) p2.line (envX qual scope L fa cdv cl) = pure false := by rfl) (hk : scope.kind = .function := by rfl) (hx : (envX qual scope L fa cdv cl).kindOf y = some .local := by rfl) :
    Wp (model prog w) A z (exec (.Assign [.Name y p1] (.Call (.Attribute o nm apos) [] [] pos) p2) (envX qual scope L fa cdv cl)) Q h :=
  W_assign (W_p0 C R G F O s ho (fun v h' F' O' p => ⟨m, led, F', O', fun h2 F2 O2 => q v h2 p F2 O2⟩) he) hs hk hx
/-- tests -/
theorem T_nameB {y : Str} {p : Pos} {b : Bool} {Q : Bool → Heap → Prop} (F : Fr g L h m) (hv : m y = some (.bool b)) (q : Q b h)
    (hk : scope.kind = .function := by rfl) (hx : (envX qual scope L fa cdv cl).kindOf y = some .local := by rfl) (hd : (y == ("__debug__" : Str)) = false := by decide) :
    Wp (model prog w) A z (isTrue (.Name y p) (envX qual scope L fa cdv cl) (eval (.Name y p) (envX qual scope L fa cdv cl))) Q h :=
  W_tplain (W_name F hv (W_truthB q) hk hx hd)
theorem T_nameI {y : Str} {p : Pos} {i : Int} {t : Tok} {Q : Bool → Heap → Prop} (F : Fr g L h m) (hv : m y = some (.int i t)) (q : Q (i != 0) h)
    (hk : scope.kind = .function := by rfl) (hx : (envX qual scope L fa cdv cl).kindOf y = some .local := by rfl) (hd : (y == ("__debug__" : Str)) = false := by decide) :
    Wp (model prog w) A z (isTrue (.Name y p) (envX qual scope L fa cdv cl) (eval (.Name y p) (envX qual scope L fa cdv cl))) Q h :=
  W_tplain (W_name F hv (W_truthI q) hk hx hd)
theorem T_p0 {own : Led} {k : Nat} {x : Addr} {nm : Str} {o : Expr} {apos pos : Pos} {b : Bool} {Q : Bool → Heap → Prop} (R : Room A k) (G : Gd K ro g) (F : Fr g L h m) (O : Ow g L h led)
    (C : Can prog w K ro k x nm [] own fun v l => l = own ∧ v = .bool b) (s : Sub own led) (ho : Ev prog w A z env h o (.ref x)) (q : ∀ h', Fr g L h' m → Ow g L h' led → Q b h')
    (he : CallIs env o nm apos pos [] [] := by rfl)
    (hp : isTrue (.Call (.Attribute o nm apos) [] [] pos) env (eval (.Call (.Attribute o nm apos) [] [] pos) env) = (do let v ← eval (.Call (.Attribute o nm apos) [] [] pos) env; standAt (PySem.Expr.pos (.Call (.Attribute o nm apos) [] [] pos)); holding [v] (truthy v)) := by rfl) :
    Wp (model prog w) A z (isTrue (.Call (.Attribute o nm apos) [] [] pos) env (eval (.Call (.Attribute o nm apos) [] [] pos) env)) Q h :=
  W_tplain (W_p0 C R G F O s ho (fun v h' F' O' e => by subst e; exact W_truthB (q h' F' O')) he) hp
end
end Mine
end
section
set_option maxRecDepth 10000
namespace Mine

section
variable {prog : Program} {w : World} {K : Frag} {ro : List (Addr × Obj)} {A : Around} {z : Shared} {g h : Heap} {L : Addr} {m : Str → Option Value} {led : Led}
  {qual : Str} {scope : Scope} {fa : Addr} {cdv : Value} {cl : List (Str × Addr)} {env : Env}

theorem W_callB {id : String} {first : List Value} {e : Expr} {rest : List Expr} {pos : Pos} {Q : Value → Heap → Prop}
    (x : Wp (model prog w) A z (spliced (backTo pos (starEach (e :: rest) env))) (QB (model prog w) A z (.builtin id) first Q) h)
    (he : starEach (e :: rest) env = (false, eval e env) :: starEach rest env := by rfl) (hplain : (backTo pos (starEach rest env)).any (·.1) = false := by rfl) :
    Wp (model prog w) A z (callWith pos (.builtin id) first (backTo pos (starEach (e :: rest) env)) (backToKw pos (keywordEach [] env))) Q h :=
  fun tk => callWith_method1 (x.go (fun vs h1 t1 k => k t1) tk) he hplain
theorem W_ifexp {test body orelse : Expr} {pos : Pos} {Q : Value → Heap → Prop}
    (x : Wp (model prog w) A z (isTrue test env (eval test env)) (QIfE (model prog w) A z env body orelse Q) h) :
    Wp (model prog w) A z (eval (.IfExp test body orelse pos) env) Q h :=
  fun tk => wpAny_IfExp (x.go (fun b h1 t1 k => by cases b; exact k.2 rfl t1; exact k.1 rfl t1) tk)
theorem W_subscr {value slice : Expr} {pos : Pos} {Q : Value → Heap → Prop}
    (x : Wp (model prog w) A z (eval value env) (QSub1 (model prog w) A z env value slice Q) h) :
    Wp (model prog w) A z (eval (.Subscript value slice pos) env) Q h := fun tk => Subscript_ (x.go (fun o h1 t1 k => k.go (fun i h2 t2 k => k t2) t1) tk)
theorem W_iadd {a b : Int} {t u : Tok} {Q : Value → Heap → Prop} (q : ∀ tk, Q (.int (a + b) tk) h) : Wp (model prog w) A z (inplaceOp .Add (.int a t) (.int b u)) Q h := fun tk => iadd_int (s := St z h tk) ⟨h, tk + 1, rfl, q _⟩
theorem W_augAttr {y nm : Str} {p0 p1 p2 : Pos} {op : Operator} {value : Expr} {Q : Flow → Heap → Prop}
    (x : Wp (model prog w) A z (eval (.Name y p0) env) (fun ov h1 => Wp (model prog w) A z (getAttr ov nm true) (fun old h2 => Wp (model prog w) A z (eval value env) (fun v h3 => Wp (model prog w) A z (inplaceOp op old v) (fun new h4 =>
      Wp (model prog w) A z (setAttr ov nm new) (fun _ => Q .next) h4) h3) h2) h1) h) :
    Wp (model prog w) A z (exec (.AugAssign (.Attribute (.Name y p0) nm p1) op value p2) env) Q h :=
  fun tk => wpAny_AugAssign_AttributeAny (x.go (fun ov h1 t1 k => k.go (fun old h2 t2 k => k.go (fun v h3 t3 k => k.go (fun new h4 t4 k => k.go (fun u h5 t5 k => ⟨h5, t5, rfl, k⟩) t4) t3) t2) t1) tk)
theorem W_augName {y : Str} {p1 p2 : Pos} {op : Operator} {value : Expr} {old : Value} {Q : Flow → Heap → Prop} (F : Fr g L h m) (hv : m y = some old)
    (x : Wp (model prog w) A z (eval value (envX qual scope L fa cdv cl)) (fun v h1 => Wp (model prog w) A z (inplaceOp op old v) (fun new h2 => ∃ m1 led1, Fr g L h2 m1 ∧ Ow g L h2 led1 ∧ ∀ h3, Fr g L h3 (upd m1 y new) → Ow g L h3 led1 → Q .next h3) h1) h)
    (hk : scope.kind = .function := by rfl) (hx : (envX qual scope L fa cdv cl).kindOf y = some .local := by rfl) :
    Wp (model prog w) A z (exec (.AugAssign (.Name y p1) op value p2) (envX qual scope L fa cdv cl)) Q h :=
  fun tk => wpAny_AugAssign_Name (wpAny_loadName_local (s := St z h tk) hk hx F.ns hv (x.go (fun v h1 t1 k => k.go (fun new h2 t2 k => by
    obtain ⟨m1, led1, F1, O1, k⟩ := k
    exact storeX_L (s := St z h2 t2) F1 O1.news (fun h3 F3 N3 => ⟨h3, t2 + 1, rfl, k h3 F3 (O1.ofNews N3)⟩) hk hx) t1) tk))
/-- min(e1, e2) of two ints -/
theorem W_min2 {p pos : Pos} {e1 e2 : Expr} {Q : Value → Heap → Prop} (k : KOk K) (R : A.handled = none) (G : Gd K ro g) (F : Fr g L h m)
    (x : Wp (model prog w) A z (eval e1 (envX qual scope L fa cdv cl)) (fun a h1 => Wp (model prog w) A z (eval e2 (envX qual scope L fa cdv cl)) (fun b h2 => ∃ m1 led1 i j, Fr g L h2 m1 ∧ Ow g L h2 led1 ∧ isInt i a ∧ isInt j b ∧
      ∀ v h3, Fr g L h3 m1 → Ow g L h3 led1 → isInt (min i j) v → Q v h3) h1) h)
    (hs1 : starEach [e1, e2] (envX qual scope L fa cdv cl) = (false, eval e1 (envX qual scope L fa cdv cl)) :: starEach [e2] (envX qual scope L fa cdv cl) := by rfl)
    (hs2 : starEach [e2] (envX qual scope L fa cdv cl) = (false, eval e2 (envX qual scope L fa cdv cl)) :: starEach [] (envX qual scope L fa cdv cl) := by rfl)
    (hpl : (backTo pos (starEach [e2] (envX qual scope L fa cdv cl))).any (·.1) = false := by rfl)
    (hk : scope.kind = .function := by rfl) (hx : (envX qual scope L fa cdv cl).kindOf "min" = some .globalImplicit := by rfl) :
    Wp (model prog w) A z (eval (.Call (.Name "min" p) [e1, e2] [] pos) (envX qual scope L fa cdv cl)) Q h := by
  refine W_fcall (W_builtin F G (k.blt _ (at_ 2 rfl)) (v := .builtin "min") (by decide +kernel) (by decide) (W_callB (W_argsC (x.mono fun a h1 x => W_argsC (x.mono fun b h2 x => W_argsN ?_) hs2) hs1) hs1 hpl) hk hx)
  obtain ⟨m1, led1, i, j, F1, O1, ⟨t, rfl⟩, ⟨u, rfl⟩, q⟩ := x
  refine fun tk => min_two_N (s := St z h2 tk) R F1 O1.news fun h' tk' F' N' => ⟨h', tk', rfl, q _ _ F' (O1.ofNews N') ⟨if j < i then u else t, ?_⟩⟩
  congr 1
  split <;> omega
end

/-! ## lists that stay -/
noncomputable def LAt (ro : List (Addr × Obj)) (li : Addr) (ids : List Int) : Prop := ∃ vs n, (li, listOf (List.toArray vs) n) ∈ ro ∧ IntsAre vs ids
section
variable {prog : Program} {w : World} {K : Frag} {ro : List (Addr × Obj)} {A : Around} {z : Shared} {g h : Heap} {L : Addr} {m : Str → Option Value} {led : Led}
  {qual : Str} {scope : Scope} {fa : Addr} {cdv : Value} {cl : List (Str × Addr)} {env : Env} {li : Addr} {ids : List Int}
theorem LAt.isList (l : LAt ro li ids) (G : Gd K ro g) (F : Fr g L h m) : ∃ vs, h.IsList li (List.toArray vs) ∧ IntsAre vs ids := by
  obtain ⟨vs, n, e, i⟩ := l
  exact ⟨vs, ⟨_, F.keep _ _ (G.ro _ e), rfl, n, rfl⟩, i⟩
theorem W_len {Q : Value → Heap → Prop} (l : LAt ro li ids) (G : Gd K ro g) (F : Fr g L h m) (hl : ids.length ≤ 1000) (q : ∀ tk, Q (.int ids.length tk) h) :
    Wp (model prog w) A z (call (.builtin "len") [.ref li]) Q h := fun tk => by
  obtain ⟨vs, il, ia⟩ := l.isList G F
  have e : ((vs.toArray.size : Nat) : Int) = ids.length := ia.sizeZ
  refine call_len_list (s := St z h tk) il (by rw [e]; omega) ⟨h, tk + 1 + 1, rfl, ?_⟩
  rw [e]; exact q _
theorem W_itemL {value slice : Expr} {i : Nat} {t : Tok} {k : Int} {Q : Value → Heap → Prop} (l : LAt ro li ids) (G : Gd K ro g) (F : Fr g L h m) (hl : ids.length ≤ 1000) (hi : ids[i]? = some k) (q : ∀ tk, Q (.int k tk) h)
    (hs : subscripted slice false (.ref li) (.int i t) = operate [.ref li, .int i t] (getItem (.ref li) (.int i t)) := by with_unfolding_all rfl) :
    Wp (model prog w) A z (subscriptTail value slice (.ref li) (.int i t)) Q h := fun tk => by
  obtain ⟨vs, il, ia⟩ := l.isList G F
  have hlt : i < ids.length := (List.getElem?_eq_some_iff.mp hi).1
  have hv : i < vs.length := by rw [ia.length]; exact hlt
  obtain ⟨n, t', e1, e2⟩ := ia.at i _ (List.getElem?_eq_getElem hv)
  have : n = k := by rw [hi] at e2; cases e2; rfl
  subst this
  exact tail_any (s := St z h tk) il.typeIs slot_list_getitem.lookup (wpAny_getItem_list il (by omega) (by omega) (x := .int n t') (by rw [List.getElem?_toArray]; simp only [Int.toNat_natCast]; rw [List.getElem?_eq_getElem hv, e1]) ⟨h, tk, rfl, q _⟩) hs
theorem W_max {Q : Value → Heap → Prop} (l : LAt ro li ids) (R : A.handled = none) (G : Gd K ro g) (F : Fr g L h m) (O : Ow g L h led) (hn : 0 < ids.length)
    (q : ∀ v M h', Fr g L h' m → Ow g L h' led → isInt M v → M ∈ ids → Q v h') : Wp (model prog w) A z (call (.builtin "max") [.ref li]) Q h := fun tk => by
  obtain ⟨vs, il, ia⟩ := l.isList G F
  exact max_list_N (s := St z h tk) R F O.news il ia hn fun h' M t tk' F' N' hm _ => ⟨h', tk', rfl, q _ M h' F' (O.ofNews N') ⟨t, rfl⟩ hm⟩
end
end Mine
end
section
set_option maxRecDepth 10000
namespace Mine

section
variable {prog : Program} {w : World} {K : Frag} {ro : List (Addr × Obj)} {A : Around} {z : Shared} {g h : Heap} {L : Addr} {m : Str → Option Value} {led : Led}
  {qual : Str} {scope : Scope} {fa : Addr} {cdv : Value} {cl : List (Str × Addr)} {env : Env}

theorem MRep.inst {p : Bool} {n : Nat} {own : Led} {x : Addr} {T : Tb} (h : MRep ro p n own x T) : ∃ C d, (x, isObj (instObj C d)) ∈ own := by
  cases h <;> exact ⟨_, _, List.mem_cons_of_mem _ (List.mem_cons_self ..)⟩
theorem W_isNot {x y C C' d d' : Addr} {Q : Value → Heap → Prop} (O : Ow g L h led) (hx : (x, isObj (instObj C d)) ∈ led) (hy : (y, isObj (instObj C' d')) ∈ led) (q : Q (.bool (decide (y ≠ x))) h) :
    Wp (model prog w) A z (compareOp .IsNot (.ref y) (.ref x)) Q h := fun tk => by
  by_cases e : y = x
  · subst e
    exact wpAny_isNot_ref_self (s := St z h tk) ⟨h, tk, rfl, by simpa using q⟩
  · exact wpAny_isNot_ref_other (s := St z h tk) e (O.obj hy) (O.obj hx) (fun q => by cases q) ⟨h, tk, rfl, by simpa [e] using q⟩
theorem Sub.two {a b c d led : Led} (sa : Sub a c) (sb : Sub b d) (nd : Nd (c ++ d)) (hs : ∀ e ∈ c ++ d, e ∈ led) : Sub (a ++ b) led :=
  ⟨fun e h => by
    rcases List.mem_append.mp h with h | h
    · exact hs e (List.mem_append_left _ (sa.mem e h))
    · exact hs e (List.mem_append_right _ (sb.mem e h)), nodup_append.mpr ⟨sa.nd, sb.nd, fun p hp q hq => (nodup_append.mp nd).2.2 p (sa.mem p hp) q (sb.mem q hq)⟩⟩
theorem Sub.app {a b led : Led} (sa : Sub a led) (hb : ∀ e ∈ b, e ∈ led) (nd : Nd (b ++ a)) : Sub (b ++ a) led :=
  ⟨fun e h => by
    rcases List.mem_append.mp h with h | h
    · exact hb e h
    · exact sa.mem e h, nd⟩
theorem Sub.nil : Sub [] led := ⟨fun e h => (List.not_mem_nil h).elim, Nd.nil⟩

/-- NullMatcher() -/
theorem mk_null (k : KOk K) (j : Nat) : Does prog w K ro (j + 2) (.ref f_NullMatcher) [] [] [] fun v l => ∃ nw, l = nw ++ [] ∧ ∃ d y, v = .ref y ∧ nw = nullC d y := by
  refine does_enter k.fn_NullMatcher [] (fun s _ _ _ _ _ _ _ => BindsTo.of_eq rfl) (locs rfl) ?_
  intro A z g L h R G F O
  refine W_cons (W_ret (W_fcall (W_global F G k.g_NullMatcherClass.1 (W_callWith0 F G k.g_NullMatcherClass.2 fun tk => wpAny_call (make_K0 (s := St z h tk) F O.news (G.kin.keeps F.keep) k.null.2 k.null.1 fun x dx h' F' N' lt1 lt2 => ?_)))))
  have mem : ∀ p ∈ nullC dx x, ∃ o, (p.1, o) ∈ ((x, instObj cNull dx) :: (dx, emptyDict) :: ex h []) ∧ p.2.Ok o := fun p hp => by
    rcases List.mem_cons.mp hp with rfl | hp
    · exact ⟨_, by simp, rfl⟩
    · rcases List.mem_cons.mp hp with rfl | hp
      · exact ⟨_, by simp, rfl⟩
      · cases hp
  refine ⟨h', tk, rfl, _, nullC dx x, F', ⟨⟨⟨fun p hp => ?_⟩, fun p hp => ?_, ?_⟩, fun p hp => ?_⟩, _, by simp, dx, x, rfl, rfl⟩
  · obtain ⟨o, m, q⟩ := mem p hp; exact ⟨o, (N' _ m).1, q⟩
  · obtain ⟨o, m, q⟩ := mem p hp; exact (N' _ m).2.2
  · refine List.pairwise_cons.mpr ⟨fun p hp e => ?_, List.pairwise_cons.mpr ⟨fun p hp => (by cases hp), List.Pairwise.nil⟩⟩
    rcases List.mem_cons.mp hp with rfl | hp
    · exact absurd e (Nat.ne_of_lt lt2)
    · cases hp
  · obtain ⟨o, m, q⟩ := mem p hp; exact (N' _ m).2.1
/-- return NullMatcher() -/
theorem S_retNull {k : Nat} {p pos pos2 : Pos} {Q : Flow → Heap → Prop} (kk : KOk K) (R : Room A (k + 2)) (G : Gd K ro g) (F : Fr g L h m) (O : Ow g L h led)
    (q : ∀ d y h', Fr g L h' m → Ow g L h' (nullC d y ++ led) → Q (.ret (.ref y)) h')
    (hk : scope.kind = .function := by rfl) (hx : (envX qual scope L fa cdv cl).kindOf "NullMatcher" = some .globalImplicit := by rfl) :
    Wp (model prog w) A z (exec (.Return (some (.Call (.Name "NullMatcher" p) [] [] pos)) pos2) (envX qual scope L fa cdv cl)) Q h := by
  refine W_ret (W_fcall (W_global F G kk.g_NullMatcher.1 (W_callWith0 F G kk.g_NullMatcher.2 (Cd.call ?_)) hk hx))
  refine (mk_null kk k).useN R G F O Sub.nil fun v nw h' F' O' ⟨d, y, e, e2⟩ => ?_
  subst e e2
  exact q d y h' F' O'

noncomputable abbrev rB (x : Addr) (i : Int) (tk : Tok) : List (Str × Value) := [("self", .ref x), ("minquality", .int i tk)]
/-- replace: with its default or with a number -/
theorem does_repl {fa T : Addr} {qual : Str} {params : Arguments} {body : List Stmt} {scope : Scope} {cl : List (Str × Addr)} {cdv : Value} {own : Led} {post : Value → Led → Prop} {k : Nat} {x : Addr} {args : List Value}
    (I : FnIs K fa qual params body scope cl (.ref T) cdv) (Df : DfOk K T [.int 0]) (ha : args = [] ∨ ∃ i tk, i ≤ 0 ∧ args = [.int i tk])
    (body_ : ∀ i tk, i ≤ 0 → ∀ (A : Around) (z : Shared) (g : Heap) (L : Addr) (h : Heap), Room A k → Gd K ro g → Fr g L h (fun y => (rB x i tk).reverse.lookup y) → Ow g L h own →
      Wp (model prog w) A z (execs body (envX qual scope L fa cdv cl)) (Ret g L post) h)
    (h1 : ∀ i tk t0 name kV doc pm an ct, ∃ k, bindArgs (fnX name qual params body scope cl (.ref T) kV doc pm an cdv ct) ⟨[.ref x, .int i tk], []⟩ = seqItems? (fnX name qual params body scope cl (.ref T) kV doc pm an cdv ct).defaults >>= k ∧ k (some #[.int 0 t0]) = pure (rB x i tk) := by intros; exact ⟨_, rfl, rfl⟩)
    (h2 : ∀ tk name kV doc pm an ct, ∃ k, bindArgs (fnX name qual params body scope cl (.ref T) kV doc pm an cdv ct) ⟨[.ref x], []⟩ = seqItems? (fnX name qual params body scope cl (.ref T) kV doc pm an cdv ct).defaults >>= k ∧ k (some #[.int 0 tk]) = pure (rB x 0 tk) := by intros; exact ⟨_, rfl, rfl⟩)
    (hl : scope.names.lookup ("self" : Str) = some .local ∧ scope.names.lookup ("minquality" : Str) = some .local := by exact ⟨rfl, rfl⟩) : Does prog w K ro (k + 1) (.ref fa) (.ref x :: args) [] own post := by
  have loc : ∀ i tk, ∀ y ∈ rB x i tk, scope.names.lookup y.1 = some .local := fun i tk y hy => by
    rcases List.mem_cons.mp hy with rfl | hy
    · exact hl.1
    · rcases List.mem_cons.mp hy with rfl | hy
      · exact hl.2
      · cases hy
  obtain ⟨o, n, vs, hK, hd, hv⟩ := Df
  rcases vs with _ | ⟨v, _ | ⟨v2, vs⟩⟩
  · exact hv.elim
  · obtain ⟨⟨t0, rfl⟩, _⟩ := hv
    rcases ha with rfl | ⟨i, tk, hi, rfl⟩
    · refine does_enter I (rB x 0 t0) (fun s name kV doc pm an ct X => ?_) (loc 0 t0) (body_ 0 t0 (Int.le_refl _))
      obtain ⟨k, e1, e2⟩ := h2 t0 name kV doc pm an ct
      exact binds_K X rfl hK hd e1 e2
    · refine does_enter I (rB x i tk) (fun s name kV doc pm an ct X => ?_) (loc i tk) (body_ i tk hi)
      obtain ⟨k, e1, e2⟩ := h1 i tk t0 name kV doc pm an ct
      exact binds_K X rfl hK hd e1 e2
  · exact hv.2.elim
end
end Mine
end
section
set_option maxRecDepth 10000
namespace Mine
variable {prog : Program} {w : World} {K : Frag} {ro : List (Addr × Obj)}

theorem perm3' {a b o : Led} : (b ++ (a ++ o)).Perm ((a ++ b) ++ o) := by
  rw [List.append_assoc]
  exact (List.perm_append_comm_assoc a b o).symm
theorem perm3 {nw a b o : Led} : (nw ++ (b ++ (a ++ o))).Perm ((nw ++ (a ++ b)) ++ o) := by
  rw [List.append_assoc]
  refine List.Perm.append_left nw ?_
  rw [List.append_assoc]
  exact (List.perm_append_comm_assoc a b o).symm
/-- what a binary kind's _made gives of two matchers that stand as they should -/
noncomputable def MadeN (prog : Program) (w : World) (K : Frag) (ro : List (Addr × Obj)) (k : Nat) (fm : Addr) (x : Addr) (p : Bool) (n : Nat) (pa pb : Bool) (na nb : Nat) (Ta Tb' T : Tb) : Prop :=
  ∀ ya yb oa ob, MRep ro pa na oa ya Ta → MRep ro pb nb ob yb Tb' → Nd (oa ++ ob) →
    Does prog w K ro k (.ref fm) [.ref x, .ref ya, .ref yb] [] (oa ++ ob) fun v l => ∃ nw, l = nw ++ (oa ++ ob) ∧ ∃ y, v = .ref y ∧ MRep ro p n (nw ++ (oa ++ ob)) y T

section
variable {C fm : Addr} {p pa pb : Bool} {n na nb j : Nat} {d x xa xb : Addr} {la lb : Led} {Ta Tb' T : Tb} {φ : (Str → Option Value) → Prop}
theorem bi_copy (k : KOk K) (c : ClsOk K C) (fA : FieldOk K C "a") (fB : FieldOk K C "b") (M : MethOk K C "_made" fm) (hφ : ∀ fs, φ fs → φBi xa xb fs)
    (SA : SpecAt prog w K ro j pa na la xa Ta) (SB : SpecAt prog w K ro j pb nb lb xb Tb') (made : MadeN prog w K ro j fm x p n pa pb na nb Ta Tb' T) :
    Does prog w K ro (j + 1) (.ref f_BiMatcher_copy) [.ref x] [] (nodeC d x C φ ++ (la ++ lb)) fun v l => ∃ nw, l = nw ++ (nodeC d x C φ ++ (la ++ lb)) ∧ ∃ y, v = .ref y ∧ MRep ro p n nw y T := by
  refine does_enter k.fn_BiMatcher_copy [("self", .ref x)] (fun s _ _ _ _ _ _ _ => BindsTo.of_eq rfl) (locs rfl) ?_
  intro A z g L h R G F O
  refine W_cons (W_ret (W_mcall (W_name F rfl (W_getMethod F G O (fun p hp => List.mem_append_left _ hp) ⟨⟨C, φ, Sf.self, by decide, c, M⟩⟩ (W_callWithE G M.2.2 (W_argsC (W_n0 SA.copy R G F O (sA O) (ev_field F G O c fA Sf.node fun fs q => (hφ fs q).1) ?_)))))))
  rintro _ nwa h1 F1 O1 ⟨ya, rfl, Ma⟩
  have O1' := O1.right
  refine W_argsC (W_n0 SB.copy R G F1 O1 ((sB O1').trans O1.subR) (ev_field F1 G O1 c fB (Sf.node.mono fun e h => List.mem_append_right _ h) fun fs q => (hφ fs q).2) ?_)
  rintro _ nwb h2 F2 O2 ⟨yb, rfl, Mb⟩
  refine W_argsN ⟨G.kin.keeps F2.keep, Cd.call ?_⟩
  have nd : Nd (nwa ++ nwb) := (O2.perm perm3').left.nd
  refine (made ya yb nwa nwb Ma Mb nd).useN R G F2 O2 ⟨fun e he => ?_, nd⟩ fun v nw h3 F3 O3 ⟨y, e, MM⟩ => ?_
  · rcases List.mem_append.mp he with he | he
    · exact List.mem_append_right _ (List.mem_append_left _ he)
    · exact List.mem_append_left _ he
  · subst e
    exact ⟨_, _, F3, O3.perm perm3, _, rfl, y, rfl, MM⟩

/-- the sum of the two parts' scores -/
theorem add_score (k : KOk K) (c : ClsOk K C) (fA : FieldOk K C "a") (fB : FieldOk K C "b") (hφ : ∀ fs, φ fs → φBi xa xb fs)
    (SA : SpecAt prog w K ro j pa na la xa Ta) (SB : SpecAt prog w K ro j pb nb lb xb Tb') {e f : Int × Int} {Ta' Tb'' : Tb} (ea : Ta = e :: Ta') (eb : Tb' = f :: Tb'') :
    Does prog w K ro (j + 1) (.ref f_AdditiveBiMatcher_score) [.ref x] [] (nodeC d x C φ ++ (la ++ lb)) fun v l => l = (nodeC d x C φ ++ (la ++ lb)) ∧ isInt (e.2 + f.2) v := by
  refine does_enter k.fn_AdditiveBiMatcher_score [("self", .ref x)] (fun s _ _ _ _ _ _ _ => BindsTo.of_eq rfl) (locs rfl) ?_
  intro A z g L h R G F O
  refine W_cons (W_ret (W_bin (W_p0 (SA.score e _ ea) R G F O (sA O) (ev_field F G O c fA Sf.node fun fs q => (hφ fs q).1) ?_)))
  rintro _ h1 F1 O1 ⟨t1, rfl⟩
  refine W_p0 (SB.score f _ eb) R G F1 O1 (sB O1) (ev_field F1 G O1 c fB Sf.node fun fs q => (hφ fs q).2) ?_
  rintro _ h2 F2 O2 ⟨t2, rfl⟩
  exact W_add fun tk => ⟨_, _, F2, O2, rfl, tk, rfl⟩

theorem add_maxq (k : KOk K) (c : ClsOk K C) (fA : FieldOk K C "a") (fB : FieldOk K C "b") (hφ : ∀ fs, φ fs → φBi xa xb fs)
    (SA : SpecAt prog w K ro j pa na la xa Ta) (SB : SpecAt prog w K ro j pb nb lb xb Tb') :
    Does prog w K ro (j + 1) (.ref f_AdditiveBiMatcher_max_quality) [.ref x] [] (nodeC d x C φ ++ (la ++ lb)) fun v l => l = (nodeC d x C φ ++ (la ++ lb)) ∧ ∃ q, isInt q v ∧ 0 ≤ q := by
  refine does_enter k.fn_AdditiveBiMatcher_max_quality [("self", .ref x)] (fun s _ _ _ _ _ _ _ => BindsTo.of_eq rfl) (locs rfl) ?_
  intro A z g L h R G F O
  -- the last statement
  have last : ∀ h m q t, Fr g L h m → Ow g L h (nodeC d x C φ ++ (la ++ lb)) → m "q" = some (.int q t) → 0 ≤ q → Wp (model prog w) A z (execs ((defBody rf_AdditiveBiMatcher_max_quality.st).drop 3) (envX rf_AdditiveBiMatcher_max_quality.qual (defScope rf_AdditiveBiMatcher_max_quality.st) L f_AdditiveBiMatcher_max_quality rf_AdditiveBiMatcher_max_quality.cdv rf_AdditiveBiMatcher_max_quality.cl)) (Ret g L fun v l => l = (nodeC d x C φ ++ (la ++ lb)) ∧ ∃ q, isInt q v ∧ 0 ≤ q) h := by
    intro h m q t F O hq hp
    exact W_cons (W_ret (W_name F hq ⟨_, _, F, O, rfl, q, ⟨t, rfl⟩, hp⟩))
  have second : ∀ h m q t, Fr g L h m → Ow g L h (nodeC d x C φ ++ (la ++ lb)) → m "self" = some (.ref x) → m "q" = some (.int q t) → 0 ≤ q → Wp (model prog w) A z (execs ((defBody rf_AdditiveBiMatcher_max_quality.st).drop 2) (envX rf_AdditiveBiMatcher_max_quality.qual (defScope rf_AdditiveBiMatcher_max_quality.st) L f_AdditiveBiMatcher_max_quality rf_AdditiveBiMatcher_max_quality.cdv rf_AdditiveBiMatcher_max_quality.cl)) (Ret g L fun v l => l = (nodeC d x C φ ++ (la ++ lb)) ∧ ∃ q, isInt q v ∧ 0 ≤ q) h := by
    intro h m q t F O hs hq hp
    refine W_cons (W_if (T_p0 R G F O SB.active (sB O) (ev_field F G O c fB Sf.node (fun fs q => (hφ fs q).2) hs) fun h1 F1 O1 => ⟨fun e => ?_, fun e => W_nil (last _ _ q t F1 O1 hq hp)⟩))
    refine W_cons (W_augName F1 hq (W_p0 SB.maxq R G F1 O1 (sB O1) (ev_field F1 G O1 c fB Sf.node (fun fs q => (hφ fs q).2) hs) ?_))
    rintro _ h2 F2 O2 ⟨q2, ⟨t2, rfl⟩, hp2⟩
    exact W_iadd fun tk => ⟨_, _, F2, O2, fun h3 F3 O3 => W_nil (last _ _ (q + q2) tk F3 O3 upd_same (by omega))⟩
  refine W_cons (W_assign (W_cint fun tk => ⟨_, _, F, O, fun h1 F1 O1 => ?_⟩))
  refine W_cons (W_if (T_p0 R G F1 O1 SA.active (sA O1) (ev_field F1 G O1 c fA Sf.node (fun fs q => (hφ fs q).1)) fun h2 F2 O2 => ⟨fun e => ?_, fun e => W_nil (second _ _ 0 tk F2 O2 rfl rfl (Int.le_refl _))⟩))
  refine W_cons (W_augName F2 (old := .int 0 tk) rfl (W_p0 SA.maxq R G F2 O2 (sA O2) (ev_field F2 G O2 c fA Sf.node (fun fs q => (hφ fs q).1)) ?_))
  rintro _ h3 F3 O3 ⟨q2, ⟨t2, rfl⟩, hp2⟩
  exact W_iadd fun tk => ⟨_, _, F3, O3, fun h3 F3 O3 => W_nil (second _ _ (0 + q2) tk F3 O3 rfl upd_same (by omega))⟩
end
end Mine
end
section
set_option maxRecDepth 10000
namespace Mine
variable {prog : Program} {w : World} {K : Frag} {ro : List (Addr × Obj)}

noncomputable def φEmpty (fs : Str → Option Value) : Prop := ∀ y, fs y = none
noncomputable def φNew (xa xb : Addr) (fs : Str → Option Value) : Prop := φBi xa xb fs ∧ fs "_id" = none
/-- the two parts set -/
theorem bi_init (k : KOk K) {C d x ya yb : Addr} {j : Nat} {own : Led} (c : ClsOk K C) (fA : FieldOk K C "a") (fB : FieldOk K C "b") :
    Does prog w K ro (j + 1) (.ref f_BiMatcher_init) [.ref x, .ref ya, .ref yb] [] (nodeB 1 d x C (fun fs => ∀ y, fs y = none) ++ own) fun v l => v = .none ∧ l = nodeB 3 d x C (φNew ya yb) ++ own := by
  refine does_enter k.fn_BiMatcher_init [("self", .ref x), ("a", .ref ya), ("b", .ref yb)] (fun s _ _ _ _ _ _ _ => BindsTo.of_eq rfl) (locs rfl) ?_
  intro A z g L h R G F O
  refine W_cons (W_put (v := .ref ya) (fun fs => fs "a" = some (.ref ya) ∧ fs "_id" = none) 2 F G O c fA (ev_name F) (fun fs q => ⟨⟨upd_same, (upd_ne (by decide)).trans (q _)⟩, .inr (Nat.le_refl _)⟩) fun h1 F1 O1 => ?_)
  refine W_cons (W_put (v := .ref yb) (φNew ya yb) 3 F1 G O1 c fB (ev_name F1) (fun fs q => ⟨⟨⟨(upd_ne (by decide)).trans q.1, upd_same⟩, (upd_ne (by decide)).trans q.2⟩, .inr (Nat.le_refl _)⟩) fun h2 F2 O2 => ?_)
  exact W_nil ⟨_, _, F2, O2, rfl, rfl⟩
theorem own_weaken {g h : Heap} {b b' : Nat} {d x C : Addr} {φ φ' : (Str → Option Value) → Prop} {rest : Led} (o : Own g h (nodeB b d x C φ ++ rest)) (hb : b ≤ b') (hφ : ∀ fs, φ fs → φ' fs) : Own g h (nodeB b' d x C φ' ++ rest) := by
  refine ⟨⟨fun p hp => ?_⟩, fun p hp => ?_, List.pairwise_cons.mpr ⟨fun q hq e => ((List.pairwise_cons.mp o.nd).1 q hq e).1.elim, (List.pairwise_cons.mp o.nd).2⟩⟩
  · rcases List.mem_cons.mp hp with rfl | hp
    · obtain ⟨o', e, q⟩ := o.has.get (d, dictB b φ) (List.mem_cons_self ..)
      exact ⟨o', e, dictB.mono (φ := φ) q hb hφ⟩
    · exact o.has.get p (List.mem_cons_of_mem _ hp)
  · rcases List.mem_cons.mp hp with rfl | hp
    · exact o.off (d, dictB b φ) (List.mem_cons_self ..)
    · exact o.off p (List.mem_cons_of_mem _ hp)
/-- a class whose __init__ leaves the node as said -/
theorem mk_node {k b : Nat} {C fI : Addr} {args : List Value} {kw : List (Str × Value)} {φ φ' : Addr → (Str → Option Value) → Prop} (hi : MethOk K C "__init__" fI ∧ makesIn K C = true) (hb : b ≤ 20) (hφ : ∀ x fs, φ x fs → φ' x fs)
    (init : ∀ x d, Does prog w K ro k (.ref fI) (.ref x :: args) kw (nodeB 1 d x C (fun fs => ∀ y, fs y = none) ++ []) fun v l => v = .none ∧ l = nodeB b d x C (φ x) ++ []) :
    Does prog w K ro (k + 1) (.ref C) args kw [] fun v l => ∃ nw, l = nw ++ [] ∧ ∃ d y, v = .ref y ∧ nw = nodeC d y C (φ' y) := by
  refine does_make hi fun x d A z g h Q R G st sz o kont => init x d A z g h Q R G st sz o fun v l h' st' o' ⟨hv, hl⟩ => ?_
  subst hl
  exact kont v (nodeC d x C (φ' x) ++ []) h' st' (own_weaken o' hb (hφ x)) ⟨hv, _, rfl, d, x, rfl, rfl⟩
/-- UnionMatcher(a, b) -/
theorem mk_union (k : KOk K) (j : Nat) (ya yb : Addr) (T : Tb) : Does prog w K ro (j + 2) (.ref cUnion) [.ref ya, .ref yb] [] [] fun v l => ∃ nw, l = nw ++ [] ∧ ∃ d y, v = .ref y ∧ nw = nodeC d y cUnion (φUnion ya yb T) :=
  mk_node (φ := fun _ => φNew ya yb) (φ' := fun _ => φUnion ya yb T) k.i_union (by decide) (fun _ _ q => ⟨q.1, .inl q.2⟩) fun x d => bi_init k k.c_union k.d_union_a k.d_union_b

section
variable {p pa pb : Bool} {n na nb : Nat} {d x xa xb : Addr} {la lb : Led} {Ta Tb' : Tb}
theorem made_union (k : KOk K) (j : Nat) (hp : p = true → pa = true ∧ pb = true) (ha : na < n) (hb : nb < n) : MadeN prog w K ro (j + 3) f_UnionMatcher_made x p n pa pb na nb Ta Tb' (mergeT Ta Tb') := by
  intro ya yb oa ob Ma Mb nd
  refine does_enter k.fn_UnionMatcher_made [("self", .ref x), ("a", .ref ya), ("b", .ref yb)] (fun s _ _ _ _ _ _ _ => BindsTo.of_eq rfl) (locs rfl) ?_
  intro A z g L h R G F O
  refine W_cons (W_ret (W_fcall (W_global F G k.g_UnionMatcher.1 (W_callWithE G k.g_UnionMatcher.2 (W_argsC (W_name F rfl (W_argsC (W_name F rfl (W_argsN ⟨G.kin.keeps F.keep, Cd.call ?_⟩)))))))))
  refine (mk_union k j ya yb (mergeT Ta Tb')).useN R G F O Sub.nil fun v nw h' F' O' ⟨d, y, e, e2⟩ => ?_
  subst e e2
  exact ⟨_, _, F', O', _, rfl, y, rfl, .union hp ha hb Ma Mb⟩

variable (k : KOk K) (SA : SpecAt prog w K ro (12 * n) pa na la xa Ta) (SB : SpecAt prog w K ro (12 * n) pb nb lb xb Tb')
include k SA SB
theorem u_active {φ : (Str → Option Value) → Prop} (hφ : ∀ fs, φ fs → φBi xa xb fs) :
    Does prog w K ro (12 * n + 1) (.ref f_UnionMatcher_is_active) [.ref x] [] (nodeC d x cUnion φ ++ (la ++ lb)) fun v l => l = (nodeC d x cUnion φ ++ (la ++ lb)) ∧ v = .bool (!(mergeT Ta Tb').isEmpty) := by
  refine does_enter k.fn_UnionMatcher_is_active [("self", .ref x)] (fun s _ _ _ _ _ _ _ => BindsTo.of_eq rfl) (locs rfl) ?_
  intro A z g L h R G F O
  rw [mergeT_isEmpty]
  refine W_cons (W_ret (W_or (W_p0 SA.active R G F O (sA O) (ev_field F G O k.c_union k.d_union_a Sf.node fun fs q => (hφ fs q).1) ?_)))
  rintro _ h1 F1 O1 rfl
  refine W_truthB ⟨fun e => ⟨_, _, F1, O1, rfl, ?_⟩, fun e => W_or1 (W_p0 SB.active R G F1 O1 (sB O1) (ev_field F1 G O1 k.c_union k.d_union_b Sf.node fun fs q => (hφ fs q).2) ?_)⟩
  · cases q : Ta.isEmpty <;> simp_all
  · rintro _ h2 F2 O2 rfl
    refine ⟨_, _, F2, O2, rfl, ?_⟩
    cases q : Ta.isEmpty <;> simp_all

theorem u_score {e : Int × Int} {T' : Tb} (eT : mergeT Ta Tb' = e :: T') {φ : (Str → Option Value) → Prop} (hφ : ∀ fs, φ fs → φBi xa xb fs) :
    Does prog w K ro (12 * n + 1) (.ref f_UnionMatcher_score) [.ref x] [] (nodeC d x cUnion φ ++ (la ++ lb)) fun v l => l = (nodeC d x cUnion φ ++ (la ++ lb)) ∧ isInt e.2 v := by
  refine does_enter k.fn_UnionMatcher_score [("self", .ref x)] (fun s _ _ _ _ _ _ _ => BindsTo.of_eq rfl) (locs rfl) ?_
  intro A z g L h R G F O
  refine W_cons (S_ev F O (ev_field F G O k.c_union k.d_union_a Sf.node fun fs q => (hφ fs q).1) fun h F O => ?_)
  refine W_cons (S_ev F O (ev_field F G O k.c_union k.d_union_b Sf.node fun fs q => (hφ fs q).2) fun h F O => ?_)
  refine W_cons (W_if (W_tnot (T_p0 R G F O SA.active (sA O) (ev_name F) fun h F O => ⟨fun q => ?_, fun q => W_nil ?_⟩)))
  · have : Ta = [] := by first | exact nil1 (by assumption) | exact nil2 (by assumption) | exact nil3 (by assumption)
    subst this
    rw [mergeT_nil_left] at eT
    refine W_cons (W_ret (W_p0 (SB.score _ _ eT) R G F O (sB O) (ev_name F) ?_))
    rintro v h1 F1 O1 q
    exact ⟨_, _, F1, O1, rfl, q⟩
  refine W_cons (W_if (W_tnot (T_p0 R G F O SB.active (sB O) (ev_name F) fun h F O => ⟨fun q2 => ?_, fun q2 => W_nil ?_⟩)))
  · have : Tb' = [] := by first | exact nil1 (by assumption) | exact nil2 (by assumption) | exact nil3 (by assumption)
    subst this
    rw [mergeT_nil_right] at eT
    refine W_cons (W_ret (W_p0 (SA.score _ _ eT) R G F O (sA O) (ev_name F) ?_))
    rintro v h1 F1 O1 q
    exact ⟨_, _, F1, O1, rfl, q⟩
  obtain ⟨⟨ia, sa⟩, Ta', rfl⟩ : ∃ e r, Ta = e :: r := by cases Ta with | nil => simp at q | cons e r => exact ⟨e, r, rfl⟩
  obtain ⟨⟨ib, sb⟩, Tb'', rfl⟩ : ∃ e r, Tb' = e :: r := by cases Tb' with | nil => simp at q2 | cons e r => exact ⟨e, r, rfl⟩
  rw [mergeT_cons] at eT
  refine W_cons (S_p0 R G F O (SA.id _ _ rfl) (sA O) (ev_name F) fun v h ⟨t1, e1⟩ F O => ?_)
  subst e1
  refine W_cons (S_p0 R G F O (SB.id _ _ rfl) (sB O) (ev_name F) fun v h ⟨t2, e2⟩ F O => ?_)
  subst e2
  refine W_cons (W_if (W_tcmp (W_name F rfl (W_name F rfl (W_lt (W_truthB ⟨fun c => ?_, fun c => ?_⟩))))))
  · rw [if_pos (by simpa using c)] at eT
    cases eT
    refine W_cons (W_ret (W_p0 (SA.score _ _ rfl) R G F O (sA O) (ev_name F) ?_))
    rintro v h1 F1 O1 q
    exact ⟨_, _, F1, O1, rfl, q⟩
  rw [if_neg (by simpa using c)] at eT
  refine W_cons (W_if (W_tcmp (W_name F rfl (W_name F rfl (W_lt (W_truthB ⟨fun c => ?_, fun c => ?_⟩))))))
  · rw [if_pos (by simpa using c)] at eT
    cases eT
    refine W_cons (W_ret (W_p0 (SB.score _ _ rfl) R G F O (sB O) (ev_name F) ?_))
    rintro v h1 F1 O1 q
    exact ⟨_, _, F1, O1, rfl, q⟩
  rw [if_neg (by simpa using c)] at eT
  cases eT
  refine W_cons (W_ret (W_bin (W_p0 (SA.score _ _ rfl) R G F O (sA O) (ev_name F) ?_)))
  rintro _ h F O ⟨t1, rfl⟩
  refine W_p0 (SB.score _ _ rfl) R G F O (sB O) (ev_name F) ?_
  rintro _ h F O ⟨t2, rfl⟩
  exact W_add fun tk => ⟨_, _, F, O, rfl, tk, rfl⟩

theorem u_id {e : Int × Int} {T' : Tb} (eT : mergeT Ta Tb' = e :: T') :
    Does prog w K ro (12 * n + 1) (.ref f_UnionMatcher_id) [.ref x] [] (nodeC d x cUnion (φUnion xa xb (mergeT Ta Tb')) ++ (la ++ lb)) fun v l => l = (nodeC d x cUnion (φUnion xa xb (mergeT Ta Tb')) ++ (la ++ lb)) ∧ isInt e.1 v := by
  refine does_enter k.fn_UnionMatcher_id [("self", .ref x)] (fun s _ _ _ _ _ _ _ => BindsTo.of_eq rfl) (locs rfl) ?_
  intro A z g L h R G F O
  refine W_cons (W_assign (W_attr (W_name F rfl (W_getAttrC F G O k.c_union k.uid.1 k.uid.2 (by decide) rfl (R := fun v => v = .none ∨ isInt e.1 v) Sf.node (fun fs q => ?_) fun v hv => ⟨_, _, F, O, fun h F O => ?_⟩))))
  · rcases q.2 with e1 | e1 | ⟨v, f, T2, e1, e2, e3⟩
    · exact .inl ⟨e1, .inl rfl⟩
    · exact .inr ⟨_, e1, rfl, .inl rfl⟩
    · rw [eT] at e2; cases e2
      exact .inr ⟨_, e1, e3.handed, .inr e3⟩
  refine W_cons (W_if (W_tcmp (W_name F upd_same (W_cnone (W_isNotNone ?_ ?_)))))
  · rcases hv with rfl | ⟨t, rfl⟩ <;> rfl
  rcases hv with rfl | ⟨t, rfl⟩
  case inr => exact W_truthB ⟨fun _ => W_cons (W_ret (W_name F upd_same ⟨_, _, F, O, rfl, t, rfl⟩)), fun q => (nomatch q)⟩
  refine W_truthB ⟨fun q => (nomatch q), fun _ => W_nil ?_⟩
  refine W_cons (S_ev F O (ev_field F G O k.c_union k.d_union_a Sf.node fun fs q => q.1.1) fun h F O => ?_)
  refine W_cons (S_ev F O (ev_field F G O k.c_union k.d_union_b Sf.node fun fs q => q.1.2) fun h F O => ?_)
  -- the end
  have last : ∀ h m t, Fr g L h m → Ow g L h (nodeC d x cUnion (φUnion xa xb (mergeT Ta Tb')) ++ (la ++ lb)) → m "self" = some (.ref x) → m "_id" = some (.int e.1 t) → Wp (model prog w) A z (execs ((defBody rf_UnionMatcher_id.st).drop 5) (envX rf_UnionMatcher_id.qual (defScope rf_UnionMatcher_id.st) L f_UnionMatcher_id rf_UnionMatcher_id.cdv rf_UnionMatcher_id.cl)) (Ret g L fun v l => l = (nodeC d x cUnion (φUnion xa xb (mergeT Ta Tb')) ++ (la ++ lb)) ∧ isInt e.1 v) h := by
    intro h m t F O hs hq
    refine W_cons (W_put (v := .int e.1 t) (φUnion xa xb (mergeT Ta Tb')) 20 F G O k.c_union k.d_union_id_ (ev_name F hq) (fun fs q => ⟨⟨⟨(upd_ne (by decide)).trans q.1.1, (upd_ne (by decide)).trans q.1.2⟩, .inr (.inr ⟨_, e, T', upd_same, eT, t, rfl⟩)⟩, .inl ⟨.inr rfl, Nat.le_refl _⟩⟩) (fun h F O => ?_) (hy := hs))
    exact W_cons (W_ret (W_name F hq ⟨_, _, F, O, rfl, t, rfl⟩))
  refine W_cons (W_if (W_tnot (T_p0 R G F O SA.active (sA O) (ev_name F) fun h F O => ⟨fun q => ?_, fun q => ?_⟩)))
  · have : Ta = [] := by first | exact nil1 (by assumption) | exact nil2 (by assumption) | exact nil3 (by assumption)
    subst this
    have eT2 := eT
    rw [mergeT_nil_left] at eT2
    refine W_cons (S_p0 R G F O (SB.id _ _ eT2) (sB O) (ev_name F) fun v h ⟨t1, e1⟩ F O => W_nil ?_)
    subst e1
    exact last _ _ t1 F O rfl upd_same
  refine W_cons (W_if (W_tnot (T_p0 R G F O SB.active (sB O) (ev_name F) fun h F O => ⟨fun q2 => ?_, fun q2 => ?_⟩)))
  · have : Tb' = [] := by first | exact nil1 (by assumption) | exact nil2 (by assumption) | exact nil3 (by assumption)
    subst this
    have eT2 := eT
    rw [mergeT_nil_right] at eT2
    refine W_cons (S_p0 R G F O (SA.id _ _ eT2) (sA O) (ev_name F) fun v h ⟨t1, e1⟩ F O => W_nil (W_nil ?_))
    subst e1
    exact last _ _ t1 F O rfl upd_same
  first | refine consP q fun ia sa Ta' e1 => ?_ | refine consP2 q fun ia sa Ta' e1 => ?_
  first | refine consP q2 fun ib sb Tb'' e2 => ?_ | refine consP2 q2 fun ib sb Tb'' e2 => ?_
  have eM : e.1 = min ia ib := by
    rw [e1, e2, mergeT_cons] at eT
    split at eT
    · cases eT; show ia = _; omega
    · split at eT
      · cases eT; show ib = _; omega
      · cases eT; show ia = _; omega
  refine W_cons (W_assign (g := g) (W_min2 k R.1 G F (W_p0 (SA.id _ _ e1) R G F O (sA O) (ev_name F) fun v h F O q => W_p0 (SB.id _ _ e2) R G F O (sB O) (ev_name F) fun v2 h F O q2 => ?_)))
  refine ⟨_, _, _, _, F, O, q, q2, fun v3 h F O ⟨t3, e3⟩ => ⟨_, _, F, O, fun h F O => W_nil (W_nil ?_)⟩⟩
  subst e3
  exact last _ _ t3 F O rfl (by rw [eM]; exact upd_same)
end
end Mine
end
section
set_option maxRecDepth 10000
namespace Mine
variable {prog : Program} {w : World} {K : Frag} {ro : List (Addr × Obj)}
section
variable {A : Around} {z : Shared} {g h : Heap} {L : Addr} {m : Str → Option Value} {led : Led} {env : Env}
theorem W_truthVn {v : Value} {Q : Bool → Heap → Prop} (hv : Vn v) (q : ∀ b, Q b h) : Wp (model prog w) A z (truthy v) Q h := by
  rcases hv with rfl | ⟨b, rfl⟩
  · exact W_truthN (q false)
  · exact W_truthB (q b)
theorem W_orVn {e₁ e₂ : Expr} {v₁ v₂ : Value} {pos : Pos} {Q : Value → Heap → Prop} (h1 : Ev prog w A z env h e₁ v₁) (h2 : Ev prog w A z env h e₂ v₂) (p1 : Vn v₁) (p2 : Vn v₂) (q : ∀ v, Vn v → Q v h) :
    Wp (model prog w) A z (eval (.BoolOp .Or [e₁, e₂] pos) env) Q h :=
  W_or (h1.go (W_truthVn p1 fun b => ⟨fun _ => q _ p1, fun _ => W_or1 (h2.go (q _ p2))⟩))
theorem T_or2 {qual : Str} {scope : Scope} {fa : Addr} {cdv : Value} {cl : List (Str × Addr)} {y1 y2 : Str} {p1 p2 pos : Pos} {b1 b2 : Bool} {whole : Sem Value} {Q : Bool → Heap → Prop} (F : Fr g L h m) (h1 : m y1 = some (.bool b1)) (h2 : m y2 = some (.bool b2)) (q : Q (b1 || b2) h)
    (hk : scope.kind = .function := by rfl) (hx : (envX qual scope L fa cdv cl).kindOf y1 = some .local := by rfl) (hx2 : (envX qual scope L fa cdv cl).kindOf y2 = some .local := by rfl)
    (hd : (y1 == ("__debug__" : Str)) = false := by decide) (hd2 : (y2 == ("__debug__" : Str)) = false := by decide) :
    Wp (model prog w) A z (isTrue (.BoolOp .Or [.Name y1 p1, .Name y2 p2] pos) (envX qual scope L fa cdv cl) whole) Q h := by
  refine W_tor (T_nameB F h1 ⟨fun e => ?_, fun e => W_tor (T_nameB F h2 ⟨fun e2 => ?_, fun e2 => W_torN ?_⟩ hk hx2 hd2)⟩ hk hx hd)
  · subst e; exact q
  · subst e e2; exact q
  · subst e e2; exact q
theorem T_and2 {qual : Str} {scope : Scope} {fa : Addr} {cdv : Value} {cl : List (Str × Addr)} {y1 y2 : Str} {p1 p2 pos : Pos} {b1 b2 : Bool} {whole : Sem Value} {Q : Bool → Heap → Prop} (F : Fr g L h m) (h1 : m y1 = some (.bool b1)) (h2 : m y2 = some (.bool b2)) (q : Q (b1 && b2) h)
    (hk : scope.kind = .function := by rfl) (hx : (envX qual scope L fa cdv cl).kindOf y1 = some .local := by rfl) (hx2 : (envX qual scope L fa cdv cl).kindOf y2 = some .local := by rfl)
    (hd : (y1 == ("__debug__" : Str)) = false := by decide) (hd2 : (y2 == ("__debug__" : Str)) = false := by decide) :
    Wp (model prog w) A z (isTrue (.BoolOp .And [.Name y1 p1, .Name y2 p2] pos) (envX qual scope L fa cdv cl) whole) Q h := by
  refine W_tand (T_nameB F h1 ⟨fun e => W_tand (T_nameB F h2 ⟨fun e2 => W_tandN ?_, fun e2 => ?_⟩ hk hx2 hd2), fun e => ?_⟩ hk hx hd)
  · subst e e2; exact q
  · subst e e2; exact q
  · subst e; exact q
theorem T_mqand3 {qual : Str} {scope : Scope} {fa : Addr} {cdv : Value} {cl : List (Str × Addr)} {y0 y1 y2 : Str} {p0 p1 p2 pos : Pos} {i : Int} {tk : Tok} {b1 b2 : Bool} {whole : Sem Value} {Q : Bool → Heap → Prop} (F : Fr g L h m) (h0 : m y0 = some (.int i tk)) (h1 : m y1 = some (.bool b1)) (h2 : m y2 = some (.bool b2)) (q : Q (i != 0 && b1 && b2) h)
    (hk : scope.kind = .function := by rfl) (hx0 : (envX qual scope L fa cdv cl).kindOf y0 = some .local := by rfl) (hx : (envX qual scope L fa cdv cl).kindOf y1 = some .local := by rfl) (hx2 : (envX qual scope L fa cdv cl).kindOf y2 = some .local := by rfl)
    (hd0 : (y0 == ("__debug__" : Str)) = false := by decide) (hd : (y1 == ("__debug__" : Str)) = false := by decide) (hd2 : (y2 == ("__debug__" : Str)) = false := by decide) :
    Wp (model prog w) A z (isTrue (.BoolOp .And [.Name y0 p0, .Name y1 p1, .Name y2 p2] pos) (envX qual scope L fa cdv cl) whole) Q h := by
  refine W_tand (T_nameI F h0 ⟨fun e0 => W_tand (T_nameB F h1 ⟨fun e => W_tand (T_nameB F h2 ⟨fun e2 => W_tandN ?_, fun e2 => ?_⟩ hk hx2 hd2), fun e => ?_⟩ hk hx hd), fun e0 => ?_⟩ hk hx0 hd0)
  · subst e e2; rw [e0] at q; exact q
  · subst e e2; rw [e0] at q; exact q
  · subst e; rw [e0] at q; exact q
  · rw [e0] at q; exact q
end
theorem mergeT_heads {a b : Tb} {e : Int × Int} {T : Tb} (h : mergeT a b = e :: T) : (∀ f r, a = f :: r → e.1 ≤ f.1) ∧ ∀ f r, b = f :: r → e.1 ≤ f.1 := by
  match a, b with
  | [], b =>
    rw [mergeT_nil_left] at h; subst h
    exact ⟨fun f r q => (nomatch q), fun f r q => (by cases q; exact Int.le_refl _)⟩
  | a :: a', [] =>
    rw [mergeT_nil_right] at h; cases h
    exact ⟨fun f r q => (by cases q; exact Int.le_refl _), fun f r q => (nomatch q)⟩
  | (i, s) :: a, (j, t) :: b =>
    rw [mergeT_cons] at h
    split at h
    · cases h
      exact ⟨fun f r q => (by cases q; exact Int.le_refl _), fun f r q => (by cases q; show i ≤ j; omega)⟩
    · split at h
      · cases h
        exact ⟨fun f r q => (by cases q; show j ≤ i; omega), fun f r q => (by cases q; exact Int.le_refl _)⟩
      · cases h
        exact ⟨fun f r q => (by cases q; exact Int.le_refl _), fun f r q => (by cases q; show i ≤ j; omega)⟩

section
variable {p pa pb : Bool} {n na nb : Nat} {d x xa xb : Addr} {la lb : Led} {Ta Tb' : Tb}
variable (k : KOk K) (SA : SpecAt prog w K ro (12 * n) pa na la xa Ta) (SB : SpecAt prog w K ro (12 * n) pb nb lb xb Tb') (MA : MRep ro pa na la xa Ta) (MB : MRep ro pb nb lb xb Tb') (hp : p = true → pa = true ∧ pb = true) (ha : na < n) (hb : nb < n)
include k SA SB
noncomputable def φU0 (xa xb : Addr) (fs : Str → Option Value) : Prop := φBi xa xb fs ∧ fs "_id" = some .none
omit k SA SB in
theorem u_end {g h : Heap} {L : Addr} {la lb : Led} {T : Tb} (O : Ow g L h (nodeC d x cUnion (φU0 xa xb) ++ (la ++ lb))) : Ow g L h (nodeC d x cUnion (φUnion xa xb T) ++ (la ++ lb)) :=
  O.weaken fun o q => dictB.mono (φ := φU0 xa xb) (φ' := φUnion xa xb T) q (Nat.le_refl _) fun fs q => ⟨q.1, .inr (.inl q.2)⟩

include MA MB hp ha hb in
theorem u_next {e : Int × Int} {T' : Tb} (eT : mergeT Ta Tb' = e :: T') :
    Does prog w K ro (12 * n + 1) (.ref f_UnionMatcher_next) [.ref x] [] (nodeC d x cUnion (φUnion xa xb (mergeT Ta Tb')) ++ (la ++ lb)) fun v l => Vn v ∧ MRep ro p n l x T' ∧ Keeps (nodeC d x cUnion (φUnion xa xb (mergeT Ta Tb')) ++ (la ++ lb)) l := by
  refine does_enter k.fn_UnionMatcher_next [("self", .ref x)] (fun s _ _ _ _ _ _ _ => BindsTo.of_eq rfl) (locs rfl) ?_
  intro A z g L h R G F O
  refine W_cons (W_put (v := .none) (φU0 xa xb) 20 F G O k.c_union k.d_union_id_ ev_none (fun fs q => ⟨⟨⟨(upd_ne (by decide)).trans q.1.1, (upd_ne (by decide)).trans q.1.2⟩, upd_same⟩, .inl ⟨.inr rfl, Nat.le_refl _⟩⟩) fun h F O => ?_)
  refine W_cons (S_ev F O (ev_field F G O k.c_union k.d_union_a Sf.node fun fs q => q.1.1) fun h F O => ?_)
  refine W_cons (S_ev F O (ev_field F G O k.c_union k.d_union_b Sf.node fun fs q => q.1.2) fun h F O => ?_)
  refine W_cons (S_p0 R G F O SA.active (sA O) (ev_name F) fun v h e1 F O => ?_)
  subst e1
  refine W_cons (S_p0 R G F O SB.active (sB O) (ev_name F) fun v h e1 F O => ?_)
  subst e1
  have no : (Ta.isEmpty && Tb'.isEmpty) = false := by rw [← mergeT_isEmpty, eT]; rfl
  refine W_cons (W_if (W_tnot (T_or2 F rfl rfl ⟨fun c => ?_, fun c => ?_⟩)))
  · cases q : Ta.isEmpty <;> cases q2 : Tb'.isEmpty <;> simp_all
  refine W_cons (W_if (W_tnot (T_nameB F rfl ⟨fun q1 => ?_, fun q1 => ?_⟩)))
  · have z : Ta = [] := by first | exact nil1 (by assumption) | exact nil2 (by assumption) | exact nil3 (by assumption)
    rw [z, mergeT_nil_left] at eT
    refine W_cons (W_ret (W_tB0 (SB.next _ _ eT) (fun _ _ q => q.2.2) R G F O (ev_name F) fun v lb' h F O q => ⟨_, _, F, u_end (T := T') O, q.1, ?_, (Keeps.refl.app q.2.2).node⟩))
    have := MRep.union hp ha hb MA q.2.1 (d := d) (x := x)
    rwa [z, mergeT_nil_left] at this
  refine W_cons (W_if (W_tnot (T_nameB F rfl ⟨fun q2 => ?_, fun q2 => ?_⟩)))
  · have z : Tb' = [] := by first | exact nil1 (by assumption) | exact nil2 (by assumption) | exact nil3 (by assumption)
    rw [z, mergeT_nil_right] at eT
    refine W_cons (W_ret (W_tA0 (SA.next _ _ eT) (fun _ _ q => q.2.2) R G F O (ev_name F) fun v la' h F O q => ⟨_, _, F, u_end (T := T') O, q.1, ?_, (q.2.2.app Keeps.refl).node⟩))
    have := MRep.union hp ha hb q.2.1 MB (d := d) (x := x)
    rwa [z, mergeT_nil_right] at this
  refine W_nil (W_nil (W_nil ?_))
  first | refine consP q1 fun ia sa Ta' e1 => ?_ | refine consP2 q1 fun ia sa Ta' e1 => ?_
  first | refine consP q2 fun ib sb Tb'' e2 => ?_ | refine consP2 q2 fun ib sb Tb'' e2 => ?_
  rw [e1, e2, mergeT_cons] at eT
  refine W_cons (S_p0 R G F O (SA.id _ _ e1) (sA O) (ev_name F) fun v h ⟨t1, e⟩ F O => ?_)
  subst e
  refine W_cons (S_p0 R G F O (SB.id _ _ e2) (sB O) (ev_name F) fun v h ⟨t2, e⟩ F O => ?_)
  subst e
  refine W_cons (W_assign2 (W_cnone ⟨_, _, F, O, fun h F O => ?_⟩))
  -- after the first part's turn
  have last : ∀ h m la' Ta1 v, Fr g L h m → Ow g L h (nodeC d x cUnion (φU0 xa xb) ++ (la' ++ lb)) → m "self" = some (.ref x) → m "b" = some (.ref xb) → m "a_id" = some (.int ia t1) → m "b_id" = some (.int ib t2) → m "ar" = some v → Vn v → m "br" = some .none →
      MRep ro pa na la' xa Ta1 → Keeps la la' → (ib ≤ ia → T' = mergeT Ta1 Tb'') → (¬ ib ≤ ia → T' = mergeT Ta1 Tb') →
      Wp (model prog w) A z (execs ((defBody rf_UnionMatcher_next.st).drop 10) (envX rf_UnionMatcher_next.qual (defScope rf_UnionMatcher_next.st) L f_UnionMatcher_next rf_UnionMatcher_next.cdv rf_UnionMatcher_next.cl)) (Ret g L fun v l => Vn v ∧ MRep ro p n l x T' ∧ Keeps (nodeC d x cUnion (φUnion xa xb (mergeT Ta Tb')) ++ (la ++ lb)) l) h := by
    intro h m la' Ta1 v F O m1 m2 m3 m4 m5 hv m6 M' hk y1 y2
    refine W_cons (W_if (W_tcmp (W_name F m4 (W_name F m3 (W_le (W_truthB ⟨fun c => ?_, fun c => W_nil ?_⟩))))))
    · refine W_cons (W_assign (W_tB0 (SB.next _ _ e2) (fun _ _ q => q.2.2) R G F O (ev_name F m2) fun v2 lb' h F O q => ⟨_, _, F, O, fun h F O => W_nil ?_⟩))
      refine W_cons (W_ret (W_orVn (ev_name F ((upd_ne (by decide)).trans m5)) (ev_name F upd_same) hv q.1 fun v3 hv3 => ⟨_, _, F, u_end (T := T') O, hv3, ?_, (hk.app q.2.2).node⟩))
      rw [y1 (by simpa using c)]
      exact .union hp ha hb M' q.2.1
    · refine W_cons (W_ret (W_orVn (ev_name F m5) (ev_name F m6) hv (.inl rfl) fun v3 hv3 => ⟨_, _, F, u_end (T := T') O, hv3, ?_, (hk.app Keeps.refl).node⟩))
      rw [y2 (by simpa using c)]
      exact .union hp ha hb M' MB
  refine W_cons (W_if (W_tcmp (W_name F rfl (W_name F rfl (W_le (W_truthB ⟨fun c => ?_, fun c => W_nil ?_⟩))))))
  · have c' : ia ≤ ib := by simpa using c
    refine W_cons (W_assign (W_tA0 (SA.next _ _ e1) (fun _ _ q => q.2.2) R G F O (ev_name F) fun v2 la' h F O q => ⟨_, _, F, O, fun h F O => W_nil ?_⟩))
    refine last _ _ _ _ v2 F O rfl rfl rfl rfl upd_same q.1 rfl q.2.1 q.2.2 (fun c2 => ?_) (fun c2 => ?_)
    · rw [if_neg (by omega), if_neg (by omega)] at eT; cases eT; rfl
    · rw [if_pos (by omega)] at eT; cases eT; rw [e2]
  · have c' : ¬ ia ≤ ib := by simpa using c
    refine last _ _ _ _ .none F O rfl rfl rfl rfl rfl (.inl rfl) rfl MA Keeps.refl (fun c2 => ?_) (fun c2 => ?_)
    · rw [if_neg (by omega), if_pos (by omega)] at eT; cases eT; rw [e1]
    · omega

include MA MB hp ha hb in
theorem u_skip (pt : p = true) {i : Int} {tk : Tok} {e : Int × Int} {T' : Tb} (eT : mergeT Ta Tb' = e :: T') :
    Does prog w K ro (12 * n + 1) (.ref f_UnionMatcher_skip_to) [.ref x, .int i tk] [] (nodeC d x cUnion (φUnion xa xb (mergeT Ta Tb')) ++ (la ++ lb)) fun v l => Vn v ∧ MRep ro p n l x (dropLt i (mergeT Ta Tb')) ∧
      (i ≤ e.1 → l = (nodeC d x cUnion (φUnion xa xb (mergeT Ta Tb')) ++ (la ++ lb))) ∧ Keeps (nodeC d x cUnion (φUnion xa xb (mergeT Ta Tb')) ++ (la ++ lb)) l := by
  refine does_enter k.fn_UnionMatcher_skip_to [("self", .ref x), ("id", .int i tk)] (fun s _ _ _ _ _ _ _ => BindsTo.of_eq rfl) (locs rfl) ?_
  intro A z g L h R G F O
  obtain ⟨hda, hdb⟩ := mergeT_heads eT
  refine W_cons (W_put (v := .none) (φU0 xa xb) 20 F G O k.c_union k.d_union_id_ ev_none (fun fs q => ⟨⟨⟨(upd_ne (by decide)).trans q.1.1, (upd_ne (by decide)).trans q.1.2⟩, upd_same⟩, .inl ⟨.inr rfl, Nat.le_refl _⟩⟩) fun h F O => ?_)
  refine W_cons (W_assign2 (W_cbool ⟨_, _, F, O, fun h F O => ?_⟩))
  have last : ∀ h m la' v, Fr g L h m → Ow g L h (nodeC d x cUnion (φU0 xa xb) ++ (la' ++ lb)) → m "self" = some (.ref x) → m "id" = some (.int i tk) → m "ra" = some v → Vn v → m "rb" = some (.bool false) →
      MRep ro pa na la' xa (dropLt i Ta) → (i ≤ e.1 → la' = la) → Keeps la la' →
      Wp (model prog w) A z (execs ((defBody rf_UnionMatcher_skip_to.st).drop 3) (envX rf_UnionMatcher_skip_to.qual (defScope rf_UnionMatcher_skip_to.st) L f_UnionMatcher_skip_to rf_UnionMatcher_skip_to.cdv rf_UnionMatcher_skip_to.cl)) (Ret g L fun v l => Vn v ∧ MRep ro p n l x (dropLt i (mergeT Ta Tb')) ∧
      (i ≤ e.1 → l = (nodeC d x cUnion (φUnion xa xb (mergeT Ta Tb')) ++ (la ++ lb))) ∧ Keeps (nodeC d x cUnion (φUnion xa xb (mergeT Ta Tb')) ++ (la ++ lb)) l) h := by
    intro h m la' v F O m1 m2 m3 hv m4 M' hl hk
    refine W_cons (W_if (T_p0 R G F O SB.active (sB O) (ev_field F G O k.c_union k.d_union_b Sf.node (fun fs q => q.1.2) m1) fun h F O => ⟨fun c => ?_, fun c => W_nil ?_⟩))
    · first | refine consE c fun eb Tb'' e2 => ?_ | refine consE2 c fun eb Tb'' e2 => ?_
      refine W_cons (W_assign (W_tB1 (SB.skip (hp pt).2 i tk _ _ e2) (fun _ _ q => q.2.2.2) R G F O (ev_field F G O k.c_union k.d_union_b Sf.node (fun fs q => q.1.2) m1) (ev_name F m2) fun v2 lb' h F O q => ⟨_, _, F, O, fun h F O => W_nil ?_⟩))
      refine W_cons (W_ret (W_orVn (ev_name F ((upd_ne (by decide)).trans m3)) (ev_name F upd_same) hv q.1 fun v3 hv3 => ⟨_, _, F, u_end (T := mergeT (dropLt i Ta) (dropLt i Tb')) O, hv3, ?_, fun c => ?_, (hk.app q.2.2.2).node⟩))
      · rw [dropLt_merge]; exact .union hp ha hb M' q.2.1
      · rw [hl c, q.2.2.1 (by have := hdb _ _ e2; omega), ← dropLt_merge, eT, dropLt_ge c]
    · have : Tb' = [] := by first | exact nil1 (by assumption) | exact nil2 (by assumption) | exact nil3 (by assumption)
      refine W_cons (W_ret (W_orVn (ev_name F m3) (ev_name F m4) hv (.inr ⟨_, rfl⟩) fun v3 hv3 => ⟨_, _, F, u_end (T := mergeT (dropLt i Ta) Tb') O, hv3, ?_, fun c => ?_, (hk.app Keeps.refl).node⟩))
      · have : dropLt i Tb' = Tb' := by rw [this]; rfl
        rw [dropLt_merge, this]; exact .union hp ha hb M' MB
      · have : dropLt i Tb' = Tb' := by rw [this]; rfl
        have e3 : mergeT (dropLt i Ta) Tb' = mergeT Ta Tb' := by rw [← this, ← dropLt_merge, this, eT, dropLt_ge c]
        rw [hl c, e3]
  refine W_cons (W_if (T_p0 R G F O SA.active (sA O) (ev_field F G O k.c_union k.d_union_a Sf.node (fun fs q => q.1.1)) fun h F O => ⟨fun c => ?_, fun c => W_nil ?_⟩))
  · first | refine consE c fun ea Ta'' e2 => ?_ | refine consE2 c fun ea Ta'' e2 => ?_
    refine W_cons (W_assign (W_tA1 (SA.skip (hp pt).1 i tk _ _ e2) (fun _ _ q => q.2.2.2) R G F O (ev_field F G O k.c_union k.d_union_a Sf.node (fun fs q => q.1.1)) (ev_name F) fun v2 lb' h F O q => ⟨_, _, F, O, fun h F O => W_nil ?_⟩))
    exact last _ _ _ v2 F O rfl rfl upd_same q.1 rfl q.2.1 (fun c => q.2.2.1 (by have := hda _ _ e2; omega)) q.2.2.2
  · have : dropLt i Ta = Ta := by
      have : Ta = [] := by first | exact nil1 (by assumption) | exact nil2 (by assumption) | exact nil3 (by assumption)
      rw [this]; rfl
    exact last _ _ _ (.bool false) F O rfl rfl rfl (.inr ⟨_, rfl⟩) rfl (by rw [this]; exact MA) (fun _ => rfl) Keeps.refl
end
end Mine
end
section
set_option maxRecDepth 10000
namespace Mine
variable {prog : Program} {w : World} {K : Frag} {ro : List (Addr × Obj)}
section
variable {A : Around} {z : Shared} {g h : Heap} {L : Addr} {m : Str → Option Value} {led : Led} {env : Env}
theorem nilOr {T U : Tb} (c : (!(!T.isEmpty || !U.isEmpty)) = true) : T = [] ∧ U = [] := by
  cases T with
  | cons _ _ => cases c
  | nil => cases U with
    | nil => exact ⟨rfl, rfl⟩
    | cons _ _ => cases c
theorem Meth.uniq {own : Led} {x f f' : Addr} {nm : Str} (O : Ow g L h own) (M : Meth K own x nm f) (M' : Meth K own x nm f') : f = f' := by
  obtain ⟨C, φ, s, _, _, m1, _⟩ := M.is_
  obtain ⟨C', φ', s', _, _, m1', _⟩ := M'.is_
  obtain ⟨d, h1, _⟩ := s.is_
  obtain ⟨d', h1', _⟩ := s'.is_
  have e := O.obj h1
  rw [O.obj h1'] at e
  have : C = C' := by
    have e2 := congrArg Obj.cls (Option.some.inj e)
    cases e2; rfl
  subst this
  rw [m1] at m1'
  cases m1'; rfl
/-- new cells; the argument is worked out between -/
theorem W_n1x {own : Led} {k : Nat} {x : Addr} {nm : Str} {o e : Expr} {v0 : Value} {apos pos : Pos} {P : Value → Prop} {post : Value → Led → Prop} {Q : Value → Heap → Prop} (C : ∀ v, P v → Can prog w K ro k x nm [v] own fun v' l => ∃ nw, l = nw ++ own ∧ post v' nw) (p0 : P v0)
    (R : Room A k) (G : Gd K ro g) (F : Fr g L h m) (O : Ow g L h led) (s : Sub own led) (ho : Ev prog w A z env h o (.ref x))
    (hv : ∀ Q' : Value → Heap → Prop, (∀ v h', Fr g L h' m → Ow g L h' led → P v → Q' v h') → Wp (model prog w) A z (eval e env) Q' h)
    (kont : ∀ v nw h', Fr g L h' m → Ow g L h' (nw ++ led) → post v nw → Q v h') (he : CallIs env o nm apos pos [e] [] := by rfl) (hs : starEach [e] env = (false, eval e env) :: starEach [] env := by rfl) : Wp (model prog w) A z (eval (.Call (.Attribute o nm apos) [e] [] pos) env) Q h := by
  obtain ⟨f, M, D⟩ := (C v0 p0).is_
  refine W_mcall (ho _ (W_getMethod F G O s.mem M (W_callWithE G M.keep (W_argsC (hv _ fun v h1 F1 O1 pv => W_argsN ⟨G.kin.keeps F1.keep, ?_⟩) hs) hs rfl))) he
  obtain ⟨f', M', D'⟩ := (C v pv).is_
  cases Meth.uniq (O1.sub s) M M'
  exact Cd.call (D'.useN R G F1 O1 s kont)
noncomputable def NonPos (v : Value) : Prop := ∃ i tk, i ≤ 0 ∧ v = .int i tk
/-- minquality - y.max_quality() if minquality else 0 -/
theorem W_mqless {qual : Str} {scope : Scope} {fa : Addr} {cdv : Value} {cl : List (Str × Addr)} {own : Led} {k : Nat} {x : Addr} {y yq : Str} {p0 p1 p2 p3 p4 p5 p6 pos : Pos} {i : Int} {tk : Tok} {kz : Nat} {Q : Value → Heap → Prop} (R : Room A k) (G : Gd K ro g) (F : Fr g L h m) (O : Ow g L h led) (s : Sub own led)
    (h0 : m yq = some (.int i tk)) (hi : i ≤ 0) (h1 : m y = some (.ref x)) (C : Can prog w K ro k x "max_quality" [] own fun v l => l = own ∧ ∃ q, isInt q v ∧ 0 ≤ q)
    (q : ∀ v h', Fr g L h' m → Ow g L h' led → NonPos v → Q v h')
    (he : CallIs (envX qual scope L fa cdv cl) (.Name y p2) "max_quality" p3 p4 [] [] := by rfl)
    (hk : scope.kind = .function := by rfl) (hx0 : (envX qual scope L fa cdv cl).kindOf yq = some .local := by rfl) (hx : (envX qual scope L fa cdv cl).kindOf y = some .local := by rfl)
    (hd0 : (yq == ("__debug__" : Str)) = false := by decide) (hd : (y == ("__debug__" : Str)) = false := by decide) :
    Wp (model prog w) A z (eval (.IfExp (.Name yq p0) (.BinOp (.Name yq p1) .Sub (.Call (.Attribute (.Name y p2) "max_quality" p3) [] [] p4) p5) (.Constant (.int 0) kz p6) pos) (envX qual scope L fa cdv cl)) Q h := by
  refine W_ifexp (T_nameI F h0 ⟨fun _ => W_bin (W_name F h0 (W_p0 C R G F O s (ev_name F h1 hk hx hd) ?_ he) hk hx0 hd0), fun _ => W_cint fun tk => q _ _ F O ⟨0, tk, Int.le_refl _, rfl⟩⟩ hk hx0 hd0)
  rintro _ h' F' O' ⟨r, ⟨t, rfl⟩, hr⟩
  exact W_sub fun tk => q _ _ F' O' ⟨_, tk, by omega, rfl⟩
end

theorem MRep.flag {p q : Bool} {n n' : Nat} {own : Led} {x : Addr} {T : Tb} (M : MRep ro q n own x T) (h : p = true → q = true) (hn : n ≤ n') : MRep ro p n' own x T := by
  cases q with
  | true => exact (M.weak p).up hn
  | false =>
    cases p with
    | true => exact nomatch h rfl
    | false => exact M.up hn
theorem Sub.wA {o nw S a b : Led} (s : Sub o (nw ++ a)) : Sub o (nw ++ (S ++ (a ++ b))) := ⟨fun e he => by
  rcases List.mem_append.mp (s.mem e he) with h | h <;> simp [h], s.nd⟩
theorem Sub.wB {o nw S a b : Led} (s : Sub o (nw ++ b)) : Sub o (nw ++ (S ++ (a ++ b))) := ⟨fun e he => by
  rcases List.mem_append.mp (s.mem e he) with h | h <;> simp [h], s.nd⟩
theorem Sub.wC {o nw S a : Led} (s : Sub o (nw ++ a)) : Sub o (nw ++ (S ++ a)) := ⟨fun e he => by
  rcases List.mem_append.mp (s.mem e he) with h | h <;> simp [h], s.nd⟩
/-- the two new parts lie apart -/
theorem Sub.pair {oa ob na nb S a b : Led} (sa : Sub oa (na ++ a)) (sb : Sub ob (nb ++ b)) (nd : Nd (nb ++ (na ++ (S ++ (a ++ b))))) : Sub (oa ++ ob) (nb ++ (na ++ (S ++ (a ++ b)))) := by
  refine Sub.two sa sb ?_ fun e he => ?_
  · have p : (nb ++ (na ++ (S ++ (a ++ b)))).Perm (((na ++ a) ++ (nb ++ b)) ++ S) := by
      classical
      refine List.perm_iff_count.mpr fun x => ?_
      simp only [List.count_append]; omega
    exact (nodup_append.mp (nd.perm p)).1
  · simp only [List.mem_append] at he ⊢
    rcases he with (h | h) | h | h <;> simp [h]
theorem permN {nwb nwa S r : Led} : (nwb ++ (nwa ++ (S ++ r))).Perm (S ++ (nwb ++ (nwa ++ r))) := by
  classical
  refine List.perm_iff_count.mpr fun x => ?_
  simp only [List.count_append]; omega
/-- what replace answers, the node's part in front -/
noncomputable def ReplPost (ro : List (Addr × Obj)) (p : Bool) (n : Nat) (own : Led) (T : Tb) (v : Value) (l : Led) : Prop := ∃ nw, l = nw ++ own ∧ ∃ y o1, v = .ref y ∧ Sub o1 (nw ++ own) ∧ MRep ro p n o1 y T
section
variable {A : Around} {z : Shared} {g h : Heap} {L : Addr} {m : Str → Option Value} {led : Led} {env : Env}
/-- e1 is not e2 or e3 is not e4 -/
theorem T_neq2 {p1 p2 p3 p4 : Bool} {n1 n2 n3 n4 : Nat} {o1 o2 o3 o4 : Led} {T1 T2 T3 T4 : Tb} {ya xa yb xb : Addr} {e1 e2 e3 e4 : Expr} {q1 q2 pos : Pos} {whole : Sem Value} {Q : Bool → Heap → Prop} (O : Ow g L h led) (v1 : Ev prog w A z env h e1 (.ref ya)) (v2 : Ev prog w A z env h e2 (.ref xa)) (v3 : Ev prog w A z env h e3 (.ref yb)) (v4 : Ev prog w A z env h e4 (.ref xb))
    (M1 : MRep ro p1 n1 o1 ya T1) (M2 : MRep ro p2 n2 o2 xa T2) (M3 : MRep ro p3 n3 o3 yb T3) (M4 : MRep ro p4 n4 o4 xb T4) (s1 : ∀ e ∈ o1, e ∈ led) (s2 : ∀ e ∈ o2, e ∈ led) (s3 : ∀ e ∈ o3, e ∈ led) (s4 : ∀ e ∈ o4, e ∈ led)
    (q : Q (decide (ya ≠ xa) || decide (yb ≠ xb)) h) (hm : behindInMarks .IsNot e2 = false := by with_unfolding_all rfl) (hm2 : behindInMarks .IsNot e4 = false := by with_unfolding_all rfl) :
    Wp (model prog w) A z (isTrue (.BoolOp .Or [.Compare e1 [.IsNot] [e2] q1, .Compare e3 [.IsNot] [e4] q2] pos) env whole) Q h := by
  obtain ⟨Ca, da, ia⟩ := M1.inst
  obtain ⟨Ca0, da0, ia0⟩ := M2.inst
  obtain ⟨Cb, db, ib⟩ := M3.inst
  obtain ⟨Cb0, db0, ib0⟩ := M4.inst
  refine W_tor (W_tcmp (v1.go (v2.go (W_isNot O (s2 _ ia0) (s1 _ ia) (W_truthB ⟨fun e => ?_, fun e => W_tor (W_tcmp (v3.go (v4.go (W_isNot O (s4 _ ib0) (s3 _ ib) (W_truthB ⟨fun e2 => ?_, fun e2 => W_torN ?_⟩)))) hm2)⟩)))) hm)
  · rw [e] at q; exact q
  · rw [e, e2] at q; exact q
  · rw [e, e2] at q; exact q
/-- self._made(e1, e2) -/
theorem W_made {C fm : Addr} {φ : (Str → Option Value) → Prop} {p pa pb : Bool} {n na nb k : Nat} {x ya yb : Addr} {oa ob nwa nwb own : Led} {Ta Tb' T : Tb} {o e1 e2 : Expr} {apos pos : Pos} {Q : Value → Heap → Prop} (Sn : Sf (nwb ++ (nwa ++ own)) x C φ) (c : ClsOk K C) (M : MethOk K C "_made" fm)
    (made : MadeN prog w K ro k fm x p n pa pb na nb Ta Tb' T) (Ma : MRep ro pa na oa ya Ta) (Mb : MRep ro pb nb ob yb Tb') (s : Sub (oa ++ ob) (nwb ++ (nwa ++ own))) (R : Room A k) (G : Gd K ro g) (F : Fr g L h m) (O : Ow g L h (nwb ++ (nwa ++ own)))
    (ho : Ev prog w A z env h o (.ref x)) (h1 : Ev prog w A z env h e1 (.ref ya)) (h2 : Ev prog w A z env h e2 (.ref yb)) (q : ∀ v l h', Fr g L h' m → Ow g L h' l → ReplPost ro p n own T v l → Q v h')
    (he : CallIs env o "_made" apos pos [e1, e2] [] := by rfl) (hs1 : starEach [e1, e2] env = (false, eval e1 env) :: starEach [e2] env := by rfl) (hs2 : starEach [e2] env = (false, eval e2 env) :: starEach [] env := by rfl) (hp : (backTo pos (starEach [e2] env)).any (·.1) = false := by rfl) :
    Wp (model prog w) A z (eval (.Call (.Attribute o "_made" apos) [e1, e2] [] pos) env) Q h := by
  refine W_mcall (ho.go (W_getMethod F G O (fun p hp => hp) ⟨⟨_, _, Sn, by decide, c, M⟩⟩ (W_callWithE G M.2.2 (W_argsC (h1.go (W_argsC (h2.go (W_argsN ⟨G.kin.keeps F.keep, Cd.call ?_⟩)) hs2)) hs1) hs1 hp))) he
  refine (made ya yb oa ob Ma Mb s.nd).useN R G F O s fun v nw h F O ⟨y, e, MM⟩ => q v _ h F O ⟨nw ++ (nwb ++ nwa), by simp only [List.append_assoc], y, _, e, ?_, MM⟩
  have := Sub.app (b := nw) (Sub.trans s O.subR) (fun e he => List.mem_append_left _ he) (nodup_append.mpr ⟨O.left.nd, s.nd, fun p hp q hq => (nodup_append.mp O.nd).2.2 p hp q (s.mem q hq)⟩)
  simpa only [List.append_assoc] using this
end
section
variable {p pa pb : Bool} {n na nb : Nat} {d x xa xb : Addr} {la lb : Led} {Ta Tb' : Tb}
variable (k : KOk K) (I : IH prog w K ro n) (MA : MRep ro pa na la xa Ta) (MB : MRep ro pb nb lb xb Tb') (hp : p = true → pa = true ∧ pb = true) (ha : na < n) (hb : nb < n)
include k I MA MB hp ha hb
theorem u_repl {args : List Value} (hargs : args = [] ∨ ∃ i tk, i ≤ 0 ∧ args = [.int i tk]) :
    Does prog w K ro (12 * n + 6) (.ref f_UnionMatcher_replace) (.ref x :: args) [] (nodeC d x cUnion (φUnion xa xb (mergeT Ta Tb')) ++ (la ++ lb)) (ReplPost ro p n (nodeC d x cUnion (φUnion xa xb (mergeT Ta Tb')) ++ (la ++ lb)) (mergeT Ta Tb')) := by
  have SA := I.get (Nat.le_refl _) ha MA
  have SB := I.get (Nat.le_refl _) hb MB
  refine does_repl k.fn_UnionMatcher_replace k.v_UnionMatcher_replace hargs ?_
  intro i tk hi A z g L h R0 G F O
  have R : Room A (12 * n) := R0.le (by omega)
  refine W_cons (S_ev F O (ev_field F G O k.c_union k.d_union_a Sf.node fun fs q => q.1.1) fun h F O => ?_)
  refine W_cons (S_ev F O (ev_field F G O k.c_union k.d_union_b Sf.node fun fs q => q.1.2) fun h F O => ?_)
  refine W_cons (S_p0 R G F O SA.active (sA O) (ev_name F) fun v h e1 F O => ?_)
  subst e1
  refine W_cons (S_p0 R G F O SB.active (sB O) (ev_name F) fun v h e1 F O => ?_)
  subst e1
  have rest : ∀ h m, Fr g L h m → Ow g L h (nodeC d x cUnion (φUnion xa xb (mergeT Ta Tb')) ++ (la ++ lb)) → m "self" = some (.ref x) → m "minquality" = some (.int i tk) → m "a" = some (.ref xa) → m "b" = some (.ref xb) → m "a_active" = some (.bool !Ta.isEmpty) → m "b_active" = some (.bool !Tb'.isEmpty) →
      Wp (model prog w) A z (execs ((defBody rf_UnionMatcher_replace.st).drop 5) (envX rf_UnionMatcher_replace.qual (defScope rf_UnionMatcher_replace.st) L f_UnionMatcher_replace rf_UnionMatcher_replace.cdv rf_UnionMatcher_replace.cl)) (Ret g L (ReplPost ro p n (nodeC d x cUnion (φUnion xa xb (mergeT Ta Tb')) ++ (la ++ lb)) (mergeT Ta Tb'))) h := by
    intro h m F O m1 m2 m3 m4 m5 m6
    refine W_cons (W_if (W_tnot (T_or2 F m5 m6 ⟨fun c => ?_, fun c => ?_⟩)))
    · refine W_cons (S_retNull (k := 12 * n) k (R0.le (by omega)) G F O fun d' y h F O => ⟨_, _, F, O, _, rfl, y, _, rfl, O.subL, ?_⟩)
      obtain ⟨z1, z2⟩ : Ta = [] ∧ Tb' = [] := nilOr c
      rw [z1, z2, mergeT_nil_left]
      exact .null
    refine W_cons (W_if (W_tnot (T_nameB F m5 ⟨fun q1 => ?_, fun q1 => ?_⟩)))
    · have z1 : Ta = [] := by first | exact nil1 (by assumption) | exact nil2 (by assumption) | exact nil3 (by assumption)
      refine W_cons (W_ret (W_n1 (SB.repl _ (.inr ⟨i, tk, hi, rfl⟩)) R G F O (sB O) (ev_name F m4) (ev_name F m2) fun v nw h F O ⟨y, o1, e, s, M⟩ => ⟨_, _, F, O, nw, rfl, y, o1, e, s.wB, ?_⟩))
      rw [z1, mergeT_nil_left]
      exact M.flag (fun q => (hp q).2) (Nat.le_of_lt hb)
    refine W_cons (W_if (W_tnot (T_nameB F m6 ⟨fun q2 => ?_, fun q2 => ?_⟩)))
    · have z1 : Tb' = [] := by first | exact nil1 (by assumption) | exact nil2 (by assumption) | exact nil3 (by assumption)
      refine W_cons (W_ret (W_n1 (SA.repl _ (.inr ⟨i, tk, hi, rfl⟩)) R G F O (sA O) (ev_name F m3) (ev_name F m2) fun v nw h F O ⟨y, o1, e, s, M⟩ => ⟨_, _, F, O, nw, rfl, y, o1, e, s.wA, ?_⟩))
      rw [z1, mergeT_nil_right]
      exact M.flag (fun q => (hp q).1) (Nat.le_of_lt ha)
    refine W_nil (W_nil (W_nil ?_))
    refine W_cons (W_assign (g := g) (W_n1x (P := NonPos) (fun v ⟨j, t, hj, e⟩ => SA.repl [v] (.inr ⟨j, t, hj, by rw [e]⟩)) ⟨0, 0, Int.le_refl _, rfl⟩ R G F O (sA O) (ev_name F m3) (fun Q' q => W_mqless R G F O (sB O) m2 hi m4 SB.maxq q) fun v nwa h F O ⟨ya, oa, e, sa, Ma⟩ => ⟨_, _, F, O, fun h F O => ?_⟩))
    subst e
    have SA' := I.get (Nat.le_refl _) ha Ma
    refine W_cons (W_assign (g := g) (W_n1x (P := NonPos) (fun v ⟨j, t, hj, e⟩ => SB.repl [v] (.inr ⟨j, t, hj, by rw [e]⟩)) ⟨0, 0, Int.le_refl _, rfl⟩ R G F O ((sB O.right).trans O.subR) (ev_name F ((upd_ne (by decide)).trans m4)) (fun Q' q => W_mqless R G F O sa.wA ((upd_ne (by decide)).trans m2) hi upd_same SA'.maxq q) fun v nwb h F O ⟨yb, ob, e, sb, Mb⟩ => ⟨_, _, F, O, fun h F O => ?_⟩))
    subst e
    have sab := sa.pair sb O.nd
    have Snode : Sf (nwb ++ (nwa ++ (nodeC d x cUnion (φUnion xa xb (mergeT Ta Tb')) ++ (la ++ lb)))) x cUnion (φUnion xa xb (mergeT Ta Tb')) := (Sf.node (rest := la ++ lb)).mono fun e he => List.mem_append_right _ (List.mem_append_right _ he)
    have ms : (upd (upd m "a" (.ref ya)) "b" (.ref yb)) "self" = some (.ref x) := (upd_ne (by decide)).trans ((upd_ne (by decide)).trans m1)
    refine W_cons (W_if (T_neq2 O (ev_name F) (ev_field F G O k.c_union k.d_union_a Snode (fun fs q => q.1.1) ms) (ev_name F) (ev_field F G O k.c_union k.d_union_b Snode (fun fs q => q.1.2) ms) Ma MA Mb MB
      (fun e he => sab.mem e (List.mem_append_left _ he)) (fun e he => by simp [he]) (fun e he => sab.mem e (List.mem_append_right _ he)) (fun e he => by simp [he]) ⟨fun c => ?_, fun c => ?_⟩))
    · refine W_cons (W_ret (W_made (k := 12 * n + 3) Snode k.c_union k.m_union_made (made_union k (12 * n) hp ha hb) Ma Mb sab (R0.le (by omega)) G F O (ev_name F ms) (ev_name F) (ev_name F) fun v l h F O q => ⟨_, _, F, O, q⟩))
    · refine W_cons (W_put (v := .none) (φUnion xa xb (mergeT Ta Tb')) 20 F G (O.perm permN) k.c_union k.d_union_id_ ev_none (fun fs q => ⟨⟨⟨(upd_ne (by decide)).trans q.1.1, (upd_ne (by decide)).trans q.1.2⟩, .inr (.inl upd_same)⟩, .inl ⟨.inr rfl, Nat.le_refl _⟩⟩) (fun h F O => ?_) (hy := ms))
      refine W_cons (W_ret (W_name F ms ⟨_, _, F, O.perm permN.symm, nwb ++ nwa, (List.append_assoc ..).symm, x, _, rfl, ?_, .union (d := d) hp ha hb MA MB⟩))
      rw [List.append_assoc]
      exact (O.perm permN.symm).right.right |> fun o => ⟨fun e he => List.mem_append_right _ (List.mem_append_right _ he), o.nd⟩
  refine W_cons (W_if (T_mqand3 F rfl rfl rfl ⟨fun c => ?_, fun c => W_nil (rest _ _ F O rfl rfl rfl rfl rfl rfl)⟩))
  have c' : i < 0 := by
    have : i ≠ 0 := by intro e; subst e; simp at c
    omega
  refine W_cons (S_p0 R G F O SA.maxq (sA O) (ev_name F) fun v h ⟨qa, ⟨ta, e1⟩, ea⟩ F O => ?_)
  subst e1
  refine W_cons (S_p0 R G F O SB.maxq (sB O) (ev_name F) fun v h ⟨qb, ⟨tb, e1⟩, eb⟩ F O => ?_)
  subst e1
  have da : decide (qa < i) = false := by simpa using (by omega : i ≤ qa)
  have db : decide (qb < i) = false := by simpa using (by omega : i ≤ qb)
  refine W_cons (W_if (W_tand (W_tcmp (W_name F rfl (W_name F rfl (W_lt (W_truthB ⟨fun e => ?_, fun _ => ⟨fun e => (nomatch e), fun _ => ?_⟩⟩)))))))
  · rw [da] at e; cases e
  refine W_cons (W_if (W_tcmp (W_name F rfl (W_name F rfl (W_lt (W_truthB ⟨fun e => ?_, fun _ => ?_⟩))))))
  · rw [da] at e; cases e
  refine W_cons (W_if (W_tcmp (W_name F rfl (W_name F rfl (W_lt (W_truthB ⟨fun e => ?_, fun _ => W_nil (W_nil (W_nil (W_nil ?_)))⟩))))))
  · rw [db] at e; cases e
  exact rest _ _ F O rfl rfl rfl rfl rfl rfl
theorem spec_union : SpecAt prog w K ro (12 * n + 12) p n (nodeC d x cUnion (φUnion xa xb (mergeT Ta Tb')) ++ (la ++ lb)) x (mergeT Ta Tb') := by
  have SA := I.get (Nat.le_refl _) ha MA
  have SB := I.get (Nat.le_refl _) hb MB
  exact {
    active := can k.c_union k.m_union_is_active ((u_active k SA SB fun fs q => q.1).le (by omega))
    id := fun e T' q => can k.c_union k.m_union_id ((u_id k SA SB q).le (by omega))
    score := fun e T' q => can k.c_union k.m_union_score ((u_score k SA SB q fun fs q => q.1).le (by omega))
    next := fun e T' q => can k.c_union k.m_union_next ((u_next k SA SB MA MB hp ha hb q).le (by omega))
    maxq := can k.c_union k.m_union_max_quality ((add_maxq k k.c_union k.d_union_a k.d_union_b (fun fs q => q.1) SA SB).le (by omega))
    copy := can k.c_union k.m_union_copy ((bi_copy k k.c_union k.d_union_a k.d_union_b k.m_union_made (fun fs q => q.1) (Spec.le SA (by omega)) (Spec.le SB (by omega)) (made_union k (12 * n) hp ha hb)).le (by omega))
    repl := fun args q => can k.c_union k.m_union_replace ((u_repl k I MA MB hp ha hb q).le (by omega))
    skip := fun pt i tk e T' q => can k.c_union k.m_union_skip_to ((u_skip k SA SB MA MB hp ha hb pt q).le (by omega)) }
end
end Mine
end
section
set_option maxRecDepth 10000
namespace Mine
variable {prog : Program} {w : World} {K : Frag} {ro : List (Addr × Obj)}
section
variable {A : Around} {z : Shared} {g h : Heap} {L : Addr} {m : Str → Option Value} {led : Led} {env : Env}
theorem T_neq1 {p1 p2 : Bool} {n1 n2 : Nat} {o1 o2 : Led} {T1 T2 : Tb} {ya xa : Addr} {e1 e2 : Expr} {pos : Pos} {whole : Sem Value} {Q : Bool → Heap → Prop} (O : Ow g L h led) (v1 : Ev prog w A z env h e1 (.ref ya)) (v2 : Ev prog w A z env h e2 (.ref xa))
    (M1 : MRep ro p1 n1 o1 ya T1) (M2 : MRep ro p2 n2 o2 xa T2) (s1 : ∀ e ∈ o1, e ∈ led) (s2 : ∀ e ∈ o2, e ∈ led)
    (q : Q (decide (ya ≠ xa)) h) (hm : behindInMarks .IsNot e2 = false := by with_unfolding_all rfl) : Wp (model prog w) A z (isTrue (.Compare e1 [.IsNot] [e2] pos) env whole) Q h := by
  obtain ⟨Ca, da, ia⟩ := M1.inst
  obtain ⟨Ca0, da0, ia0⟩ := M2.inst
  exact W_tcmp (v1.go (v2.go (W_isNot O (s2 _ ia0) (s1 _ ia) (W_truthB q)))) hm
theorem mulOk {q c : Int} (h0 : 0 ≤ c) (h1 : c ≤ 100) : IntMulOk q c := by
  have e : (2 : Int) ^ 64 = 18446744073709551616 := by decide
  have b1 : -(2 : Int) ^ 64 < c := by omega
  have b2 : c < (2 : Int) ^ 64 := by omega
  exact IntMulOk.of_right (a := q) (intBits_le_64 b1 b2)
end
/-- what a wrapper's _replacement gives of a child that stands as it should -/
noncomputable def MadeR (prog : Program) (w : World) (K : Frag) (ro : List (Addr × Obj)) (k : Nat) (fm : Addr) (x : Addr) (S : Led) (p : Bool) (n : Nat) (pc : Bool) (nc : Nat) (Tc T : Tb) : Prop :=
  ∀ y o, MRep ro pc nc o y Tc → Does prog w K ro k (.ref fm) [.ref x, .ref y] [] (S ++ o) fun v l => ∃ nw, l = nw ++ (S ++ o) ∧ ∃ y2, v = .ref y2 ∧ MRep ro p n (nw ++ o) y2 T
section
variable {C : Addr} {p pc : Bool} {n nc j : Nat} {d x xc : Addr} {c : Int} {lc S : Led} {Tc : Tb} {φ : (Str → Option Value) → Prop} {led : Led}
variable (k : KOk K) (cC : ClsOk K C) (fC : FieldOk K C "child") (fB : FieldOk K C "boost") (hφ : ∀ fs, φ fs → φWrap xc c fs) (SC : SpecAt prog w K ro j pc nc lc xc Tc) (Sn : Sf led x C φ) (hsub : ∀ e ∈ lc, e ∈ led)
include k cC fC hφ SC Sn hsub
omit k cC fC hφ SC Sn in
theorem wr_sub {g h : Heap} {L : Addr} (hnd : Nd led → Nd lc) (O : Ow g L h led) : Sub lc led := ⟨hsub, hnd O.nd⟩
variable (hnd : Nd led → Nd lc)
include hnd
theorem wr_active : Does prog w K ro (j + 1) (.ref f_WrappingMatcher_is_active) [.ref x] [] led fun v l => l = led ∧ v = .bool (!Tc.isEmpty) := by
  refine does_enter k.fn_WrappingMatcher_is_active [("self", .ref x)] (fun s _ _ _ _ _ _ _ => BindsTo.of_eq rfl) (locs rfl) ?_
  intro A z g L h R G F O
  refine W_cons (W_ret (W_p0 SC.active R G F O (wr_sub hsub hnd O) (ev_field F G O cC fC Sn fun fs q => (hφ fs q).1) fun v h F O q => ⟨_, _, F, O, rfl, q⟩))
theorem wr_id {e : Int × Int} {T' : Tb} (eT : Tc = e :: T') : Does prog w K ro (j + 1) (.ref f_WrappingMatcher_id) [.ref x] [] led fun v l => l = led ∧ isInt e.1 v := by
  refine does_enter k.fn_WrappingMatcher_id [("self", .ref x)] (fun s _ _ _ _ _ _ _ => BindsTo.of_eq rfl) (locs rfl) ?_
  intro A z g L h R G F O
  refine W_cons (W_ret (W_p0 (SC.id _ _ eT) R G F O (wr_sub hsub hnd O) (ev_field F G O cC fC Sn fun fs q => (hφ fs q).1) fun v h F O q => ⟨_, _, F, O, rfl, q⟩))
include fB in
theorem wr_score (h0 : 0 ≤ c) (h1 : c ≤ 100) {e : Int × Int} {T' : Tb} (eT : Tc = e :: T') : Does prog w K ro (j + 1) (.ref f_WrappingMatcher_score) [.ref x] [] led fun v l => l = led ∧ isInt (e.2 * c) v := by
  refine does_enter k.fn_WrappingMatcher_score [("self", .ref x)] (fun s _ _ _ _ _ _ _ => BindsTo.of_eq rfl) (locs rfl) ?_
  intro A z g L h R G F O
  refine W_cons (W_ret (W_bin (W_p0 (SC.score _ _ eT) R G F O (wr_sub hsub hnd O) (ev_field F G O cC fC Sn fun fs q => (hφ fs q).1) fun v h F O q => ?_)))
  obtain ⟨t, rfl⟩ := q
  refine W_field F G O cC fB Sn (R := isInt c) (fun fs q => let ⟨v, e, i⟩ := (hφ fs q).2; ⟨v, e, i.handed, i⟩) fun v hv => ?_
  obtain ⟨u, rfl⟩ := hv
  exact W_mul (fun tk => ⟨_, _, F, O, rfl, tk, rfl⟩) (mulOk h0 h1)
include fB in
theorem wr_maxq (h0 : 0 ≤ c) (h1 : c ≤ 100) : Does prog w K ro (j + 1) (.ref f_WrappingMatcher_max_quality) [.ref x] [] led fun v l => l = led ∧ ∃ q, isInt q v ∧ 0 ≤ q := by
  refine does_enter k.fn_WrappingMatcher_max_quality [("self", .ref x)] (fun s _ _ _ _ _ _ _ => BindsTo.of_eq rfl) (locs rfl) ?_
  intro A z g L h R G F O
  refine W_cons (W_ret (W_bin (W_p0 SC.maxq R G F O (wr_sub hsub hnd O) (ev_field F G O cC fC Sn fun fs q => (hφ fs q).1) fun v h F O q => ?_)))
  obtain ⟨q, ⟨t, rfl⟩, hq⟩ := q
  refine W_field F G O cC fB Sn (R := isInt c) (fun fs q => let ⟨v, e, i⟩ := (hφ fs q).2; ⟨v, e, i.handed, i⟩) fun v hv => ?_
  obtain ⟨u, rfl⟩ := hv
  exact W_mul (fun tk => ⟨_, _, F, O, rfl, _, ⟨tk, rfl⟩, Int.mul_nonneg hq h0⟩) (mulOk h0 h1)
end
section
variable {C : Addr} {p pc : Bool} {n nc j : Nat} {d x xc : Addr} {c : Int} {lc S : Led} {Tc : Tb} {φ : (Str → Option Value) → Prop}
variable (k : KOk K) (cC : ClsOk K C) (fC : FieldOk K C "child") (hφ : ∀ fs, φ fs → φWrap xc c fs) (SC : SpecAt prog w K ro j pc nc lc xc Tc)
include k cC fC hφ SC
theorem wr_next {e : Int × Int} {T' : Tb} (eT : Tc = e :: T') : Does prog w K ro (j + 1) (.ref f_WrappingMatcher_next) [.ref x] [] (nodeC d x C φ ++ lc) fun v l => Vn v ∧ ∃ lc', l = nodeC d x C φ ++ lc' ∧ MRep ro pc nc lc' xc T' ∧ Keeps lc lc' := by
  refine does_enter k.fn_WrappingMatcher_next [("self", .ref x)] (fun s _ _ _ _ _ _ _ => BindsTo.of_eq rfl) (locs rfl) ?_
  intro A z g L h R G F O
  refine W_cons (W_expr (W_tC0 (SC.next _ _ eT) (fun _ _ q => q.2.2) R G F O (ev_field F G O cC fC Sf.node fun fs q => (hφ fs q).1) fun v lc' h F O q => ⟨fun a e => ?_, W_nil ⟨_, _, F, O, .inl rfl, lc', rfl, q.2⟩⟩))
  rcases q.1 with rfl | ⟨b, rfl⟩ <;> cases e
theorem wr_skip (pt : pc = true) {i : Int} {tk : Tok} {e : Int × Int} {T' : Tb} (eT : Tc = e :: T') : Does prog w K ro (j + 1) (.ref f_WrappingMatcher_skip_to) [.ref x, .int i tk] [] (nodeC d x C φ ++ lc) fun v l => Vn v ∧ ∃ lc', l = nodeC d x C φ ++ lc' ∧ MRep ro pc nc lc' xc (dropLt i Tc) ∧ (i ≤ e.1 → lc' = lc) ∧ Keeps lc lc' := by
  refine does_enter k.fn_WrappingMatcher_skip_to [("self", .ref x), ("id", .int i tk)] (fun s _ _ _ _ _ _ _ => BindsTo.of_eq rfl) (locs rfl) ?_
  intro A z g L h R G F O
  exact W_cons (W_ret (W_tC1 (SC.skip pt i tk _ _ eT) (fun _ _ q => q.2.2.2) R G F O (ev_field F G O cC fC Sf.node fun fs q => (hφ fs q).1) (ev_name F) fun v lc' h F O q => ⟨_, _, F, O, q.1, lc', rfl, q.2⟩))
/-- the wrapper's replace: S is the node's own part -/
theorem wr_repl {fm : Addr} {T : Tb} (MC : MRep ro pc nc lc xc Tc) (Sn : Sf S x C φ) (M : MethOk K C "_replacement" fm) (made : MadeR prog w K ro j fm x S p n pc nc Tc T) (self : MRep ro p n (S ++ lc) x T)
    {args : List Value} (hargs : args = [] ∨ ∃ i tk, i ≤ 0 ∧ args = [.int i tk]) : Does prog w K ro (j + 1) (.ref f_WrappingMatcher_replace) (.ref x :: args) [] (S ++ lc) (ReplPost ro p n (S ++ lc) T) := by
  refine does_repl k.fn_WrappingMatcher_replace k.v_WrappingMatcher_replace hargs ?_
  intro i tk hi A z g L h R G F O
  have Sn' := Sn.mono (led' := S ++ lc) fun e he => List.mem_append_left _ he
  refine W_cons (W_assign (g := g) (W_n1 (SC.repl _ (.inr ⟨i, tk, hi, rfl⟩)) R G F O (sC O) (ev_field F G O cC fC Sn' fun fs q => (hφ fs q).1) (ev_name F) fun v nw h F O ⟨y, o, e, s, Mo⟩ => ⟨_, _, F, O, fun h F O => ?_⟩))
  subst e
  have Sn2 := Sn'.mono (led' := nw ++ (S ++ lc)) fun e he => List.mem_append_right _ he
  refine W_cons (W_if (T_neq1 O (ev_name F upd_same) (ev_field F G O cC fC Sn2 fun fs q => (hφ fs q).1) Mo MC (fun e he => by rcases List.mem_append.mp (s.mem e he) with h | h <;> simp [h]) (fun e he => by simp [he]) ⟨fun _ => ?_, fun _ => ?_⟩))
  · refine W_cons (W_ret (W_mcall (W_name F rfl (W_getMethod F G O (fun p hp => hp) ⟨⟨_, _, Sn2, by decide, cC, M⟩⟩ (W_callWithE G M.2.2 (W_argsC (W_name F upd_same (W_argsN ⟨G.kin.keeps F.keep, Cd.call ?_⟩))))))))
    have nd := O.nd
    have s2 : Sub (S ++ o) (nw ++ (S ++ lc)) := by
      refine ⟨fun e he => ?_, nodup_append.mpr ⟨O.right.left.nd, s.nd, fun p hp q hq e => ?_⟩⟩
      · rcases List.mem_append.mp he with h | h
        · simp [h]
        · rcases List.mem_append.mp (s.mem e h) with h | h <;> simp [h]
      · rcases List.mem_append.mp (s.mem q hq) with h | h
        · exact ((nodup_append.mp nd).2.2 q h p (List.mem_append_left _ hp) e.symm).symm
        · exact (nodup_append.mp O.right.nd).2.2 p hp q h e
    refine (made y o Mo).useN R G F O s2 fun v nw2 h F O ⟨y2, e, MM⟩ => ⟨_, _, F, O, nw2 ++ nw, (List.append_assoc ..).symm, y2, _, e, ?_, MM⟩
    refine ⟨fun e he => ?_, nodup_append.mpr ⟨O.left.nd, s.nd, fun p hp q hq => (nodup_append.mp O.nd).2.2 p hp q (s2.mem q (List.mem_append_right _ hq))⟩⟩
    rcases List.mem_append.mp he with h | h
    · simp [h]
    · have := s2.mem e (List.mem_append_right _ h)
      rw [List.append_assoc]; exact List.mem_append_right _ this
  · exact W_cons (W_ret (W_name F rfl ⟨_, _, F, O, nw, rfl, x, _, rfl, O.subR, self⟩))
end
end Mine
end
section
set_option maxRecDepth 10000
namespace Mine
variable {prog : Program} {w : World} {K : Frag} {ro : List (Addr × Obj)}
section
variable {A : Around} {z : Shared} {g h : Heap} {L : Addr} {m : Str → Option Value} {led : Led} {env : Env}
/-- a def with defaults entered: items is what its tuple of defaults holds -/
theorem does_enterV {fa T : Addr} {qual : Str} {params : Arguments} {body : List Stmt} {scope : Scope} {cl : List (Str × Addr)} {cdv : Value} {own : Led} {post : Value → Led → Prop} {k : Nat} {args : List Value} {kw : List (Str × Value)} {o : Obj} {items : Array Value} {n : Nat}
    (I : FnIs K fa qual params body scope cl (.ref T) cdv) (hK : K.lookup T = some o) (hd : o.data = .seq items n) (binds : List (Str × Value))
    (h1 : ∀ name kV doc pm an ct, ∃ k, bindArgs (fnX name qual params body scope cl (.ref T) kV doc pm an cdv ct) ⟨args, kw⟩ = seqItems? (fnX name qual params body scope cl (.ref T) kV doc pm an cdv ct).defaults >>= k ∧ k (some items) = pure binds)
    (hloc : ∀ y ∈ binds, scope.names.lookup y.1 = some .local)
    (body_ : ∀ (A : Around) (z : Shared) (g : Heap) (L : Addr) (h : Heap), Room A k → Gd K ro g → Fr g L h (fun y => binds.reverse.lookup y) → Ow g L h own → Wp (model prog w) A z (execs body (envX qual scope L fa cdv cl)) (Ret g L post) h) :
    Does prog w K ro (k + 1) (.ref fa) args kw own post := by
  refine does_enter I binds (fun s name kV doc pm an ct X => ?_) hloc body_
  obtain ⟨k, e1, e2⟩ := h1 name kV doc pm an ct
  exact binds_K X rfl hK hd e1 e2
theorem Df1 {T : Addr} {i : Int} (Df : DfOk K T [.int i]) : ∃ o n tk, K.lookup T = some o ∧ o.data = .seq #[.int i tk] n := by
  obtain ⟨o, n, vs, hK, hd, hv⟩ := Df
  rcases vs with _ | ⟨v, _ | ⟨v2, vs⟩⟩
  · exact hv.elim
  · obtain ⟨⟨tk, rfl⟩, _⟩ := hv
    exact ⟨o, n, tk, hK, hd⟩
  · exact hv.2.elim
theorem W_clsInit {C f : Addr} {pl : Sem Bool} {Q : Value × List Value → Heap → Prop} (c : ClsInit K C f) (F : Fr g L h m) (G : Gd K ro g) (q : Q (.ref f, []) h) : Wp (model prog w) A z (getMethod (.ref C) "__init__" pl) Q h := fun tk => by
  obtain ⟨mc, e1, e2, e3⟩ := c.find
  exact method_of_cls (s := St z h tk) F G.kin c.get (cls_val F G.kin e1 e2 e3 rfl ⟨h, tk + 1, rfl, q⟩)
theorem W_putR {qual : Str} {scope : Scope} {fa : Addr} {cdv : Value} {cl : List (Str × Addr)} {y nm : Str} {p0 p1 p2 : Pos} {value : Expr} {v : Value} {x C d : Addr} {b : Nat} {φ : (Str → Option Value) → Prop} {rest : Led} {Q : Flow → Heap → Prop} : True := trivial
end

/-- the child and the boost set -/
theorem wrap_init (k : KOk K) {C d x y : Addr} {j : Nat} {own : Led} {c : Int} {t : Tok} (cC : ClsOk K C) (fC : FieldOk K C "child") (fB : FieldOk K C "boost") :
    Does prog w K ro (j + 1) (.ref f_WrappingMatcher_init) [.ref x, .ref y] [("boost", .int c t)] (nodeB 1 d x C (fun fs => ∀ y, fs y = none) ++ own) fun v l => v = .none ∧ l = nodeB 3 d x C (φWrap y c) ++ own := by
  obtain ⟨o, n, tk, hK, hd⟩ := Df1 k.v_WrappingMatcher_init
  refine does_enterV k.fn_WrappingMatcher_init hK hd [("self", .ref x), ("child", .ref y), ("boost", .int c t)] (fun _ _ _ _ _ _ => ⟨_, rfl, rfl⟩) (locs rfl) ?_
  intro A z g L h R G F O
  refine W_cons (W_put (v := .ref y) (fun fs => fs "child" = some (.ref y)) 2 F G O cC fC (ev_name F) (fun fs q => ⟨upd_same, .inr (Nat.le_refl _)⟩) fun h1 F1 O1 => ?_)
  refine W_cons (W_put (v := .int c t) (φWrap y c) 3 F1 G O1 cC fB (ev_name F1) (fun fs q => ⟨⟨(upd_ne (by decide)).trans q, _, upd_same, t, rfl⟩, .inr (Nat.le_refl _)⟩) fun h2 F2 O2 => ?_)
  exact W_nil ⟨_, _, F2, O2, rfl, rfl⟩
theorem wrap_init1 (k : KOk K) {C d x y : Addr} {j b : Nat} {own : Led} {φ : (Str → Option Value) → Prop} (cC : ClsOk K C) (fC : FieldOk K C "child") (fB : FieldOk K C "boost") (hb : b ≤ 10) :
    Does prog w K ro (j + 1) (.ref f_WrappingMatcher_init) [.ref x, .ref y] [] (nodeB b d x C φ ++ own) fun v l => v = .none ∧ l = nodeB (b + 2) d x C (fun fs => φWrap y 1 fs ∧ ∃ fs0, φ fs0 ∧ ∀ z : Str, z ≠ "child" → z ≠ "boost" → fs z = fs0 z) ++ own := by
  obtain ⟨o, n, tk, hK, hd⟩ := Df1 k.v_WrappingMatcher_init
  refine does_enterV k.fn_WrappingMatcher_init hK hd [("self", .ref x), ("child", .ref y), ("boost", .int 1 tk)] (fun _ _ _ _ _ _ => ⟨_, rfl, rfl⟩) (locs rfl) ?_
  intro A z g L h R G F O
  refine W_cons (W_put (v := .ref y) (fun fs => fs "child" = some (.ref y) ∧ ∃ fs0, φ fs0 ∧ ∀ z : Str, z ≠ "child" → fs z = fs0 z) (b + 1) F G O cC fC (ev_name F) (fun fs q => ⟨⟨upd_same, fs, q, fun z h => upd_ne h⟩, .inr (Nat.le_refl _)⟩) fun h1 F1 O1 => ?_)
  refine W_cons (W_put (v := .int 1 tk) (fun fs => φWrap y 1 fs ∧ ∃ fs0, φ fs0 ∧ ∀ z : Str, z ≠ "child" → z ≠ "boost" → fs z = fs0 z) (b + 2) F1 G O1 cC fB (ev_name F1) (fun fs ⟨q, fs0, q0, q1⟩ => ⟨⟨⟨(upd_ne (by decide)).trans q, _, upd_same, tk, rfl⟩, fs0, q0, fun z h1 h2 => (upd_ne h2).trans (q1 z h1)⟩, .inr (Nat.le_refl _)⟩) fun h2 F2 O2 => ?_)
  exact W_nil ⟨_, _, F2, O2, rfl, rfl⟩
theorem mk_wrap (k : KOk K) (j : Nat) (y : Addr) (c : Int) (t : Tok) : Does prog w K ro (j + 2) (.ref cWrap) [.ref y] [("boost", .int c t)] [] fun v l => ∃ nw, l = nw ++ [] ∧ ∃ d x, v = .ref x ∧ nw = nodeC d x cWrap (φWrap y c) :=
  mk_node (φ := fun _ => φWrap y c) (φ' := fun _ => φWrap y c) k.i_wrap (by decide) (fun _ _ q => q) fun x d => wrap_init k k.c_wrap k.d_wrap_child k.d_wrap_boost
/-- the score set -/
theorem const_init (k : KOk K) {d x y : Addr} {j : Nat} {own : Led} {s : Int} {t : Tok} :
    Does prog w K ro (j + 2) (.ref f_ConstantScoreWrapperMatcher_init) [.ref x, .ref y] [("score", .int s t)] (nodeB 1 d x cConst (fun fs => ∀ y, fs y = none) ++ own) fun v l => v = .none ∧ l = nodeB 4 d x cConst (φConst y s) ++ own := by
  obtain ⟨o, n, tk, hK, hd⟩ := Df1 k.v_ConstantScoreWrapperMatcher_init
  refine does_enterV k.fn_ConstantScoreWrapperMatcher_init hK hd [("self", .ref x), ("child", .ref y), ("score", .int s t)] (fun _ _ _ _ _ _ => ⟨_, rfl, rfl⟩) (locs rfl) ?_
  intro A z g L h R G F O
  refine W_cons (W_expr (W_mcall (W_global F G k.g_WrappingMatcher.1 (W_clsInit k.ci_wrap F G (W_callWithE G k.ci_wrap.keep (W_argsC (W_name F rfl (W_argsC (W_name F rfl (W_argsN ⟨G.kin.keeps F.keep, Cd.call ?_⟩)))))))))) 
  refine Does.use (la := nodeB 1 d x cConst (fun fs => ∀ y, fs y = none) ++ own) (rest := []) (wrap_init1 (j := j) (own := own) k k.c_const k.d_const_child k.d_const_boost (by decide)) R G F (by rw [List.append_nil]; exact O) (fun v l ⟨_, e⟩ => by rw [e]; exact Keeps.refl.node) fun v l h F O ⟨e, e2⟩ => ?_
  subst e e2
  rw [List.append_nil] at O
  refine ⟨fun a e => (nomatch e), ?_⟩
  refine W_cons (W_put (v := .int s t) (φConst y s) 4 F G O k.c_const k.d_const_score_ (ev_name F) (fun fs q => ⟨⟨⟨(upd_ne (by decide)).trans q.1.1, let ⟨v, e, i⟩ := q.1.2; ⟨v, (upd_ne (by decide)).trans e, i⟩⟩, _, upd_same, t, rfl⟩, .inr (Nat.le_refl _)⟩) fun h2 F2 O2 => ?_)
  exact W_nil ⟨_, _, F2, O2, rfl, rfl⟩
theorem mk_const (k : KOk K) (j : Nat) (y : Addr) (s : Int) (t : Tok) : Does prog w K ro (j + 3) (.ref cConst) [.ref y] [("score", .int s t)] [] fun v l => ∃ nw, l = nw ++ [] ∧ ∃ d x, v = .ref x ∧ nw = nodeC d x cConst (φConst y s) :=
  mk_node (φ := fun _ => φConst y s) (φ' := fun _ => φConst y s) k.i_const (by decide) (fun _ _ q => q) fun x d => const_init k
end Mine
end
section
set_option maxRecDepth 10000
namespace Mine
variable {prog : Program} {w : World} {K : Frag} {ro : List (Addr × Obj)}
section
variable {A : Around} {z : Shared} {g h : Heap} {L : Addr} {m : Str → Option Value} {led : Led} {env : Env}
/-- Cls(e, kw=self.f): one place, one keyword out of a field that is an int -/
theorem W_make1 {qual : Str} {scope : Scope} {fa : Addr} {cdv : Value} {cl : List (Str × Addr)} {id kn : Str} {C : Addr} {e : Expr} {p pos : Pos} {kw : Keyword} {Q : Value → Heap → Prop}
    (F : Fr g L h m) (G : Gd K ro g) (gl : nsIn K mainGlobals id = some (some (.ref C)) ∧ keepIn K (.ref C) = true)
    (he : Wp (model prog w) A z (eval e (envX qual scope L fa cdv cl)) (fun v h1 => ∃ m1, Fr g L h1 m1 ∧ Wp (model prog w) A z (eval kw.value (envX qual scope L fa cdv cl)) (fun u h2 => ∃ m2, Fr g L h2 m2 ∧ Cd (model prog w) A z (.call (.ref C) ⟨[v], [(kn, u)]⟩) Q h2) h1) h)
    (hkw : backToKw pos (keywordEach [kw] (envX qual scope L fa cdv cl)) = [(some kn, do let v ← eval kw.value (envX qual scope L fa cdv cl); standAt pos; pure v)] := by rfl)
    (hs1 : starEach [e] (envX qual scope L fa cdv cl) = (false, eval e (envX qual scope L fa cdv cl)) :: starEach [] (envX qual scope L fa cdv cl) := by rfl)
    (hk : scope.kind = .function := by rfl) (hx : (envX qual scope L fa cdv cl).kindOf id = some .globalImplicit := by rfl) (hd : (id == ("__debug__" : Str)) = false := by decide) :
    Wp (model prog w) A z (eval (.Call (.Name id p) [e] [kw] pos) (envX qual scope L fa cdv cl)) Q h := by
  refine W_fcall (W_global F G gl.1 (W_callWithK G gl.2 (W_argsC (he.mono fun v h1 ⟨m1, F1, x⟩ => W_argsN ?_) hs1) (by rw [hkw]; rfl) (by rw [hkw, hs1]; rfl) hs1) hk hx hd)
  rw [hkw]
  exact W_kwC (W_kwBack (x.mono fun u h2 ⟨m2, F2, c⟩ => W_kwN ⟨G.kin.keeps F2.keep, c.call⟩))
end
section
variable {p pc : Bool} {n nc : Nat} {d x xc : Addr} {c s : Int} {lc : Led} {Tc : Tb}
theorem made_wrap (k : KOk K) (j : Nat) (hp : p = true → pc = true) (hc : nc < n) (h0 : 0 ≤ c) (h1 : c ≤ 100) : MadeR prog w K ro (j + 3) f_WrappingMatcher_replacement x (nodeC d x cWrap (φWrap xc c)) p n pc nc Tc (mulT c Tc) := by
  intro y o Mo
  refine does_enter k.fn_WrappingMatcher_replacement [("self", .ref x), ("newchild", .ref y)] (fun s _ _ _ _ _ _ _ => BindsTo.of_eq rfl) (locs rfl) ?_
  intro A z g L h R G F O
  refine W_cons (W_ret (W_make1 (id := "WrappingMatcher") (kn := "boost") F G k.g_WrappingMatcher (W_name F rfl ⟨_, F, W_field F G O k.c_wrap k.d_wrap_boost Sf.node (R := isInt c) (fun fs q => let ⟨v, e, i⟩ := q.2; ⟨v, e, i.handed, i⟩) fun v ⟨t, hv⟩ => ⟨_, F, ?_⟩⟩)))
  subst hv
  refine (mk_wrap k (j) y c t).useN (R.le (by omega)) G F O Sub.nil fun v nw h F O ⟨d2, x2, e, e2⟩ => ⟨_, _, F, O, nw, rfl, x2, e, ?_⟩
  subst e2
  exact .wrap hp hc h0 h1 Mo
theorem spec_wrap (k : KOk K) (I : IH prog w K ro n) (hp : p = true → pc = true) (hc : nc < n) (h0 : 0 ≤ c) (h1 : c ≤ 100) (MC : MRep ro pc nc lc xc Tc) :
    SpecAt prog w K ro (12 * n + 12) p n (nodeC d x cWrap (φWrap xc c) ++ lc) x (mulT c Tc) := by
  have SC := I.get (Nat.le_refl _) hc MC
  have hsub : ∀ e ∈ lc, e ∈ nodeC d x cWrap (φWrap xc c) ++ lc := fun e he => List.mem_append_right _ he
  have hnd : Nd (nodeC d x cWrap (φWrap xc c) ++ lc) → Nd lc := fun q => (nodup_append.mp q).2.1
  have eT : ∀ e T', mulT c Tc = e :: T' → ∃ s Tc', Tc = (e.1, s) :: Tc' ∧ e.2 = s * c ∧ T' = mulT c Tc' := fun e T' q => by
    cases Tc with
    | nil => cases q
    | cons f r => cases q; exact ⟨f.2, r, rfl, rfl, rfl⟩
  exact {
    active := can k.c_wrap k.m_wrap_is_active (((wr_active k k.c_wrap k.d_wrap_child (fun fs q => q) SC Sf.node hsub hnd).mono fun v l q => ⟨q.1, by rw [q.2]; cases Tc <;> rfl⟩).le (by omega))
    id := fun e T' q => by
      obtain ⟨s, Tc', e1, e2, e3⟩ := eT e T' q
      exact can k.c_wrap k.m_wrap_id ((wr_id k k.c_wrap k.d_wrap_child (fun fs q => q) SC Sf.node hsub hnd e1).le (by omega))
    score := fun e T' q => by
      obtain ⟨s, Tc', e1, e2, e3⟩ := eT e T' q
      rw [e2]
      exact can k.c_wrap k.m_wrap_score ((wr_score k k.c_wrap k.d_wrap_child k.d_wrap_boost (fun fs q => q) SC Sf.node hsub hnd h0 h1 e1).le (by omega))
    next := fun e T' q => by
      obtain ⟨s, Tc', e1, e2, e3⟩ := eT e T' q
      refine can k.c_wrap k.m_wrap_next (((wr_next k k.c_wrap k.d_wrap_child (fun fs q => q) SC e1).mono fun v l ⟨q1, lc', q2, q3, q4⟩ => ⟨q1, ?_, q2 ▸ q4.node⟩).le (by omega))
      rw [q2, e3]; exact .wrap hp hc h0 h1 q3
    maxq := can k.c_wrap k.m_wrap_max_quality ((wr_maxq k k.c_wrap k.d_wrap_child k.d_wrap_boost (fun fs q => q) SC Sf.node hsub hnd h0 h1).le (by omega))
    copy := by
      refine can k.c_wrap k.m_wrap_copy (k := 12 * n + 12) ?_
      refine does_enter k.fn_WrappingMatcher_copy [("self", .ref x)] (fun s _ _ _ _ _ _ _ => BindsTo.of_eq rfl) (locs rfl) ?_
      intro A z g L h R G F O
      refine W_cons (W_ret (W_make1 (id := "WrappingMatcher") (kn := "boost") F G k.g_WrappingMatcher (W_n0 SC.copy (R.le (by omega)) G F O (sC O) (ev_field F G O k.c_wrap k.d_wrap_child Sf.node fun fs q => q.1) fun v nw h F O ⟨y, e, My⟩ => ⟨_, F, W_field F G O k.c_wrap k.d_wrap_boost (Sf.node.mono fun e he => List.mem_append_right _ he) (R := isInt c) (fun fs q => let ⟨v, e, i⟩ := q.2; ⟨v, e, i.handed, i⟩) fun v ⟨t, hv⟩ => ⟨_, F, ?_⟩⟩)))
      subst e hv
      refine (mk_wrap k (12 * n) y c t).useN (R.le (by omega)) G F O Sub.nil fun v nw2 h F O ⟨d2, x2, e, e2⟩ => ⟨_, _, F, O, nw2 ++ nw, (List.append_assoc ..).symm, x2, e, ?_⟩
      subst e2
      exact .wrap hp hc h0 h1 My
    repl := fun args q => can k.c_wrap k.m_wrap_replace ((wr_repl k k.c_wrap k.d_wrap_child (φ := φWrap xc c) (fun fs q => q) (Spec.le SC (by omega)) MC Sf.self k.m_wrap_replacement (made_wrap k (12 * n) hp hc h0 h1) (.wrap hp hc h0 h1 MC) q).le (by omega))
    skip := fun pt i tk e T' q => by
      obtain ⟨s, Tc', e1, e2, e3⟩ := eT e T' q
      refine can k.c_wrap k.m_wrap_skip_to (((wr_skip k k.c_wrap k.d_wrap_child (fun fs q => q) SC (hp pt) e1).mono fun v l ⟨q1, lc', q2, q3, q4, q5⟩ => ⟨q1, ?_, fun z => ?_, q2 ▸ q5.node⟩).le (by omega))
      · have : dropLt i (mulT c Tc) = mulT c (dropLt i Tc) := by
          unfold dropLt mulT
          rw [List.dropWhile_map]; rfl
        rw [q2, this]; exact .wrap hp hc h0 h1 q3
      · rw [q2, q4 z] }
theorem made_const (k : KOk K) (j : Nat) (hp : p = true → pc = true) (hc : nc < n) (h0 : 0 ≤ s) : MadeR prog w K ro (j + 4) f_ConstantScoreWrapperMatcher_replacement x (nodeC d x cConst (φConst xc s)) p n pc nc Tc (constT s Tc) := by
  intro y o Mo
  refine does_enter k.fn_ConstantScoreWrapperMatcher_replacement [("self", .ref x), ("newchild", .ref y)] (fun s _ _ _ _ _ _ _ => BindsTo.of_eq rfl) (locs rfl) ?_
  intro A z g L h R G F O
  refine W_cons (W_ret (W_make1 (id := "ConstantScoreWrapperMatcher") (kn := "score") F G k.g_ConstantScoreWrapperMatcher (W_name F rfl ⟨_, F, W_field F G O k.c_const k.d_const_score_ Sf.node (R := isInt s) (fun fs q => let ⟨v, e, i⟩ := q.2; ⟨v, e, i.handed, i⟩) fun v ⟨t, hv⟩ => ⟨_, F, ?_⟩⟩)))
  subst hv
  refine (mk_const k (j) y s t).useN (R.le (by omega)) G F O Sub.nil fun v nw h F O ⟨d2, x2, e, e2⟩ => ⟨_, _, F, O, nw, rfl, x2, e, ?_⟩
  subst e2
  exact .const hp hc h0 Mo
theorem constT_dropLt (i s : Int) (T : Tb) : dropLt i (constT s T) = constT s (dropLt i T) := by
  unfold dropLt constT
  rw [List.dropWhile_map]; rfl
theorem spec_const (k : KOk K) (I : IH prog w K ro n) (hp : p = true → pc = true) (hc : nc < n) (h0 : 0 ≤ s) (MC : MRep ro pc nc lc xc Tc) :
    SpecAt prog w K ro (12 * n + 12) p n (nodeC d x cConst (φConst xc s) ++ lc) x (constT s Tc) := by
  have SC := I.get (Nat.le_refl _) hc MC
  have hsub : ∀ e ∈ lc, e ∈ nodeC d x cConst (φConst xc s) ++ lc := fun e he => List.mem_append_right _ he
  have hnd : Nd (nodeC d x cConst (φConst xc s) ++ lc) → Nd lc := fun q => (nodup_append.mp q).2.1
  have eT : ∀ e T', constT s Tc = e :: T' → ∃ s0 Tc', Tc = (e.1, s0) :: Tc' ∧ e.2 = s ∧ T' = constT s Tc' := fun e T' q => by
    cases Tc with
    | nil => cases q
    | cons f r => cases q; exact ⟨f.2, r, rfl, rfl, rfl⟩
  exact {
    active := can k.c_const k.m_const_is_active (((wr_active k k.c_const k.d_const_child (fun fs q => q.1) SC Sf.node hsub hnd).mono fun v l q => ⟨q.1, by rw [q.2]; cases Tc <;> rfl⟩).le (by omega))
    id := fun e T' q => by
      obtain ⟨s, Tc', e1, e2, e3⟩ := eT e T' q
      exact can k.c_const k.m_const_id ((wr_id k k.c_const k.d_const_child (fun fs q => q.1) SC Sf.node hsub hnd e1).le (by omega))
    score := fun e T' q => by
      obtain ⟨s0, Tc', e1, e2, e3⟩ := eT e T' q
      refine can k.c_const k.m_const_score (k := 12 * n + 12) ?_
      refine does_enter k.fn_ConstantScoreWrapperMatcher_score [("self", .ref x)] (fun s _ _ _ _ _ _ _ => BindsTo.of_eq rfl) (locs rfl) ?_
      intro A z g L h R G F O
      exact W_cons (W_ret (W_field F G O k.c_const k.d_const_score_ Sf.node (R := isInt s) (fun fs q => let ⟨v, e, i⟩ := q.2; ⟨v, e, i.handed, i⟩) fun v hv => ⟨_, _, F, O, rfl, by rw [e2]; exact hv⟩))
    next := fun e T' q => by
      obtain ⟨s, Tc', e1, e2, e3⟩ := eT e T' q
      refine can k.c_const k.m_const_next (((wr_next k k.c_const k.d_const_child (fun fs q => q.1) SC e1).mono fun v l ⟨q1, lc', q2, q3, q4⟩ => ⟨q1, ?_, q2 ▸ q4.node⟩).le (by omega))
      rw [q2, e3]; exact .const hp hc h0 q3
    maxq := by
      refine can k.c_const k.m_const_max_quality (k := 12 * n + 12) ?_
      refine does_enter k.fn_ConstantScoreWrapperMatcher_max_quality [("self", .ref x)] (fun s _ _ _ _ _ _ _ => BindsTo.of_eq rfl) (locs rfl) ?_
      intro A z g L h R G F O
      exact W_cons (W_ret (W_field F G O k.c_const k.d_const_score_ Sf.node (R := isInt s) (fun fs q => let ⟨v, e, i⟩ := q.2; ⟨v, e, i.handed, i⟩) fun v hv => ⟨_, _, F, O, rfl, s, hv, h0⟩))
    copy := by
      refine can k.c_const k.m_const_copy (k := 12 * n + 12) ?_
      refine does_enter k.fn_ConstantScoreWrapperMatcher_copy [("self", .ref x)] (fun s _ _ _ _ _ _ _ => BindsTo.of_eq rfl) (locs rfl) ?_
      intro A z g L h R G F O
      refine W_cons (W_ret (W_make1 (id := "ConstantScoreWrapperMatcher") (kn := "score") F G k.g_ConstantScoreWrapperMatcher (W_n0 SC.copy (R.le (by omega)) G F O (sC O) (ev_field F G O k.c_const k.d_const_child Sf.node fun fs q => q.1.1) fun v nw h F O ⟨y, e, My⟩ => ⟨_, F, W_field F G O k.c_const k.d_const_score_ (Sf.node.mono fun e he => List.mem_append_right _ he) (R := isInt s) (fun fs q => let ⟨v, e, i⟩ := q.2; ⟨v, e, i.handed, i⟩) fun v ⟨t, hv⟩ => ⟨_, F, ?_⟩⟩)))
      subst e hv
      refine (mk_const k (12 * n) y s t).useN (R.le (by omega)) G F O Sub.nil fun v nw2 h F O ⟨d2, x2, e, e2⟩ => ⟨_, _, F, O, nw2 ++ nw, (List.append_assoc ..).symm, x2, e, ?_⟩
      subst e2
      exact .const hp hc h0 My
    repl := fun args q => can k.c_const k.m_const_replace ((wr_repl k k.c_const k.d_const_child (φ := φConst xc s) (fun fs q => q.1) (Spec.le SC (by omega)) MC Sf.self k.m_const_replacement (made_const k (12 * n) hp hc h0) (.const hp hc h0 MC) q).le (by omega))
    skip := fun pt i tk e T' q => by
      obtain ⟨s, Tc', e1, e2, e3⟩ := eT e T' q
      refine can k.c_const k.m_const_skip_to (((wr_skip k k.c_const k.d_const_child (fun fs q => q.1) SC (hp pt) e1).mono fun v l ⟨q1, lc', q2, q3, q4, q5⟩ => ⟨q1, ?_, fun z => ?_, q2 ▸ q5.node⟩).le (by omega))
      · rw [q2, constT_dropLt]; exact .const hp hc h0 q3
      · rw [q2, q4 z] }
end
end Mine
end
section
set_option maxRecDepth 10000
namespace Mine
variable {prog : Program} {w : World} {K : Frag} {ro : List (Addr × Obj)}
section
variable {A : Around} {z : Shared} {g h : Heap} {L : Addr} {m : Str → Option Value} {led : Led} {env : Env}
theorem W_truthL {li : Addr} {ids : List Int} {Q : Bool → Heap → Prop} (l : LAt ro li ids) (G : Gd K ro g) (F : Fr g L h m) (hl : ids.length ≤ 1000) (q : Q (!ids.isEmpty) h) : Wp (model prog w) A z (truthy (.ref li)) Q h := fun tk => by
  obtain ⟨vs, il, ia⟩ := l.isList G F
  have e : ((vs.toArray.size : Nat) : Int) = ids.length := ia.sizeZ
  refine wpAny_truthy_list (s := St z h tk) il (by rw [e]; omega) ⟨h, tk + 1 + 1, rfl, ?_⟩
  have : vs.toArray.isEmpty = ids.isEmpty := by
    have := ia.length
    cases vs <;> cases ids <;> simp_all
  rw [this]; exact q
/-- self.nm += 1 -/
theorem S_inc {qual : Str} {scope : Scope} {fa : Addr} {cdv : Value} {cl : List (Str × Addr)} {y nm : Str} {p0 p1 p2 p3 : Pos} {kz : Nat} {x C d : Addr} {b : Nat} {φ : (Str → Option Value) → Prop} {rest : Led} {j : Int} {Q : Flow → Heap → Prop} (φ' : (Str → Option Value) → Prop) (F : Fr g L h m) (G : Gd K ro g) (O : Ow g L h (nodeB b d x C φ ++ rest)) (c : ClsOk K C) (f : FieldOk K C nm)
    (hv : ∀ fs, φ fs → ∃ v, fs nm = some v ∧ isInt j v) (hφ : ∀ fs v, φ fs → isInt (j + 1) v → φ' (upd fs nm v))
    (q : ∀ h', Fr g L h' m → Ow g L h' (nodeB b d x C φ' ++ rest) → Q .next h') (hn : nm ∉ methNames := by decide) (hb : b ≤ 900 := by decide) (hy : m y = some (.ref x) := by rfl)
    (hk : scope.kind = .function := by rfl) (hl : (envX qual scope L fa cdv cl).kindOf y = some .local := by rfl) (hd : (y == ("__debug__" : Str)) = false := by decide) :
    Wp (model prog w) A z (exec (.AugAssign (.Attribute (.Name y p0) nm p1) .Add (.Constant (.int 1) kz p3) p2) (envX qual scope L fa cdv cl)) Q h := by
  refine W_augAttr (W_name F hy (W_getAttr F G O c f Sf.node (R := isInt j) (fun fs q => let ⟨v, e, i⟩ := hv fs q; ⟨v, e, i.handed, i⟩) fun v ⟨t, e⟩ => ?_) hk hl hd)
  subst e
  exact W_cint fun tk => W_iadd fun tk => W_setAttr (v := .int (j + 1) tk) (φ' := φ') (b := b) F G O c f (List.mem_cons_self ..) hb b hn (fun fs q => ⟨hφ fs _ q ⟨tk, rfl⟩, .inl ⟨.inl (by obtain ⟨v, e, _⟩ := hv fs q; rw [e]; rfl), Nat.le_refl _⟩⟩) q
end

/-! ## the Null -/
theorem spec_null (k : KOk K) (p : Bool) (n j : Nat) (d x : Addr) : SpecAt prog w K ro (j + 3) p n (nullC d x) x [] := by
  have me : ∀ nm f, MethOk K cNull nm f → nm ∈ methNames → Meth K (nullC d x) x nm f := fun nm f M h => ⟨⟨cNull, fun _ => True, ⟨d, by simp [nullC], .inr ⟨by simp [nullC], trivial⟩⟩, h, k.c_null, M⟩⟩
  have fz : ∀ p ∈ nullC d x, p.2.Fz := fun p hp => by
    rcases List.mem_cons.mp hp with rfl | hp
    · trivial
    · rcases List.mem_cons.mp hp with rfl | hp
      · trivial
      · cases hp
  exact {
    active := ⟨⟨_, me _ _ k.m_null_is_active (by decide), by
      refine does_enter (k := j + 2) k.fn_NullMatcherClass_is_active [("self", .ref x)] (fun s _ _ _ _ _ _ _ => BindsTo.of_eq rfl) (locs rfl) ?_
      intro A z g L h R G F O
      exact W_cons (W_ret (W_cbool ⟨_, _, F, O, rfl, rfl⟩))⟩⟩
    id := fun e T' q => nomatch q
    score := fun e T' q => nomatch q
    next := fun e T' q => nomatch q
    maxq := ⟨⟨_, me _ _ k.m_null_max_quality (by decide), by
      refine does_enter (k := j + 2) k.fn_NullMatcherClass_max_quality [("self", .ref x)] (fun s _ _ _ _ _ _ _ => BindsTo.of_eq rfl) (locs rfl) ?_
      intro A z g L h R G F O
      exact W_cons (W_ret (W_cint fun tk => ⟨_, _, F, O, rfl, 0, ⟨tk, rfl⟩, Int.le_refl _⟩))⟩⟩
    copy := ⟨⟨_, me _ _ k.m_null_copy (by decide), by
      refine does_enter (k := j + 2) k.fn_NullMatcherClass_copy [("self", .ref x)] (fun s _ _ _ _ _ _ _ => BindsTo.of_eq rfl) (locs rfl) ?_
      intro A z g L h R G F O
      refine W_cons (W_ret (W_name F rfl ⟨_, nullC d x ++ nullC d x, F, ⟨⟨⟨fun p hp => ?_⟩, fun p hp => ?_, nodup_append.mpr ⟨O.nd, O.nd, fun p hp q hq _ => ⟨fz p hp, fz q hq⟩⟩⟩, fun p hp => ?_⟩, nullC d x, rfl, x, rfl, .null⟩))
      · exact O.has.get p ((List.mem_append.mp hp).elim id id)
      · exact O.own.off p ((List.mem_append.mp hp).elim id id)
      · exact O.ne p ((List.mem_append.mp hp).elim id id)⟩⟩
    repl := fun args q => ⟨⟨_, me _ _ k.m_null_replace (by decide), by
      refine does_repl (k := j + 2) k.fn_Matcher_replace k.v_Matcher_replace q ?_
      intro i tk hi A z g L h R G F O
      exact W_cons (W_ret (W_name F rfl ⟨_, _, F, O, [], rfl, x, _, rfl, Sub.refl O, .null⟩))⟩⟩
    skip := fun pt i tk e T' q => nomatch q }

/-! ## the leaf -/
section
variable {d x li lw : Addr} {ids ws : List Int} {i : Nat}
theorem leaf_head (ok : LeafOk ro li lw ids ws) {e : Int × Int} {T' : Tb} (h : (ids.zip ws).drop i = e :: T') : i < ids.length ∧ ids[i]? = some e.1 ∧ ws[i]? = some e.2 ∧ T' = (ids.zip ws).drop (i + 1) := by
  have lz : (ids.zip ws).length = ids.length := by rw [List.length_zip, ok.len, Nat.min_self]
  have hi : i < ids.length := by
    rcases Nat.lt_or_ge i ids.length with q | q
    · exact q
    · rw [List.drop_eq_nil_of_le (by rw [lz]; exact q)] at h; cases h
  have hz : (ids.zip ws)[i]? = some e := by
    have := congrArg (fun l => l[0]?) h
    simpa [List.getElem?_drop] using this
  have := List.getElem?_zip_eq_some.mp hz
  refine ⟨hi, this.1, this.2, ?_⟩
  have h2 := congrArg List.tail h
  rw [List.tail_drop] at h2
  exact h2.symm
theorem leaf_empty (ok : LeafOk ro li lw ids ws) : (!((ids.zip ws).drop i).isEmpty) = decide (i < ids.length) := by
  have lz : (ids.zip ws).length = ids.length := by rw [List.length_zip, ok.len, Nat.min_self]
  by_cases q : i < ids.length
  · rw [decide_eq_true q]
    cases r : (ids.zip ws).drop i with
    | nil =>
      have := congrArg List.length r
      rw [List.length_drop, lz] at this
      simp at this; omega
    | cons _ _ => rfl
  · rw [decide_eq_false q, List.drop_eq_nil_of_le (by rw [lz]; omega)]; rfl
variable (k : KOk K) (ok : LeafOk ro li lw ids ws)
include k ok
theorem l_active (j : Nat) : Can prog w K ro (j + 1) x "is_active" [] (nodeC d x cList (φLeaf li lw i)) fun v l => l = nodeC d x cList (φLeaf li lw i) ∧ v = .bool (!((ids.zip ws).drop i).isEmpty) := by
  refine can0 k.c_leaf k.m_leaf_is_active ?_
  refine does_enter k.fn_ListMatcher_is_active [("self", .ref x)] (fun s _ _ _ _ _ _ _ => BindsTo.of_eq rfl) (locs rfl) ?_
  intro A z g L h R G F O
  refine W_cons (W_ret (W_cmp (W_field F G O k.c_leaf k.d_leaf_i_ Sf.self (R := isInt i) (fun fs q => let ⟨v, e, i⟩ := q.2.2.2.2.2.2; ⟨v, e, i.handed, i⟩) fun v ⟨t, hv⟩ => ?_)))
  subst hv
  refine W_fcall (W_builtin F G (k.blt _ (at_ 0 rfl)) (v := .builtin "len") (by decide +kernel) (by decide) (W_callB (W_argsC ((ev_field F G O k.c_leaf k.d_leaf_ids_ Sf.self fun fs q => q.1).go (W_argsN (W_len ok.li G F ok.short fun tk => W_lt ?_))))))
  refine ⟨_, _, F, O, rfl, ?_⟩
  rw [leaf_empty ok]
  show Value.bool (decide ((i : Int) < ids.length)) = _
  congr 1
  exact decide_eq_decide.mpr Int.ofNat_lt
theorem l_id (j : Nat) {e : Int × Int} {T' : Tb} (eT : (ids.zip ws).drop i = e :: T') : Can prog w K ro (j + 1) x "id" [] (nodeC d x cList (φLeaf li lw i)) fun v l => l = nodeC d x cList (φLeaf li lw i) ∧ isInt e.1 v := by
  refine can0 k.c_leaf k.m_leaf_id ?_
  refine does_enter k.fn_ListMatcher_id [("self", .ref x)] (fun s _ _ _ _ _ _ _ => BindsTo.of_eq rfl) (locs rfl) ?_
  intro A z g L h R G F O
  refine W_cons (W_ret (W_subscr ((ev_field F G O k.c_leaf k.d_leaf_ids_ Sf.self fun fs q => q.1).go (W_field F G O k.c_leaf k.d_leaf_i_ Sf.self (R := isInt i) (fun fs q => let ⟨v, e, i⟩ := q.2.2.2.2.2.2; ⟨v, e, i.handed, i⟩) fun v ⟨t, hv⟩ => ?_))))
  subst hv
  exact W_itemL ok.li G F ok.short (leaf_head ok eT).2.1 fun tk => ⟨_, _, F, O, rfl, tk, rfl⟩
theorem l_weight (j : Nat) {e : Int × Int} {T' : Tb} (eT : (ids.zip ws).drop i = e :: T') : Can prog w K ro (j + 1) x "weight" [] (nodeC d x cList (φLeaf li lw i)) fun v l => l = nodeC d x cList (φLeaf li lw i) ∧ isInt e.2 v := by
  refine can0 k.c_leaf k.m_leaf_weight ?_
  refine does_enter k.fn_ListMatcher_weight [("self", .ref x)] (fun s _ _ _ _ _ _ _ => BindsTo.of_eq rfl) (locs rfl) ?_
  intro A z g L h R G F O
  have sh : ws.length ≤ 1000 := by rw [ok.len]; exact ok.short
  refine W_cons (W_if (W_tplain ((ev_field (v := .none) F G O k.c_leaf k.d_leaf_all_weights_ Sf.self fun fs q => q.2.2.1).go (W_truthN ⟨fun q => (nomatch q), fun _ => ?_⟩))))
  refine W_cons (W_if (W_tplain ((ev_field F G O k.c_leaf k.d_leaf_weights_ Sf.self fun fs q => q.2.1).go (W_truthL ok.lw G F sh ⟨fun q => ?_, fun q => ?_⟩))))
  · refine W_cons (W_ret (W_subscr ((ev_field F G O k.c_leaf k.d_leaf_weights_ Sf.self fun fs q => q.2.1).go (W_field F G O k.c_leaf k.d_leaf_i_ Sf.self (R := isInt i) (fun fs q => let ⟨v, e, i⟩ := q.2.2.2.2.2.2; ⟨v, e, i.handed, i⟩) fun v ⟨t, hv⟩ => ?_))))
    subst hv
    exact W_itemL ok.lw G F sh (leaf_head ok eT).2.2.1 fun tk => ⟨_, _, F, O, rfl, tk, rfl⟩
  · have := (leaf_head ok eT).2.2.1
    cases ws with
    | nil => simp at this
    | cons _ _ => simp at q
theorem l_score (j : Nat) {e : Int × Int} {T' : Tb} (eT : (ids.zip ws).drop i = e :: T') : Can prog w K ro (j + 2) x "score" [] (nodeC d x cList (φLeaf li lw i)) fun v l => l = nodeC d x cList (φLeaf li lw i) ∧ isInt e.2 v := by
  refine can0 k.c_leaf k.m_leaf_score ?_
  refine does_enter k.fn_ListMatcher_score [("self", .ref x)] (fun s _ _ _ _ _ _ _ => BindsTo.of_eq rfl) (locs rfl) ?_
  intro A z g L h R G F O
  refine W_cons (W_if (W_tplain ((ev_field (v := .none) F G O k.c_leaf k.d_leaf_scorer_ Sf.self fun fs q => q.2.2.2.2.2.1).go (W_truthN ⟨fun q => (nomatch q), fun _ => ?_⟩))))
  exact W_cons (W_ret (W_p0 (l_weight k ok j eT) R G F O (Sub.refl O) (ev_name F) fun v h F O q => ⟨_, _, F, O, rfl, q⟩))
theorem l_bmw (j : Nat) : Can prog w K ro (j + 1) x "block_max_weight" [] (nodeC d x cList (φLeaf li lw i)) fun v l => l = nodeC d x cList (φLeaf li lw i) ∧ ∃ q, isInt q v ∧ 0 ≤ q := by
  refine can0 k.c_leaf k.m_leaf_block_max_weight ?_
  refine does_enter k.fn_ListMatcher_block_max_weight [("self", .ref x)] (fun s _ _ _ _ _ _ _ => BindsTo.of_eq rfl) (locs rfl) ?_
  intro A z g L h R G F O
  have sh : ws.length ≤ 1000 := by rw [ok.len]; exact ok.short
  refine W_cons (W_if (W_tplain ((ev_field (v := .none) F G O k.c_leaf k.d_leaf_all_weights_ Sf.self fun fs q => q.2.2.1).go (W_truthN ⟨fun q => (nomatch q), fun _ => ?_⟩))))
  refine W_cons (W_if (W_tplain ((ev_field F G O k.c_leaf k.d_leaf_weights_ Sf.self fun fs q => q.2.1).go (W_truthL ok.lw G F sh ⟨fun q => ?_, fun q => ?_⟩))))
  · refine W_cons (W_ret (W_fcall (W_builtin F G (k.blt _ (at_ 1 rfl)) (v := .builtin "max") (by decide +kernel) (by decide) (W_callB (W_argsC ((ev_field F G O k.c_leaf k.d_leaf_weights_ Sf.self fun fs q => q.2.1).go (W_argsN (W_max ok.lw R.1 G F O (by cases ws <;> simp_all) fun v M h F O hv hM => ⟨_, _, F, O, rfl, M, hv, ok.pos M hM⟩))))))))
  · exact W_cons (W_ret (W_cint fun tk => ⟨_, _, F, O, rfl, 1, ⟨tk, rfl⟩, by decide⟩))
theorem l_maxq (j : Nat) : Can prog w K ro (j + 2) x "max_quality" [] (nodeC d x cList (φLeaf li lw i)) fun v l => l = nodeC d x cList (φLeaf li lw i) ∧ ∃ q, isInt q v ∧ 0 ≤ q := by
  refine can0 k.c_leaf k.m_leaf_max_quality ?_
  refine does_enter k.fn_ListMatcher_max_quality [("self", .ref x)] (fun s _ _ _ _ _ _ _ => BindsTo.of_eq rfl) (locs rfl) ?_
  intro A z g L h R G F O
  refine W_cons (W_if (W_tplain ((ev_field (v := .none) F G O k.c_leaf k.d_leaf_scorer_ Sf.self fun fs q => q.2.2.2.2.2.1).go (W_truthN ⟨fun q => (nomatch q), fun _ => ?_⟩))))
  exact W_cons (W_ret (W_p0 (l_bmw k ok j) R G F O (Sub.refl O) (ev_name F) fun v h F O q => ⟨_, _, F, O, rfl, q⟩))
theorem l_next (j : Nat) (p : Bool) (n : Nat) {e : Int × Int} {T' : Tb} (eT : (ids.zip ws).drop i = e :: T') : Can prog w K ro (j + 1) x "next" [] (nodeC d x cList (φLeaf li lw i)) fun v l => Vn v ∧ MRep ro p n l x T' ∧ Keeps (nodeC d x cList (φLeaf li lw i)) l := by
  refine can0 k.c_leaf k.m_leaf_next ?_
  refine does_enter k.fn_ListMatcher_next [("self", .ref x)] (fun s _ _ _ _ _ _ _ => BindsTo.of_eq rfl) (locs rfl) ?_
  intro A z g L h R G F O
  refine W_cons (S_inc (rest := []) (b := 20) (d := d) (x := x) (φ := φLeaf li lw i) (φLeaf li lw (i + 1 : Nat)) F G O k.c_leaf k.d_leaf_i_ (fun fs q => q.2.2.2.2.2.2) (fun fs v ⟨q1, q2, q3, q4, q5, q6, _⟩ hv => ⟨(upd_ne (by decide)).trans q1, (upd_ne (by decide)).trans q2, (upd_ne (by decide)).trans q3, (upd_ne (by decide)).trans q4, (upd_ne (by decide)).trans q5, (upd_ne (by decide)).trans q6, v, upd_same, hv⟩) fun h F O => W_nil ⟨_, _, F, O, .inl rfl, ?_, ?_⟩)
  · rw [(leaf_head ok eT).2.2.2]; exact .leaf ok
  · exact Keeps.node (r := []) (r' := []) Keeps.refl
end
end Mine
end
section
set_option maxRecDepth 10000
namespace Mine
variable {prog : Program} {w : World} {K : Frag} {ro : List (Addr × Obj)}
theorem Df8 {T : Addr} (Df : DfOk K T [.none, .none, .none, .none, .int 0, .none, .none, .none]) : ∃ o n tk, K.lookup T = some o ∧ o.data = .seq #[.none, .none, .none, .none, .int 0 tk, .none, .none, .none] n := by
  obtain ⟨o, n, vs, hK, hd, hv⟩ := Df
  rcases vs with _ | ⟨v1, _ | ⟨v2, _ | ⟨v3, _ | ⟨v4, _ | ⟨v5, _ | ⟨v6, _ | ⟨v7, _ | ⟨v8, _ | ⟨v9, vs⟩⟩⟩⟩⟩⟩⟩⟩⟩ <;> simp only [DvAre, Dv.Is, and_false, and_true] at hv
  obtain ⟨rfl, rfl, rfl, rfl, ⟨tk, rfl⟩, rfl, rfl, rfl⟩ := hv
  exact ⟨o, n, tk, hK, hd⟩
/-- an object's field set, all fields being known -/
theorem W_putE {A : Around} {z : Shared} {g h : Heap} {L : Addr} {m : Str → Option Value} {qual : Str} {scope : Scope} {fa : Addr} {cdv : Value} {cl : List (Str × Addr)} {y nm : Str} {p0 p1 p2 : Pos} {value : Expr} {v : Value} {x C d : Addr} {b : Nat} {f0 : Str → Option Value} {rest : Led} {Q : Flow → Heap → Prop}
    (F : Fr g L h m) (G : Gd K ro g) (O : Ow g L h (nodeB b d x C (fun fs => fs = f0) ++ rest)) (c : ClsOk K C) (f : FieldOk K C nm)
    (ev : Ev prog w A z (envX qual scope L fa cdv cl) h value v)
    (q : ∀ h', Fr g L h' m → Ow g L h' (nodeB (b + 1) d x C (fun fs => fs = upd f0 nm v) ++ rest) → Q .next h')
    (hn : nm ∉ methNames := by decide) (hb : b ≤ 900 := by first | omega | decide) (hy : m y = some (.ref x) := by rfl)
    (hs : swapsWith value (some (.Attribute (.Name y p0) nm p1)) p2.line (envX qual scope L fa cdv cl) = pure false := by rfl)
    (hk : scope.kind = .function := by rfl) (hl : (envX qual scope L fa cdv cl).kindOf y = some .local := by rfl) (hd : (y == ("__debug__" : Str)) = false := by decide) :
    Wp (model prog w) A z (exec (.Assign [.Attribute (.Name y p0) nm p1] value p2) (envX qual scope L fa cdv cl)) Q h :=
  W_put (fun fs => fs = upd f0 nm v) (b + 1) F G O c f ev (fun fs q => ⟨by rw [q], .inr (Nat.le_refl _)⟩) q hn hb hy hs hk hl hd
section
variable {d x li lw : Addr} {ids ws : List Int} {i : Nat}
theorem leaf_init (k : KOk K) {j : Nat} {args : List Value} (ha : (i = 0 ∧ args = [.ref li, .ref lw]) ∨ ∃ t, args = [.ref li, .ref lw, .none, .none, .none, .int i t, .none]) :
    Does prog w K ro (j + 1) (.ref f_ListMatcher_init) (.ref x :: args) [] (nodeB 1 d x cList (fun fs => ∀ y, fs y = none) ++ []) fun v l => v = .none ∧ l = nodeB 10 d x cList (φLeaf li lw i) ++ [] := by
  obtain ⟨o, n, tk, hK, hd⟩ := Df8 k.v_ListMatcher_init
  have body : ∀ (t : Tok) (A : Around) (z : Shared) (g : Heap) (L : Addr) (h : Heap), Room A j → Gd K ro g → Fr g L h (fun y => ([("self", .ref x), ("ids", .ref li), ("weights", .ref lw), ("values", .none), ("format", .none), ("scorer", .none), ("position", .int i t), ("all_weights", .none), ("term", .none), ("terminfo", .none)] : List (Str × Value)).reverse.lookup y) →
      Ow g L h (nodeB 1 d x cList (fun fs => ∀ y, fs y = none) ++ []) → Wp (model prog w) A z (execs (defBody rf_ListMatcher_init.st) (envX rf_ListMatcher_init.qual (defScope rf_ListMatcher_init.st) L f_ListMatcher_init rf_ListMatcher_init.cdv rf_ListMatcher_init.cl)) (Ret g L fun v l => v = .none ∧ l = nodeB 10 d x cList (φLeaf li lw i) ++ []) h := by
    intro t A z g L h R G F O
    have O : Ow g L h (nodeB 1 d x cList (fun fs => fs = fun _ => none) ++ []) := O.weaken fun o q => dictB.mono (φ := fun fs => ∀ y, fs y = none) (φ' := fun fs => fs = fun _ => none) q (Nat.le_refl _) fun fs q => funext q
    refine W_cons (W_putE F G O k.c_leaf k.d_leaf_ids_ (ev_name (v := .ref li) F) fun h F O => ?_)
    refine W_cons (W_putE F G O k.c_leaf k.d_leaf_weights_ (ev_name (v := .ref lw) F) fun h F O => ?_)
    refine W_cons (W_putE F G O k.c_leaf k.d_leaf_all_weights_ (ev_name (v := .none) F) fun h F O => ?_)
    refine W_cons (W_putE F G O k.c_leaf k.d_leaf_values_ (ev_name (v := .none) F) fun h F O => ?_)
    refine W_cons (W_putE F G O k.c_leaf k.d_leaf_i_ (ev_name (v := .int i t) F) fun h F O => ?_)
    refine W_cons (W_putE F G O k.c_leaf k.d_leaf_format_ (ev_name (v := .none) F) fun h F O => ?_)
    refine W_cons (W_putE F G O k.c_leaf k.d_leaf_scorer_ (ev_name (v := .none) F) fun h F O => ?_)
    refine W_cons (W_putE F G O k.c_leaf k.d_leaf_term_ (ev_name (v := .none) F) fun h F O => ?_)
    refine W_cons (W_putE F G O k.c_leaf k.d_leaf_terminfo_ (ev_name (v := .none) F) fun h F O => ?_)
    refine W_nil ⟨_, _, F, O.weaken fun o q => dictB.mono (φ' := φLeaf li lw i) q (Nat.le_refl _) fun fs q => ?_, rfl, rfl⟩
    subst q
    exact ⟨rfl, rfl, rfl, rfl, rfl, rfl, _, rfl, t, rfl⟩
  rcases ha with ⟨rfl, rfl⟩ | ⟨t, rfl⟩
  · exact does_enterV k.fn_ListMatcher_init hK hd _ (fun _ _ _ _ _ _ => ⟨_, rfl, rfl⟩) (locs rfl) (body tk)
  · exact does_enterV k.fn_ListMatcher_init hK hd _ (fun _ _ _ _ _ _ => ⟨_, rfl, rfl⟩) (locs rfl) (body t)
theorem mk_leaf (k : KOk K) {j : Nat} {args : List Value} (ha : (i = 0 ∧ args = [.ref li, .ref lw]) ∨ ∃ t, args = [.ref li, .ref lw, .none, .none, .none, .int i t, .none]) :
    Does prog w K ro (j + 2) (.ref cList) args [] [] fun v l => ∃ nw, l = nw ++ [] ∧ ∃ d x, v = .ref x ∧ nw = nodeC d x cList (φLeaf li lw i) :=
  mk_node (φ := fun _ => φLeaf li lw i) (φ' := fun _ => φLeaf li lw i) k.i_leaf (by decide) (fun _ _ q => q) fun x d => leaf_init k ha
variable (k : KOk K) (ok : LeafOk ro li lw ids ws)
include k ok
theorem l_copy (j : Nat) (p : Bool) (n : Nat) : Can prog w K ro (j + 3) x "copy" [] (nodeC d x cList (φLeaf li lw i)) fun v l => ∃ nw, l = nw ++ nodeC d x cList (φLeaf li lw i) ∧ ∃ y, v = .ref y ∧ MRep ro p n nw y ((ids.zip ws).drop i) := by
  refine can0 k.c_leaf k.m_leaf_copy ?_
  refine does_enter k.fn_ListMatcher_copy [("self", .ref x)] (fun s _ _ _ _ _ _ _ => BindsTo.of_eq rfl) (locs rfl) ?_
  intro A z g L h R G F O
  refine W_cons (W_ret (W_fcall (W_global F G k.g_ListMatcher.1 (W_callWithE G k.g_ListMatcher.2 (W_argsC ((ev_field (v := .ref li) F G O k.c_leaf k.d_leaf_ids_ Sf.self fun fs q => q.1).go (W_argsC ((ev_field (v := .ref lw) F G O k.c_leaf k.d_leaf_weights_ Sf.self fun fs q => q.2.1).go
    (W_argsC ((ev_field (v := .none) F G O k.c_leaf k.d_leaf_values_ Sf.self fun fs q => q.2.2.2.1).go (W_argsC ((ev_field (v := .none) F G O k.c_leaf k.d_leaf_format_ Sf.self fun fs q => q.2.2.2.2.1).go (W_argsC ((ev_field (v := .none) F G O k.c_leaf k.d_leaf_scorer_ Sf.self fun fs q => q.2.2.2.2.2.1).go
    (W_argsC (W_field F G O k.c_leaf k.d_leaf_i_ Sf.self (R := isInt i) (fun fs q => let ⟨v, e, i⟩ := q.2.2.2.2.2.2; ⟨v, e, i.handed, i⟩) fun v ⟨t, hv⟩ => W_argsC ((ev_field (v := .none) F G O k.c_leaf k.d_leaf_all_weights_ Sf.self fun fs q => q.2.2.1).go (W_argsN ⟨G.kin.keeps F.keep, Cd.call ?_⟩))))))))))))))))))
  subst hv
  refine (mk_leaf (i := i) (j := j) k (.inr ⟨t, rfl⟩)).useN R G F O Sub.nil fun v nw h F O ⟨d2, x2, e, e2⟩ => ⟨_, _, F, O, nw, rfl, x2, e, ?_⟩
  subst e2
  exact .leaf ok
theorem l_repl (j : Nat) (p : Bool) (n : Nat) {args : List Value} (ha : args = [] ∨ ∃ i tk, i ≤ 0 ∧ args = [.int i tk]) : Can prog w K ro (j + 4) x "replace" args (nodeC d x cList (φLeaf li lw i)) fun v l => ∃ nw, l = nw ++ nodeC d x cList (φLeaf li lw i) ∧ ∃ y o1, v = .ref y ∧ Sub o1 (nw ++ nodeC d x cList (φLeaf li lw i)) ∧ MRep ro p n o1 y ((ids.zip ws).drop i) := by
  refine can0 k.c_leaf k.m_leaf_replace ?_
  refine does_repl k.fn_ListMatcher_replace k.v_ListMatcher_replace ha ?_
  intro q tk hq A z g L h R G F O
  refine W_cons (W_if (W_tnot (T_p0 (k := j + 1) (R.le (by omega)) G F O (l_active k ok j) (Sub.refl O) (ev_name F) fun h F O => ⟨fun c => ?_, fun c => ?_⟩)))
  · refine W_cons (S_retNull (k := j + 1) k R G F O fun d' y h F O => ⟨_, _, F, O, _, rfl, y, _, rfl, O.subL, ?_⟩)
    have : (ids.zip ws).drop i = [] := by
      cases q : (ids.zip ws).drop i with
      | nil => rfl
      | cons _ _ => rw [q] at c; cases c
    rw [this]; exact .null
  · have self : ∀ h, Fr g L h (fun y => List.lookup y (rB x q tk).reverse) → Ow g L h (nodeC d x cList (φLeaf li lw i)) → Ret g L (fun v l => ∃ nw, l = nw ++ nodeC d x cList (φLeaf li lw i) ∧ ∃ y o1, v = .ref y ∧ Sub o1 (nw ++ nodeC d x cList (φLeaf li lw i)) ∧ MRep ro p n o1 y ((ids.zip ws).drop i)) (.ret (.ref x)) h :=
      fun h F O => ⟨_, _, F, O, [], rfl, x, _, rfl, Sub.refl O, .leaf ok⟩
    refine W_cons (W_if (W_tand (T_nameI F rfl ⟨fun c2 => W_tand (W_tcmp (W_p0 (l_maxq k ok j) (R.le (by omega)) G F O (Sub.refl O) (ev_name F) fun v h F O ⟨r, ⟨t, e⟩, hr⟩ => W_name F rfl ?_)), fun c2 => ⟨fun e => (nomatch e), fun _ => W_cons (W_ret (W_name F rfl (self _ F O)))⟩⟩)))
    subst e
    refine W_lt (W_truthB ⟨fun c3 => ?_, fun c3 => ⟨fun e => (nomatch e), fun _ => W_cons (W_ret (W_name F rfl (self _ F O)))⟩⟩)
    have : r < q := by simpa using c3
    omega
theorem l_skip (j : Nat) (p : Bool) (n : Nat) {kx : Int} {tk : Tok} {e : Int × Int} {T' : Tb} (eT : (ids.zip ws).drop i = e :: T') : Can prog w K ro (j + 2) x "skip_to" [.int kx tk] (nodeC d x cList (φLeaf li lw i))
    fun v l => Vn v ∧ MRep ro p n l x (dropLt kx ((ids.zip ws).drop i)) ∧ (kx ≤ e.1 → l = nodeC d x cList (φLeaf li lw i)) ∧ Keeps (nodeC d x cList (φLeaf li lw i)) l := by
  refine can0 k.c_leaf k.m_leaf_skip_to ?_
  refine does_enter k.fn_ListMatcher_skip_to [("self", .ref x), ("id", .int kx tk)] (fun s _ _ _ _ _ _ _ => BindsTo.of_eq rfl) (locs rfl) ?_
  intro A z g L h R G F O
  refine W_cons (W_if (W_tnot (T_p0 R G F O (l_active k ok j) (Sub.refl O) (ev_name F) fun h F O => ⟨fun c => ?_, fun c => W_nil ?_⟩)))
  · rw [eT] at c; cases c
  refine W_cons (W_if (W_tcmp (W_name F rfl (W_p0 (l_id k ok j eT) R G F O (Sub.refl O) (ev_name F) fun v h F O ⟨t, hv⟩ => ?_))))
  subst hv
  refine W_lt (W_truthB ⟨fun c => W_cons (W_ret0 ⟨_, _, F, O, .inl rfl, ?_, fun _ => rfl, Keeps.refl⟩), fun c => W_nil ?_⟩)
  · have : kx < e.1 := by simpa using c
    rw [eT, dropLt_ge (by omega), ← eT]; exact .leaf ok
  -- the loop
  have c : e.1 ≤ kx := by simpa using c
  refine W_cons (W_while (fun mz h => ∃ j : Nat, mz = ids.length - j ∧ i ≤ j ∧ Fr g L h (fun y => ([("self", .ref x), ("id", .int kx tk)] : List (Str × Value)).reverse.lookup y) ∧ Ow g L h (nodeC d x cList (φLeaf li lw j)) ∧ dropLt kx ((ids.zip ws).drop i) = dropLt kx ((ids.zip ws).drop j) ∧ (kx ≤ e.1 → j = i)) _ ⟨i, rfl, Nat.le_refl _, F, O, rfl, fun _ => rfl⟩ ?_)
  rintro mz h ⟨jj, rfl, hj, F, O, hd, hz⟩
  have stop : ∀ h, Fr g L h (fun y => ([("self", .ref x), ("id", .int kx tk)] : List (Str × Value)).reverse.lookup y) → Ow g L h (nodeC d x cList (φLeaf li lw jj)) → dropLt kx ((ids.zip ws).drop jj) = (ids.zip ws).drop jj →
      Ret g L (fun v l => Vn v ∧ MRep ro p n l x (dropLt kx ((ids.zip ws).drop i)) ∧ (kx ≤ e.1 → l = nodeC d x cList (φLeaf li lw i)) ∧ Keeps (nodeC d x cList (φLeaf li lw i)) l) .next h := fun h F O q =>
    ⟨_, _, F, O, .inl rfl, by show MRep ro p n _ x _; rw [hd, q]; exact .leaf ok, fun c => by rw [hz c], Keeps.node (r := []) (r' := []) Keeps.refl⟩
  refine W_tand (W_tcmp (W_field F G O k.c_leaf k.d_leaf_i_ Sf.self (R := isInt jj) (fun fs q => let ⟨v, e, i⟩ := q.2.2.2.2.2.2; ⟨v, e, i.handed, i⟩) fun v ⟨t, hv⟩ => ?_))
  subst hv
  refine W_fcall (W_builtin F G (k.blt _ (at_ 0 rfl)) (v := .builtin "len") (by decide +kernel) (by decide) (W_callB (W_argsC ((ev_field F G O k.c_leaf k.d_leaf_ids_ Sf.self fun fs q => q.1).go (W_argsN (W_len ok.li G F ok.short fun tk => W_lt (W_truthB ⟨fun c1 => ?_, fun c1 => ⟨fun e => (nomatch e), fun _ => W_nil (W_nil (stop _ F O ?_))⟩⟩)))))))
  rotate_left 1
  · have : ids.length ≤ jj := by
      have : ¬ ((jj : Int) < ids.length) := by simpa using c1
      omega
    rw [List.drop_eq_nil_of_le (by rw [List.length_zip, ok.len, Nat.min_self]; exact this)]; rfl
  have hlt : jj < ids.length := by
    have : ((jj : Int) < ids.length) := by simpa using c1
    omega
  obtain ⟨f, r, ef⟩ : ∃ f r, (ids.zip ws).drop jj = f :: r := by
    cases q : (ids.zip ws).drop jj with
    | nil =>
      have := leaf_empty (i := jj) ok
      rw [q, decide_eq_true hlt] at this; cases this
    | cons f r => exact ⟨f, r, rfl⟩
  obtain ⟨_, g1, g2, g3⟩ := leaf_head ok ef
  refine W_tand (W_tcmp (W_subscr ((ev_field F G O k.c_leaf k.d_leaf_ids_ Sf.self fun fs q => q.1).go (W_field F G O k.c_leaf k.d_leaf_i_ Sf.self (R := isInt jj) (fun fs q => let ⟨v, e, i⟩ := q.2.2.2.2.2.2; ⟨v, e, i.handed, i⟩) fun v ⟨t, hv⟩ => ?_))))
  subst hv
  refine W_itemL ok.li G F ok.short g1 fun tk => W_name F rfl (W_lt (W_truthB ⟨fun c2 => W_tandN ⟨fun _ => ?_, fun e => (nomatch e)⟩, fun c2 => ⟨fun e => (nomatch e), fun _ => W_nil (W_nil (stop _ F O ?_))⟩⟩))
  · have c2 : f.1 < kx := by simpa using c2
    refine W_cons (S_inc (rest := []) (b := 20) (d := d) (x := x) (φ := φLeaf li lw jj) (φLeaf li lw (jj + 1 : Nat)) F G O k.c_leaf k.d_leaf_i_ (fun fs q => q.2.2.2.2.2.2) (fun fs v ⟨q1, q2, q3, q4, q5, q6, _⟩ hv => ⟨(upd_ne (by decide)).trans q1, (upd_ne (by decide)).trans q2, (upd_ne (by decide)).trans q3, (upd_ne (by decide)).trans q4, (upd_ne (by decide)).trans q5, (upd_ne (by decide)).trans q6, v, upd_same, hv⟩) fun h F O => W_nil ?_)
    refine ⟨ids.length - (jj + 1), by omega, jj + 1, rfl, by omega, F, O, ?_, fun c => ?_⟩
    · rw [hd, ef, dropLt_cons, if_pos c2, g3]
    · have e1 := hz c
      subst e1
      rw [eT] at ef; cases ef
      omega
  · have c2 : kx ≤ f.1 := by simpa using c2
    rw [ef, dropLt_ge c2]
theorem spec_leaf (j : Nat) (p : Bool) (n : Nat) : SpecAt prog w K ro (j + 4) p n (nodeC d x cList (φLeaf li lw i)) x ((ids.zip ws).drop i) where
  active := (l_active k ok j).le (by omega)
  id := fun e T' q => (l_id k ok j q).le (by omega)
  score := fun e T' q => (l_score k ok j q).le (by omega)
  next := fun e T' q => (l_next k ok j p n q).le (by omega)
  maxq := (l_maxq k ok j).le (by omega)
  copy := (l_copy k ok j p n).le (by omega)
  repl := fun args q => l_repl k ok j p n q
  skip := fun _ i tk e T' q => (l_skip k ok j p n q).le (by omega)
end
end Mine
end
section
set_option maxRecDepth 10000
namespace Mine
/-! tables: more -/
theorem joinT_nil (f : Int → Int → Int) (b : Tb) : joinT f [] b = [] := rfl
theorem joinT_cons (f : Int → Int → Int) (e : Int × Int) (a b : Tb) : joinT f (e :: a) b = match lk e.1 b with | some t => (e.1, f e.2 t) :: joinT f a b | none => joinT f a b := by
  unfold joinT
  rw [List.filterMap_cons]
  cases lk e.1 b <;> rfl
theorem joinT_mem {f : Int → Int → Int} {a b : Tb} {e : Int × Int} (h : e ∈ joinT f a b) : ∃ g ∈ a, g.1 = e.1 ∧ ∃ t, lk e.1 b = some t := by
  unfold joinT at h
  obtain ⟨g, hg, q⟩ := List.mem_filterMap.mp h
  cases r : lk g.1 b with
  | none => rw [r] at q; cases q
  | some t => rw [r] at q; cases q; exact ⟨g, hg, rfl, t, r⟩
theorem joinT_srt {f : Int → Int → Int} {a b : Tb} (h : Srt a) : Srt (joinT f a b) := by
  unfold Srt joinT
  rw [List.pairwise_filterMap]
  refine h.imp fun {x y} hxy u hu v hv => ?_
  cases r : lk x.1 b with
  | none => rw [r] at hu; cases hu
  | some t =>
    cases r2 : lk y.1 b with
    | none => rw [r2] at hv; cases hv
    | some t2 => rw [r] at hu; rw [r2] at hv; cases hu; cases hv; exact hxy
theorem diffT_srt {a b : Tb} (h : Srt a) : Srt (diffT a b) := h.sublist List.filter_sublist
theorem filtT_srt {ids : List Int} {ex : Bool} {a : Tb} (h : Srt a) : Srt (filtT ids ex a) := h.sublist List.filter_sublist
theorem maybeT_srt {a b : Tb} (h : Srt a) : Srt (maybeT a b) := List.pairwise_map.mpr h
theorem mulT_srt {c : Int} {a : Tb} (h : Srt a) : Srt (mulT c a) := List.pairwise_map.mpr h
theorem constT_srt {c : Int} {a : Tb} (h : Srt a) : Srt (constT c a) := List.pairwise_map.mpr h
theorem invT_srt {i wt : Int} {a : Tb} : Srt (invT i wt a) := by
  unfold Srt invT
  rw [List.pairwise_filterMap]
  refine (List.pairwise_lt_range (n := 12)).imp fun {x y} hxy u hu v hv => ?_
  split at hu
  · split at hv
    · cases hu; cases hv; exact Int.ofNat_lt.mpr hxy
    · cases hv
  · cases hu
theorem invT_mem {i wt : Int} {a : Tb} {e : Int × Int} (h : e ∈ invT i wt a) : i ≤ e.1 ∧ 0 ≤ e.1 ∧ e.1 < 12 ∧ lk e.1 a = none := by
  unfold invT at h
  obtain ⟨k, hk, q⟩ := List.mem_filterMap.mp h
  split at q
  · rename_i c
    cases q
    exact ⟨c.1, Int.natCast_nonneg _, by have := List.mem_range.mp hk; show (k : Int) < 12; omega, by simpa using c.2⟩
  · cases q
noncomputable def Bd (T : Tb) : Prop := ∀ e ∈ T, 0 ≤ e.1 ∧ e.1 < 12
theorem MRep.ok {ro : List (Addr × Obj)} {p : Bool} {n : Nat} {own : Led} {x : Addr} {T : Tb} (h : MRep ro p n own x T) : Srt T ∧ Bd T := by
  induction h with
  | null => exact ⟨List.Pairwise.nil, fun e h => nomatch h⟩
  | @leaf p n d x li lw ids ws i ok =>
    refine ⟨List.Pairwise.sublist (List.drop_sublist _ _) ?_, fun e he => ok.lo _ (List.of_mem_zip (List.mem_of_mem_drop he)).1⟩
    have : (ids.zip ws).map (·.1) = ids := List.map_fst_zip (by rw [ok.len]; exact Nat.le_refl _)
    have s := ok.srt
    rw [← this] at s
    exact List.pairwise_map.mp s
  | @union p pa pb n na nb d x xa xb la lb Ta Tb h1 h2 h3 h4 h5 i1 i2 =>
    refine ⟨mergeT_srt _ _ _ (Nat.le_refl _) i1.1 i2.1, fun e he => ?_⟩
    rcases mergeT_mem _ _ _ (Nat.le_refl _) e.1 ⟨e, he, rfl⟩ with ⟨f, hf, q⟩ | ⟨f, hf, q⟩
    · rw [← q]; exact i1.2 f hf
    · rw [← q]; exact i2.2 f hf
  | inter h2 h3 h4 h5 h6 i1 i2 => exact ⟨joinT_srt i1.1, fun e he => let ⟨g, hg, q, _⟩ := joinT_mem he; q ▸ i1.2 g hg⟩
  | req h2 h3 h4 h5 h6 i1 i2 => exact ⟨joinT_srt i1.1, fun e he => let ⟨g, hg, q, _⟩ := joinT_mem he; q ▸ i1.2 g hg⟩
  | andnot h2 h3 h4 h5 h6 i1 i2 => exact ⟨diffT_srt i1.1, fun e he => i1.2 e (List.mem_filter.mp he).1⟩
  | maybe h2 h3 h4 h5 h6 i1 i2 => exact ⟨maybeT_srt i1.1, fun e he => let ⟨g, hg, q⟩ := List.mem_map.mp he; q ▸ i1.2 g hg⟩
  | wrap h1 h2 h3 h4 h5 i1 => exact ⟨mulT_srt i1.1, fun e he => let ⟨g, hg, q⟩ := List.mem_map.mp he; q ▸ i1.2 g hg⟩
  | filt h2 h3 h4 h5 h6 h7 i1 => exact ⟨mulT_srt (filtT_srt i1.1), fun e he => let ⟨g, hg, q⟩ := List.mem_map.mp he; q ▸ i1.2 g (List.mem_filter.mp hg).1⟩
  | inv h2 h3 h4 h5 i1 => exact ⟨invT_srt, fun e he => let q := invT_mem he; ⟨q.2.1, q.2.2.1⟩⟩
  | const h1 h2 h3 h4 i1 => exact ⟨constT_srt i1.1, fun e he => let ⟨g, hg, q⟩ := List.mem_map.mp he; q ▸ i1.2 g hg⟩

/-! ### and-maybe -/
noncomputable def InvM (a b : Tb) : Prop := ∀ e T' f U, a = e :: T' → b = f :: U → e.1 ≤ f.1
theorem maybeT_nil (a : Tb) : maybeT a [] = a := by
  unfold maybeT
  conv => rhs; rw [← List.map_id a]
  exact List.map_congr_left fun e _ => by rw [lk_nil]; show (e.1, e.2 + 0) = e; rw [Int.add_zero]
theorem maybeT_drop {a b : Tb} {i : Int} (h : ∀ e ∈ a, i ≤ e.1) : maybeT a (dropLt i b) = maybeT a b := List.map_congr_left fun e he => by rw [dropLt_lk (h e he)]
theorem head_le {e : Int × Int} {T : Tb} (h : Srt (e :: T)) : ∀ f ∈ e :: T, e.1 ≤ f.1 := fun f hf => by
  rcases List.mem_cons.mp hf with rfl | hf
  · exact Int.le_refl _
  · exact Int.le_of_lt (h.head f hf)
theorem InvM.drop {a b : Tb} {i : Int} (hb : Srt b) (h : ∀ e T', a = e :: T' → e.1 ≤ i) : InvM a (dropLt i b) := fun e T' f U e1 e2 => by
  have := (dropLt_mem hb f (e2 ▸ List.mem_cons_self ..)).1
  have := h e T' e1
  omega
noncomputable def hdlk (k : Int) (b : Tb) : Option Int := match b with
  | f :: _ => if k = f.1 then some f.2 else none
  | [] => none
theorem lk_maybe {a b : Tb} (hb : Srt b) {e : Int × Int} {T' : Tb} (h : InvM a b) (ea : a = e :: T') : lk e.1 b = hdlk e.1 b := by
  unfold hdlk
  cases b with
  | nil => rfl
  | cons f U =>
    have := h e T' f U ea rfl
    dsimp only
    by_cases q : e.1 = f.1
    · rw [if_pos q, lk_cons, if_pos q]
    · rw [if_neg q]
      exact lk_head_lt hb fun g V eg => by cases eg; omega
end Mine
end
section
set_option maxRecDepth 10000
namespace Mine
variable {prog : Program} {w : World} {K : Frag} {ro : List (Addr × Obj)}
section
variable {A : Around} {z : Shared} {g h : Heap} {L : Addr} {m : Str → Option Value} {led : Led} {env : Env} {S a b : Led}
/-- the argument is worked out between -/
theorem W_t1x {own rest : Led} {k : Nat} {x : Addr} {nm : Str} {o e : Expr} {v0 : Value} {apos pos : Pos} {P : Value → Prop} {post : Value → Led → Prop} {Q : Value → Heap → Prop} (C : ∀ v, P v → Can prog w K ro k x nm [v] own post) (p0 : P v0) (hK : ∀ v l, post v l → Keeps own l)
    (R : Room A k) (G : Gd K ro g) (F : Fr g L h m) (O : Ow g L h (own ++ rest)) (ho : Ev prog w A z env h o (.ref x))
    (hv : ∀ Q' : Value → Heap → Prop, (∀ v h', Fr g L h' m → Ow g L h' (own ++ rest) → P v → Q' v h') → Wp (model prog w) A z (eval e env) Q' h)
    (kont : ∀ v own' h', Fr g L h' m → Ow g L h' (own' ++ rest) → post v own' → Q v h') (he : CallIs env o nm apos pos [e] [] := by rfl) (hs : starEach [e] env = (false, eval e env) :: starEach [] env := by rfl) : Wp (model prog w) A z (eval (.Call (.Attribute o nm apos) [e] [] pos) env) Q h := by
  obtain ⟨f, M, D⟩ := (C v0 p0).is_
  refine W_mcall (ho _ (W_getMethod F G O (fun p hp => List.mem_append_left _ hp) M (W_callWithE G M.keep (W_argsC (hv _ fun v h1 F1 O1 pv => W_argsN ⟨G.kin.keeps F1.keep, ?_⟩) hs) hs rfl))) he
  obtain ⟨f', M', D'⟩ := (C v pv).is_
  cases Meth.uniq O1.left M M'
  exact Cd.call (D'.use R G F1 O1 hK kont)
theorem W_tB1x {k : Nat} {x : Addr} {nm : Str} {o e : Expr} {v0 : Value} {apos pos : Pos} {P : Value → Prop} {post : Value → Led → Prop} {Q : Value → Heap → Prop} (C : ∀ v, P v → Can prog w K ro k x nm [v] b post) (p0 : P v0) (hK : ∀ v l, post v l → Keeps b l)
    (R : Room A k) (G : Gd K ro g) (F : Fr g L h m) (O : Ow g L h (S ++ (a ++ b))) (ho : Ev prog w A z env h o (.ref x))
    (hv : ∀ Q' : Value → Heap → Prop, (∀ v h', Fr g L h' m → Ow g L h' (S ++ (a ++ b)) → P v → Q' v h') → Wp (model prog w) A z (eval e env) Q' h)
    (kont : ∀ v b' h', Fr g L h' m → Ow g L h' (S ++ (a ++ b')) → post v b' → Q v h') (he : CallIs env o nm apos pos [e] [] := by rfl) (hs : starEach [e] env = (false, eval e env) :: starEach [] env := by rfl) : Wp (model prog w) A z (eval (.Call (.Attribute o nm apos) [e] [] pos) env) Q h :=
  W_t1x C p0 hK R G F (O.perm permB) ho (fun Q' q => hv Q' fun v h' F' O' p => q v h' F' (O'.perm permB) p) (fun v a' h' F' O' p => kont v a' h' F' (O'.perm permB.symm) p) he hs
end
/-- the else-part of the If at the head -/
noncomputable def orelseOf : List Stmt → List Stmt
  | .If _ _ b _ :: _ => b
  | _ => []
section
variable {pa : Bool} {n na nb : Nat} {d x xa xb : Addr} {la lb : Led} {Ta Tb' : Tb} {φ : (Str → Option Value) → Prop} {bb : Nat}
/-- where the second part is put -/
noncomputable def FirstB (ro : List (Addr × Obj)) (nb : Nat) (xb : Addr) (lb : Led) (Ta Tb' : Tb) (lb' : Led) : Prop :=
  ∃ T, MRep ro true nb lb' xb T ∧ maybeT Ta T = maybeT Ta Tb' ∧ InvM Ta T ∧ (InvM Ta Tb' → lb' = lb ∧ T = Tb') ∧ Keeps lb lb'
theorem m_firstb (k : KOk K) (SA : SpecAt prog w K ro (12 * n) pa na la xa Ta) (SB : SpecAt prog w K ro (12 * n) true nb lb xb Tb') (MA : MRep ro pa na la xa Ta) (MB : MRep ro true nb lb xb Tb') (hφ : ∀ fs, φ fs → φBi xa xb fs) :
    Can prog w K ro (12 * n + 1) x "_first_b" [] (nodeB bb d x cMaybe φ ++ (la ++ lb)) fun v l => v = .none ∧ ∃ lb', l = nodeB bb d x cMaybe φ ++ (la ++ lb') ∧ FirstB ro nb xb lb Ta Tb' lb' := by
  refine can k.c_maybe k.m_maybe_first_b ?_
  refine does_enter k.fn_AndMaybeMatcher_first_b [("self", .ref x)] (fun s _ _ _ _ _ _ _ => BindsTo.of_eq rfl) (locs rfl) ?_
  intro A z g L h R G F O
  have sB := MB.ok.1
  have sA' := MA.ok.1
  refine W_cons (S_ev F O (ev_field F G O k.c_maybe k.d_maybe_a Sf.node fun fs q => (hφ fs q).1) fun h F O => ?_)
  refine W_cons (S_ev F O (ev_field F G O k.c_maybe k.d_maybe_b Sf.node fun fs q => (hφ fs q).2) fun h F O => ?_)
  have same : InvM Ta Tb' → FirstB ro nb xb lb Ta Tb' lb := fun i => ⟨_, MB, rfl, i, fun _ => ⟨rfl, rfl⟩, Keeps.refl⟩
  refine W_cons (W_if (W_tand (T_p0 R G F O SA.active (sA O) (ev_name F) fun h F O => ⟨fun c => W_tand (T_p0 R G F O SB.active (Mine.sB O) (ev_name F) fun h F O => ⟨fun c2 => ?_, fun c2 => ⟨fun e => (nomatch e), fun _ => W_nil (W_nil ⟨_, _, F, O, rfl, lb, rfl, same ?_⟩)⟩⟩), fun c => ⟨fun e => (nomatch e), fun _ => W_nil (W_nil ⟨_, _, F, O, rfl, lb, rfl, same ?_⟩)⟩⟩)))
  rotate_left 1
  · have : Tb' = [] := by first | exact nil1 (by assumption) | exact nil2 (by assumption) | exact nil3 (by assumption)
    intro e T' f U _ e2; rw [this] at e2; cases e2
  · have : Ta = [] := by first | exact nil1 (by assumption) | exact nil2 (by assumption) | exact nil3 (by assumption)
    intro e T' f U e1; rw [this] at e1; cases e1
  first | refine consP c fun ia sa Ta' e1 => ?_ | refine consP2 c fun ia sa Ta' e1 => ?_
  first | refine consP c2 fun ib sb Tb'' e2 => ?_ | refine consP2 c2 fun ib sb Tb'' e2 => ?_
  refine W_tand (W_tcmp (W_p0 (SA.id _ _ e1) R G F O (sA O) (ev_name F) fun v h F O ⟨t, e⟩ => W_p0 (SB.id _ _ e2) R G F O (Mine.sB O) (ev_name F) fun v2 h F O ⟨t2, e3⟩ => ?_))
  subst e e3
  refine W_ne (W_truthB ⟨fun c3 => W_tandN ⟨fun _ => ?_, fun e => (nomatch e)⟩, fun c3 => ⟨fun e => (nomatch e), fun _ => W_nil (W_nil ⟨_, _, F, O, rfl, lb, rfl, same ?_⟩)⟩⟩)
  · refine W_cons (W_expr (W_tB1x (P := isInt ia) (v0 := .int ia 0) (fun v ⟨t, e⟩ => e ▸ SB.skip rfl ia t _ _ e2) ⟨0, rfl⟩ (fun _ _ q => q.2.2.2) R G F O (ev_name F) (fun Q' q => W_p0 (SA.id _ _ e1) R G F O (sA O) (ev_name F) fun v h F O p => q v h F O p) fun v lb' h F O q => ⟨fun a e => ?_, W_nil (W_nil ⟨_, _, F, O, rfl, lb', rfl, ?_⟩)⟩))
    · rcases q.1 with rfl | ⟨b, rfl⟩ <;> cases e
    · have hh : ∀ e ∈ Ta, ia ≤ e.1 := by rw [e1] at sA' ⊢; exact head_le sA'
      refine ⟨_, q.2.1, maybeT_drop hh, InvM.drop sB fun e T' e3 => ?_, fun i => ⟨q.2.2.1 (i _ _ _ _ e1 e2), ?_⟩, q.2.2.2⟩
      · rw [e1] at e3; cases e3; exact Int.le_refl _
      · rw [e2, dropLt_ge]; exact i _ _ _ _ e1 e2
  · have : ia = ib := by simpa using c3
    intro e T' f U e3 e4
    rw [e1] at e3; rw [e2] at e4; cases e3; cases e4
    exact Int.le_of_eq this
variable (k : KOk K) (I : IH prog w K ro n) (MA : MRep ro pa na la xa Ta) (MB : MRep ro true nb lb xb Tb') (ha : na < n) (hb : nb < n)
include k I MA MB ha hb
/-- AndMaybeMatcher(a, b) -/
theorem mk_maybe : Does prog w K ro (12 * n + 3) (.ref cMaybe) [.ref xa, .ref xb] [] (la ++ lb) fun v l => ∃ d y lb', v = .ref y ∧ l = nodeC d y cMaybe (φBi xa xb) ++ (la ++ lb') ∧ FirstB ro nb xb lb Ta Tb' lb' := by
  have SA := I.get (Nat.le_refl _) ha MA
  have SB := I.get (Nat.le_refl _) hb MB
  refine does_make k.i_maybe fun x d => ?_
  refine does_enter k.fn_AndMaybeMatcher_init [("self", .ref x), ("a", .ref xa), ("b", .ref xb)] (fun s _ _ _ _ _ _ _ => BindsTo.of_eq rfl) (locs rfl) ?_
  intro A z g L h R G F O
  refine W_cons (W_expr (W_mcall (W_global F G k.g_AdditiveBiMatcher.1 (W_clsInit k.ci_add F G (W_callWithE G k.ci_add.keep (W_argsC (W_name F rfl (W_argsC (W_name F rfl (W_argsC (W_name F rfl (W_argsN ⟨G.kin.keeps F.keep, Cd.call ?_⟩))))))))))))
  refine Does.use (la := nodeB 1 d x cMaybe (fun fs => ∀ y, fs y = none) ++ (la ++ lb)) (rest := []) (bi_init (j := 12 * n) (own := la ++ lb) k k.c_maybe k.d_maybe_a k.d_maybe_b) R G F (by rw [List.append_nil]; exact O) (fun v l ⟨_, e⟩ => by rw [e]; exact Keeps.refl.node) fun v l h F O ⟨e, e2⟩ => ?_
  subst e e2
  rw [List.append_nil] at O
  refine ⟨fun a e => (nomatch e), ?_⟩
  refine W_cons (W_expr (W_tS0 (m_firstb k SA SB MA MB fun fs q => q.1) (fun v l ⟨_, lb', e, T, _, _, _, _, hk⟩ => by rw [e]; exact (Keeps.refl.app hk).node) R G F O (ev_name F) fun v l h F O ⟨e, lb', e2, fb⟩ => ?_))
  subst e e2
  exact ⟨fun a e => (nomatch e), W_nil ⟨_, nodeC d x cMaybe (φBi xa xb) ++ (la ++ lb'), F, O.weaken fun o q => dictB.mono (φ := φNew xa xb) (φ' := φBi xa xb) q (by decide) fun fs q => q.1, rfl, d, x, lb', rfl, rfl, fb⟩⟩
end
section
variable {pa : Bool} {n na nb : Nat} {d x xa xb : Addr} {la lb : Led} {Ta Tb' : Tb}
theorem made_maybe (k : KOk K) (I : IH prog w K ro n) (ha : na < n) (hb : nb < n) (inv : InvM Ta Tb') : MadeN prog w K ro (12 * n + 4) f_AndMaybeMatcher_made x false n pa true na nb Ta Tb' (maybeT Ta Tb') := by
  intro ya yb oa ob Ma Mb nd
  refine does_enter k.fn_AndMaybeMatcher_made [("self", .ref x), ("a", .ref ya), ("b", .ref yb)] (fun s _ _ _ _ _ _ _ => BindsTo.of_eq rfl) (locs rfl) ?_
  intro A z g L h R G F O
  refine W_cons (W_ret (W_fcall (W_global F G k.g_AndMaybeMatcher.1 (W_callWithE G k.g_AndMaybeMatcher.2 (W_argsC (W_name F rfl (W_argsC (W_name F rfl (W_argsN ⟨G.kin.keeps F.keep, Cd.call ?_⟩)))))))))
  refine Does.use (rest := []) (mk_maybe k I Ma Mb ha hb) R G F (by rw [List.append_nil]; exact O) (fun v l ⟨d, y, lb', _, e, T, _, _, _, _, hk⟩ => by rw [e]; exact fun p hp f => List.mem_append_right _ (Keeps.refl.app hk p hp f)) fun v l h F O ⟨d, y, lb', e, e2, T, t1, t2, t3, t4, t5⟩ => ?_
  obtain ⟨e3, e4⟩ := t4 inv
  subst e
  rw [e2, List.append_nil, e3] at O
  exact ⟨_, _, F, O, _, rfl, y, rfl, .maybe ha hb Ma Mb inv⟩
set_option maxHeartbeats 4000000 in
theorem spec_maybe (k : KOk K) (I : IH prog w K ro n) (MA : MRep ro pa na la xa Ta) (MB : MRep ro true nb lb xb Tb') (ha : na < n) (hb : nb < n) (inv : InvM Ta Tb') :
    SpecAt prog w K ro (12 * n + 12) false n (nodeC d x cMaybe (φBi xa xb) ++ (la ++ lb)) x (maybeT Ta Tb') := by
  have SA := I.get (Nat.le_refl _) ha MA
  have SB := I.get (Nat.le_refl _) hb MB
  have oA := MA.ok.1
  have oB := MB.ok.1
  have eT : ∀ e T', maybeT Ta Tb' = e :: T' → ∃ s Ta', Ta = (e.1, s) :: Ta' ∧ e.2 = s + (lk e.1 Tb').getD 0 ∧ T' = maybeT Ta' Tb' := fun e T' q => by
    cases Ta with
    | nil => cases q
    | cons f r => cases q; exact ⟨f.2, r, rfl, rfl, rfl⟩
  exact {
    active := by
      refine can k.c_maybe k.m_maybe_is_active (k := 12 * n + 12) ?_
      refine does_enter k.fn_AndMaybeMatcher_is_active [("self", .ref x)] (fun s _ _ _ _ _ _ _ => BindsTo.of_eq rfl) (locs rfl) ?_
      intro A z g L h R G F O
      refine W_cons (W_ret (W_p0 SA.active (R.le (by omega)) G F O (sA O) (ev_field F G O k.c_maybe k.d_maybe_a Sf.node fun fs q => q.1) fun v h F O q => ⟨_, _, F, O, rfl, by rw [show v = _ from q]; cases Ta <;> rfl⟩))
    id := fun e T' q => by
      obtain ⟨s, Ta', e1, e2, e3⟩ := eT e T' q
      refine can k.c_maybe k.m_maybe_id (k := 12 * n + 12) ?_
      refine does_enter k.fn_AndMaybeMatcher_id [("self", .ref x)] (fun s _ _ _ _ _ _ _ => BindsTo.of_eq rfl) (locs rfl) ?_
      intro A z g L h R G F O
      refine W_cons (W_ret (W_p0 (SA.id _ _ e1) (R.le (by omega)) G F O (sA O) (ev_field F G O k.c_maybe k.d_maybe_a Sf.node fun fs q => q.1) fun v h F O q => ⟨_, _, F, O, rfl, q⟩))
    score := fun e T' q => by
      obtain ⟨s, Ta', e1, e2, e3⟩ := eT e T' q
      rw [lk_maybe oB inv e1] at e2
      refine can k.c_maybe k.m_maybe_score (k := 12 * n + 12) ?_
      refine does_enter k.fn_AndMaybeMatcher_score [("self", .ref x)] (fun s _ _ _ _ _ _ _ => BindsTo.of_eq rfl) (locs rfl) ?_
      intro A z g L h R0 G F O
      have R := R0.le (k' := 12 * n) (by omega)
      have one : ∀ h, Fr g L h (fun y => ([("self", .ref x)] : List (Str × Value)).reverse.lookup y) → Ow g L h (nodeC d x cMaybe (φBi xa xb) ++ (la ++ lb)) → e.2 = s →
          Wp (model prog w) A z (execs ((orelseOf (defBody rf_AndMaybeMatcher_score.st))) (envX rf_AndMaybeMatcher_score.qual (defScope rf_AndMaybeMatcher_score.st) L f_AndMaybeMatcher_score rf_AndMaybeMatcher_score.cdv rf_AndMaybeMatcher_score.cl)) (Nx prog w A z (envX rf_AndMaybeMatcher_score.qual (defScope rf_AndMaybeMatcher_score.st) L f_AndMaybeMatcher_score rf_AndMaybeMatcher_score.cdv rf_AndMaybeMatcher_score.cl) [] (Ret g L fun v l => l = nodeC d x cMaybe (φBi xa xb) ++ (la ++ lb) ∧ isInt e.2 v)) h := by
        intro h F O e4
        refine W_cons (W_ret (W_p0 (SA.score _ _ e1) R G F O (sA O) (ev_field F G O k.c_maybe k.d_maybe_a Sf.node fun fs q => q.1) fun v h F O q => ⟨_, _, F, O, rfl, by rw [e4]; exact q⟩))
      refine W_cons (W_if (W_tand (T_p0 R G F O SB.active (sB O) (ev_field F G O k.c_maybe k.d_maybe_b Sf.node fun fs q => q.2) fun h F O => ⟨fun c => ?_, fun c => ⟨fun e => (nomatch e), fun _ => one _ F O ?_⟩⟩)))
      rotate_left 1
      · have : Tb' = [] := by first | exact nil1 (by assumption) | exact nil2 (by assumption) | exact nil3 (by assumption)
        rw [e2, this]; exact Int.add_zero _
      first | refine consP c fun ib sb Tb'' e4 => ?_ | refine consP2 c fun ib sb Tb'' e4 => ?_
      rw [e4] at e2
      dsimp only [hdlk] at e2
      refine W_tand (W_tcmp (W_p0 (SA.id _ _ e1) R G F O (sA O) (ev_field F G O k.c_maybe k.d_maybe_a Sf.node fun fs q => q.1) fun v h F O ⟨t, e5⟩ => W_p0 (SB.id _ _ e4) R G F O (sB O) (ev_field F G O k.c_maybe k.d_maybe_b Sf.node fun fs q => q.2) fun v2 h F O ⟨t2, e6⟩ => ?_))
      subst e5 e6
      refine W_eq (W_truthB ⟨fun c2 => W_tandN ⟨fun _ => ?_, fun e => (nomatch e)⟩, fun c2 => ⟨fun e => (nomatch e), fun _ => one _ F O ?_⟩⟩)
      · rw [if_pos (by simpa using c2)] at e2
        refine W_cons (W_ret (W_bin (W_p0 (SA.score _ _ e1) R G F O (sA O) (ev_field F G O k.c_maybe k.d_maybe_a Sf.node fun fs q => q.1) fun v h F O ⟨t3, e7⟩ => W_p0 (SB.score _ _ e4) R G F O (sB O) (ev_field F G O k.c_maybe k.d_maybe_b Sf.node fun fs q => q.2) fun v2 h F O ⟨t4, e8⟩ => ?_)))
        subst e7 e8
        exact W_add fun tk => ⟨_, _, F, O, rfl, tk, by rw [e2]; rfl⟩
      · rw [if_neg (by simpa using c2)] at e2
        rw [e2]; exact Int.add_zero _
    next := fun e T' q => by
      obtain ⟨s, Ta', e1, e2, e3⟩ := eT e T' q
      refine can k.c_maybe k.m_maybe_next (k := 12 * n + 12) ?_
      refine does_enter k.fn_AndMaybeMatcher_next [("self", .ref x)] (fun s _ _ _ _ _ _ _ => BindsTo.of_eq rfl) (locs rfl) ?_
      intro A z g L h R0 G F O
      have R := R0.le (k' := 12 * n) (by omega)
      refine W_cons (W_if (W_tnot (T_p0 R G F O SA.active (sA O) (ev_field F G O k.c_maybe k.d_maybe_a Sf.node fun fs q => q.1) fun h F O => ⟨fun c => ?_, fun c => W_nil ?_⟩)))
      · rw [e1] at c; cases c
      refine W_cons (W_assign (W_tA0 (SA.next _ _ e1) (fun _ _ q => q.2.2) R G F O (ev_field F G O k.c_maybe k.d_maybe_a Sf.node fun fs q => q.1) fun v la' h F O q => ⟨_, _, F, O, fun h F O => ?_⟩))
      refine W_cons (W_assign (W_cbool ⟨_, _, F, O, fun h F O => ?_⟩))
      have SA' := I.get (Nat.le_refl _) ha q.2.1
      have oA' := q.2.1.ok.1
      have fin : ∀ h m lb' Tb2 v2, Fr g L h m → Ow g L h (nodeC d x cMaybe (φBi xa xb) ++ (la' ++ lb')) → m "ar" = some v → m "br" = some v2 → Vn v2 → MRep ro true nb lb' xb Tb2 → Keeps lb lb' → InvM Ta' Tb2 → maybeT Ta' Tb2 = maybeT Ta' Tb' →
          Wp (model prog w) A z (execs ((defBody rf_AndMaybeMatcher_next.st).drop 4) (envX rf_AndMaybeMatcher_next.qual (defScope rf_AndMaybeMatcher_next.st) L f_AndMaybeMatcher_next rf_AndMaybeMatcher_next.cdv rf_AndMaybeMatcher_next.cl)) (Ret g L fun v l => Vn v ∧ MRep ro false n l x T' ∧ Keeps (nodeC d x cMaybe (φBi xa xb) ++ (la ++ lb)) l) h := by
        intro h m lb' Tb2 v2 F O m1 m2 hv M2 hk i2 q2
        refine W_cons (W_ret (W_orVn (ev_name F m1) (ev_name F m2) q.1 hv fun v3 hv3 => ⟨_, _, F, O, hv3, ?_, (q.2.2.app hk).node⟩))
        rw [e3, ← q2]
        exact .maybe ha hb q.2.1 M2 i2
      refine W_cons (W_if (W_tand (T_p0 R G F O SA'.active (sA O) (ev_field F G O k.c_maybe k.d_maybe_a Sf.node fun fs q => q.1) fun h F O => ⟨fun c1 => W_tand (T_p0 R G F O SB.active (sB O) (ev_field F G O k.c_maybe k.d_maybe_b Sf.node fun fs q => q.2) fun h F O => ⟨fun c2 => W_tandN ⟨fun _ => ?_, fun e => (nomatch e)⟩, fun c2 => ⟨fun e => (nomatch e), fun _ => W_nil (fin _ _ _ _ _ F O ((upd_ne (by decide)).trans upd_same) upd_same (.inr ⟨_, rfl⟩) MB Keeps.refl ?_ rfl)⟩⟩), fun c1 => ⟨fun e => (nomatch e), fun _ => W_nil (fin _ _ _ _ _ F O ((upd_ne (by decide)).trans upd_same) upd_same (.inr ⟨_, rfl⟩) MB Keeps.refl ?_ rfl)⟩⟩)))
      rotate_left 1
      · have : Tb' = [] := by first | exact nil1 (by assumption) | exact nil2 (by assumption) | exact nil3 (by assumption)
        intro e T' f U _ e2; rw [this] at e2; cases e2
      · have : Ta' = [] := by first | exact nil1 (by assumption) | exact nil2 (by assumption) | exact nil3 (by assumption)
        intro e T' f U e1; rw [this] at e1; cases e1
      first | refine consP c1 fun ia sa Ta2 e5 => ?_ | refine consP2 c1 fun ia sa Ta2 e5 => ?_
      first | refine consP c2 fun ib sb Tb2 e6 => ?_ | refine consP2 c2 fun ib sb Tb2 e6 => ?_
      refine W_cons (W_assign (W_tB1x (P := isInt ia) (v0 := .int ia 0) (fun v ⟨t, e⟩ => e ▸ SB.skip rfl ia t _ _ e6) ⟨0, rfl⟩ (fun _ _ q => q.2.2.2) R G F O (ev_field F G O k.c_maybe k.d_maybe_b Sf.node fun fs q => q.2) (fun Q' q => W_p0 (SA'.id _ _ e5) R G F O (sA O) (ev_field F G O k.c_maybe k.d_maybe_a Sf.node fun fs q => q.1) fun v h F O p => q v h F O p) fun v2 lb' h F O q2 => ⟨_, _, F, O, fun h F O => W_nil ?_⟩))
      refine fin _ _ _ _ v2 F O ((upd_ne (by decide)).trans ((upd_ne (by decide)).trans upd_same)) upd_same q2.1 q2.2.1 q2.2.2.2 (InvM.drop oB fun e T' e3 => ?_) (maybeT_drop ?_)
      · rw [e5] at e3; cases e3; exact Int.le_refl _
      · rw [e5] at oA' ⊢; exact head_le oA'
    maxq := can k.c_maybe k.m_maybe_max_quality ((add_maxq k k.c_maybe k.d_maybe_a k.d_maybe_b (fun fs q => q) SA SB).le (by omega))
    copy := can k.c_maybe k.m_maybe_copy ((bi_copy k k.c_maybe k.d_maybe_a k.d_maybe_b k.m_maybe_made (fun fs q => q) (Spec.le SA (by omega)) (Spec.le SB (by omega)) (made_maybe k I ha hb inv)).le (by omega))
    repl := fun args hargs => by
      refine can k.c_maybe k.m_maybe_replace (k := 12 * n + 12) ?_
      refine does_repl k.fn_AndMaybeMatcher_replace k.v_AndMaybeMatcher_replace hargs ?_
      intro i tk hi A z g L h R0 G F O
      have R : Room A (12 * n) := R0.le (by omega)
      refine W_cons (S_ev F O (ev_field F G O k.c_maybe k.d_maybe_a Sf.node fun fs q => q.1) fun h F O => ?_)
      refine W_cons (S_ev F O (ev_field F G O k.c_maybe k.d_maybe_b Sf.node fun fs q => q.2) fun h F O => ?_)
      refine W_cons (S_p0 R G F O SA.active (sA O) (ev_name F) fun v h e1 F O => ?_)
      subst e1
      refine W_cons (S_p0 R G F O SB.active (sB O) (ev_name F) fun v h e1 F O => ?_)
      subst e1
      have last : ∀ h, Fr g L h (upd (upd (upd (upd (fun y => (rB x i tk).reverse.lookup y) "a" (.ref xa)) "b" (.ref xb)) "a_active" (.bool !Ta.isEmpty)) "b_active" (.bool !Tb'.isEmpty)) → Ow g L h (nodeC d x cMaybe (φBi xa xb) ++ (la ++ lb)) →
          Wp (model prog w) A z (execs ((defBody rf_AndMaybeMatcher_replace.st).drop 5) (envX rf_AndMaybeMatcher_replace.qual (defScope rf_AndMaybeMatcher_replace.st) L f_AndMaybeMatcher_replace rf_AndMaybeMatcher_replace.cdv rf_AndMaybeMatcher_replace.cl)) (Ret g L (ReplPost ro false n (nodeC d x cMaybe (φBi xa xb) ++ (la ++ lb)) (maybeT Ta Tb'))) h := by
        intro h F O
        refine W_cons (W_assign (g := g) (W_n1x (P := NonPos) (fun v ⟨j, t, hj, e⟩ => SA.repl [v] (.inr ⟨j, t, hj, by rw [e]⟩)) ⟨0, 0, Int.le_refl _, rfl⟩ R G F O (sA O) (ev_name F) (fun Q' q => W_bin (W_name F rfl (W_p0 SB.maxq R G F O (sB O) (ev_name F) fun v h F O ⟨r, ⟨t, e⟩, hr⟩ => e ▸ W_sub fun tk => q _ _ F O ⟨_, tk, by omega, rfl⟩))) fun v nwa h F O ⟨ya, oa, e, sa, Ma⟩ => ⟨_, _, F, O, fun h F O => ?_⟩))
        subst e
        refine W_cons (W_assign (g := g) (W_n1x (P := NonPos) (fun v ⟨j, t, hj, e⟩ => SB.repl [v] (.inr ⟨j, t, hj, by rw [e]⟩)) ⟨0, 0, Int.le_refl _, rfl⟩ R G F O ((sB O.right).trans O.subR) (ev_name F) (fun Q' q => W_bin (W_name F rfl (W_p0 SA.maxq R G F O ((sA O.right).trans O.subR) (ev_name F) fun v h F O ⟨r, ⟨t, e⟩, hr⟩ => e ▸ W_sub fun tk => q _ _ F O ⟨_, tk, by omega, rfl⟩))) fun v nwb h F O ⟨yb, ob, e, sb, Mb⟩ => ⟨_, _, F, O, fun h F O => ?_⟩))
        subst e
        have sab := sa.pair sb O.nd
        have Snode : Sf (nwb ++ (nwa ++ (nodeC d x cMaybe (φBi xa xb) ++ (la ++ lb)))) x cMaybe (φBi xa xb) := (Sf.node (rest := la ++ lb)).mono fun e he => List.mem_append_right _ (List.mem_append_right _ he)
        refine W_cons (W_if (T_neq2 O (ev_name (v := .ref ya) F) (ev_name (v := .ref xa) F) (ev_name (v := .ref yb) F) (ev_name (v := .ref xb) F) Ma MA Mb MB
          (fun e he => sab.mem e (List.mem_append_left _ he)) (fun e he => by simp [he]) (fun e he => sab.mem e (List.mem_append_right _ he)) (fun e he => by simp [he]) ⟨fun c => ?_, fun c => ?_⟩))
        · refine W_cons (W_ret (W_made (k := 12 * n + 4) Snode k.c_maybe k.m_maybe_made (made_maybe k I ha hb inv) Ma Mb sab (R0.le (by omega)) G F O (ev_name F) (ev_name F) (ev_name F) fun v l h F O q => ⟨_, _, F, O, q⟩))
        · refine W_cons (W_ret (W_name F rfl ⟨_, _, F, O, nwb ++ nwa, (List.append_assoc ..).symm, x, _, rfl, ?_, .maybe (d := d) ha hb MA MB inv⟩))
          rw [List.append_assoc]
          exact O.right.right |> fun o => ⟨fun e he => List.mem_append_right _ (List.mem_append_right _ he), o.nd⟩
      refine W_cons (W_if (W_tnot (T_nameB F rfl ⟨fun c => ?_, fun c => ?_⟩)))
      · refine W_cons (S_retNull (k := 12 * n) k (R0.le (by omega)) G F O fun d' y h F O => ⟨_, _, F, O, _, rfl, y, _, rfl, O.subL, ?_⟩)
        have z1 : Ta = [] := by first | exact nil1 (by assumption) | exact nil2 (by assumption) | exact nil3 (by assumption)
        rw [z1]; exact .null
      -- the second part has ended
      have ended : ∀ h, (!Tb'.isEmpty) = false → Fr g L h (upd (upd (upd (upd (fun y => (rB x i tk).reverse.lookup y) "a" (.ref xa)) "b" (.ref xb)) "a_active" (.bool !Ta.isEmpty)) "b_active" (.bool !Tb'.isEmpty)) → Ow g L h (nodeC d x cMaybe (φBi xa xb) ++ (la ++ lb)) →
          Wp (model prog w) A z (execs (orelseOf (orelseOf ((defBody rf_AndMaybeMatcher_replace.st).drop 4))) (envX rf_AndMaybeMatcher_replace.qual (defScope rf_AndMaybeMatcher_replace.st) L f_AndMaybeMatcher_replace rf_AndMaybeMatcher_replace.cdv rf_AndMaybeMatcher_replace.cl)) (fun fl h => match fl with | .ret v => Ret g L (ReplPost ro false n (nodeC d x cMaybe (φBi xa xb) ++ (la ++ lb)) (maybeT Ta Tb')) (.ret v) h | _ => False) h := by
        intro h c2 F O
        have z1 : Tb' = [] := by first | exact nil1 (by assumption) | exact nil2 (by assumption) | exact nil3 (by assumption)
        refine W_cons (W_if (W_tnot (T_nameB F rfl ⟨fun q2 => ?_, fun q2 => ?_⟩)))
        · refine W_cons (W_ret (W_n1 (SA.repl _ (.inr ⟨i, tk, hi, rfl⟩)) R G F O (sA O) (ev_name F) (ev_name F) fun v nw h F O ⟨y, o1, e, s, M⟩ => ⟨_, _, F, O, nw, rfl, y, o1, e, s.wA, ?_⟩))
          rw [z1, maybeT_nil]
          exact M.flag (fun q => (nomatch q)) (Nat.le_of_lt ha)
        · rw [c2] at q2; cases q2
      refine W_cons (W_if (W_tand (T_nameI F rfl ⟨fun c1 => W_tand (T_nameB F rfl ⟨fun c2 => W_tandN ⟨fun _ => ?_, fun e => (nomatch e)⟩, fun c2 => ⟨fun e => (nomatch e), fun _ => (ended _ c2 F O).mono ?_⟩⟩), fun c1 => ⟨fun e => (nomatch e), fun _ => ?_⟩⟩)))
      · refine W_cons (W_if (W_tcmp (W_bin (W_p0 SA.maxq R G F O (sA O) (ev_name F) fun v h F O ⟨qa, ⟨ta, ea⟩, ha'⟩ => W_p0 SB.maxq R G F O (sB O) (ev_name F) fun v2 h F O ⟨qb, ⟨tb, eb⟩, hb'⟩ => ?_))))
        subst ea eb
        refine W_add fun tk => W_name F rfl (W_lt (W_truthB ⟨fun c3 => ?_, fun c3 => ?_⟩))
        · have : qa + qb < i := by simpa using c3
          omega
        refine W_cons (W_if (W_tcmp (W_p0 SA.maxq R G F O (sA O) (ev_name F) fun v h F O ⟨qa, ⟨ta, ea⟩, ha'⟩ => ?_)))
        subst ea
        refine W_name F rfl (W_lt (W_truthB ⟨fun c3 => ?_, fun c3 => W_nil (W_nil (W_nil (W_nil (last _ F O))))⟩))
        · have : qa < i := by simpa using c3
          omega
      · intro fl h q
        cases fl <;> first | exact q | exact q.elim
      · by_cases c2 : (!Tb'.isEmpty) = false
        · refine (ended _ c2 F O).mono ?_
          intro fl h q
          cases fl <;> first | exact q | exact q.elim
        · refine W_cons (W_if (W_tnot (T_nameB F rfl ⟨fun q2 => ?_, fun q2 => W_nil (W_nil (W_nil (last _ F O)))⟩)))
          simp_all
    skip := fun q => nomatch q }
end
end Mine
end
section
set_option maxRecDepth 10000
namespace Mine
/-- what is asked of the program that runs: its file's name, and no super of its own -/
structure PrOk (prog : Program) : Prop where
  file : prog.main.file = PySem.Challenge.pw_iu0060_01.main.file
  top : (prog.main.scope.names.lookup ("super" : Str)).isSome = false
variable {prog : Program} {w : World} {K : Frag} {ro : List (Addr × Obj)}
/-- a def that begins with super().__init__(..) -/
theorem does_super {D cc cda f2 fa x d : Addr} {qual : Str} {params : Arguments} {rest : List Stmt} {scope : Scope} {dV : Value} {own : Led} {post post0 : Value → Led → Prop} {k b : Nat} {args avals : List Value} {kw : List (Str × Value)} {φ : (Str → Option Value) → Prop}
    {p0 p1 pos apos epos : Pos} {e : Expr} {es : List Expr} {kk : KOk K} (P : PrOk prog) (S : SupOk K D cc cda f2) (I : FnIs K fa qual params (.Expr (.Call (.Attribute (.Call (.Name "super" p0) [] [] p1) "__init__" apos) (e :: es) [] pos) epos :: rest) scope [("__class__", cc)] dV (.ref cda))
    (binds : List (Str × Value)) (hbind : ∀ (s : Shared) name kV doc pm an ct, K.In s.heap → BindsTo s (fnX name qual params (.Expr (.Call (.Attribute (.Call (.Name "super" p0) [] [] p1) "__init__" apos) (e :: es) [] pos) epos :: rest) scope [("__class__", cc)] dV kV doc pm an (.ref cda) ct) ⟨args, kw⟩ binds)
    (hloc : ∀ y ∈ binds, scope.names.lookup y.1 = some .local) (hself : binds.reverse.lookup ("self" : Str) = some (.ref x))
    (eargs : ∀ (A : Around) (z : Shared) (g : Heap) (L : Addr) (h : Heap) (Q : List Value → Heap → Prop), Fr g L h (fun y => binds.reverse.lookup y) → Q avals h → Wp (model prog w) A z (spliced (backTo pos (starEach (e :: es) (envX qual scope L fa (.ref cda) [("__class__", cc)])))) Q h)
    (Dinit : Does prog w K ro k (.ref f2) (.ref x :: avals) [] (nodeB b d x D φ ++ own) post0) (hK : ∀ v l, post0 v l → Keeps (nodeB b d x D φ ++ own) l)
    (kont : ∀ (A : Around) (z : Shared) (g : Heap) (L : Addr) (h : Heap) (v : Value) (l : Led), Room A k → Gd K ro g → Fr g L h (fun y => binds.reverse.lookup y) → Ow g L h l → post0 v l → Wp (model prog w) A z (execs rest (envX qual scope L fa (.ref cda) [("__class__", cc)])) (Ret g L post) h)
    (hp : ∃ ar, (params.posonlyargs ++ params.args).head? = some ar ∧ ar.arg = "self" := by exact ⟨_, rfl, rfl⟩)
    (hks : scope.names.lookup ("super" : Str) = some .globalImplicit := by rfl) (hkc : scope.names.lookup ("__class__" : Str) = some .free := by rfl) (hka : scope.names.lookup ("self" : Str) = some .local := by rfl)
    (hi : ∀ L, interactive (envX qual scope L fa (.ref cda) [("__class__", cc)]) = false := by intros; rfl) (hsw : ∀ L, swapsWith (.Call (.Attribute (.Call (.Name "super" p0) [] [] p1) "__init__" apos) (e :: es) [] pos) none epos.line (envX qual scope L fa (.ref cda) [("__class__", cc)]) = pure false := by intros; rfl)
    (hs1 : ∀ L, starEach (e :: es) (envX qual scope L fa (.ref cda) [("__class__", cc)]) = (false, eval e (envX qual scope L fa (.ref cda) [("__class__", cc)])) :: starEach es (envX qual scope L fa (.ref cda) [("__class__", cc)]) := by intros; rfl)
    (hpl : ∀ L, (backTo pos (starEach es (envX qual scope L fa (.ref cda) [("__class__", cc)]))).any (·.1) = false := by intros; rfl)
    (hev : ∀ L, eval (.Call (.Attribute (.Call (.Name "super" p0) [] [] p1) "__init__" apos) (e :: es) [] pos) (envX qual scope L fa (.ref cda) [("__class__", cc)]) = (do
      let ov ← attributeBase (.Call (.Name "super" p0) [] [] p1) "__init__" (envX qual scope L fa (.ref cda) [("__class__", cc)]) (eval (.Call (.Name "super" p0) [] [] p1) (envX qual scope L fa (.ref cda) [("__class__", cc)]))
      standAt apos.atName
      let (f, first) ← holding [ov] (getMethod ov "__init__" (do return (← importBound (.Call (.Name "super" p0) [] [] p1) (envX qual scope L fa (.ref cda) [("__class__", cc)])).getD true))
      callWith pos f first (backTo pos (starEach (e :: es) (envX qual scope L fa (.ref cda) [("__class__", cc)]))) []) := by intros; rfl) :
    Does prog w K ro (k + 1) (.ref fa) args kw (nodeB b d x D φ ++ own) post := by
  intro A z g h Q R G st sz o kont' tk
  obtain ⟨oc, od, osl, name, kV, doc, pm, an, ct, hKf⟩ := I.at_
  obtain ⟨p, lo, me, mg, mb, T⟩ := G.top
  have X : K.In h := G.kin.keeps st
  refine (ks_codeAny_call_defAt (fd := fnX name qual params _ scope [("__class__", cc)] dV kV doc pm an (.ref cda) ct) (binds := binds) (by have := R.2.1; show A.depth < 1000; omega) (X _ _ hKf) rfl (T.nolimit.keeps st) (codeRec_of X I.code) rfl
    (hbind _ _ _ _ _ _ _ X) I.plain.2.2.2 hloc (fun h₁ hns hk₁ => ?_) I.plain.1 I.plain.2.1 I.plain.2.2.1)
  have F₁ : Fr g h.objs.size h₁ (fun y => binds.reverse.lookup y) := ⟨hns, fun b x e => hk₁ b x (st b x e), sz⟩
  have O₁ : Ow g h.objs.size h₁ (nodeB b d x D φ ++ own) := ⟨⟨⟨fun q hq => let ⟨x, e, p⟩ := o.has.get q hq; ⟨x, hk₁ _ _ e, p⟩⟩, o.off, o.nd⟩, fun q hq => let ⟨x, e, p⟩ := o.has.get q hq; Nat.ne_of_lt (Heap.lt_size e)⟩
  refine ks_wpAt_execs_cons (ks_wpAt_Expr_any (ks_wpAt_MethodCall ?_ (hev _)) (hi _) (hsw _))
  obtain ⟨ccl, cdd, vs, ccs, file, tf, c1, c2, c3⟩ := S.code
  obtain ⟨cl, cld, csl, c4⟩ := S.cell
  obtain ⟨cdD, c5⟩ := S.cls
  obtain ⟨ar, har, hself'⟩ := hp
  obtain ⟨dd, od2, fs, bb, I2, _⟩ := (Sf.node (rest := own) (b := b) (d := d) (x := x) (C := D) (φ := φ)).inst O₁
  refine ks_node (s := St z h₁ _) F₁ G.kin O₁.news T hKf har (by rw [hself']; exact hself) I2 c1 c2 (by rw [P.file]; exact c3) c4 c5 S.sub (kk.blt _ (at_ 9 rfl)) (by decide) hks hkc (by rw [hself']; exact hka) I.plain.2.2.1 P.top (by decide +kernel) fun so h2 F2 N2 lt2 => ?_
  have O2 : Ow g h.objs.size h2 (nodeB b d x D φ ++ own) := O₁.ofNews fun q hq => N2 q (List.mem_cons_of_mem _ hq)
  obtain ⟨dd', od3, fs', bb', I3, _⟩ := (Sf.node (rest := own) (b := b) (d := d) (x := x) (C := D) (φ := φ)).inst O2
  refine ks_method (s := St z h2 _) F2 G.kin N2 (List.mem_cons_self ..) I3 kk.any S.meth.1 S.meth.2.1 (by decide) fun q h3 F3 N3 lt3 => ?_
  have O3 : Ow g h.objs.size h3 (nodeB b d x D φ ++ own) := O₁.ofNews fun q hq => N3 q (List.mem_cons_of_mem _ (List.mem_cons_of_mem _ hq))
  refine callWith_M (s := St z h3 _) G.kin N3 (List.mem_cons_self ..) S.meth.2.2 ((eargs (A.deeper _) z g _ h3 (fun vs h4 => h4 = h3 ∧ vs = avals) F3 ⟨rfl, rfl⟩).go (fun vs h4 t4 ⟨e1, e2⟩ => ?_) _) (hs1 _) (hpl _)
  subst e1 e2
  refine ⟨methP N3 (List.mem_cons_self ..) (G.kin.keeps F3.keep), call_meth (s := St z h4 t4) N3 (List.mem_cons_self ..) ?_⟩
  have U := Does.use (z := z) (Q := fun v h' => ∃ l, Fr g h.objs.size h' (fun y => binds.reverse.lookup y) ∧ Ow g h.objs.size h' l ∧ post0 v l) (rest := []) Dinit (R.deeper (envX qual scope h.objs.size fa (.ref cda) [("__class__", cc)])) G F3 (by rw [List.append_nil]; exact O3) hK fun v l h5 F5 O5 hp5 => ⟨l, F5, by rw [List.append_nil] at O5; exact O5, hp5⟩
  refine codeAny_mono (U t4) fun r s' q => ?_
  rcases r with e | (v | _ | _ | v) <;> first | exact q.elim | skip
  obtain ⟨h5, t5, rfl, l, F5, O5, hp5⟩ := q
  exact wpAt_of_wpAny ((kont _ z g _ h5 v l (R.deeper _) G F5 O5 hp5).go (fun fl h' tk' ⟨m', own', F', O', hp'⟩ => ⟨h', tk', rfl, kont' _ own' h' F'.keep O'.own hp'⟩) t5)
end Mine
end
section
set_option maxRecDepth 10000
namespace Mine
theorem joinT_dropA {f : Int → Int → Int} {i : Int} {b : Tb} (h : ∀ e ∈ b, i ≤ e.1) : ∀ a : Tb, joinT f (dropLt i a) b = joinT f a b
  | [] => rfl
  | e :: a => by
    rw [dropLt_cons]
    by_cases q : e.1 < i
    · rw [if_pos q, joinT_dropA h a, joinT_cons, lk_none_of fun g hg => by have := h g hg; omega]
    · rw [if_neg q]
theorem joinT_dropB {f : Int → Int → Int} {i : Int} {b : Tb} : ∀ {a : Tb}, (∀ e ∈ a, i ≤ e.1) → joinT f a (dropLt i b) = joinT f a b
  | [], _ => rfl
  | e :: a, h => by rw [joinT_cons, joinT_cons, dropLt_lk (h e (List.mem_cons_self ..)), joinT_dropB fun g hg => h g (List.mem_cons_of_mem _ hg)]
theorem dropLt_all {i : Int} {a : Tb} (h : ∀ e ∈ a, i ≤ e.1) : dropLt i a = a := by
  cases a with
  | nil => rfl
  | cons e r => exact dropLt_ge (h e (List.mem_cons_self ..))
theorem joinT_dropLt {f : Int → Int → Int} {i : Int} {b : Tb} : ∀ {a : Tb}, Srt a → dropLt i (joinT f a b) = joinT f (dropLt i a) (dropLt i b)
  | [], _ => rfl
  | e :: a, h => by
    rw [joinT_dropB fun g hg => (dropLt_mem h g hg).1]
    have ih := joinT_dropLt (f := f) (i := i) (b := b) h.tail
    rw [joinT_dropB fun g hg => (dropLt_mem h.tail g hg).1] at ih
    by_cases q : e.1 < i
    · rw [dropLt_cons i e a, if_pos q, ← ih, joinT_cons]
      cases lk e.1 b with
      | none => rfl
      | some t => show dropLt i ((e.1, f e.2 t) :: joinT f a b) = _; rw [dropLt_cons, if_pos q]
    · rw [dropLt_ge (by omega)]
      refine dropLt_all fun g hg => ?_
      obtain ⟨x, hx, e1, _⟩ := joinT_mem hg
      have := head_le h x hx
      omega
theorem meet_empty {f : Int → Int → Int} {a b : Tb} (h : MeetT a b) : (joinT f a b).isEmpty = (a.isEmpty || b.isEmpty) := by
  cases a with
  | nil => rfl
  | cons e a =>
    cases b with
    | nil =>
      have : joinT f (e :: a) [] = [] := by
        unfold joinT
        exact List.filterMap_eq_nil_iff.mpr fun x _ => rfl
      rw [this]; rfl
    | cons g b =>
      have := h e a g b rfl rfl
      rw [joinT_cons, lk_cons, if_pos this]; rfl
theorem meet_head {f : Int → Int → Int} {a b : Tb} (h : MeetT a b) {e : Int × Int} {T' : Tb} (q : joinT f a b = e :: T') : ∃ s t a' b', a = (e.1, s) :: a' ∧ b = (e.1, t) :: b' ∧ e.2 = f s t ∧ T' = joinT f a' b := by
  cases a with
  | nil => cases q
  | cons x a =>
    cases b with
    | nil =>
      have := meet_empty (f := f) h
      rw [q] at this; cases this
    | cons y b =>
      have e1 := h x a y b rfl rfl
      rw [joinT_cons, lk_cons, if_pos e1] at q
      cases q
      exact ⟨x.2, y.2, a, b, rfl, by rw [show (x.1, f x.2 y.2).1 = y.1 from e1], rfl, rfl⟩
theorem dropLt_shorter {i : Int} {e : Int × Int} {a : Tb} (h : e.1 < i) : (dropLt i (e :: a)).length < (e :: a).length := by
  rw [dropLt_cons, if_pos h]
  exact Nat.lt_succ_of_le (dropLt_len i a)
end Mine
end
section
set_option maxRecDepth 10000
namespace Mine
variable {prog : Program} {w : World} {K : Frag} {ro : List (Addr × Obj)}
/-- two parts brought to one id -/
noncomputable def Met (ro : List (Addr × Obj)) (na nb : Nat) (xa xb : Addr) (la lb : Led) (Ta Tb' : Tb) (la' lb' : Led) : Prop :=
  ∃ Ta' Tb'', MRep ro true na la' xa Ta' ∧ MRep ro true nb lb' xb Tb'' ∧ MeetT Ta' Tb'' ∧ (∀ f, joinT f Ta' Tb'' = joinT f Ta Tb') ∧ Keeps la la' ∧ Keeps lb lb'
theorem Met.elim {ro : List (Addr × Obj)} {na nb : Nat} {xa xb : Addr} {la lb : Led} {Ta Tb' : Tb} {la' lb' : Led} {C : Prop} (q : Met ro na nb xa xb la lb Ta Tb' la' lb')
    (k : ∀ Ta' Tb'', MRep ro true na la' xa Ta' → MRep ro true nb lb' xb Tb'' → MeetT Ta' Tb'' → (∀ f, joinT f Ta' Tb'' = joinT f Ta Tb') → Keeps la la' → Keeps lb lb' → C) : C := by
  obtain ⟨a, b, h1, h2, h3, h4, h5, h6⟩ := q
  exact k a b h1 h2 h3 h4 h5 h6
theorem Met.ka {ro : List (Addr × Obj)} {na nb : Nat} {xa xb : Addr} {la lb : Led} {Ta Tb' : Tb} {la' lb' : Led} (q : Met ro na nb xa xb la lb Ta Tb' la' lb') : Keeps la la' := q.elim fun _ _ _ _ _ _ h _ => h
theorem Met.kb {ro : List (Addr × Obj)} {na nb : Nat} {xa xb : Addr} {la lb : Led} {Ta Tb' : Tb} {la' lb' : Led} (q : Met ro na nb xa xb la lb Ta Tb' la' lb') : Keeps lb lb' := q.elim fun _ _ _ _ _ _ _ h => h
section
variable {n na nb bb : Nat} {d x xa xb : Addr} {la lb : Led} {Ta Tb' : Tb} {φ : (Str → Option Value) → Prop}
theorem i_active (k : KOk K) {j : Nat} (SA : SpecAt prog w K ro j true na la xa Ta) (SB : SpecAt prog w K ro j true nb lb xb Tb') (hφ : ∀ fs, φ fs → φBi xa xb fs) :
    Can prog w K ro (j + 1) x "is_active" [] (nodeB bb d x cInter φ ++ (la ++ lb)) fun v l => l = nodeB bb d x cInter φ ++ (la ++ lb) ∧ v = .bool (!Ta.isEmpty && !Tb'.isEmpty) := by
  refine can k.c_inter k.m_inter_is_active ?_
  refine does_enter k.fn_IntersectionMatcher_is_active [("self", .ref x)] (fun s _ _ _ _ _ _ _ => BindsTo.of_eq rfl) (locs rfl) ?_
  intro A z g L h R G F O
  refine W_cons (W_ret (W_and (W_p0 SA.active R G F O (sA O) (ev_field F G O k.c_inter k.d_inter_a Sf.node fun fs q => (hφ fs q).1) fun v h F O q => ?_)))
  subst q
  refine W_truthB ⟨fun e => W_or1 (W_p0 SB.active R G F O (sB O) (ev_field F G O k.c_inter k.d_inter_b Sf.node fun fs q => (hφ fs q).2) fun v h F O q => ⟨_, _, F, O, rfl, ?_⟩), fun e => ⟨_, _, F, O, rfl, ?_⟩⟩
  · rw [e]; exact q
  · rw [e]; rfl
/-- the loop's word -/
noncomputable def InvI (ro : List (Addr × Obj)) (na nb bb : Nat) (d x xa xb : Addr) (la lb : Led) (Ta Tb' : Tb) (φ : (Str → Option Value) → Prop) (g : Heap) (L : Addr) (mz : Nat) (h : Heap) : Prop :=
  ∀ C : Prop, (∀ m la' lb' Ta' Tb'' ia ib sa sb ta tb rv Ta3 Tb3, Fr g L h m → Ow g L h (nodeB bb d x cInter φ ++ (la' ++ lb')) → MRep ro true na la' xa Ta' → MRep ro true nb lb' xb Tb'' → (∀ f, joinT f Ta' Tb'' = joinT f Ta Tb') → Keeps la la' → Keeps lb lb' →
    m "a" = some (.ref xa) → m "b" = some (.ref xb) → m "a_id" = some (.int ia ta) → m "b_id" = some (.int ib tb) → m "r" = some rv → Vn rv → Ta' = (ia, sa) :: Ta3 → Tb'' = (ib, sb) :: Tb3 → mz = Ta'.length + Tb''.length → C) → C
theorem i_findnext (k : KOk K) (I : IH prog w K ro n) (ha : na < n) (hb : nb < n) (MA : MRep ro true na la xa Ta) (MB : MRep ro true nb lb xb Tb') (hφ : ∀ fs, φ fs → φBi xa xb fs)
    {ea eb : Int × Int} {Ta0 Tb0 : Tb} (eA : Ta = ea :: Ta0) (eB : Tb' = eb :: Tb0) (hne : ea.1 ≠ eb.1) :
    Can prog w K ro (12 * n + 1) x "_find_next" [] (nodeB bb d x cInter φ ++ (la ++ lb)) fun v l => Vn v ∧ ∃ la' lb', l = nodeB bb d x cInter φ ++ (la' ++ lb') ∧ Met ro na nb xa xb la lb Ta Tb' la' lb' := by
  refine Can.via fun post kq => ?_
  have kp : ∀ v la' lb' Ta' Tb'', Vn v → MRep ro true na la' xa Ta' → MRep ro true nb lb' xb Tb'' → MeetT Ta' Tb'' → (∀ f, joinT f Ta' Tb'' = joinT f Ta Tb') → Keeps la la' → Keeps lb lb' → post v (nodeB bb d x cInter φ ++ (la' ++ lb')) := fun v la' lb' Ta' Tb'' q a b c d e f => kq _ _ ⟨q, la', lb', rfl, Ta', Tb'', a, b, c, d, e, f⟩
  clear kq
  refine can k.c_inter k.m_inter_find_next ?_
  refine does_enter k.fn_IntersectionMatcher_find_next [("self", .ref x)] (fun s _ _ _ _ _ _ _ => BindsTo.of_eq rfl) (locs rfl) ?_
  intro A z g L h R G F O
  have SA := I.get (Nat.le_refl _) ha MA
  have SB := I.get (Nat.le_refl _) hb MB
  refine W_cons (S_ev F O (ev_field F G O k.c_inter k.d_inter_a Sf.node fun fs q => (hφ fs q).1) fun h F O => ?_)
  refine W_cons (S_ev F O (ev_field F G O k.c_inter k.d_inter_b Sf.node fun fs q => (hφ fs q).2) fun h F O => ?_)
  refine W_cons (S_p0 R G F O (SA.id _ _ eA) (sA O) (ev_name F) fun v h ⟨t1, e⟩ F O => ?_)
  subst e
  refine W_cons (S_p0 R G F O (SB.id _ _ eB) (sB O) (ev_name F) fun v h ⟨t2, e⟩ F O => ?_)
  subst e
  refine W_cons (W_assert (W_tcmp (W_name F rfl (W_name F rfl (W_ne (W_truthB ⟨by simpa using hne, ?_⟩))))))
  refine W_cons (W_assign (W_cbool ⟨_, _, F, O, fun h F O => ?_⟩))
  refine W_cons (W_while (InvI ro na nb bb d x xa xb la lb Ta Tb' φ g L) _
    (fun C k => k _ la lb Ta Tb' ea.1 eb.1 ea.2 eb.2 t1 t2 _ Ta0 Tb0 F O MA MB (fun _ => rfl) Keeps.refl Keeps.refl rfl rfl rfl rfl upd_same (.inr ⟨_, rfl⟩) eA eB rfl) ?_)
  intro mz h H
  refine H _ fun m la' lb' Ta' Tb'' ia ib sa sb ta tb rv Ta3 Tb3 F O MA' MB' hj ka kb m1 m2 m3 m4 m5 hv e1 e2 e3 => ?_
  subst e3
  have SA' := I.get (Nat.le_refl _) ha MA'
  have SB' := I.get (Nat.le_refl _) hb MB'
  have oA := MA'.ok.1
  have oB := MB'.ok.1
  refine W_tand (T_p0 R G F O SA'.active (sA O) (ev_name F m1) fun h F O => ⟨fun c => W_tand (T_p0 R G F O SB'.active (sB O) (ev_name F m2) fun h F O => ⟨fun c2 => W_tand (W_tcmp (W_name F m3 (W_name F m4 (W_ne (W_truthB ⟨fun c3 => W_tandN ⟨fun _ => ?_, fun e => (nomatch e)⟩, fun c3 => ⟨fun e => (nomatch e), fun _ => W_nil ?_⟩⟩))))), fun c2 => ?_⟩), fun c => ?_⟩)
  rotate_left 1
  · -- the ids are one
    have : ia = ib := by simpa using c3
    refine W_cons (W_ret (W_name F m5 (rt F O (kp _ _ _ _ _ hv MA' MB' ?_ hj ka kb))))
    intro e a f b q1 q2
    rw [e1] at q1; rw [e2] at q2; cases q1; cases q2
    exact this
  · rw [e2] at c2; cases c2
  · rw [e1] at c; cases c
  have c3 : ia ≠ ib := by simpa using c3
  refine W_cons (W_if (W_tcmp (W_name F m3 (W_name F m4 (W_lt (W_truthB ⟨fun c4 => ?_, fun c4 => ?_⟩))))))
  · have c4 : ia < ib := by simpa using c4
    have all : ∀ e ∈ Tb'', ib ≤ e.1 := by rw [e2] at oB ⊢; exact head_le oB
    refine W_cons (W_assign (W_tA1 (SA'.skip rfl ib tb _ _ e1) (fun _ _ q => q.2.2.2) R G F O (ev_name F m1) (ev_name F m4) fun v la2 h F O q => ⟨_, _, F, O, fun h F O => ?_⟩))
    have SA2 := I.get (Nat.le_refl _) ha q.2.1
    have hj2 : ∀ f, joinT f (dropLt ib Ta') Tb'' = joinT f Ta Tb' := fun f => (joinT_dropA all _).trans (hj f)
    refine W_cons (W_if (W_tnot (T_p0 R G F O SA2.active (sA O) (ev_name F ((upd_ne (by decide)).trans m1)) fun h F O => ⟨fun c5 => W_cons (W_ret0 (rt F O (kp _ _ _ _ _ (.inl rfl) q.2.1 MB' ?_ hj2 (ka.trans q.2.2.2) kb))), fun c5 => W_nil ?_⟩)))
    · intro e a f b q1
      rw [q1] at c5; cases c5
    obtain ⟨⟨ja, sja⟩, Ta4, e5⟩ : ∃ e r, dropLt ib Ta' = e :: r := by cases z : dropLt ib Ta' with | nil => rw [z] at c5; simp at c5 | cons e r => exact ⟨e, r, rfl⟩
    refine W_cons (W_assign (g := g) (W_orVn (ev_name F ((upd_ne (by decide)).trans m5)) (ev_name F upd_same) hv q.1 fun v2 hv2 => ⟨_, _, F, O, fun h F O => ?_⟩))
    refine W_cons (S_p0 R G F O (SA2.id _ _ e5) (sA O) (ev_name F ((upd_ne (by decide)).trans ((upd_ne (by decide)).trans m1))) fun v h ⟨t5, e⟩ F O => W_nil (W_nil ?_))
    subst e
    refine ⟨(dropLt ib Ta').length + Tb''.length, by have := dropLt_shorter (a := Ta3) (e := (ia, sa)) c4; rw [← e1] at this; omega, fun C k => k _ la2 lb' _ _ ja ib sja sb t5 tb v2 Ta4 Tb3 F O q.2.1 MB' hj2 (ka.trans q.2.2.2) kb ?_ ?_ upd_same ?_ ?_ hv2 e5 e2 rfl⟩
    · exact (upd_ne (by decide)).trans ((upd_ne (by decide)).trans ((upd_ne (by decide)).trans m1))
    · exact (upd_ne (by decide)).trans ((upd_ne (by decide)).trans ((upd_ne (by decide)).trans m2))
    · exact (upd_ne (by decide)).trans ((upd_ne (by decide)).trans ((upd_ne (by decide)).trans m4))
    · exact (upd_ne (by decide)).trans upd_same
  · have c4 : ib < ia := by have : ib ≤ ia := by simpa using c4
                            omega
    have all : ∀ e ∈ Ta', ia ≤ e.1 := by rw [e1] at oA ⊢; exact head_le oA
    refine W_cons (W_assign (W_tB1 (SB'.skip rfl ia ta _ _ e2) (fun _ _ q => q.2.2.2) R G F O (ev_name F m2) (ev_name F m3) fun v lb2 h F O q => ⟨_, _, F, O, fun h F O => ?_⟩))
    have SB2 := I.get (Nat.le_refl _) hb q.2.1
    have hj2 : ∀ f, joinT f Ta' (dropLt ia Tb'') = joinT f Ta Tb' := fun f => (joinT_dropB all).trans (hj f)
    refine W_cons (W_if (W_tnot (T_p0 R G F O SB2.active (sB O) (ev_name F ((upd_ne (by decide)).trans m2)) fun h F O => ⟨fun c5 => W_cons (W_ret0 (rt F O (kp _ _ _ _ _ (.inl rfl) MA' q.2.1 ?_ hj2 ka (kb.trans q.2.2.2)))), fun c5 => W_nil ?_⟩)))
    · intro e a f b _ q1
      rw [q1] at c5; cases c5
    obtain ⟨⟨ja, sja⟩, Ta4, e5⟩ : ∃ e r, dropLt ia Tb'' = e :: r := by cases z : dropLt ia Tb'' with | nil => rw [z] at c5; simp at c5 | cons e r => exact ⟨e, r, rfl⟩
    refine W_cons (W_assign (g := g) (W_orVn (ev_name F ((upd_ne (by decide)).trans m5)) (ev_name F upd_same) hv q.1 fun v2 hv2 => ⟨_, _, F, O, fun h F O => ?_⟩))
    refine W_cons (S_p0 R G F O (SB2.id _ _ e5) (sB O) (ev_name F ((upd_ne (by decide)).trans ((upd_ne (by decide)).trans m2))) fun v h ⟨t5, e⟩ F O => W_nil (W_nil ?_))
    subst e
    refine ⟨Ta'.length + (dropLt ia Tb'').length, by have := dropLt_shorter (a := Tb3) (e := (ib, sb)) c4; rw [← e2] at this; omega, fun C k => k _ la' lb2 _ _ ia ja sa sja ta t5 v2 Ta3 Ta4 F O MA' q.2.1 hj2 ka (kb.trans q.2.2.2) ?_ ?_ ?_ upd_same ?_ hv2 e1 e5 rfl⟩
    · exact (upd_ne (by decide)).trans ((upd_ne (by decide)).trans ((upd_ne (by decide)).trans m1))
    · exact (upd_ne (by decide)).trans ((upd_ne (by decide)).trans ((upd_ne (by decide)).trans m2))
    · exact (upd_ne (by decide)).trans ((upd_ne (by decide)).trans ((upd_ne (by decide)).trans m3))
    · exact (upd_ne (by decide)).trans upd_same
end
end Mine
end
section
set_option maxRecDepth 10000
namespace Mine
variable {prog : Program} {w : World} {K : Frag} {ro : List (Addr × Obj)}
section
variable {A : Around} {z : Shared} {g h : Heap} {L : Addr} {m : Str → Option Value} {led : Led} {env : Env}
theorem W_or3Vn {e₁ e₂ e₃ : Expr} {v₁ v₂ v₃ : Value} {pos : Pos} {Q : Value → Heap → Prop} (h1 : Ev prog w A z env h e₁ v₁) (h2 : Ev prog w A z env h e₂ v₂) (h3 : Ev prog w A z env h e₃ v₃) (p1 : Vn v₁) (p2 : Vn v₂) (p3 : Vn v₃) (q : ∀ v, Vn v → Q v h) :
    Wp (model prog w) A z (eval (.BoolOp .Or [e₁, e₂, e₃] pos) env) Q h :=
  W_or (h1.go (W_truthVn p1 fun b => ⟨fun _ => q _ p1, fun _ => W_orVn h2 h3 p2 p3 q⟩))
/-- a turning call upon the first part, the rest stays; for the whole node -/
theorem meet_nilA {b : Tb} : MeetT [] b := fun e a f b q => nomatch q
theorem meet_nilB {a : Tb} : MeetT a [] := fun e a f b _ q => nomatch q
end
section
variable {n na nb bb : Nat} {d x xa xb : Addr} {la lb : Led} {Ta Tb' : Tb} {φ : (Str → Option Value) → Prop}
theorem i_findfirst (k : KOk K) (I : IH prog w K ro n) (ha : na < n) (hb : nb < n) (MA : MRep ro true na la xa Ta) (MB : MRep ro true nb lb xb Tb') (hφ : ∀ fs, φ fs → φBi xa xb fs) :
    Can prog w K ro (12 * n + 2) x "_find_first" [] (nodeB bb d x cInter φ ++ (la ++ lb)) fun v l => v = .none ∧ ∃ la' lb', l = nodeB bb d x cInter φ ++ (la' ++ lb') ∧ Met ro na nb xa xb la lb Ta Tb' la' lb' ∧ (MeetT Ta Tb' → la' = la ∧ lb' = lb) := by
  refine can k.c_inter k.m_inter_find_first ?_
  refine does_enter k.fn_IntersectionMatcher_find_first [("self", .ref x)] (fun s _ _ _ _ _ _ _ => BindsTo.of_eq rfl) (locs rfl) ?_
  intro A z g L h R0 G F O
  have R := R0.le (k' := 12 * n) (by omega)
  have SA := I.get (Nat.le_refl _) ha MA
  have SB := I.get (Nat.le_refl _) hb MB
  have same : MeetT Ta Tb' → Met ro na nb xa xb la lb Ta Tb' la lb := fun i => ⟨_, _, MA, MB, i, fun _ => rfl, Keeps.refl, Keeps.refl⟩
  refine W_cons (W_if (W_tand (T_p0 R G F O SA.active (sA O) (ev_field F G O k.c_inter k.d_inter_a Sf.node fun fs q => (hφ fs q).1) fun h F O => ⟨fun c => W_tand (T_p0 R G F O SB.active (sB O) (ev_field F G O k.c_inter k.d_inter_b Sf.node fun fs q => (hφ fs q).2) fun h F O => ⟨fun c2 => ?_, fun c2 => ⟨fun e => (nomatch e), fun _ => W_nil (W_nil ⟨_, _, F, O, rfl, la, lb, rfl, same ?_, fun _ => ⟨rfl, rfl⟩⟩)⟩⟩), fun c => ⟨fun e => (nomatch e), fun _ => W_nil (W_nil ⟨_, _, F, O, rfl, la, lb, rfl, same ?_, fun _ => ⟨rfl, rfl⟩⟩)⟩⟩)))
  rotate_left 1
  · have : Tb' = [] := by first | exact nil1 (by assumption) | exact nil2 (by assumption) | exact nil3 (by assumption)
    rw [this]; exact meet_nilB
  · have : Ta = [] := by first | exact nil1 (by assumption) | exact nil2 (by assumption) | exact nil3 (by assumption)
    rw [this]; exact meet_nilA
  first | refine consP c fun ia sa Ta0 e1 => ?_ | refine consP2 c fun ia sa Ta0 e1 => ?_
  first | refine consP c2 fun ib sb Tb0 e2 => ?_ | refine consP2 c2 fun ib sb Tb0 e2 => ?_
  refine W_tand (W_tcmp (W_p0 (SA.id _ _ e1) R G F O (sA O) (ev_field F G O k.c_inter k.d_inter_a Sf.node fun fs q => (hφ fs q).1) fun v h F O ⟨t, e⟩ => W_p0 (SB.id _ _ e2) R G F O (sB O) (ev_field F G O k.c_inter k.d_inter_b Sf.node fun fs q => (hφ fs q).2) fun v2 h F O ⟨t2, e3⟩ => ?_))
  subst e e3
  refine W_ne (W_truthB ⟨fun c3 => W_tandN ⟨fun _ => ?_, fun e => (nomatch e)⟩, fun c3 => ⟨fun e => (nomatch e), fun _ => W_nil (W_nil ⟨_, _, F, O, rfl, la, lb, rfl, same ?_, fun _ => ⟨rfl, rfl⟩⟩)⟩⟩)
  · have c3 : ia ≠ ib := by simpa using c3
    refine W_cons (W_expr (W_tS0 (i_findnext k I ha hb MA MB hφ e1 e2 c3) (fun v l ⟨_, la', lb', e, q0⟩ => by rw [e]; exact (q0.ka.app q0.kb).node) (R0.le (by omega)) G F O (ev_name F) fun v l h F O ⟨hv, la', lb', e, q⟩ => ⟨fun a e => ?_, W_nil (W_nil ⟨_, _, F, O, rfl, la', lb', e, q, fun i => ?_⟩)⟩))
    · rcases hv with rfl | ⟨b, rfl⟩ <;> cases e
    · exact absurd (i _ _ _ _ e1 e2) c3
  · have c3 : ia = ib := by simpa using c3
    intro e a f b q1 q2
    rw [e1] at q1; rw [e2] at q2; cases q1; cases q2
    exact c3
/-- IntersectionMatcher(a, b) -/
theorem mk_inter (P : PrOk prog) (k : KOk K) (I : IH prog w K ro n) (MA : MRep ro true na la xa Ta) (MB : MRep ro true nb lb xb Tb') (ha : na < n) (hb : nb < n) :
    Does prog w K ro (12 * n + 4) (.ref cInter) [.ref xa, .ref xb] [] (la ++ lb) fun v l => ∃ d y la' lb', v = .ref y ∧ l = nodeC d y cInter (φBi xa xb) ++ (la' ++ lb') ∧ Met ro na nb xa xb la lb Ta Tb' la' lb' ∧ (MeetT Ta Tb' → la' = la ∧ lb' = lb) := by
  refine does_make k.i_inter fun x d => ?_
  refine does_super (kk := k) P k.s_inter k.fn_IntersectionMatcher_init [("self", .ref x), ("a", .ref xa), ("b", .ref xb)] (fun s _ _ _ _ _ _ _ => BindsTo.of_eq rfl) (locs rfl) rfl
    (avals := [.ref xa, .ref xb]) (fun A z g L h Q F q => W_argsC (W_name F rfl (W_argsC (W_name F rfl (W_argsN q))))) (bi_init (j := 12 * n + 1) (own := la ++ lb) k k.c_inter k.d_inter_a k.d_inter_b) (fun v l ⟨_, e⟩ => by rw [e]; exact Keeps.refl.node) ?_
  intro A z g L h v l R G F O ⟨e, e2⟩
  subst e e2
  refine W_cons (W_expr (W_tS0 (i_findfirst k I ha hb MA MB fun fs q => q.1) (fun v l ⟨_, la', lb', e, q0, _⟩ => by rw [e]; exact (q0.ka.app q0.kb).node) R G F O (ev_name F) fun v l h F O ⟨e, la', lb', e2, q⟩ => ?_))
  subst e e2
  exact ⟨fun a e => (nomatch e), W_nil ⟨_, nodeC d x cInter (φBi xa xb) ++ (la' ++ lb'), F, O.weaken fun o q => dictB.mono (φ := φNew xa xb) (φ' := φBi xa xb) q (by decide) fun fs q => q.1, rfl, d, x, la', lb', rfl, rfl, q⟩⟩
theorem made_inter (P : PrOk prog) (k : KOk K) (I : IH prog w K ro n) (p : Bool) (ha : na < n) (hb : nb < n) (inv : MeetT Ta Tb') : MadeN prog w K ro (12 * n + 5) f_IntersectionMatcher_made x p n true true na nb Ta Tb' (joinT (· + ·) Ta Tb') := by
  intro ya yb oa ob Ma Mb nd
  refine does_enter k.fn_IntersectionMatcher_made [("self", .ref x), ("a", .ref ya), ("b", .ref yb)] (fun s _ _ _ _ _ _ _ => BindsTo.of_eq rfl) (locs rfl) ?_
  intro A z g L h R G F O
  refine W_cons (W_ret (W_fcall (W_global F G k.g_IntersectionMatcher.1 (W_callWithE G k.g_IntersectionMatcher.2 (W_argsC (W_name F rfl (W_argsC (W_name F rfl (W_argsN ⟨G.kin.keeps F.keep, Cd.call ?_⟩)))))))))
  refine Does.use (rest := []) (mk_inter P k I Ma Mb ha hb) R G F (by rw [List.append_nil]; exact O) (fun v l ⟨d, y, la', lb', _, e, q0, _⟩ => by rw [e]; exact fun p hp f => List.mem_append_right _ (q0.ka.app q0.kb p hp f)) fun v l h F O ⟨d, y, la', lb', e, e2, _, t4⟩ => ?_
  obtain ⟨e3, e4⟩ := t4 inv
  subst e
  rw [e2, List.append_nil, e3, e4] at O
  exact ⟨_, _, F, O, _, rfl, y, rfl, .inter ha hb Ma Mb inv⟩
theorem i_next (k : KOk K) (I : IH prog w K ro n) (ha : na < n) (hb : nb < n) (MA : MRep ro true na la xa Ta) (MB : MRep ro true nb lb xb Tb') (hφ : ∀ fs, φ fs → φBi xa xb fs) (inv : MeetT Ta Tb') {ea eb : Int × Int} {Ta0 Tb0 : Tb} (eA : Ta = ea :: Ta0) (eB : Tb' = eb :: Tb0) :
    Can prog w K ro (12 * n + 2) x "next" [] (nodeB bb d x cInter φ ++ (la ++ lb)) fun v l => Vn v ∧ ∃ la' lb', l = nodeB bb d x cInter φ ++ (la' ++ lb') ∧ Met ro na nb xa xb la lb Ta0 Tb' la' lb' := by
  refine can k.c_inter k.m_inter_next ?_
  refine does_enter k.fn_IntersectionMatcher_next [("self", .ref x)] (fun s _ _ _ _ _ _ _ => BindsTo.of_eq rfl) (locs rfl) ?_
  intro A z g L h R0 G F O
  have R := R0.le (k' := 12 * n) (by omega)
  have SA := I.get (Nat.le_refl _) ha MA
  have SB := I.get (Nat.le_refl _) hb MB
  refine W_cons (W_if (W_tnot (T_p0 (R0.le (by omega)) G F O (i_active k SA SB hφ) (Sub.refl O) (ev_name F) fun h F O => ⟨fun c => ?_, fun c => W_nil ?_⟩)))
  · rw [eA, eB] at c; cases c
  refine W_cons (W_assign (W_tA0 (SA.next _ _ eA) (fun _ _ q => q.2.2) R G F O (ev_field F G O k.c_inter k.d_inter_a Sf.node fun fs q => (hφ fs q).1) fun v la' h F O q => ⟨_, _, F, O, fun h F O => ?_⟩))
  have SA' := I.get (Nat.le_refl _) ha q.2.1
  refine W_cons (W_if (T_p0 (R0.le (by omega)) G F O (i_active k SA' SB hφ) (Sub.refl O) (ev_name F) fun h F O => ⟨fun c => ?_, fun c => W_nil (W_nil ⟨_, _, F, O, .inl rfl, la', lb, rfl, _, _, q.2.1, MB, ?_, fun _ => rfl, q.2.2, Keeps.refl⟩)⟩))
  · refine consE (Bool.and_eq_true_iff.mp c).1 fun fa Ta3 e3 => ?_
    have ne : fa.1 ≠ eb.1 := by
      have s := MA.ok.1
      have e := inv _ _ _ _ eA eB
      rw [eA, e3] at s
      have := s.head fa (List.mem_cons_self ..)
      omega
    refine W_cons (W_assign (g := g) (W_tS0 (i_findnext k I ha hb q.2.1 MB hφ e3 eB ne) (fun v l ⟨_, la', lb', e, q0⟩ => by rw [e]; exact (q0.ka.app q0.kb).node) (R0.le (by omega)) G F O (ev_name F) fun v2 l h F O ⟨hv, la2, lb2, e, q0⟩ => q0.elim fun Ta' Tb'' r1 r2 r3 r4 r5 r6 => ⟨_, _, F, O, fun h F O => ?_⟩))
    subst e
    exact W_cons (W_ret (W_orVn (ev_name F ((upd_ne (by decide)).trans upd_same)) (ev_name F upd_same) q.1 hv fun v3 hv3 => ⟨_, _, F, O, hv3, la2, lb2, rfl, Ta', Tb'', r1, r2, r3, r4, q.2.2.trans r5, r6⟩))
  · rw [eB] at c
    have : Ta0 = [] := nil1 ((Bool.and_true _).symm.trans c)
    rw [this]; exact meet_nilA
theorem i_skip (k : KOk K) (I : IH prog w K ro n) (ha : na < n) (hb : nb < n) (MA : MRep ro true na la xa Ta) (MB : MRep ro true nb lb xb Tb') (hφ : ∀ fs, φ fs → φBi xa xb fs) (inv : MeetT Ta Tb') {ea eb : Int × Int} {Ta0 Tb0 : Tb} (eA : Ta = ea :: Ta0) (eB : Tb' = eb :: Tb0) (i : Int) (tk : Tok) :
    Can prog w K ro (12 * n + 2) x "skip_to" [.int i tk] (nodeB bb d x cInter φ ++ (la ++ lb)) fun v l => Vn v ∧ ∃ la' lb', l = nodeB bb d x cInter φ ++ (la' ++ lb') ∧ Met ro na nb xa xb la lb (dropLt i Ta) (dropLt i Tb') la' lb' ∧ (i ≤ ea.1 → la' = la ∧ lb' = lb) := by
  refine can k.c_inter k.m_inter_skip_to ?_
  refine does_enter k.fn_IntersectionMatcher_skip_to [("self", .ref x), ("id", .int i tk)] (fun s _ _ _ _ _ _ _ => BindsTo.of_eq rfl) (locs rfl) ?_
  intro A z g L h R0 G F O
  have R := R0.le (k' := 12 * n) (by omega)
  have SA := I.get (Nat.le_refl _) ha MA
  have SB := I.get (Nat.le_refl _) hb MB
  have hh := inv _ _ _ _ eA eB
  refine W_cons (W_if (W_tnot (T_p0 (R0.le (by omega)) G F O (i_active k SA SB hφ) (Sub.refl O) (ev_name F) fun h F O => ⟨fun c => ?_, fun c => W_nil ?_⟩)))
  · rw [eA, eB] at c; cases c
  refine W_cons (W_assign (W_tA1 (SA.skip rfl i tk _ _ eA) (fun _ _ q => q.2.2.2) R G F O (ev_field F G O k.c_inter k.d_inter_a Sf.node fun fs q => (hφ fs q).1) (ev_name F) fun va la' h F O qa => ⟨_, _, F, O, fun h F O => ?_⟩))
  refine W_cons (W_assign (W_tB1 (SB.skip rfl i tk _ _ eB) (fun _ _ q => q.2.2.2) R G F O (ev_field F G O k.c_inter k.d_inter_b Sf.node fun fs q => (hφ fs q).2) (ev_name F) fun vb lb' h F O qb => ⟨_, _, F, O, fun h F O => ?_⟩))
  have SA' := I.get (Nat.le_refl _) ha qa.2.1
  have SB' := I.get (Nat.le_refl _) hb qb.2.1
  have stay : i ≤ ea.1 → la' = la ∧ lb' = lb := fun c => ⟨qa.2.2.1 c, qb.2.2.1 (by omega)⟩
  refine W_cons (W_if (T_p0 (R0.le (by omega)) G F O (i_active k SA' SB' hφ) (Sub.refl O) (ev_name F) fun h F O => ⟨fun c => ?_, fun c => W_nil (W_nil ⟨_, _, F, O, .inl rfl, la', lb', rfl, ⟨_, _, qa.2.1, qb.2.1, ?_, fun _ => rfl, qa.2.2.2, qb.2.2.2⟩, stay⟩)⟩))
  · obtain ⟨fa, Ta3, e3⟩ : ∃ e r, dropLt i Ta = e :: r := by cases z : dropLt i Ta with | nil => rw [z] at c; simp at c | cons e r => exact ⟨e, r, rfl⟩
    obtain ⟨fb, Tb3, e4⟩ : ∃ e r, dropLt i Tb' = e :: r := by cases z : dropLt i Tb' with | nil => rw [z] at c; simp at c | cons e r => exact ⟨e, r, rfl⟩
    refine W_cons (W_assign (W_cbool ⟨_, _, F, O, fun h F O => ?_⟩))
    refine W_cons (W_if (W_tcmp (W_p0 (SA'.id _ _ e3) R G F O (sA O) (ev_field F G O k.c_inter k.d_inter_a Sf.node fun fs q => (hφ fs q).1) fun v h F O ⟨t, e⟩ => W_p0 (SB'.id _ _ e4) R G F O (sB O) (ev_field F G O k.c_inter k.d_inter_b Sf.node fun fs q => (hφ fs q).2) fun v2 h F O ⟨t2, e5⟩ => ?_)))
    subst e e5
    refine W_ne (W_truthB ⟨fun c3 => ?_, fun c3 => W_nil ?_⟩)
    · have c3 : fa.1 ≠ fb.1 := by simpa using c3
      refine W_cons (W_assign (g := g) (W_tS0 (i_findnext k I ha hb qa.2.1 qb.2.1 hφ e3 e4 c3) (fun v l ⟨_, la', lb', e, q0⟩ => by rw [e]; exact (q0.ka.app q0.kb).node) (R0.le (by omega)) G F O (ev_name F) fun v2 l h F O ⟨hv, la2, lb2, e, q0⟩ => q0.elim fun Ta' Tb'' r1 r2 r3 r4 r5 r6 => ⟨_, _, F, O, fun h F O => W_nil ?_⟩))
      subst e
      refine W_cons (W_ret (W_or3Vn (ev_name F ((upd_ne (by decide)).trans ((upd_ne (by decide)).trans ((upd_ne (by decide)).trans upd_same)))) (ev_name F ((upd_ne (by decide)).trans ((upd_ne (by decide)).trans upd_same))) (ev_name F upd_same) qa.1 qb.1 hv fun v3 hv3 => ⟨_, _, F, O, hv3, la2, lb2, rfl, ⟨Ta', Tb'', r1, r2, r3, r4, qa.2.2.2.trans r5, qb.2.2.2.trans r6⟩, fun c => ?_⟩))
      rw [eA, dropLt_ge c] at e3
      rw [eB, dropLt_ge (by omega)] at e4
      cases e3; cases e4
      exact absurd hh c3
    · have c3 : fa.1 = fb.1 := by simpa using c3
      refine W_cons (W_ret (W_or3Vn (ev_name F ((upd_ne (by decide)).trans ((upd_ne (by decide)).trans upd_same))) (ev_name F ((upd_ne (by decide)).trans upd_same)) (ev_name F upd_same) qa.1 qb.1 (.inr ⟨_, rfl⟩) fun v3 hv3 => ⟨_, _, F, O, hv3, la', lb', rfl, ⟨_, _, qa.2.1, qb.2.1, ?_, fun _ => rfl, qa.2.2.2, qb.2.2.2⟩, stay⟩))
      intro e a f b q1 q2
      rw [e3] at q1; rw [e4] at q2; cases q1; cases q2
      exact c3
  · intro e a f b q1 q2
    rw [q1, q2] at c; cases c
end
end Mine
end
section
set_option maxRecDepth 10000
namespace Mine
variable {prog : Program} {w : World} {K : Frag} {ro : List (Addr × Obj)}
section
variable {n na nb : Nat} {p : Bool} {d x xa xb : Addr} {la lb : Led} {Ta Tb' : Tb}
set_option maxHeartbeats 2000000 in
theorem i_repl (P : PrOk prog) (k : KOk K) (I : IH prog w K ro n) (MA : MRep ro true na la xa Ta) (MB : MRep ro true nb lb xb Tb') (ha : na < n) (hb : nb < n) (inv : MeetT Ta Tb') {args : List Value} (hargs : args = [] ∨ ∃ i tk, i ≤ 0 ∧ args = [.int i tk]) :
    Does prog w K ro (12 * n + 8) (.ref f_IntersectionMatcher_replace) (.ref x :: args) [] (nodeC d x cInter (φBi xa xb) ++ (la ++ lb)) (ReplPost ro p n (nodeC d x cInter (φBi xa xb) ++ (la ++ lb)) (joinT (· + ·) Ta Tb')) := by
  have SA := I.get (Nat.le_refl _) ha MA
  have SB := I.get (Nat.le_refl _) hb MB
  refine does_repl k.fn_IntersectionMatcher_replace k.v_IntersectionMatcher_replace hargs ?_
  intro i tk hi A z g L h R0 G F O
  have R : Room A (12 * n) := R0.le (by omega)
  refine W_cons (S_ev F O (ev_field F G O k.c_inter k.d_inter_a Sf.node fun fs q => q.1) fun h F O => ?_)
  refine W_cons (S_ev F O (ev_field F G O k.c_inter k.d_inter_b Sf.node fun fs q => q.2) fun h F O => ?_)
  refine W_cons (S_p0 R G F O SA.active (sA O) (ev_name F) fun v h e1 F O => ?_)
  subst e1
  refine W_cons (S_p0 R G F O SB.active (sB O) (ev_name F) fun v h e1 F O => ?_)
  subst e1
  refine W_cons (W_if (W_tnot (T_and2 F rfl rfl ⟨fun c => ?_, fun c => W_nil ?_⟩)))
  · refine W_cons (S_retNull (k := 12 * n) k (R0.le (by omega)) G F O fun d' y h F O => ⟨_, _, F, O, _, rfl, y, _, rfl, O.subL, ?_⟩)
    have z1 : joinT (· + ·) Ta Tb' = [] := by
      have := meet_empty (f := (· + ·)) inv
      cases z : joinT (· + ·) Ta Tb' with
      | nil => rfl
      | cons _ _ => rw [z] at this; cases q : Ta.isEmpty <;> cases q2 : Tb'.isEmpty <;> simp_all
    rw [z1]; exact .null
  have rest : ∀ h m i1 i2 t1 t2, Fr g L h m → Ow g L h (nodeC d x cInter (φBi xa xb) ++ (la ++ lb)) → m "self" = some (.ref x) → m "a" = some (.ref xa) → m "b" = some (.ref xb) → m "a_min" = some (.int i1 t1) → m "b_min" = some (.int i2 t2) → i1 ≤ 0 → i2 ≤ 0 →
      Wp (model prog w) A z (execs ((defBody rf_IntersectionMatcher_replace.st).drop 6) (envX rf_IntersectionMatcher_replace.qual (defScope rf_IntersectionMatcher_replace.st) L f_IntersectionMatcher_replace rf_IntersectionMatcher_replace.cdv rf_IntersectionMatcher_replace.cl)) (Ret g L (ReplPost ro p n (nodeC d x cInter (φBi xa xb) ++ (la ++ lb)) (joinT (· + ·) Ta Tb'))) h := by
    intro h m i1 i2 t1 t2 F O m1 m2 m3 m4 m5 h1 h2
    refine W_cons (W_assign (g := g) (W_n1 (SA.repl _ (.inr ⟨i1, t1, h1, rfl⟩)) R G F O (sA O) (ev_name F m2) (ev_name F m4) fun v nwa h F O ⟨ya, oa, e, sa, Ma⟩ => ⟨_, _, F, O, fun h F O => ?_⟩))
    subst e
    have SA' := I.get (Nat.le_refl _) ha Ma
    refine W_cons (W_assign (g := g) (W_n1 (SB.repl _ (.inr ⟨i2, t2, h2, rfl⟩)) R G F O ((sB O.right).trans O.subR) (ev_name F ((upd_ne (by decide)).trans m3)) (ev_name F ((upd_ne (by decide)).trans m5)) fun v nwb h F O ⟨yb, ob, e, sb, Mb⟩ => ⟨_, _, F, O, fun h F O => ?_⟩))
    subst e
    have SB' := I.get (Nat.le_refl _) hb Mb
    have sab := sa.pair sb O.nd
    have na' : Sub oa (nwb ++ (nwa ++ (nodeC d x cInter (φBi xa xb) ++ (la ++ lb)))) := ⟨fun e he => sab.mem e (List.mem_append_left _ he), sa.nd⟩
    have nb' : Sub ob (nwb ++ (nwa ++ (nodeC d x cInter (φBi xa xb) ++ (la ++ lb)))) := ⟨fun e he => sab.mem e (List.mem_append_right _ he), sb.nd⟩
    refine W_cons (S_p0 R G F O SA'.active na' (ev_name F ((upd_ne (by decide)).trans upd_same)) fun v h e1 F O => ?_)
    subst e1
    refine W_cons (S_p0 R G F O SB'.active nb' (ev_name F ((upd_ne (by decide)).trans upd_same)) fun v h e1 F O => ?_)
    subst e1
    have Snode : Sf (nwb ++ (nwa ++ (nodeC d x cInter (φBi xa xb) ++ (la ++ lb)))) x cInter (φBi xa xb) := (Sf.node (rest := la ++ lb)).mono fun e he => List.mem_append_right _ (List.mem_append_right _ he)
    have c1 : (!Ta.isEmpty) = true := by cases q : Ta.isEmpty <;> cases q2 : Tb'.isEmpty <;> simp_all
    have c2 : (!Tb'.isEmpty) = true := by cases q : Ta.isEmpty <;> cases q2 : Tb'.isEmpty <;> simp_all
    refine W_cons (W_if (W_tnot (T_or2 F ((upd_ne (by decide)).trans upd_same) upd_same ⟨fun q => ?_, fun _ => ?_⟩)))
    · rw [c1] at q; cases q
    refine W_cons (W_if (W_tnot (T_nameB F ((upd_ne (by decide)).trans upd_same) ⟨fun q => ?_, fun _ => ?_⟩)))
    · rw [c1] at q; cases q
    refine W_cons (W_if (W_tnot (T_nameB F upd_same ⟨fun q => ?_, fun _ => ?_⟩)))
    · rw [c2] at q; cases q
    have ms : (upd (upd (upd (upd m "a" (.ref ya)) "b" (.ref yb)) "a_active" (.bool !Ta.isEmpty)) "b_active" (.bool !Tb'.isEmpty)) "self" = some (.ref x) := (upd_ne (by decide)).trans ((upd_ne (by decide)).trans ((upd_ne (by decide)).trans ((upd_ne (by decide)).trans m1)))
    refine W_cons (W_if (T_neq2 O (ev_name (v := .ref ya) F rfl) (ev_field (v := .ref xa) F G O k.c_inter k.d_inter_a Snode (fun fs q => q.1) ms) (ev_name (v := .ref yb) F rfl) (ev_field (v := .ref xb) F G O k.c_inter k.d_inter_b Snode (fun fs q => q.2) ms) Ma MA Mb MB
      na'.mem (fun e he => by simp [he]) nb'.mem (fun e he => by simp [he]) ⟨fun c => ?_, fun c => ?_⟩))
    · refine W_cons (W_ret (W_made (k := 12 * n + 5) Snode k.c_inter k.m_inter_made (made_inter P k I p ha hb inv) Ma Mb sab (R0.le (by omega)) G F O (ev_name F ms) (ev_name F rfl) (ev_name F rfl) fun v l h F O q => ⟨_, _, F, O, q⟩))
    · refine W_cons (W_ret (W_name F ms ⟨_, _, F, O, nwb ++ nwa, (List.append_assoc ..).symm, x, _, rfl, ?_, .inter (d := d) ha hb MA MB inv⟩))
      rw [List.append_assoc]
      exact O.right.right |> fun o => ⟨fun e he => List.mem_append_right _ (List.mem_append_right _ he), o.nd⟩
  refine W_cons (W_if (T_nameI F rfl ⟨fun c1 => ?_, fun c1 => ?_⟩))
  · refine W_cons (S_p0 R G F O SA.maxq (sA O) (ev_name F) fun v h ⟨qa, ⟨ta, e1⟩, ea⟩ F O => ?_)
    subst e1
    refine W_cons (S_p0 R G F O SB.maxq (sB O) (ev_name F) fun v h ⟨qb, ⟨tb, e1⟩, eb⟩ F O => ?_)
    subst e1
    refine W_cons (W_if (W_tcmp (W_bin (W_name F rfl (W_name F rfl (W_add fun tk => W_name F rfl (W_lt (W_truthB ⟨fun c3 => ?_, fun c3 => W_nil ?_⟩))))))))
    · have : qa + qb < i := by simpa using c3
      omega
    refine W_cons (W_assign (W_bin (W_name F rfl (W_name F rfl (W_sub fun tk1 => ⟨_, _, F, O, fun h F O => ?_⟩)))))
    refine W_cons (W_assign (W_bin (W_name F rfl (W_name F rfl (W_sub fun tk2 => ⟨_, _, F, O, fun h F O => W_nil ?_⟩)))))
    exact rest _ _ (i - qb) (i - qa) tk1 tk2 F O rfl rfl rfl rfl upd_same (by omega) (by omega)
  · refine W_cons (W_assign2 (W_cint fun tk => ⟨_, _, F, O, fun h F O => W_nil ?_⟩))
    exact rest _ _ 0 0 tk tk F O rfl rfl rfl rfl upd_same (Int.le_refl _) (Int.le_refl _)
theorem spec_inter (P : PrOk prog) (k : KOk K) (I : IH prog w K ro n) (MA : MRep ro true na la xa Ta) (MB : MRep ro true nb lb xb Tb') (ha : na < n) (hb : nb < n) (inv : MeetT Ta Tb') :
    SpecAt prog w K ro (12 * n + 12) p n (nodeC d x cInter (φBi xa xb) ++ (la ++ lb)) x (joinT (· + ·) Ta Tb') := by
  have SA := I.get (Nat.le_refl _) ha MA
  have SB := I.get (Nat.le_refl _) hb MB
  exact {
    active := ((i_active k SA SB fun fs q => q).mono fun v l q => ⟨q.1, by rw [q.2, meet_empty inv]; cases Ta.isEmpty <;> cases Tb'.isEmpty <;> rfl⟩).le (by omega)
    id := fun e T' q => by
      obtain ⟨s, t, a', b', e1, e2, e3, e4⟩ := meet_head inv q
      refine can k.c_inter k.m_inter_id (k := 12 * n + 12) ?_
      refine does_enter k.fn_IntersectionMatcher_id [("self", .ref x)] (fun s _ _ _ _ _ _ _ => BindsTo.of_eq rfl) (locs rfl) ?_
      intro A z g L h R G F O
      exact W_cons (W_ret (W_p0 (SA.id _ _ e1) (R.le (by omega)) G F O (sA O) (ev_field F G O k.c_inter k.d_inter_a Sf.node fun fs q => q.1) fun v h F O q => ⟨_, _, F, O, rfl, q⟩))
    score := fun e T' q => by
      obtain ⟨s, t, a', b', e1, e2, e3, e4⟩ := meet_head inv q
      rw [e3]
      exact can k.c_inter k.m_inter_score ((add_score k k.c_inter k.d_inter_a k.d_inter_b (fun fs q => q) SA SB e1 e2).le (by omega))
    next := fun e T' q => by
      obtain ⟨s, t, a', b', e1, e2, e3, e4⟩ := meet_head inv q
      refine ((i_next k I ha hb MA MB (fun fs q => q) inv e1 e2).mono fun v l ⟨hv, la', lb', e, q0⟩ => q0.elim fun Ta' Tb'' r1 r2 r3 r4 r5 r6 => ⟨hv, ?_, ?_⟩).le (by omega)
      · rw [e, e4, ← r4]; exact .inter ha hb r1 r2 r3
      · rw [e]; exact (r5.app r6).node
    maxq := can k.c_inter k.m_inter_max_quality ((add_maxq k k.c_inter k.d_inter_a k.d_inter_b (fun fs q => q) SA SB).le (by omega))
    copy := can k.c_inter k.m_inter_copy ((bi_copy k k.c_inter k.d_inter_a k.d_inter_b k.m_inter_made (fun fs q => q) (Spec.le SA (by omega)) (Spec.le SB (by omega)) (made_inter P k I p ha hb inv)).le (by omega))
    repl := fun args q => can k.c_inter k.m_inter_replace ((i_repl P k I MA MB ha hb inv q).le (by omega))
    skip := fun pt i tk e T' q => by
      obtain ⟨s, t, a', b', e1, e2, e3, e4⟩ := meet_head inv q
      refine ((i_skip k I ha hb MA MB (fun fs q => q) inv e1 e2 i tk).mono fun v l ⟨hv, la', lb', e, ⟨Ta', Tb'', r1, r2, r3, r4, r5, r6⟩, st⟩ => ⟨hv, ?_, fun c => ?_, ?_⟩).le (by omega)
      · rw [e, joinT_dropLt MA.ok.1, ← r4]; exact .inter ha hb r1 r2 r3
      · rw [e, (st c).1, (st c).2]
      · rw [e]; exact (r5.app r6).node }
end
end Mine
end
section
set_option maxRecDepth 10000
namespace Mine
variable {prog : Program} {w : World} {K : Frag} {ro : List (Addr × Obj)}
noncomputable def InvN (a b : Tb) : Prop := ∀ e T', a = e :: T' → lk e.1 b = none
theorem diffT_cons (e : Int × Int) (a b : Tb) : diffT (e :: a) b = if (lk e.1 b).isNone then e :: diffT a b else diffT a b := by
  unfold diffT
  rw [List.filter_cons]
theorem diffT_drop {i : Int} {b : Tb} : ∀ {a : Tb}, (∀ e ∈ a, i ≤ e.1) → diffT a (dropLt i b) = diffT a b
  | [], _ => rfl
  | e :: a, h => by rw [diffT_cons, diffT_cons, dropLt_lk (h e (List.mem_cons_self ..)), diffT_drop fun g hg => h g (List.mem_cons_of_mem _ hg)]
theorem diff_head {a b : Tb} (h : InvN a b) {e : Int × Int} {T' : Tb} (q : diffT a b = e :: T') : ∃ a', a = e :: a' ∧ T' = diffT a' b := by
  cases a with
  | nil => cases q
  | cons x a =>
    rw [diffT_cons, h x a rfl] at q
    cases q
    exact ⟨a, rfl, rfl⟩
theorem diff_empty {a b : Tb} (h : InvN a b) : (diffT a b).isEmpty = a.isEmpty := by
  cases a with
  | nil => rfl
  | cons x a => rw [diffT_cons, h x a rfl]; rfl
theorem invN_nilA {b : Tb} : InvN [] b := fun e T' q => nomatch q
theorem invN_nilB {a : Tb} : InvN a [] := fun e T' q => rfl
theorem invN_lt {e f : Int × Int} {a b : Tb} (hb : Srt (f :: b)) (h : e.1 < f.1) : InvN (e :: a) (f :: b) := fun x T' q => by
  cases q
  exact lk_head_lt hb fun g V eg => by cases eg; exact h
/-- the first part's head lies outside the second part -/
noncomputable def Apt (ro : List (Addr × Obj)) (pa : Bool) (na nb : Nat) (xa xb : Addr) (la lb : Led) (Ta Tb' : Tb) (la' lb' : Led) : Prop :=
  ∃ Ta' Tb'', MRep ro pa na la' xa Ta' ∧ MRep ro true nb lb' xb Tb'' ∧ InvN Ta' Tb'' ∧ diffT Ta' Tb'' = diffT Ta Tb' ∧ Keeps la la' ∧ Keeps lb lb'
theorem Apt.elim {ro : List (Addr × Obj)} {pa : Bool} {na nb : Nat} {xa xb : Addr} {la lb : Led} {Ta Tb' : Tb} {la' lb' : Led} {C : Prop} (q : Apt ro pa na nb xa xb la lb Ta Tb' la' lb')
    (k : ∀ Ta' Tb'', MRep ro pa na la' xa Ta' → MRep ro true nb lb' xb Tb'' → InvN Ta' Tb'' → diffT Ta' Tb'' = diffT Ta Tb' → Keeps la la' → Keeps lb lb' → C) : C := by
  obtain ⟨a, b, h1, h2, h3, h4, h5, h6⟩ := q
  exact k a b h1 h2 h3 h4 h5 h6
theorem Apt.ka {ro : List (Addr × Obj)} {pa : Bool} {na nb : Nat} {xa xb : Addr} {la lb : Led} {Ta Tb' : Tb} {la' lb' : Led} (q : Apt ro pa na nb xa xb la lb Ta Tb' la' lb') : Keeps la la' := q.elim fun _ _ _ _ _ _ h _ => h
theorem Apt.kb {ro : List (Addr × Obj)} {pa : Bool} {na nb : Nat} {xa xb : Addr} {la lb : Led} {Ta Tb' : Tb} {la' lb' : Led} (q : Apt ro pa na nb xa xb la lb Ta Tb' la' lb') : Keeps lb lb' := q.elim fun _ _ _ _ _ _ _ h => h
section
variable {n na nb bb : Nat} {pa : Bool} {d x xa xb : Addr} {la lb : Led} {Ta Tb' : Tb} {φ : (Str → Option Value) → Prop}
/-- the loop's word -/
noncomputable def InvNN (ro : List (Addr × Obj)) (pa : Bool) (na nb bb : Nat) (d x xa xb : Addr) (la lb : Led) (Ta Tb' : Tb) (φ : (Str → Option Value) → Prop) (g : Heap) (L : Addr) (mz : Nat) (h : Heap) : Prop :=
  ∀ C : Prop, (∀ m la' lb' Ta' Tb'' ia sa ta rv Ta3, Fr g L h m → Ow g L h (nodeB bb d x cAndNot φ ++ (la' ++ lb')) → MRep ro pa na la' xa Ta' → MRep ro true nb lb' xb Tb'' → diffT Ta' Tb'' = diffT Ta Tb' → Keeps la la' → Keeps lb lb' →
    m "pos" = some (.ref xa) → m "neg" = some (.ref xb) → m "pos_id" = some (.int ia ta) → m "r" = some rv → Vn rv → Ta' = (ia, sa) :: Ta3 → (∀ e ∈ Tb'', ia ≤ e.1) → mz = Ta'.length → C) → C
theorem n_findnext (k : KOk K) (I : IH prog w K ro n) (ha : na < n) (hb : nb < n) (MA : MRep ro pa na la xa Ta) (MB : MRep ro true nb lb xb Tb') (hφ : ∀ fs, φ fs → φBi xa xb fs)
    {ea : Int × Int} {Ta0 : Tb} (eA : Ta = ea :: Ta0) :
    Can prog w K ro (12 * n + 1) x "_find_next" [] (nodeB bb d x cAndNot φ ++ (la ++ lb)) fun v l => Vn v ∧ ∃ la' lb', l = nodeB bb d x cAndNot φ ++ (la' ++ lb') ∧ Apt ro pa na nb xa xb la lb Ta Tb' la' lb' := by
  refine Can.via fun post kq => ?_
  have kp : ∀ v la' lb' Ta' Tb'', Vn v → MRep ro pa na la' xa Ta' → MRep ro true nb lb' xb Tb'' → InvN Ta' Tb'' → diffT Ta' Tb'' = diffT Ta Tb' → Keeps la la' → Keeps lb lb' → post v (nodeB bb d x cAndNot φ ++ (la' ++ lb')) := fun v la' lb' Ta' Tb'' q a b c d e f => kq _ _ ⟨q, la', lb', rfl, Ta', Tb'', a, b, c, d, e, f⟩
  clear kq
  refine can k.c_andnot k.m_andnot_find_next ?_
  refine does_enter k.fn_AndNotMatcher_find_next [("self", .ref x)] (fun s _ _ _ _ _ _ _ => BindsTo.of_eq rfl) (locs rfl) ?_
  intro A z g L h R G F O
  have SA := I.get (Nat.le_refl _) ha MA
  have SB := I.get (Nat.le_refl _) hb MB
  refine W_cons (S_ev F O (ev_field F G O k.c_andnot k.d_andnot_a Sf.node fun fs q => (hφ fs q).1) fun h F O => ?_)
  refine W_cons (S_ev F O (ev_field F G O k.c_andnot k.d_andnot_b Sf.node fun fs q => (hφ fs q).2) fun h F O => ?_)
  refine W_cons (W_if (W_tnot (T_p0 R G F O SB.active (sB O) (ev_name F) fun h F O => ⟨fun c => W_cons (W_ret0 (rt F O (kp _ _ _ _ _ (.inl rfl) MA MB ?_ rfl Keeps.refl Keeps.refl))), fun c => W_nil ?_⟩)))
  · have : Tb' = [] := by first | exact nil1 (by assumption) | exact nil2 (by assumption) | exact nil3 (by assumption)
    rw [this]; exact invN_nilB
  first | refine consE c fun eb Tb0 eB => ?_ | refine consE2 c fun eb Tb0 eB => ?_
  refine W_cons (S_p0 R G F O (SA.id _ _ eA) (sA O) (ev_name F) fun v h ⟨t1, e⟩ F O => ?_)
  subst e
  refine W_cons (W_assign (W_cbool ⟨_, _, F, O, fun h F O => ?_⟩))
  have oA := MA.ok.1
  have oB := MB.ok.1
  have allA : ∀ e ∈ Ta, ea.1 ≤ e.1 := by rw [eA] at oA ⊢; exact head_le oA
  -- the loop, the second part standing at or behind the first
  have loop : ∀ h lb0 Tb1, Fr g L h (upd (upd (upd (upd (fun y => ([("self", .ref x)] : List (Str × Value)).reverse.lookup y) "pos" (.ref xa)) "neg" (.ref xb)) "pos_id" (.int ea.1 t1)) "r" (.bool false)) → Ow g L h (nodeB bb d x cAndNot φ ++ (la ++ lb0)) → MRep ro true nb lb0 xb Tb1 → Keeps lb lb0 → diffT Ta Tb1 = diffT Ta Tb' → (∀ e ∈ Tb1, ea.1 ≤ e.1) →
      Wp (model prog w) A z (execs ((defBody rf_AndNotMatcher_find_next.st).drop 6) (envX rf_AndNotMatcher_find_next.qual (defScope rf_AndNotMatcher_find_next.st) L f_AndNotMatcher_find_next rf_AndNotMatcher_find_next.cdv rf_AndNotMatcher_find_next.cl)) (Ret g L post) h := by
    intro h lb0 Tb1 F O M0 hk0 hd0 hall
    refine W_cons (W_while (InvNN ro pa na nb bb d x xa xb la lb Ta Tb' φ g L) _
      (fun C k => k _ la lb0 Ta Tb1 ea.1 ea.2 t1 _ Ta0 F O MA M0 hd0 Keeps.refl hk0 rfl rfl rfl upd_same (.inr ⟨_, rfl⟩) eA hall rfl) ?_)
    intro mz h H
    refine H _ fun m la' lb' Ta' Tb'' ia sa ta rv Ta3 F O MA' MB' hj ka kb m1 m2 m3 m5 hv e1 hge e3 => ?_
    subst e3
    have SA' := I.get (Nat.le_refl _) ha MA'
    have SB' := I.get (Nat.le_refl _) hb MB'
    have oA' := MA'.ok.1
    have oB' := MB'.ok.1
    have out : ∀ h, Fr g L h m → Ow g L h (nodeB bb d x cAndNot φ ++ (la' ++ lb')) → InvN Ta' Tb'' → Wp (model prog w) A z (execs ((defBody rf_AndNotMatcher_find_next.st).drop 7) (envX rf_AndNotMatcher_find_next.qual (defScope rf_AndNotMatcher_find_next.st) L f_AndNotMatcher_find_next rf_AndNotMatcher_find_next.cdv rf_AndNotMatcher_find_next.cl)) (Ret g L post) h :=
      fun h F O i => W_cons (W_ret (W_name F m5 (rt F O (kp _ _ _ _ _ hv MA' MB' i hj ka kb))))
    refine W_tand (T_p0 R G F O SA'.active (sA O) (ev_name F m1) fun h F O => ⟨fun c => W_tand (T_p0 R G F O SB'.active (sB O) (ev_name F m2) fun h F O => ⟨fun c2 => ?_, fun c2 => ⟨fun e => (nomatch e), fun _ => W_nil (out _ F O ?_)⟩⟩), fun c => ?_⟩)
    rotate_left 1
    · have : Tb'' = [] := by first | exact nil1 (by assumption) | exact nil2 (by assumption) | exact nil3 (by assumption)
      rw [this]; exact invN_nilB
    · rw [e1] at c; cases c
    first | refine consP c2 fun ib sb Tb3 e2 => ?_ | refine consP2 c2 fun ib sb Tb3 e2 => ?_
    refine W_tand (W_tcmp (W_name F m3 (W_p0 (SB'.id _ _ e2) R G F O (sB O) (ev_name F m2) fun v h F O ⟨t, e⟩ => ?_)))
    subst e
    refine W_eq (W_truthB ⟨fun c3 => W_tandN ⟨fun _ => ?_, fun e => (nomatch e)⟩, fun c3 => ⟨fun e => (nomatch e), fun _ => W_nil (out _ F O ?_)⟩⟩)
    rotate_left 1
    · have c3 : ia ≠ ib := by simpa using c3
      have : ia ≤ ib := hge (ib, sb) (by rw [e2]; exact List.mem_cons_self ..)
      have oB2 : Srt ((ib, sb) :: Tb3) := e2 ▸ oB'
      rw [e1, e2]
      exact invN_lt oB2 (by show ia < ib; omega)
    have c3 : ia = ib := by simpa using c3
    have hd1 : diffT Ta3 Tb'' = diffT Ta Tb' := by
      have hl : lk ia Tb'' = some sb := by rw [e2, lk_cons]; exact if_pos c3
      rw [← hj, e1, diffT_cons]
      show diffT Ta3 Tb'' = if (lk ia Tb'').isNone = true then _ else _
      rw [hl]; rfl
    refine W_cons (W_assign (W_tA0 (SA'.next _ _ e1) (fun _ _ q => q.2.2) R G F O (ev_name F m1) fun v la2 h F O q => ⟨_, _, F, O, fun h F O => ?_⟩))
    have SA2 := I.get (Nat.le_refl _) ha q.2.1
    refine W_cons (W_if (W_tnot (T_p0 R G F O SA2.active (sA O) (ev_name F ((upd_ne (by decide)).trans m1)) fun h F O => ⟨fun c5 => W_cons (W_break ?_), fun c5 => W_nil ?_⟩)))
    · refine W_cons (W_ret (W_name F ((upd_ne (by decide)).trans m5) (rt F O (kp _ _ _ _ _ hv q.2.1 MB' ?_ hd1 (ka.trans q.2.2) kb))))
      have : Ta3 = [] := by first | exact nil1 (by assumption) | exact nil2 (by assumption) | exact nil3 (by assumption)
      rw [this]; exact invN_nilA
    first | refine consP c5 fun ja sja Ta4 e5 => ?_ | refine consP2 c5 fun ja sja Ta4 e5 => ?_
    refine W_cons (W_assign (g := g) (W_orVn (ev_name F ((upd_ne (by decide)).trans m5)) (ev_name F upd_same) hv q.1 fun v2 hv2 => ⟨_, _, F, O, fun h F O => ?_⟩))
    refine W_cons (S_p0 R G F O (SA2.id _ _ e5) (sA O) (ev_name F ((upd_ne (by decide)).trans ((upd_ne (by decide)).trans m1))) fun v h ⟨t5, e⟩ F O => ?_)
    subst e
    refine W_cons (W_expr (W_tB1 (SB'.skip rfl ja t5 _ _ e2) (fun _ _ q => q.2.2.2) R G F O (ev_name F ((upd_ne (by decide)).trans ((upd_ne (by decide)).trans ((upd_ne (by decide)).trans m2)))) (ev_name F upd_same) fun v3 lb2 h F O q3 => ⟨fun a e => ?_, W_nil ?_⟩))
    · rcases q3.1 with rfl | ⟨b, rfl⟩ <;> cases e
    have allN : ∀ e ∈ Ta3, ja ≤ e.1 := by rw [e1] at oA'; have := oA'.tail; rw [e5] at this ⊢; exact head_le this
    refine ⟨Ta3.length, by rw [e1]; exact Nat.lt_succ_self _, fun C k => k _ la2 lb2 Ta3 _ ja sja t5 v2 Ta4 F O q.2.1 q3.2.1 ((diffT_drop allN).trans hd1) (ka.trans q.2.2) (kb.trans q3.2.2.2) ?_ ?_ upd_same ?_ hv2 e5 (fun e he => (dropLt_mem oB' e he).1) rfl⟩
    · exact (upd_ne (by decide)).trans ((upd_ne (by decide)).trans ((upd_ne (by decide)).trans m1))
    · exact (upd_ne (by decide)).trans ((upd_ne (by decide)).trans ((upd_ne (by decide)).trans m2))
    · exact (upd_ne (by decide)).trans upd_same
  refine W_cons (W_if (W_tcmp (W_p0 (SB.id _ _ eB) R G F O (sB O) (ev_name F) fun v h F O ⟨t, e⟩ => W_name F rfl ?_)))
  subst e
  refine W_lt (W_truthB ⟨fun c2 => ?_, fun c2 => W_nil ?_⟩)
  · refine W_cons (W_expr (W_tB1 (SB.skip rfl ea.1 t1 _ _ eB) (fun _ _ q => q.2.2.2) R G F O (ev_name F) (ev_name F) fun v3 lb2 h F O q3 => ⟨fun a e => ?_, W_nil ?_⟩))
    · rcases q3.1 with rfl | ⟨b, rfl⟩ <;> cases e
    exact loop _ lb2 _ F O q3.2.1 q3.2.2.2 (diffT_drop allA) fun e he => (dropLt_mem oB e he).1
  · have c2 : ea.1 ≤ eb.1 := by simpa using c2
    refine loop _ lb _ F O MB Keeps.refl rfl fun e he => ?_
    rw [eB] at oB he
    have := head_le oB e he
    omega
end
end Mine
end
section
set_option maxRecDepth 10000
namespace Mine
variable {prog : Program} {w : World} {K : Frag} {ro : List (Addr × Obj)}
/-- what an and not may be made of -/
noncomputable def PreN (a b : Tb) : Prop := ∀ e T' f U, a = e :: T' → b = f :: U → f.1 < e.1 → lk e.1 b = none
section
variable {n na nb bb : Nat} {pa : Bool} {d x xa xb : Addr} {la lb : Led} {Ta Tb' : Tb} {φ : (Str → Option Value) → Prop}
theorem n_findfirst (k : KOk K) (I : IH prog w K ro n) (ha : na < n) (hb : nb < n) (MA : MRep ro pa na la xa Ta) (MB : MRep ro true nb lb xb Tb') (hφ : ∀ fs, φ fs → φBi xa xb fs) (pre : PreN Ta Tb') :
    Can prog w K ro (12 * n + 2) x "_find_first" [] (nodeB bb d x cAndNot φ ++ (la ++ lb)) fun v l => v = .none ∧ ∃ la' lb', l = nodeB bb d x cAndNot φ ++ (la' ++ lb') ∧ Apt ro pa na nb xa xb la lb Ta Tb' la' lb' ∧ (InvN Ta Tb' → la' = la ∧ lb' = lb) := by
  refine can k.c_andnot k.m_andnot_find_first ?_
  refine does_enter k.fn_AndNotMatcher_find_first [("self", .ref x)] (fun s _ _ _ _ _ _ _ => BindsTo.of_eq rfl) (locs rfl) ?_
  intro A z g L h R0 G F O
  have R := R0.le (k' := 12 * n) (by omega)
  have SA := I.get (Nat.le_refl _) ha MA
  have SB := I.get (Nat.le_refl _) hb MB
  have same : InvN Ta Tb' → Apt ro pa na nb xa xb la lb Ta Tb' la lb := fun i => ⟨_, _, MA, MB, i, rfl, Keeps.refl, Keeps.refl⟩
  refine W_cons (W_if (W_tand (T_p0 R G F O SA.active (sA O) (ev_field F G O k.c_andnot k.d_andnot_a Sf.node fun fs q => (hφ fs q).1) fun h F O => ⟨fun c => W_tand (T_p0 R G F O SB.active (sB O) (ev_field F G O k.c_andnot k.d_andnot_b Sf.node fun fs q => (hφ fs q).2) fun h F O => ⟨fun c2 => ?_, fun c2 => ⟨fun e => (nomatch e), fun _ => W_nil (W_nil ⟨_, _, F, O, rfl, la, lb, rfl, same ?_, fun _ => ⟨rfl, rfl⟩⟩)⟩⟩), fun c => ⟨fun e => (nomatch e), fun _ => W_nil (W_nil ⟨_, _, F, O, rfl, la, lb, rfl, same ?_, fun _ => ⟨rfl, rfl⟩⟩)⟩⟩)))
  rotate_left 1
  · have : Tb' = [] := by first | exact nil1 (by assumption) | exact nil2 (by assumption) | exact nil3 (by assumption)
    rw [this]; exact invN_nilB
  · have : Ta = [] := by first | exact nil1 (by assumption) | exact nil2 (by assumption) | exact nil3 (by assumption)
    rw [this]; exact invN_nilA
  first | refine consP c fun ia sa Ta0 e1 => ?_ | refine consP2 c fun ia sa Ta0 e1 => ?_
  first | refine consP c2 fun ib sb Tb0 e2 => ?_ | refine consP2 c2 fun ib sb Tb0 e2 => ?_
  have oB := MB.ok.1
  refine W_tand (W_tcmp (W_p0 (SA.id _ _ e1) R G F O (sA O) (ev_field F G O k.c_andnot k.d_andnot_a Sf.node fun fs q => (hφ fs q).1) fun v h F O ⟨t, e⟩ => W_p0 (SB.id _ _ e2) R G F O (sB O) (ev_field F G O k.c_andnot k.d_andnot_b Sf.node fun fs q => (hφ fs q).2) fun v2 h F O ⟨t2, e3⟩ => ?_))
  subst e e3
  refine W_eq (W_truthB ⟨fun c3 => W_tandN ⟨fun _ => ?_, fun e => (nomatch e)⟩, fun c3 => ⟨fun e => (nomatch e), fun _ => W_nil (W_nil ⟨_, _, F, O, rfl, la, lb, rfl, same ?_, fun _ => ⟨rfl, rfl⟩⟩)⟩⟩)
  · have c3 : ia = ib := by simpa using c3
    refine W_cons (W_expr (W_tS0 (n_findnext k I ha hb MA MB hφ e1) (fun v l ⟨_, la', lb', e, q0⟩ => by rw [e]; exact (q0.ka.app q0.kb).node) (R0.le (by omega)) G F O (ev_name F) fun v l h F O ⟨hv, la', lb', e, q⟩ => ⟨fun a e => ?_, W_nil (W_nil ⟨_, _, F, O, rfl, la', lb', e, q, fun i => ?_⟩)⟩))
    · rcases hv with rfl | ⟨b, rfl⟩ <;> cases e
    · have := i _ _ e1
      rw [e2, lk_cons, if_pos (by exact c3)] at this
      cases this
  · have c3 : ia ≠ ib := by simpa using c3
    by_cases c4 : ib < ia
    · intro e T' q
      rw [e1] at q; cases q
      exact pre _ _ _ _ e1 e2 c4
    · rw [e1, e2]
      rw [e2] at oB
      exact invN_lt oB (by show ia < ib; omega)
/-- AndNotMatcher(a, b) -/
theorem mk_andnot (P : PrOk prog) (k : KOk K) (I : IH prog w K ro n) (MA : MRep ro pa na la xa Ta) (MB : MRep ro true nb lb xb Tb') (ha : na < n) (hb : nb < n) (pre : PreN Ta Tb') :
    Does prog w K ro (12 * n + 4) (.ref cAndNot) [.ref xa, .ref xb] [] (la ++ lb) fun v l => ∃ d y la' lb', v = .ref y ∧ l = nodeC d y cAndNot (φBi xa xb) ++ (la' ++ lb') ∧ Apt ro pa na nb xa xb la lb Ta Tb' la' lb' ∧ (InvN Ta Tb' → la' = la ∧ lb' = lb) := by
  refine does_make k.i_andnot fun x d => ?_
  refine does_super (kk := k) P k.s_andnot k.fn_AndNotMatcher_init [("self", .ref x), ("a", .ref xa), ("b", .ref xb)] (fun s _ _ _ _ _ _ _ => BindsTo.of_eq rfl) (locs rfl) rfl
    (avals := [.ref xa, .ref xb]) (fun A z g L h Q F q => W_argsC (W_name F rfl (W_argsC (W_name F rfl (W_argsN q))))) (bi_init (j := 12 * n + 1) (own := la ++ lb) k k.c_andnot k.d_andnot_a k.d_andnot_b) (fun v l ⟨_, e⟩ => by rw [e]; exact Keeps.refl.node) ?_
  intro A z g L h v l R G F O ⟨e, e2⟩
  subst e e2
  refine W_cons (W_expr (W_tS0 (n_findfirst k I ha hb MA MB (fun fs q => q.1) pre) (fun v l ⟨_, la', lb', e, q0, _⟩ => by rw [e]; exact (q0.ka.app q0.kb).node) R G F O (ev_name F) fun v l h F O ⟨e, la', lb', e2, q⟩ => ?_))
  subst e e2
  exact ⟨fun a e => (nomatch e), W_nil ⟨_, nodeC d x cAndNot (φBi xa xb) ++ (la' ++ lb'), F, O.weaken fun o q => dictB.mono (φ := φNew xa xb) (φ' := φBi xa xb) q (by decide) fun fs q => q.1, rfl, d, x, la', lb', rfl, rfl, q⟩⟩
theorem made_andnot (P : PrOk prog) (k : KOk K) (I : IH prog w K ro n) (ha : na < n) (hb : nb < n) (inv : InvN Ta Tb') : MadeN prog w K ro (12 * n + 5) f_AndNotMatcher_made x false n pa true na nb Ta Tb' (diffT Ta Tb') := by
  intro ya yb oa ob Ma Mb nd
  refine does_enter k.fn_AndNotMatcher_made [("self", .ref x), ("a", .ref ya), ("b", .ref yb)] (fun s _ _ _ _ _ _ _ => BindsTo.of_eq rfl) (locs rfl) ?_
  intro A z g L h R G F O
  refine W_cons (W_ret (W_fcall (W_global F G k.g_AndNotMatcher.1 (W_callWithE G k.g_AndNotMatcher.2 (W_argsC (W_name F rfl (W_argsC (W_name F rfl (W_argsN ⟨G.kin.keeps F.keep, Cd.call ?_⟩)))))))))
  refine Does.use (rest := []) (mk_andnot P k I Ma Mb ha hb fun e T' f U q _ _ => inv e T' q) R G F (by rw [List.append_nil]; exact O) (fun v l ⟨d, y, la', lb', _, e, q0, _⟩ => by rw [e]; exact fun p hp f => List.mem_append_right _ (q0.ka.app q0.kb p hp f)) fun v l h F O ⟨d, y, la', lb', e, e2, _, t4⟩ => ?_
  obtain ⟨e3, e4⟩ := t4 inv
  subst e
  rw [e2, List.append_nil, e3, e4] at O
  exact ⟨_, _, F, O, _, rfl, y, rfl, .andnot ha hb Ma Mb inv⟩
set_option maxHeartbeats 2000000 in
theorem n_repl (P : PrOk prog) (k : KOk K) (I : IH prog w K ro n) (MA : MRep ro pa na la xa Ta) (MB : MRep ro true nb lb xb Tb') (ha : na < n) (hb : nb < n) (inv : InvN Ta Tb') {args : List Value} (hargs : args = [] ∨ ∃ i tk, i ≤ 0 ∧ args = [.int i tk]) :
    Does prog w K ro (12 * n + 8) (.ref f_AndNotMatcher_replace) (.ref x :: args) [] (nodeC d x cAndNot (φBi xa xb) ++ (la ++ lb)) (ReplPost ro false n (nodeC d x cAndNot (φBi xa xb) ++ (la ++ lb)) (diffT Ta Tb')) := by
  have SA := I.get (Nat.le_refl _) ha MA
  have SB := I.get (Nat.le_refl _) hb MB
  refine does_repl k.fn_AndNotMatcher_replace k.v_AndNotMatcher_replace hargs ?_
  intro i tk hi A z g L h R0 G F O
  have R : Room A (12 * n) := R0.le (by omega)
  refine W_cons (W_if (W_tnot (T_p0 R G F O SA.active (sA O) (ev_field F G O k.c_andnot k.d_andnot_a Sf.node fun fs q => q.1) fun h F O => ⟨fun c => ?_, fun c => ?_⟩)))
  · refine W_cons (S_retNull (k := 12 * n) k (R0.le (by omega)) G F O fun d' y h F O => ⟨_, _, F, O, _, rfl, y, _, rfl, O.subL, ?_⟩)
    have z1 : Ta = [] := by first | exact nil1 (by assumption) | exact nil2 (by assumption) | exact nil3 (by assumption)
    rw [z1]; exact .null
  have rest : ∀ h, Fr g L h (fun y => (rB x i tk).reverse.lookup y) → Ow g L h (nodeC d x cAndNot (φBi xa xb) ++ (la ++ lb)) →
      Wp (model prog w) A z (execs ((defBody rf_AndNotMatcher_replace.st).drop 1) (envX rf_AndNotMatcher_replace.qual (defScope rf_AndNotMatcher_replace.st) L f_AndNotMatcher_replace rf_AndNotMatcher_replace.cdv rf_AndNotMatcher_replace.cl)) (Ret g L (ReplPost ro false n (nodeC d x cAndNot (φBi xa xb) ++ (la ++ lb)) (diffT Ta Tb'))) h := by
    intro h F O
    refine W_cons (W_assign (g := g) (W_n1 (SA.repl _ (.inr ⟨i, tk, hi, rfl⟩)) R G F O (sA O) (ev_field F G O k.c_andnot k.d_andnot_a Sf.node fun fs q => q.1) (ev_name F) fun v nwa h F O ⟨ya, oa, e, sa, Ma⟩ => ⟨_, _, F, O, fun h F O => ?_⟩))
    subst e
    have Sn1 : Sf (nwa ++ (nodeC d x cAndNot (φBi xa xb) ++ (la ++ lb))) x cAndNot (φBi xa xb) := (Sf.node (rest := la ++ lb)).mono fun e he => List.mem_append_right _ he
    refine W_cons (W_assign (g := g) (W_n0 (SB.repl [] (.inl rfl)) R G F O ((sB O.right).trans O.subR) (ev_field F G O k.c_andnot k.d_andnot_b Sn1 (fun fs q => q.2) ((upd_ne (by decide)).trans rfl)) fun v nwb h F O ⟨yb, ob, e, sb, Mb⟩ => ⟨_, _, F, O, fun h F O => ?_⟩))
    subst e
    have sab := sa.pair sb O.nd
    have Snode : Sf (nwb ++ (nwa ++ (nodeC d x cAndNot (φBi xa xb) ++ (la ++ lb)))) x cAndNot (φBi xa xb) := (Sf.node (rest := la ++ lb)).mono fun e he => List.mem_append_right _ (List.mem_append_right _ he)
    refine W_cons (W_if (T_neq2 O (ev_name (v := .ref ya) F rfl) (ev_field (v := .ref xa) F G O k.c_andnot k.d_andnot_a Snode (fun fs q => q.1)) (ev_name (v := .ref yb) F rfl) (ev_field (v := .ref xb) F G O k.c_andnot k.d_andnot_b Snode (fun fs q => q.2)) Ma MA Mb MB
      (fun e he => sab.mem e (List.mem_append_left _ he)) (fun e he => by simp [he]) (fun e he => sab.mem e (List.mem_append_right _ he)) (fun e he => by simp [he]) ⟨fun c => ?_, fun c => ?_⟩))
    · refine W_cons (W_ret (W_made (k := 12 * n + 5) Snode k.c_andnot k.m_andnot_made (made_andnot P k I ha hb inv) Ma Mb sab (R0.le (by omega)) G F O (ev_name F) (ev_name F rfl) (ev_name F rfl) fun v l h F O q => ⟨_, _, F, O, q⟩))
    · refine W_cons (W_ret (W_name F rfl ⟨_, _, F, O, nwb ++ nwa, (List.append_assoc ..).symm, x, _, rfl, ?_, .andnot (d := d) ha hb MA MB inv⟩))
      rw [List.append_assoc]
      exact O.right.right |> fun o => ⟨fun e he => List.mem_append_right _ (List.mem_append_right _ he), o.nd⟩
  -- the second part has ended, or not
  have third : ∀ h, Fr g L h (fun y => (rB x i tk).reverse.lookup y) → Ow g L h (nodeC d x cAndNot (φBi xa xb) ++ (la ++ lb)) →
      Wp (model prog w) A z (execs (orelseOf (orelseOf (defBody rf_AndNotMatcher_replace.st))) (envX rf_AndNotMatcher_replace.qual (defScope rf_AndNotMatcher_replace.st) L f_AndNotMatcher_replace rf_AndNotMatcher_replace.cdv rf_AndNotMatcher_replace.cl)) (Nx prog w A z (envX rf_AndNotMatcher_replace.qual (defScope rf_AndNotMatcher_replace.st) L f_AndNotMatcher_replace rf_AndNotMatcher_replace.cdv rf_AndNotMatcher_replace.cl) [] (Nx prog w A z (envX rf_AndNotMatcher_replace.qual (defScope rf_AndNotMatcher_replace.st) L f_AndNotMatcher_replace rf_AndNotMatcher_replace.cdv rf_AndNotMatcher_replace.cl) ((defBody rf_AndNotMatcher_replace.st).drop 1) (Ret g L (ReplPost ro false n (nodeC d x cAndNot (φBi xa xb) ++ (la ++ lb)) (diffT Ta Tb'))))) h := by
    intro h F O
    refine W_cons (W_if (W_tnot (T_p0 R G F O SB.active (sB O) (ev_field F G O k.c_andnot k.d_andnot_b Sf.node fun fs q => q.2) fun h F O => ⟨fun c => ?_, fun c => W_nil (W_nil (W_nil (rest _ F O)))⟩)))
    have z1 : Tb' = [] := by first | exact nil1 (by assumption) | exact nil2 (by assumption) | exact nil3 (by assumption)
    refine W_cons (W_ret (W_n1 (SA.repl _ (.inr ⟨i, tk, hi, rfl⟩)) R G F O (sA O) (ev_field F G O k.c_andnot k.d_andnot_a Sf.node fun fs q => q.1) (ev_name F) fun v nw h F O ⟨y, o1, e, s, M⟩ => ⟨_, _, F, O, nw, rfl, y, o1, e, s.wA, ?_⟩))
    have : diffT Ta Tb' = Ta := by
      rw [z1]; unfold diffT
      exact List.filter_eq_self.mpr fun e _ => rfl
    rw [this]
    exact M.flag (fun q => (nomatch q)) (Nat.le_of_lt ha)
  refine W_cons (W_if (W_tand (T_nameI F rfl ⟨fun c1 => W_tand (W_tcmp (W_p0 SA.maxq R G F O (sA O) (ev_field F G O k.c_andnot k.d_andnot_a Sf.node fun fs q => q.1) fun v h F O ⟨qa, ⟨ta, ea⟩, ha'⟩ => ?_)), fun c1 => ⟨fun e => (nomatch e), fun _ => third _ F O⟩⟩)))
  subst ea
  refine W_name F rfl (W_lt (W_truthB ⟨fun c3 => ?_, fun c3 => ⟨fun e => (nomatch e), fun _ => third _ F O⟩⟩))
  have : qa < i := by simpa using c3
  omega
set_option maxHeartbeats 2000000 in
theorem spec_andnot (P : PrOk prog) (k : KOk K) (I : IH prog w K ro n) (MA : MRep ro pa na la xa Ta) (MB : MRep ro true nb lb xb Tb') (ha : na < n) (hb : nb < n) (inv : InvN Ta Tb') :
    SpecAt prog w K ro (12 * n + 12) false n (nodeC d x cAndNot (φBi xa xb) ++ (la ++ lb)) x (diffT Ta Tb') := by
  have SA := I.get (Nat.le_refl _) ha MA
  have SB := I.get (Nat.le_refl _) hb MB
  exact {
    active := by
      refine can k.c_andnot k.m_andnot_is_active (k := 12 * n + 12) ?_
      refine does_enter k.fn_AndNotMatcher_is_active [("self", .ref x)] (fun s _ _ _ _ _ _ _ => BindsTo.of_eq rfl) (locs rfl) ?_
      intro A z g L h R G F O
      exact W_cons (W_ret (W_p0 SA.active (R.le (by omega)) G F O (sA O) (ev_field F G O k.c_andnot k.d_andnot_a Sf.node fun fs q => q.1) fun v h F O q => ⟨_, _, F, O, rfl, by rw [diff_empty inv]; exact q⟩))
    id := fun e T' q => by
      obtain ⟨a', e1, e2⟩ := diff_head inv q
      refine can k.c_andnot k.m_andnot_id (k := 12 * n + 12) ?_
      refine does_enter k.fn_AndNotMatcher_id [("self", .ref x)] (fun s _ _ _ _ _ _ _ => BindsTo.of_eq rfl) (locs rfl) ?_
      intro A z g L h R G F O
      exact W_cons (W_ret (W_p0 (SA.id _ _ e1) (R.le (by omega)) G F O (sA O) (ev_field F G O k.c_andnot k.d_andnot_a Sf.node fun fs q => q.1) fun v h F O q => ⟨_, _, F, O, rfl, q⟩))
    score := fun e T' q => by
      obtain ⟨a', e1, e2⟩ := diff_head inv q
      refine can k.c_andnot k.m_andnot_score (k := 12 * n + 12) ?_
      refine does_enter k.fn_AndNotMatcher_score [("self", .ref x)] (fun s _ _ _ _ _ _ _ => BindsTo.of_eq rfl) (locs rfl) ?_
      intro A z g L h R G F O
      exact W_cons (W_ret (W_p0 (SA.score _ _ e1) (R.le (by omega)) G F O (sA O) (ev_field F G O k.c_andnot k.d_andnot_a Sf.node fun fs q => q.1) fun v h F O q => ⟨_, _, F, O, rfl, q⟩))
    next := fun e T' q => by
      obtain ⟨a', e1, e2⟩ := diff_head inv q
      refine can k.c_andnot k.m_andnot_next (k := 12 * n + 12) ?_
      refine does_enter k.fn_AndNotMatcher_next [("self", .ref x)] (fun s _ _ _ _ _ _ _ => BindsTo.of_eq rfl) (locs rfl) ?_
      intro A z g L h R0 G F O
      have R := R0.le (k' := 12 * n) (by omega)
      refine W_cons (W_if (W_tnot (T_p0 R G F O SA.active (sA O) (ev_field F G O k.c_andnot k.d_andnot_a Sf.node fun fs q => q.1) fun h F O => ⟨fun c => ?_, fun c => W_nil ?_⟩)))
      · rw [e1] at c; cases c
      refine W_cons (W_assign (W_tA0 (SA.next _ _ e1) (fun _ _ q => q.2.2) R G F O (ev_field F G O k.c_andnot k.d_andnot_a Sf.node fun fs q => q.1) fun v la' h F O q => ⟨_, _, F, O, fun h F O => ?_⟩))
      refine W_cons (W_assign (W_cbool ⟨_, _, F, O, fun h F O => ?_⟩))
      have SA' := I.get (Nat.le_refl _) ha q.2.1
      have fin : ∀ h m la2 lb2 Ta2 Tb2 v2, Fr g L h m → Ow g L h (nodeC d x cAndNot (φBi xa xb) ++ (la2 ++ lb2)) → m "ar" = some v → m "nr" = some v2 → Vn v2 → MRep ro pa na la2 xa Ta2 → MRep ro true nb lb2 xb Tb2 → Keeps la la2 → Keeps lb lb2 → InvN Ta2 Tb2 → diffT Ta2 Tb2 = diffT a' Tb' →
          Wp (model prog w) A z (execs ((defBody rf_AndNotMatcher_next.st).drop 4) (envX rf_AndNotMatcher_next.qual (defScope rf_AndNotMatcher_next.st) L f_AndNotMatcher_next rf_AndNotMatcher_next.cdv rf_AndNotMatcher_next.cl)) (Ret g L fun v l => Vn v ∧ MRep ro false n l x T' ∧ Keeps (nodeC d x cAndNot (φBi xa xb) ++ (la ++ lb)) l) h := by
        intro h m la2 lb2 Ta2 Tb2 v2 F O m1 m2 hv Ma2 Mb2 ka kb i2 q2
        refine W_cons (W_ret (W_orVn (ev_name F m1) (ev_name F m2) q.1 hv fun v3 hv3 => ⟨_, _, F, O, hv3, ?_, (ka.app kb).node⟩))
        rw [e2, ← q2]
        exact .andnot ha hb Ma2 Mb2 i2
      refine W_cons (W_if (W_tand (T_p0 R G F O SA'.active (sA O) (ev_field F G O k.c_andnot k.d_andnot_a Sf.node fun fs q => q.1) fun h F O => ⟨fun c1 => W_tand (T_p0 R G F O SB.active (sB O) (ev_field F G O k.c_andnot k.d_andnot_b Sf.node fun fs q => q.2) fun h F O => ⟨fun c2 => W_tandN ⟨fun _ => ?_, fun e => (nomatch e)⟩, fun c2 => ⟨fun e => (nomatch e), fun _ => W_nil (fin _ _ _ _ _ _ _ F O ((upd_ne (by decide)).trans upd_same) upd_same (.inr ⟨_, rfl⟩) q.2.1 MB q.2.2 Keeps.refl ?_ rfl)⟩⟩), fun c1 => ⟨fun e => (nomatch e), fun _ => W_nil (fin _ _ _ _ _ _ _ F O ((upd_ne (by decide)).trans upd_same) upd_same (.inr ⟨_, rfl⟩) q.2.1 MB q.2.2 Keeps.refl ?_ rfl)⟩⟩)))
      rotate_left 1
      · have : Tb' = [] := by first | exact nil1 (by assumption) | exact nil2 (by assumption) | exact nil3 (by assumption)
        rw [this]; exact invN_nilB
      · have : a' = [] := by first | exact nil1 (by assumption) | exact nil2 (by assumption) | exact nil3 (by assumption)
        rw [this]; exact invN_nilA
      first | refine consE c1 fun fa Ta3 e5 => ?_ | refine consE2 c1 fun fa Ta3 e5 => ?_
      refine W_cons (W_assign (g := g) (W_tS0 (n_findnext k I ha hb q.2.1 MB (fun fs q => q) e5) (fun v l ⟨_, la', lb', e, q0⟩ => by rw [e]; exact (q0.ka.app q0.kb).node) (R0.le (by omega)) G F O (ev_name F) fun v2 l h F O ⟨hv, la2, lb2, e, q0⟩ => q0.elim fun Ta2 Tb2 r1 r2 r3 r4 r5 r6 => ⟨_, _, F, O, fun h F O => W_nil ?_⟩))
      subst e
      exact fin _ _ la2 lb2 Ta2 Tb2 v2 F O ((upd_ne (by decide)).trans ((upd_ne (by decide)).trans upd_same)) upd_same hv r1 r2 (q.2.2.trans r5) r6 r3 r4
    maxq := by
      refine can k.c_andnot k.m_andnot_max_quality (k := 12 * n + 12) ?_
      refine does_enter k.fn_AndNotMatcher_max_quality [("self", .ref x)] (fun s _ _ _ _ _ _ _ => BindsTo.of_eq rfl) (locs rfl) ?_
      intro A z g L h R G F O
      exact W_cons (W_ret (W_p0 SA.maxq (R.le (by omega)) G F O (sA O) (ev_field F G O k.c_andnot k.d_andnot_a Sf.node fun fs q => q.1) fun v h F O q => ⟨_, _, F, O, rfl, q⟩))
    copy := can k.c_andnot k.m_andnot_copy ((bi_copy k k.c_andnot k.d_andnot_a k.d_andnot_b k.m_andnot_made (fun fs q => q) (Spec.le SA (by omega)) (Spec.le SB (by omega)) (made_andnot P k I ha hb inv)).le (by omega))
    repl := fun args q => can k.c_andnot k.m_andnot_replace ((n_repl P k I MA MB ha hb inv q).le (by omega))
    skip := fun q => nomatch q }
end
end Mine
end
section
set_option maxRecDepth 10000
namespace Mine
variable {prog : Program} {w : World} {K : Frag} {ro : List (Addr × Obj)}
noncomputable def Pass (ids : List Int) (ex : Bool) (e : Int × Int) : Prop := (ids.contains e.1 != ex) = true
noncomputable def InvF (ids : List Int) (ex : Bool) (T : Tb) : Prop := ∀ e T', T = e :: T' → Pass ids ex e
theorem filtT_cons (ids : List Int) (ex : Bool) (e : Int × Int) (a : Tb) : filtT ids ex (e :: a) = if ids.contains e.1 != ex then e :: filtT ids ex a else filtT ids ex a := by
  unfold filtT; rw [List.filter_cons]
theorem filt_head {ids : List Int} {ex : Bool} {a : Tb} (h : InvF ids ex a) {e : Int × Int} {T' : Tb} (q : filtT ids ex a = e :: T') : ∃ a', a = e :: a' ∧ T' = filtT ids ex a' := by
  cases a with
  | nil => cases q
  | cons x a =>
    rw [filtT_cons, if_pos (show (ids.contains x.1 != ex) = true from h x a rfl)] at q
    cases q
    exact ⟨a, rfl, rfl⟩
theorem filt_empty {ids : List Int} {ex : Bool} {a : Tb} (h : InvF ids ex a) : (filtT ids ex a).isEmpty = a.isEmpty := by
  cases a with
  | nil => rfl
  | cons x a => rw [filtT_cons, if_pos (show (ids.contains x.1 != ex) = true from h x a rfl)]; rfl
theorem any_contains (k : Int) : ∀ ids : List Int, ids.any (· == k) = ids.contains k
  | [] => rfl
  | x :: r => by
    rw [List.any_cons, any_contains k r, List.contains_cons]
    have : (x == k) = (k == x) := by
      by_cases q : x = k
      · subst q; rfl
      · have q2 : ¬ k = x := fun e => q e.symm
        rw [beq_eq_false_iff_ne.mpr q, beq_eq_false_iff_ne.mpr q2]
    rw [this]
section
variable {A : Around} {z : Shared} {g h : Heap} {L : Addr} {m : Str → Option Value} {led : Led} {env : Env} {li : Addr} {ids : List Int} {i : Int} {t : Tok} {Q : Value → Heap → Prop}
theorem W_inL (l : LAt ro li ids) (G : Gd K ro g) (F : Fr g L h m) (q : Q (.bool (ids.contains i)) h) : Wp (model prog w) A z (compareOp .In (.int i t) (.ref li)) Q h := fun tk => by
  obtain ⟨vs, il, ia⟩ := l.isList G F
  exact in_list_ints (s := St z h tk) il ia ⟨h, tk, rfl, by rw [any_contains]; exact q⟩
theorem W_notinL (l : LAt ro li ids) (G : Gd K ro g) (F : Fr g L h m) (q : Q (.bool (!ids.contains i)) h) : Wp (model prog w) A z (compareOp .NotIn (.int i t) (.ref li)) Q h := fun tk => by
  obtain ⟨vs, il, ia⟩ := l.isList G F
  exact notin_list_ints (s := St z h tk) il ia ⟨h, tk, rfl, by rw [any_contains]; exact q⟩
end
/-- the child brought to an id that passes -/
noncomputable def Fit (ro : List (Addr × Obj)) (pc : Bool) (nc : Nat) (xc : Addr) (ids : List Int) (ex : Bool) (lc : Led) (Tc : Tb) (lc' : Led) : Prop :=
  ∃ Tc', MRep ro pc nc lc' xc Tc' ∧ InvF ids ex Tc' ∧ filtT ids ex Tc' = filtT ids ex Tc ∧ Keeps lc lc' ∧ (InvF ids ex Tc → lc' = lc ∧ Tc' = Tc)
theorem Fit.elim {ro : List (Addr × Obj)} {pc : Bool} {nc : Nat} {xc : Addr} {ids : List Int} {ex : Bool} {lc : Led} {Tc : Tb} {lc' : Led} {C : Prop} (q : Fit ro pc nc xc ids ex lc Tc lc')
    (k : ∀ Tc', MRep ro pc nc lc' xc Tc' → InvF ids ex Tc' → filtT ids ex Tc' = filtT ids ex Tc → Keeps lc lc' → (InvF ids ex Tc → lc' = lc ∧ Tc' = Tc) → C) : C := by
  obtain ⟨a, h1, h2, h3, h4, h5⟩ := q
  exact k a h1 h2 h3 h4 h5
theorem Fit.hk {ro : List (Addr × Obj)} {pc : Bool} {nc : Nat} {xc : Addr} {ids : List Int} {ex : Bool} {lc : Led} {Tc : Tb} {lc' : Led} (q : Fit ro pc nc xc ids ex lc Tc lc') : Keeps lc lc' := q.elim fun _ _ _ _ h _ => h
section
variable {n nc bb : Nat} {pc : Bool} {d x xc li : Addr} {c : Int} {ex : Bool} {ids : List Int} {lc : Led} {Tc : Tb} {φ : (Str → Option Value) → Prop}
/-- the loop's word -/
noncomputable def InvFF (ro : List (Addr × Obj)) (pc : Bool) (nc bb : Nat) (d x xc li : Addr) (ids : List Int) (ex : Bool) (lc : Led) (Tc : Tb) (φ : (Str → Option Value) → Prop) (g : Heap) (L : Addr) (mz : Nat) (h : Heap) : Prop :=
  ∀ C : Prop, (∀ m lc' Tc' rv, Fr g L h m → Ow g L h (nodeB bb d x cFilt φ ++ lc') → MRep ro pc nc lc' xc Tc' → filtT ids ex Tc' = filtT ids ex Tc → Keeps lc lc' → (InvF ids ex Tc → lc' = lc ∧ Tc' = Tc) → m "child" = some (.ref xc) → m "ids" = some (.ref li) → m "r" = some rv → Vn rv → mz = Tc'.length → C) → C
theorem f_findnext (k : KOk K) (I : IH prog w K ro n) (hc : nc < n) (ok : ListOk ro li ids) (MC : MRep ro pc nc lc xc Tc) (hφ : ∀ fs, φ fs → φFilt xc c li ex fs) :
    Can prog w K ro (12 * n + 1) x "_find_next" [] (nodeB bb d x cFilt φ ++ lc) fun v l => Vn v ∧ ∃ lc', l = nodeB bb d x cFilt φ ++ lc' ∧ Fit ro pc nc xc ids ex lc Tc lc' := by
  refine Can.via fun post kq => ?_
  have kp : ∀ v lc' Tc', Vn v → MRep ro pc nc lc' xc Tc' → InvF ids ex Tc' → filtT ids ex Tc' = filtT ids ex Tc → Keeps lc lc' → (InvF ids ex Tc → lc' = lc ∧ Tc' = Tc) → post v (nodeB bb d x cFilt φ ++ lc') := fun v lc' Tc' q a b c d e => kq _ _ ⟨q, lc', rfl, Tc', a, b, c, d, e⟩
  clear kq
  refine can k.c_filt k.m_filt_find_next ?_
  refine does_enter k.fn_FilterMatcher_find_next [("self", .ref x)] (fun s _ _ _ _ _ _ _ => BindsTo.of_eq rfl) (locs rfl) ?_
  intro A z g L h R G F O
  refine W_cons (S_ev F O (ev_field F G O k.c_filt k.d_filt_child Sf.node fun fs q => (hφ fs q).1.1) fun h F O => ?_)
  refine W_cons (S_ev F O (ev_field F G O k.c_filt k.d_filt_ids_ Sf.node fun fs q => (hφ fs q).2.1) fun h F O => ?_)
  refine W_cons (W_assign (W_cbool ⟨_, _, F, O, fun h F O => ?_⟩))
  have J0 : InvFF ro pc nc bb d x xc li ids ex lc Tc φ g L Tc.length h := fun C k => k _ lc Tc _ F O MC rfl Keeps.refl (fun _ => ⟨rfl, rfl⟩) rfl rfl upd_same (.inr ⟨_, rfl⟩) rfl
  have fin : ∀ h m lc' Tc' rv, Fr g L h m → Ow g L h (nodeB bb d x cFilt φ ++ lc') → MRep ro pc nc lc' xc Tc' → filtT ids ex Tc' = filtT ids ex Tc → Keeps lc lc' → (InvF ids ex Tc → lc' = lc ∧ Tc' = Tc) → m "r" = some rv → Vn rv → InvF ids ex Tc' →
      Wp (model prog w) A z (execs ((defBody rf_FilterMatcher_find_next.st).drop 4) (envX rf_FilterMatcher_find_next.qual (defScope rf_FilterMatcher_find_next.st) L f_FilterMatcher_find_next rf_FilterMatcher_find_next.cdv rf_FilterMatcher_find_next.cl)) (Ret g L post) h :=
    fun h m lc' Tc' rv F O M' hf hk hs m3 hv hi => W_cons (W_ret (W_name F m3 (rt F O (kp _ _ _ hv M' hi hf hk hs))))
  have notpass : ∀ (e : Int × Int) T', (ids.contains e.1 != ex) = false → filtT ids ex (e :: T') = filtT ids ex T' := fun e T' q => by rw [filtT_cons, q]; rfl
  refine W_cons (W_if (W_tplain ((ev_field (v := .bool ex) F G O k.c_filt k.d_filt_exclude_ Sf.node fun fs q => (hφ fs q).2.2).go (W_truthB ⟨fun q => ?_, fun q => ?_⟩))))
  · refine W_cons (W_while (InvFF ro pc nc bb d x xc li ids ex lc Tc φ g L) _ J0 ?_)
    intro mz h H
    refine H _ fun m lc' Tc' rv F O M' hf hk hs m1 m2 m3 hv e3 => ?_
    subst e3
    have SC := I.get (Nat.le_refl _) hc M'
    refine W_tand (T_p0 R G F O SC.active (sC O) (ev_name F m1) fun h F O => ⟨fun c1 => ?_, fun c1 => ⟨fun e => (nomatch e), fun _ => W_nil (W_nil (fin _ _ _ _ _ F O M' hf hk hs m3 hv ?_))⟩⟩)
    rotate_left 1
    · have : Tc' = [] := by first | exact nil1 (by assumption) | exact nil2 (by assumption) | exact nil3 (by assumption)
      rw [this]; exact fun e T' q => nomatch q
    first | refine consE c1 fun e0 T0 e1 => ?_ | refine consE2 c1 fun e0 T0 e1 => ?_
    refine W_tand (W_tcmp (W_p0 (SC.id _ _ e1) R G F O (sC O) (ev_name F m1) fun v h F O ⟨t, e⟩ => W_name F m2 ?_))
    subst e
    refine W_inL ok.li G F (W_truthB ⟨fun c2 => W_tandN ⟨fun _ => ?_, fun e => (nomatch e)⟩, fun c2 => ⟨fun e => (nomatch e), fun _ => W_nil (W_nil (fin _ _ _ _ _ F O M' hf hk hs m3 hv ?_))⟩⟩)
    · have np : (ids.contains e0.1 != ex) = false := by rw [c2, q]; rfl
      have hf2 : filtT ids ex T0 = filtT ids ex Tc := by rw [← hf, e1, notpass _ _ np]
      have hs2 : InvF ids ex Tc → ∀ {lc2 : Led}, lc2 = lc ∧ T0 = Tc := fun i => absurd (i e0 T0 ((hs i).2 ▸ e1)) (by unfold Pass; rw [np]; exact fun z => nomatch z)
      refine W_cons (W_assign (W_or (W_tC0 (SC.next _ _ e1) (fun _ _ q => q.2.2) R G F O (ev_name F m1) fun v lc2 h F O q2 => W_truthVn q2.1 fun b => ⟨fun _ => ⟨_, _, F, O, fun h F O => W_nil ?_⟩, fun _ => W_or1 (W_name F m3 ⟨_, _, F, O, fun h F O => W_nil ?_⟩)⟩)))
      · exact ⟨T0.length, by rw [e1]; exact Nat.lt_succ_self _, fun C k => k _ lc2 T0 v F O q2.2.1 hf2 (hk.trans q2.2.2) (fun i => hs2 i) ((upd_ne (by decide)).trans m1) ((upd_ne (by decide)).trans m2) upd_same q2.1 rfl⟩
      · exact ⟨T0.length, by rw [e1]; exact Nat.lt_succ_self _, fun C k => k _ lc2 T0 rv F O q2.2.1 hf2 (hk.trans q2.2.2) (fun i => hs2 i) ((upd_ne (by decide)).trans m1) ((upd_ne (by decide)).trans m2) upd_same hv rfl⟩
    · intro e T' q3
      rw [e1] at q3; cases q3
      unfold Pass; rw [c2, q]; rfl
  · refine W_cons (W_while (InvFF ro pc nc bb d x xc li ids ex lc Tc φ g L) _ J0 ?_)
    intro mz h H
    refine H _ fun m lc' Tc' rv F O M' hf hk hs m1 m2 m3 hv e3 => ?_
    subst e3
    have SC := I.get (Nat.le_refl _) hc M'
    refine W_tand (T_p0 R G F O SC.active (sC O) (ev_name F m1) fun h F O => ⟨fun c1 => ?_, fun c1 => ⟨fun e => (nomatch e), fun _ => W_nil (W_nil (fin _ _ _ _ _ F O M' hf hk hs m3 hv ?_))⟩⟩)
    rotate_left 1
    · have : Tc' = [] := by first | exact nil1 (by assumption) | exact nil2 (by assumption) | exact nil3 (by assumption)
      rw [this]; exact fun e T' q => nomatch q
    first | refine consE c1 fun e0 T0 e1 => ?_ | refine consE2 c1 fun e0 T0 e1 => ?_
    refine W_tand (W_tcmp (W_p0 (SC.id _ _ e1) R G F O (sC O) (ev_name F m1) fun v h F O ⟨t, e⟩ => W_name F m2 ?_))
    subst e
    refine W_notinL ok.li G F (W_truthB ⟨fun c2 => W_tandN ⟨fun _ => ?_, fun e => (nomatch e)⟩, fun c2 => ⟨fun e => (nomatch e), fun _ => W_nil (W_nil (fin _ _ _ _ _ F O M' hf hk hs m3 hv ?_))⟩⟩)
    · have np : (ids.contains e0.1 != ex) = false := by
        have : ids.contains e0.1 = false := by simpa using c2
        rw [this, q]; rfl
      have hf2 : filtT ids ex T0 = filtT ids ex Tc := by rw [← hf, e1, notpass _ _ np]
      have hs2 : InvF ids ex Tc → ∀ {lc2 : Led}, lc2 = lc ∧ T0 = Tc := fun i => absurd (i e0 T0 ((hs i).2 ▸ e1)) (by unfold Pass; rw [np]; exact fun z => nomatch z)
      refine W_cons (W_assign (W_or (W_tC0 (SC.next _ _ e1) (fun _ _ q => q.2.2) R G F O (ev_name F m1) fun v lc2 h F O q2 => W_truthVn q2.1 fun b => ⟨fun _ => ⟨_, _, F, O, fun h F O => W_nil ?_⟩, fun _ => W_or1 (W_name F m3 ⟨_, _, F, O, fun h F O => W_nil ?_⟩)⟩)))
      · exact ⟨T0.length, by rw [e1]; exact Nat.lt_succ_self _, fun C k => k _ lc2 T0 v F O q2.2.1 hf2 (hk.trans q2.2.2) (fun i => hs2 i) ((upd_ne (by decide)).trans m1) ((upd_ne (by decide)).trans m2) upd_same q2.1 rfl⟩
      · exact ⟨T0.length, by rw [e1]; exact Nat.lt_succ_self _, fun C k => k _ lc2 T0 rv F O q2.2.1 hf2 (hk.trans q2.2.2) (fun i => hs2 i) ((upd_ne (by decide)).trans m1) ((upd_ne (by decide)).trans m2) upd_same hv rfl⟩
    · intro e T' q3
      rw [e1] at q3; cases q3
      have : ids.contains e0.1 = true := by simpa using c2
      unfold Pass; rw [this, q]; rfl
end
end Mine
end
section
set_option maxRecDepth 10000
namespace Mine
variable {prog : Program} {w : World} {K : Frag} {ro : List (Addr × Obj)}
section
variable {A : Around} {z : Shared} {g h : Heap} {L : Addr} {m : Str → Option Value} {led : Led}
noncomputable def kwS (pos : Pos) (env : Env) (p : Str × Expr) : Sem Value := do let v ← eval p.2 env; standAt pos; pure v
noncomputable def kwL (kws : List Keyword) : List (Str × Expr) := kws.map fun k => (k.arg.getD "", k.value)
/-- Cls(places, keywords) -/
theorem W_makeG {qual : Str} {scope : Scope} {fa : Addr} {cdv : Value} {cl : List (Str × Addr)} {id : Str} {C : Addr} {e : Expr} {es : List Expr} {p pos : Pos} {kws : List Keyword} {Q : Value → Heap → Prop}
    (F : Fr g L h m) (G : Gd K ro g) (gl : nsIn K mainGlobals id = some (some (.ref C)) ∧ keepIn K (.ref C) = true)
    (he : Wp (model prog w) A z (spliced (backTo pos (starEach (e :: es) (envX qual scope L fa cdv cl)))) (fun vs h1 => Wp (model prog w) A z (evalAll ((kwL kws).map (kwS pos (envX qual scope L fa cdv cl)))) (fun ks h2 => K.In h2 ∧ Cd (model prog w) A z (.call (.ref C) ⟨vs, ((kwL kws).map (·.1)).zip ks⟩) Q h2) h1) h)
    (hkw : backToKw pos (keywordEach kws (envX qual scope L fa cdv cl)) = (kwL kws).map (fun p => (some p.1, kwS pos (envX qual scope L fa cdv cl) p)) := by rfl)
    (hs1 : starEach (e :: es) (envX qual scope L fa cdv cl) = (false, eval e (envX qual scope L fa cdv cl)) :: starEach es (envX qual scope L fa cdv cl) := by rfl)
    (hpl : (backTo pos (starEach (e :: es) (envX qual scope L fa cdv cl))).any (·.1) = false := by rfl)
    (hk : scope.kind = .function := by rfl) (hx : (envX qual scope L fa cdv cl).kindOf id = some .globalImplicit := by rfl) (hd : (id == ("__debug__" : Str)) = false := by decide) :
    Wp (model prog w) A z (eval (.Call (.Name id p) (e :: es) kws pos) (envX qual scope L fa cdv cl)) Q h := by
  have e1 : ((kwL kws).map (fun p => (some p.1, kwS pos (envX qual scope L fa cdv cl) p))).map (·.2) = (kwL kws).map (kwS pos (envX qual scope L fa cdv cl)) := by rw [List.map_map]; rfl
  have e2 : ((kwL kws).map (fun p => (some p.1, kwS pos (envX qual scope L fa cdv cl) p))).filterMap (·.1) = (kwL kws).map (·.1) := by rw [List.filterMap_map]; exact List.filterMap_eq_map (f := fun p : Str × Expr => p.1) ▸ rfl
  have e3 : ((kwL kws).map (fun p => (some p.1, kwS pos (envX qual scope L fa cdv cl) p))).all (·.1.isSome) = true := by rw [List.all_map]; exact List.all_eq_true.mpr fun _ _ => rfl
  have e4 : ((kwL kws).map (fun p => (some p.1, kwS pos (envX qual scope L fa cdv cl) p))).any (·.1.isNone) = false := by rw [List.any_map]; exact List.any_eq_false.mpr fun _ _ => Bool.false_ne_true
  refine W_fcall (W_global F G gl.1 (W_callWithK G gl.2 (he.mono fun vs h1 x => ?_) (by rw [hkw]; exact e3) (by rw [hkw, hpl, e4]; rfl) hs1) hk hx hd)
  rw [hkw, e1, e2]
  exact x.mono fun ks h2 ⟨x1, x2⟩ => ⟨x1, x2.call⟩
theorem W_kw1 {env : Env} {pos : Pos} {p : Str × Expr} {rest : List (Str × Expr)} {Q : List Value → Heap → Prop} (y : Wp (model prog w) A z (eval p.2 env) (fun v h1 => Wp (model prog w) A z (evalAll (rest.map (kwS pos env))) (fun vs h2 => Q (v :: vs) h2) h1) h) :
    Wp (model prog w) A z (evalAll ((p :: rest).map (kwS pos env))) Q h := W_kwC (W_kwBack y)
end
theorem Df2 {T : Addr} {b : Bool} {i : Int} (Df : DfOk K T [.bool b, .int i]) : ∃ o n tk, K.lookup T = some o ∧ o.data = .seq #[.bool b, .int i tk] n := by
  obtain ⟨o, n, vs, hK, hd, hv⟩ := Df
  rcases vs with _ | ⟨v1, _ | ⟨v2, _ | ⟨v3, vs⟩⟩⟩ <;> simp only [DvAre, Dv.Is, and_false, and_true] at hv
  obtain ⟨rfl, tk, rfl⟩ := hv
  exact ⟨o, n, tk, hK, hd⟩
section
variable {n nc : Nat} {pc : Bool} {d x xc li : Addr} {c : Int} {ex : Bool} {ids : List Int} {lc : Led} {Tc : Tb}
noncomputable abbrev fB (x xc li : Addr) (ex : Bool) (c : Int) (t : Tok) : List (Str × Value) := [("self", .ref x), ("child", .ref xc), ("ids", .ref li), ("exclude", .bool ex), ("boost", .int c t)]
theorem mk_filt (P : PrOk prog) (k : KOk K) (I : IH prog w K ro n) (hc : nc < n) (ok : ListOk ro li ids) (MC : MRep ro pc nc lc xc Tc) {args : List Value} {kw : List (Str × Value)} (t : Tok) 
    (hb : ∀ tk0 x name kV doc pm an ct, ∃ k, bindArgs (fnX name rf_FilterMatcher_init.qual (defArgs rf_FilterMatcher_init.st) (defBody rf_FilterMatcher_init.st) (defScope rf_FilterMatcher_init.st) rf_FilterMatcher_init.cl rf_FilterMatcher_init.dV kV doc pm an rf_FilterMatcher_init.cdv ct) ⟨.ref x :: args, kw⟩ = seqItems? (fnX name rf_FilterMatcher_init.qual (defArgs rf_FilterMatcher_init.st) (defBody rf_FilterMatcher_init.st) (defScope rf_FilterMatcher_init.st) rf_FilterMatcher_init.cl rf_FilterMatcher_init.dV kV doc pm an rf_FilterMatcher_init.cdv ct).defaults >>= k ∧
    k (some #[.bool false, .int 1 tk0]) = pure (fB x xc li ex c t)) :
    Does prog w K ro (12 * n + 4) (.ref cFilt) args kw lc fun v l => ∃ d y lc', v = .ref y ∧ l = nodeC d y cFilt (φFilt xc c li ex) ++ lc' ∧ Fit ro pc nc xc ids ex lc Tc lc' := by
  obtain ⟨o, nn, tk0, hK, hd⟩ := Df2 k.v_FilterMatcher_init
  refine does_make k.i_filt fun x d => ?_
  refine does_super (kk := k) P k.s_filt k.fn_FilterMatcher_init (fB x xc li ex c t) (fun s name kV doc pm an ct X => ?_) (locs rfl) rfl
    (avals := [.ref xc]) (fun A z g L h Q F q => W_argsC (W_name F rfl (W_argsN q))) (wrap_init1 (j := 12 * n + 1) (b := 1) (own := lc) k k.c_filt k.d_filt_child k.d_filt_boost (by decide)) (fun v l ⟨_, e⟩ => by rw [e]; exact Keeps.refl.node) ?_
  · obtain ⟨k', e1, e2⟩ := hb tk0 x name kV doc pm an ct
    exact binds_K X rfl hK hd e1 e2
  intro A z g L h v l R G F O ⟨e, e2⟩
  subst e e2
  refine W_cons (W_put (v := .ref li) (fun fs => fs "child" = some (.ref xc) ∧ fs "_ids" = some (.ref li)) 4 F G O k.c_filt k.d_filt_ids_ (ev_name F) (fun fs q => ⟨⟨(upd_ne (by decide)).trans q.1.1, upd_same⟩, .inr (Nat.le_refl _)⟩) fun h F O => ?_)
  refine W_cons (W_put (v := .bool ex) (fun fs => fs "child" = some (.ref xc) ∧ fs "_ids" = some (.ref li) ∧ fs "_exclude" = some (.bool ex)) 5 F G O k.c_filt k.d_filt_exclude_ (ev_name F) (fun fs q => ⟨⟨(upd_ne (by decide)).trans q.1, (upd_ne (by decide)).trans q.2, upd_same⟩, .inr (Nat.le_refl _)⟩) fun h F O => ?_)
  refine W_cons (W_put (v := .int c t) (φFilt xc c li ex) 6 F G O k.c_filt k.d_filt_boost (ev_name F) (fun fs q => ⟨⟨⟨(upd_ne (by decide)).trans q.1, _, upd_same, t, rfl⟩, (upd_ne (by decide)).trans q.2.1, (upd_ne (by decide)).trans q.2.2⟩, .inr (Nat.le_refl _)⟩) fun h F O => ?_)
  refine W_cons (W_expr (W_tS0 (f_findnext k I hc ok MC fun fs q => q) (fun v l ⟨_, lc', e, q0⟩ => by rw [e]; exact q0.hk.node) (R.le (by omega)) G F O (ev_name F) fun v l h F O ⟨hv, lc', e2, q⟩ => ⟨fun a e => ?_, ?_⟩))
  · rcases hv with rfl | ⟨b, rfl⟩ <;> cases e
  subst e2
  exact W_nil ⟨_, nodeC d x cFilt (φFilt xc c li ex) ++ lc', F, O.weaken fun o q => dictB.mono (φ := φFilt xc c li ex) (φ' := φFilt xc c li ex) q (by decide) fun fs q => q, rfl, d, x, lc', rfl, rfl, q⟩
theorem made_filt (P : PrOk prog) (k : KOk K) (I : IH prog w K ro n) (hc : nc < n) (h0 : 0 ≤ c) (h1 : c ≤ 100) (ok : ListOk ro li ids) (inv : InvF ids ex Tc) : MadeR prog w K ro (12 * n + 5) f_FilterMatcher_replacement x (nodeC d x cFilt (φFilt xc c li ex)) false n pc nc Tc (mulT c (filtT ids ex Tc)) := by
  intro y o Mo
  refine does_enter k.fn_FilterMatcher_replacement [("self", .ref x), ("newchild", .ref y)] (fun s _ _ _ _ _ _ _ => BindsTo.of_eq rfl) (locs rfl) ?_
  intro A z g L h R G F O
  refine W_cons (W_ret (W_makeG F G k.g_FilterMatcher (W_argsC (W_name F rfl (W_argsC ((ev_field (v := .ref li) F G O k.c_filt k.d_filt_ids_ Sf.node fun fs q => q.2.1).go (W_argsN (W_kw1 ((ev_field (v := .bool ex) F G O k.c_filt k.d_filt_exclude_ Sf.node fun fs q => q.2.2).go (W_kw1 (W_field F G O k.c_filt k.d_filt_boost Sf.node (R := isInt c) (fun fs q => let ⟨v, e, i⟩ := q.1.2; ⟨v, e, i.handed, i⟩) fun v ⟨t, hv⟩ => W_kwN ⟨G.kin.keeps F.keep, ?_⟩)))))))))))
  subst hv
  have O2 : Ow g L h (o ++ nodeC d x cFilt (φFilt xc c li ex)) := O.perm List.perm_append_comm
  refine (mk_filt P k I hc ok Mo t (fun _ _ _ _ _ _ _ _ => ⟨_, rfl, rfl⟩)).use R G F O2 (fun v l ⟨d, y, lc', _, e, q0⟩ => by rw [e]; exact fun p hp f => List.mem_append_right _ (q0.hk p hp f)) fun v l h F O ⟨d2, y2, lc', e, e2, q0⟩ => q0.elim fun Tc' r1 r2 r3 r4 r5 => ?_
  obtain ⟨e3, e4⟩ := r5 inv
  subst e
  rw [e2, e3, List.append_assoc] at O
  exact ⟨_, _, F, O.perm (List.Perm.append_left _ List.perm_append_comm), nodeC d2 y2 cFilt (φFilt y c li ex), rfl, y2, rfl, .filt hc h0 h1 ok Mo inv⟩
set_option maxHeartbeats 1000000 in
theorem spec_filt (P : PrOk prog) (k : KOk K) (I : IH prog w K ro n) (hc : nc < n) (h0 : 0 ≤ c) (h1 : c ≤ 100) (ok : ListOk ro li ids) (MC : MRep ro pc nc lc xc Tc) (inv : InvF ids ex Tc) :
    SpecAt prog w K ro (12 * n + 12) false n (nodeC d x cFilt (φFilt xc c li ex) ++ lc) x (mulT c (filtT ids ex Tc)) := by
  have SC := I.get (Nat.le_refl _) hc MC
  have hsub : ∀ e ∈ lc, e ∈ nodeC d x cFilt (φFilt xc c li ex) ++ lc := fun e he => List.mem_append_right _ he
  have hnd : Nd (nodeC d x cFilt (φFilt xc c li ex) ++ lc) → Nd lc := fun q => (nodup_append.mp q).2.1
  have eT : ∀ e T', mulT c (filtT ids ex Tc) = e :: T' → ∃ s Tc', Tc = (e.1, s) :: Tc' ∧ e.2 = s * c ∧ T' = mulT c (filtT ids ex Tc') := fun e T' q => by
    cases z : filtT ids ex Tc with
    | nil => rw [z] at q; cases q
    | cons f r =>
      obtain ⟨a', e1, e2⟩ := filt_head inv z
      rw [z] at q; cases q
      exact ⟨f.2, a', e1, rfl, by rw [e2]; rfl⟩
  exact {
    active := can k.c_filt k.m_filt_is_active (((wr_active k k.c_filt k.d_filt_child (fun fs q => q.1) SC Sf.node hsub hnd).mono fun v l q => ⟨q.1, by rw [q.2, ← filt_empty inv]; cases filtT ids ex Tc <;> rfl⟩).le (by omega))
    id := fun e T' q => by
      obtain ⟨s, Tc', e1, e2, e3⟩ := eT e T' q
      exact can k.c_filt k.m_filt_id ((wr_id k k.c_filt k.d_filt_child (fun fs q => q.1) SC Sf.node hsub hnd e1).le (by omega))
    score := fun e T' q => by
      obtain ⟨s, Tc', e1, e2, e3⟩ := eT e T' q
      rw [e2]
      exact can k.c_filt k.m_filt_score ((wr_score k k.c_filt k.d_filt_child k.d_filt_boost (fun fs q => q.1) SC Sf.node hsub hnd h0 h1 e1).le (by omega))
    next := fun e T' q => by
      obtain ⟨s, Tc', e1, e2, e3⟩ := eT e T' q
      refine can k.c_filt k.m_filt_next (k := 12 * n + 12) ?_
      refine does_enter k.fn_FilterMatcher_next [("self", .ref x)] (fun s _ _ _ _ _ _ _ => BindsTo.of_eq rfl) (locs rfl) ?_
      intro A z g L h R G F O
      refine W_cons (W_expr (W_tC0 (SC.next _ _ e1) (fun _ _ q => q.2.2) (R.le (by omega)) G F O (ev_field F G O k.c_filt k.d_filt_child Sf.node fun fs q => q.1.1) fun v lc' h F O q => ⟨fun a e => ?_, ?_⟩))
      · rcases q.1 with rfl | ⟨b, rfl⟩ <;> cases e
      refine W_cons (W_expr (W_tS0 (f_findnext k I hc ok q.2.1 fun fs q => q) (fun v l ⟨_, lc', e, q0⟩ => by rw [e]; exact q0.hk.node) (R.le (by omega)) G F O (ev_name F) fun v l h F O ⟨hv, lc2, e2, q0⟩ => q0.elim fun Tc2 r1 r2 r3 r4 r5 => ⟨fun a e => ?_, ?_⟩))
      · rcases hv with rfl | ⟨b, rfl⟩ <;> cases e
      subst e2
      exact W_nil ⟨_, _, F, O, .inl rfl, by rw [e3, ← r3]; exact .filt hc h0 h1 ok r1 r2, (q.2.2.trans r4).node⟩
    maxq := can k.c_filt k.m_filt_max_quality ((wr_maxq k k.c_filt k.d_filt_child k.d_filt_boost (fun fs q => q.1) SC Sf.node hsub hnd h0 h1).le (by omega))
    copy := by
      refine can k.c_filt k.m_filt_copy (k := 12 * n + 12) ?_
      refine does_enter k.fn_FilterMatcher_copy [("self", .ref x)] (fun s _ _ _ _ _ _ _ => BindsTo.of_eq rfl) (locs rfl) ?_
      intro A z g L h R G F O
      refine W_cons (W_ret (W_makeG F G k.g_FilterMatcher (W_argsC (W_n0 SC.copy (R.le (by omega)) G F O (sC O) (ev_field F G O k.c_filt k.d_filt_child Sf.node fun fs q => q.1.1) fun v nw h F O ⟨y, e, My⟩ => ?_))))
      subst e
      have Sn : Sf (nw ++ (nodeC d x cFilt (φFilt xc c li ex) ++ lc)) x cFilt (φFilt xc c li ex) := (Sf.node (rest := lc)).mono fun e he => List.mem_append_right _ he
      refine W_argsC ((ev_field (v := .ref li) F G O k.c_filt k.d_filt_ids_ Sn fun fs q => q.2.1).go (W_argsC ((ev_field (v := .bool ex) F G O k.c_filt k.d_filt_exclude_ Sn fun fs q => q.2.2).go (W_argsN (W_kw1 (W_field F G O k.c_filt k.d_filt_boost Sn (R := isInt c) (fun fs q => let ⟨v, e, i⟩ := q.1.2; ⟨v, e, i.handed, i⟩) fun v ⟨t, hv⟩ => W_kwN ⟨G.kin.keeps F.keep, ?_⟩))))))
      subst hv
      refine (mk_filt P k I hc ok My t (fun _ _ _ _ _ _ _ _ => ⟨_, rfl, rfl⟩)).use (R.le (by omega)) G F O (fun v l ⟨d, y, lc', _, e, q0⟩ => by rw [e]; exact fun p hp f => List.mem_append_right _ (q0.hk p hp f)) fun v l h F O ⟨d2, y2, lc', e, e2, q0⟩ => q0.elim fun Tc' r1 r2 r3 r4 r5 => ?_
      obtain ⟨e3, e4⟩ := r5 inv
      subst e
      rw [e2, e3] at O
      exact ⟨_, _, F, O, _, rfl, y2, rfl, .filt hc h0 h1 ok My inv⟩
    repl := fun args q => can k.c_filt k.m_filt_replace ((wr_repl k k.c_filt k.d_filt_child (φ := φFilt xc c li ex) (fun fs q => q.1) (Spec.le SC (by omega)) MC Sf.self k.m_filt_replacement (made_filt P k I hc h0 h1 ok inv) (.filt hc h0 h1 ok MC inv) q).le (by omega))
    skip := fun q => nomatch q }
end
end Mine
end
section
set_option maxRecDepth 10000
namespace Mine
variable {prog : Program} {w : World} {K : Frag} {ro : List (Addr × Obj)}
theorem filterMap_congr' {α β : Type} {f g : α → Option β} : ∀ {l : List α}, (∀ a ∈ l, f a = g a) → l.filterMap f = l.filterMap g
  | [], _ => rfl
  | a :: l, h => by
    rw [List.filterMap_cons, List.filterMap_cons, h a (List.mem_cons_self ..), filterMap_congr' fun b hb => h b (List.mem_cons_of_mem _ hb)]
theorem inv_go {p : Nat → Bool} {wt : Int} {n : Nat} : ∀ {l : List Nat}, l.Pairwise (· < ·) → n ∈ l →
    l.filterMap (fun (k : Nat) => if (n : Int) ≤ (k : Int) ∧ p k = true then some ((k : Int), wt) else none) = (if p n then [((n : Int), wt)] else []) ++ l.filterMap (fun (k : Nat) => if (n : Int) + 1 ≤ (k : Int) ∧ p k = true then some ((k : Int), wt) else none)
  | [], _, h => nomatch h
  | a :: l, s, h => by
    have s' := List.pairwise_cons.mp s
    rw [List.filterMap_cons, List.filterMap_cons]
    rcases Nat.lt_trichotomy a n with q | q | q
    · have h1 : ¬ ((n : Int) ≤ (a : Int) ∧ p a = true) := fun z => by have := z.1; omega
      have h2 : ¬ ((n : Int) + 1 ≤ (a : Int) ∧ p a = true) := fun z => by have := z.1; omega
      rw [if_neg h1, if_neg h2]
      have : n ∈ l := by
        rcases List.mem_cons.mp h with e | e
        · omega
        · exact e
      exact inv_go s'.2 this
    · subst q
      have h2 : ¬ ((a : Int) + 1 ≤ (a : Int) ∧ p a = true) := fun z => by have := z.1; omega
      rw [if_neg h2]
      have e : l.filterMap (fun (k : Nat) => if (a : Int) ≤ (k : Int) ∧ p k = true then some ((k : Int), wt) else none) = l.filterMap (fun (k : Nat) => if (a : Int) + 1 ≤ (k : Int) ∧ p k = true then some ((k : Int), wt) else none) := by
        refine filterMap_congr' fun k hk => ?_
        have := s'.1 k hk
        by_cases c : p k = true
        · rw [if_pos ⟨by omega, c⟩, if_pos ⟨by omega, c⟩]
        · rw [if_neg fun z => c z.2, if_neg fun z => c z.2]
      rw [e]
      by_cases c : p a = true
      · rw [if_pos ⟨Int.le_refl _, c⟩, if_pos c]; rfl
      · rw [if_neg fun z => c z.2, if_neg c]; rfl
    · exfalso
      rcases List.mem_cons.mp h with e | e
      · omega
      · have := s'.1 n e; omega
theorem invT_step {i wt : Int} {T : Tb} (h0 : 0 ≤ i) (h1 : i < 12) : invT i wt T = (if (lk i T).isNone then [(i, wt)] else []) ++ invT (i + 1) wt T := by
  obtain ⟨n, rfl⟩ := Int.eq_ofNat_of_zero_le h0
  have := inv_go (p := fun k => (lk (k : Int) T).isNone) (wt := wt) (n := n) (List.pairwise_lt_range (n := 12)) (List.mem_range.mpr (by omega))
  exact this
theorem invT_end {i wt : Int} {T : Tb} (h : 12 ≤ i) : invT i wt T = [] := by
  unfold invT
  refine List.filterMap_eq_nil_iff.mpr fun k hk => ?_
  have := List.mem_range.mp hk
  exact if_neg fun z => by have := z.1; omega
theorem invT_lk {i wt : Int} {T T2 : Tb} (h : ∀ k : Int, i ≤ k → lk k T = lk k T2) : invT i wt T = invT i wt T2 := by
  unfold invT
  refine filterMap_congr' fun k hk => ?_
  by_cases c : i ≤ (k : Int)
  · rw [h _ c]
  · rw [if_neg fun z => c z.1, if_neg fun z => c z.1]
noncomputable def InvV (i : Int) (T : Tb) : Prop := ∀ e T', T = e :: T' → i < e.1
theorem invV_lk {i : Int} {T : Tb} (s : Srt T) (h : InvV i T) : lk i T = none := lk_head_lt s fun e T' q => h e T' q
theorem inv_empty {i wt : Int} {T : Tb} (h0 : 0 ≤ i) (s : Srt T) (h : InvV i T) : (!(invT i wt T).isEmpty) = decide (i < 12) := by
  by_cases c : i < 12
  · rw [invT_step h0 c, invV_lk s h, decide_eq_true c]; rfl
  · rw [invT_end (by omega), decide_eq_false c]; rfl
theorem inv_head {i wt : Int} {T : Tb} (h0 : 0 ≤ i) (s : Srt T) (h : InvV i T) {e : Int × Int} {T' : Tb} (q : invT i wt T = e :: T') : i < 12 ∧ e = (i, wt) ∧ T' = invT (i + 1) wt T := by
  by_cases c : i < 12
  · rw [invT_step h0 c, invV_lk s h] at q
    cases q
    exact ⟨c, rfl, rfl⟩
  · rw [invT_end (by omega)] at q; cases q
theorem inv_take {i wt : Int} {e : Int × Int} {T : Tb} (h0 : 0 ≤ i) (h1 : i < 12) (he : e.1 = i) : invT i wt (e :: T) = invT (i + 1) wt T := by
  rw [invT_step h0 h1]
  have : lk i (e :: T) = some e.2 := by rw [lk_cons, if_pos he.symm]
  rw [this]
  refine invT_lk fun k hk => ?_
  rw [lk_cons, if_neg (by omega)]
section
variable {A : Around} {z : Shared} {g h : Heap} {L : Addr} {m : Str → Option Value} {led : Led} {env : Env} {t : Addr} {i : Int} {tk : Tok}
theorem tup_at (O : Ow g L h led) (ht : (t, tupC) ∈ led) : IsTup h t #[] := ⟨_, O.obj ht, rfl, _, rfl⟩
theorem W_inT {Q : Value → Heap → Prop} (O : Ow g L h led) (ht : (t, tupC) ∈ led) (q : Q (.bool false) h) : Wp (model prog w) A z (compareOp .In (.int i tk) (.ref t)) Q h := fun k =>
  in_tuple_ints (s := St z h k) (tup_at O ht) (ns := []) .nil ⟨h, k, rfl, q⟩
theorem W_notinT {Q : Value → Heap → Prop} (O : Ow g L h led) (ht : (t, tupC) ∈ led) (q : Q (.bool true) h) : Wp (model prog w) A z (compareOp .NotIn (.int i tk) (.ref t)) Q h := fun k =>
  notin_tuple_ints (s := St z h k) (tup_at O ht) (ns := []) .nil ⟨h, k, rfl, q⟩
theorem W_truthT {Q : Bool → Heap → Prop} (O : Ow g L h led) (ht : (t, tupC) ∈ led) (q : Q false h) : Wp (model prog w) A z (truthy (.ref t)) Q h := fun k =>
  ktl_truthy (s := St z h k) (O.obj ht) (by decide) ⟨h, _, rfl, q⟩
theorem W_ge {a b : Int} {t u : Tok} {Q : Value → Heap → Prop} (q : Q (.bool (decide (a ≥ b))) h) : Wp (model prog w) A z (compareOp .GtE (.int a t) (.int b u)) Q h := fun tk => ge_int (s := St z h tk) ⟨h, tk, rfl, q⟩
end
/-- the child brought past the id -/
noncomputable def Past (ro : List (Addr × Obj)) (nc : Nat) (xc : Addr) (wt i : Int) (lc : Led) (Tc : Tb) (j : Int) (lc' : Led) : Prop :=
  ∃ Tc', MRep ro true nc lc' xc Tc' ∧ i ≤ j ∧ InvV j Tc' ∧ invT j wt Tc' = invT i wt Tc ∧ Keeps lc lc' ∧ (InvV i Tc → j = i ∧ lc' = lc ∧ Tc' = Tc)
theorem Past.elim {ro : List (Addr × Obj)} {nc : Nat} {xc : Addr} {wt i : Int} {lc : Led} {Tc : Tb} {j : Int} {lc' : Led} {C : Prop} (q : Past ro nc xc wt i lc Tc j lc')
    (k : ∀ Tc', MRep ro true nc lc' xc Tc' → i ≤ j → InvV j Tc' → invT j wt Tc' = invT i wt Tc → Keeps lc lc' → (InvV i Tc → j = i ∧ lc' = lc ∧ Tc' = Tc) → C) : C := by
  obtain ⟨a, h1, h2, h3, h4, h5, h6⟩ := q
  exact k a h1 h2 h3 h4 h5 h6
theorem Past.hk {ro : List (Addr × Obj)} {nc : Nat} {xc : Addr} {wt i : Int} {lc : Led} {Tc : Tb} {j : Int} {lc' : Led} (q : Past ro nc xc wt i lc Tc j lc') : Keeps lc lc' := q.elim fun _ _ _ _ _ h _ => h
section
variable {n nc bb : Nat} {d x xc t : Addr} {wt i : Int} {lc : Led} {Tc : Tb}
theorem iv_id {fs : Str → Option Value} (q : φInv xc t wt i fs) : ∃ v, fs "_id" = some v ∧ handedIn v = true ∧ isInt i v := let ⟨v, e, k⟩ := q.2.2.2.2; ⟨v, e, k.handed, k⟩
theorem iv_lim {fs : Str → Option Value} (q : φInv xc t wt i fs) : ∃ v, fs "limit" = some v ∧ handedIn v = true ∧ isInt 12 v := let ⟨v, e, k⟩ := q.2.1; ⟨v, e, k.handed, k⟩
theorem iv_wt {fs : Str → Option Value} (q : φInv xc t wt i fs) : ∃ v, fs "_weight" = some v ∧ handedIn v = true ∧ isInt wt v := let ⟨v, e, k⟩ := q.2.2.1; ⟨v, e, k.handed, k⟩
theorem iv_up {fs : Str → Option Value} {v : Value} {j : Int} (q : φInv xc t wt i fs) (hv : isInt j v) : φInv xc t wt j (upd fs "_id" v) :=
  ⟨⟨(upd_ne (by decide)).trans q.1.1, let ⟨v, e, k⟩ := q.1.2; ⟨v, (upd_ne (by decide)).trans e, k⟩⟩, let ⟨v, e, k⟩ := q.2.1; ⟨v, (upd_ne (by decide)).trans e, k⟩, let ⟨v, e, k⟩ := q.2.2.1; ⟨v, (upd_ne (by decide)).trans e, k⟩, (upd_ne (by decide)).trans q.2.2.2.1, v, upd_same, hv⟩
/-- the last loop's word -/
noncomputable def InvVV (ro : List (Addr × Obj)) (nc bb : Nat) (d x xc t : Addr) (wt i : Int) (lc : Led) (Tc : Tb) (m : Str → Option Value) (g : Heap) (L : Addr) (mz : Nat) (h : Heap) : Prop :=
  ∀ C : Prop, (∀ j lc' Tc', Fr g L h m → Ow g L h (nodeB bb d x cInv (φInv xc t wt j) ++ ([(t, tupC)] ++ lc')) → MRep ro true nc lc' xc Tc' → Keeps lc lc' → i ≤ j → (∀ e ∈ Tc', j ≤ e.1) → invT j wt Tc' = invT i wt Tc → (InvV i Tc → j = i ∧ lc' = lc ∧ Tc' = Tc) → mz = Tc'.length → C) → C
theorem v_findnext (k : KOk K) (I : IH prog w K ro n) (hc : nc < n) (h0 : 0 ≤ i) (hbb : bb ≤ 900) (MC : MRep ro true nc lc xc Tc) :
    Can prog w K ro (12 * n + 1) x "_find_next" [] (nodeB bb d x cInv (φInv xc t wt i) ++ ([(t, tupC)] ++ lc)) fun v l => v = .none ∧ ∃ j lc', l = nodeB bb d x cInv (φInv xc t wt j) ++ ([(t, tupC)] ++ lc') ∧ Past ro nc xc wt i lc Tc j lc' := by
  refine Can.via fun post kq => ?_
  have kp : ∀ j lc' Tc', MRep ro true nc lc' xc Tc' → i ≤ j → InvV j Tc' → invT j wt Tc' = invT i wt Tc → Keeps lc lc' → (InvV i Tc → j = i ∧ lc' = lc ∧ Tc' = Tc) → post .none (nodeB bb d x cInv (φInv xc t wt j) ++ ([(t, tupC)] ++ lc')) := fun j lc' Tc' a b c d e f => kq _ _ ⟨rfl, j, lc', rfl, Tc', a, b, c, d, e, f⟩
  clear kq
  refine can k.c_inv k.m_inv_find_next ?_
  refine does_enter k.fn_InverseMatcher_find_next [("self", .ref x)] (fun s _ _ _ _ _ _ _ => BindsTo.of_eq rfl) (locs rfl) ?_
  intro A z g L h R G F O
  have SC := I.get (Nat.le_refl _) hc MC
  have oC := MC.ok
  have mt : ∀ j (lc' : Led), (t, tupC) ∈ nodeB bb d x cInv (φInv xc t wt j) ++ ([(t, tupC)] ++ lc') := fun j lc' => by simp
  refine W_cons (S_ev F O (ev_field F G O k.c_inv k.d_inv_child Sf.node fun fs q => q.1.1) fun h F O => ?_)
  refine W_cons (S_ev F O (ev_field (v := .ref t) F G O k.c_inv k.d_inv_missing Sf.node fun fs q => q.2.2.2.1) fun h F O => ?_)
  have main : ∀ h, Fr g L h (upd (upd (fun y => ([("self", .ref x)] : List (Str × Value)).reverse.lookup y) "child" (.ref xc)) "missing" (.ref t)) → Ow g L h (nodeB bb d x cInv (φInv xc t wt i) ++ ([(t, tupC)] ++ lc)) → (!Tc.isEmpty) = true →
      Wp (model prog w) A z (execs ((defBody rf_InverseMatcher_find_next.st).drop 3) (envX rf_InverseMatcher_find_next.qual (defScope rf_InverseMatcher_find_next.st) L f_InverseMatcher_find_next rf_InverseMatcher_find_next.cdv rf_InverseMatcher_find_next.cl)) (Ret g L post) h := by
    intro h F O act
    first | refine consE act fun e0 T0 eC => ?_ | refine consE2 act fun e0 T0 eC => ?_
    -- the last loop
    have loop : ∀ h lc1 Tc1, Fr g L h (upd (upd (fun y => ([("self", .ref x)] : List (Str × Value)).reverse.lookup y) "child" (.ref xc)) "missing" (.ref t)) → Ow g L h (nodeB bb d x cInv (φInv xc t wt i) ++ ([(t, tupC)] ++ lc1)) → MRep ro true nc lc1 xc Tc1 → Keeps lc lc1 → (∀ e ∈ Tc1, i ≤ e.1) → invT i wt Tc1 = invT i wt Tc → (InvV i Tc → lc1 = lc ∧ Tc1 = Tc) →
        Wp (model prog w) A z (execs ((defBody rf_InverseMatcher_find_next.st).drop 5) (envX rf_InverseMatcher_find_next.qual (defScope rf_InverseMatcher_find_next.st) L f_InverseMatcher_find_next rf_InverseMatcher_find_next.cdv rf_InverseMatcher_find_next.cl)) (Ret g L post) h := by
      intro h lc1 Tc1 F O M1 hk1 hge hT hs
      refine W_cons (W_while (InvVV ro nc bb d x xc t wt i lc Tc (upd (upd (fun y => ([("self", .ref x)] : List (Str × Value)).reverse.lookup y) "child" (.ref xc)) "missing" (.ref t)) g L) _
        (fun C k => k i lc1 Tc1 F O M1 hk1 (Int.le_refl _) hge hT (fun q => ⟨rfl, hs q⟩) rfl) ?_)
      intro mz h H
      refine H _ fun j lc' Tc' F O M' hk hij hge hT hs e3 => ?_
      subst e3
      have S' := I.get (Nat.le_refl _) hc M'
      have o' := M'.ok
      have out : ∀ h, Fr g L h (upd (upd (fun y => ([("self", .ref x)] : List (Str × Value)).reverse.lookup y) "child" (.ref xc)) "missing" (.ref t)) → Ow g L h (nodeB bb d x cInv (φInv xc t wt j) ++ ([(t, tupC)] ++ lc')) → InvV j Tc' → Ret g L post .next h :=
        fun h F O q => rn F O (kp _ _ _ M' hij q hT hk hs)
      refine W_tand (T_p0 R G F O S'.active (sB O) (ev_name F) fun h F O => ⟨fun c => ?_, fun c => ⟨fun e => (nomatch e), fun _ => W_nil (W_nil (out _ F O ?_))⟩⟩)
      rotate_left 1
      · have : Tc' = [] := by first | exact nil1 (by assumption) | exact nil2 (by assumption) | exact nil3 (by assumption)
        rw [this]; exact fun e T' q => nomatch q
      first | refine consE c fun e1 T1 eq1 => ?_ | refine consE2 c fun e1 T1 eq1 => ?_
      have he1 : e1 ∈ Tc' := by rw [eq1]; exact List.mem_cons_self ..
      refine W_tand (W_tcmp (W_field F G O k.c_inv k.d_inv_id_ Sf.node (R := isInt j) (fun fs q => iv_id q) fun v ⟨t1, hv⟩ => W_field F G O k.c_inv k.d_inv_limit Sf.node (R := isInt 12) (fun fs q => iv_lim q) fun v2 ⟨t2, hv2⟩ => ?_))
      subst hv hv2
      refine W_lt (W_truthB ⟨fun c2 => W_tandN ⟨fun _ => ?_, fun e => (nomatch e)⟩, fun c2 => ⟨fun e => (nomatch e), fun _ => W_nil (W_nil (out _ F O ?_))⟩⟩)
      rotate_left 1
      · have : ¬ j < 12 := by simpa using c2
        have h1 := hge e1 he1
        have h2 := (o'.2 e1 he1).2
        omega
      have c2 : j < 12 := by simpa using c2
      refine W_cons (W_if (W_tcmp (W_field F G O k.c_inv k.d_inv_id_ Sf.node (R := isInt j) (fun fs q => iv_id q) fun v ⟨t1, hv⟩ => W_name F rfl ?_)))
      subst hv
      refine W_inT O (mt _ _) (W_truthB ⟨fun e => (nomatch e), fun _ => W_nil ?_⟩)
      refine W_cons (W_if (W_tcmp (W_field F G O k.c_inv k.d_inv_id_ Sf.node (R := isInt j) (fun fs q => iv_id q) fun v ⟨t1, hv⟩ => W_p0 (S'.id _ _ eq1) R G F O (sB O) (ev_name F) fun v2 h F O ⟨t2, hv2⟩ => ?_)))
      subst hv hv2
      refine W_eq (W_truthB ⟨fun c3 => ?_, fun c3 => W_nil (W_cons (W_break (W_nil (out _ F O ?_))))⟩)
      rotate_left 1
      · have c3 : j ≠ e1.1 := by simpa using c3
        have h1 := hge e1 he1
        intro e T' q
        rw [eq1] at q; cases q
        omega
      have c3 : j = e1.1 := by simpa using c3
      refine W_cons (S_inc (φInv xc t wt (j + 1)) F G O k.c_inv k.d_inv_id_ (fun fs q => q.2.2.2.2) (fun fs v q hv => iv_up q hv) (fun h F O => ?_) (hb := hbb))
      refine W_cons (W_expr (W_tB0 (S'.next _ _ eq1) (fun _ _ q => q.2.2) R G F O (ev_name F) fun v lc2 h F O q => ⟨fun a e => ?_, W_cons (W_continue ?_)⟩))
      · rcases q.1 with rfl | ⟨b, rfl⟩ <;> cases e
      refine ⟨T1.length, by rw [eq1]; exact Nat.lt_succ_self _, fun C k => k (j + 1) lc2 T1 F O q.2.1 (hk.trans q.2.2) (by omega) (fun e he => ?_) ?_ (fun iv => ?_) rfl⟩
      · have s := o'.1
        rw [eq1] at s
        have := s.head e he
        omega
      · rw [← hT, eq1, inv_take (by omega) c2 c3.symm]
      · exfalso
        obtain ⟨q1, q2, q3⟩ := hs iv
        rw [← q3] at iv
        have := iv e1 T1 eq1
        omega
    have all : ∀ h, Fr g L h (upd (upd (fun y => ([("self", .ref x)] : List (Str × Value)).reverse.lookup y) "child" (.ref xc)) "missing" (.ref t)) → Ow g L h (nodeB bb d x cInv (φInv xc t wt i) ++ ([(t, tupC)] ++ lc)) →
        Wp (model prog w) A z (execs ((defBody rf_InverseMatcher_find_next.st).drop 4) (envX rf_InverseMatcher_find_next.qual (defScope rf_InverseMatcher_find_next.st) L f_InverseMatcher_find_next rf_InverseMatcher_find_next.cdv rf_InverseMatcher_find_next.cl)) (Ret g L post) h := by
      intro h F O
      refine W_cons (W_if (W_tand (T_p0 R G F O SC.active (sB O) (ev_name F) fun h F O => ⟨fun c => W_tand (W_tcmp (W_p0 (SC.id _ _ eC) R G F O (sB O) (ev_name F) fun v h F O ⟨t1, hv⟩ => W_field F G O k.c_inv k.d_inv_id_ Sf.node (R := isInt i) (fun fs q => iv_id q) fun v2 ⟨t2, hv2⟩ => ?_)), fun c => ?_⟩)))
      rotate_left 1
      · rw [act] at c; cases c
      subst hv hv2
      refine W_lt (W_truthB ⟨fun c2 => W_tandN ⟨fun _ => ?_, fun e => (nomatch e)⟩, fun c2 => ⟨fun e => (nomatch e), fun _ => W_nil (loop _ lc Tc F O MC Keeps.refl ?_ rfl fun _ => ⟨rfl, rfl⟩)⟩⟩)
      · have c2 : e0.1 < i := by simpa using c2
        refine W_cons (W_expr (W_tB1x (P := isInt i) (v0 := .int i 0) (fun v ⟨t, e⟩ => e ▸ SC.skip rfl i t _ _ eC) ⟨0, rfl⟩ (fun _ _ q => q.2.2.2) R G F O (ev_name F) (fun Q' q => W_field F G O k.c_inv k.d_inv_id_ Sf.node (R := isInt i) (fun fs q => iv_id q) fun v hv => q v _ F O hv) fun v lc1 h F O q => ⟨fun a e => ?_, W_nil (loop _ lc1 _ F O q.2.1 q.2.2.2 (fun e he => (dropLt_mem oC.1 e he).1) (invT_lk fun k hk => dropLt_lk hk) fun iv => ?_)⟩))
        · rcases q.1 with rfl | ⟨b, rfl⟩ <;> cases e
        · have := iv e0 T0 eC; omega
      · have c2 : i ≤ e0.1 := by simpa using c2
        intro e he
        have s := oC.1
        rw [eC] at s he
        have := head_le s e he
        omega
    refine W_cons (W_while (fun _ h => Fr g L h (upd (upd (fun y => ([("self", .ref x)] : List (Str × Value)).reverse.lookup y) "child" (.ref xc)) "missing" (.ref t)) ∧ Ow g L h (nodeB bb d x cInv (φInv xc t wt i) ++ ([(t, tupC)] ++ lc))) 0 ⟨F, O⟩ ?_)
    rintro mz h ⟨F, O⟩
    refine W_tand (W_tcmp (W_field F G O k.c_inv k.d_inv_id_ Sf.node (R := isInt i) (fun fs q => iv_id q) fun v ⟨t1, hv⟩ => W_field F G O k.c_inv k.d_inv_limit Sf.node (R := isInt 12) (fun fs q => iv_lim q) fun v2 ⟨t2, hv2⟩ => ?_))
    subst hv hv2
    refine W_lt (W_truthB ⟨fun c2 => W_tand (W_tcmp (W_field F G O k.c_inv k.d_inv_id_ Sf.node (R := isInt i) (fun fs q => iv_id q) fun v ⟨t1, hv⟩ => W_name F rfl ?_)), fun c2 => ⟨fun e => (nomatch e), fun _ => W_nil (all _ F O)⟩⟩)
    subst hv
    exact W_inT O (mt _ _) (W_truthB ⟨fun e => (nomatch e), fun _ => ⟨fun e => (nomatch e), fun _ => W_nil (all _ F O)⟩⟩)
  refine W_cons (W_if (W_tand (W_tnot (T_p0 R G F O SC.active (sB O) (ev_name F) fun h F O => ⟨fun c => W_tand (W_tcmp (W_field F G O k.c_inv k.d_inv_id_ Sf.node (R := isInt i) (fun fs q => iv_id q) fun v ⟨t1, hv⟩ => W_name F rfl ?_)), fun c => ⟨fun e => (nomatch e), fun _ => W_nil (main _ F O (by simpa using c))⟩⟩))))
  subst hv
  have z1 : Tc = [] := by first | exact nil1 (by assumption) | exact nil2 (by assumption) | exact nil3 (by assumption)
  refine W_notinT O (mt _ _) (W_truthB ⟨fun _ => W_tandN ⟨fun _ => W_cons (W_ret0 (rt F O (kp i lc Tc MC (Int.le_refl _) ?_ rfl Keeps.refl fun _ => ⟨rfl, rfl, rfl⟩))), fun e => (nomatch e)⟩, fun e => (nomatch e)⟩)
  rw [z1]; exact fun e T' q => nomatch q
end
end Mine
end
section
set_option maxRecDepth 10000
namespace Mine
variable {prog : Program} {w : World} {K : Frag} {ro : List (Addr × Obj)}
theorem invT_drop {wt k : Int} {T : Tb} : ∀ (n : Nat) (i : Int), 0 ≤ i → i + n = k → dropLt k (invT i wt T) = invT k wt T
  | 0, i, _, h => by
    have : i = k := by omega
    subst this
    exact dropLt_all fun e he => (invT_mem he).1
  | n + 1, i, h0, h => by
    by_cases c : i < 12
    · have ih := invT_drop (wt := wt) (k := k) (T := T) n (i + 1) (by omega) (by omega)
      rw [invT_step h0 c]
      by_cases c2 : (lk i T).isNone = true
      · rw [if_pos c2]; show dropLt k ((i, wt) :: invT (i + 1) wt T) = _; rw [dropLt_cons, if_pos (by show i < k; omega)]; exact ih
      · rw [if_neg c2]; exact ih
    · rw [invT_end (by omega), invT_end (by omega)]; rfl
section
variable {A : Around} {z : Shared} {g h : Heap} {L : Addr} {m : Str → Option Value} {led : Led} {env : Env}
theorem Ow.push1 {h' : Heap} {t : Addr} {o : Obj} (O : Ow g L h led) (N : News g L h' ((t, o) :: ex h led)) (ht : ∀ p ∈ led, p.1 ≠ t) : Ow g L h' ((t, isObj o) :: led) := by
  have O' : Ow g L h' led := O.ofNews fun q hq => N q (List.mem_cons_of_mem _ hq)
  have n0 := N (t, o) (List.mem_cons_self ..)
  refine ⟨⟨⟨fun p hp => ?_⟩, fun p hp => ?_, List.pairwise_cons.mpr ⟨fun q hq e => absurd e.symm (ht q hq), O.nd⟩⟩, fun p hp => ?_⟩
  · rcases List.mem_cons.mp hp with rfl | hp
    · exact ⟨o, n0.1, rfl⟩
    · exact O'.has.get p hp
  · rcases List.mem_cons.mp hp with rfl | hp
    · exact n0.2.2
    · exact O'.own.off p hp
  · rcases List.mem_cons.mp hp with rfl | hp
    · exact n0.2.1
    · exact O'.ne p hp
theorem Ow.lt (O : Ow g L h led) : ∀ p ∈ led, p.1 ≠ h.objs.size := fun p hp => let ⟨o, e, _⟩ := O.has.get p hp; Nat.ne_of_lt (Heap.lt_size e)
theorem Ow.dup {t : Addr} {o : Obj} (O : Ow g L h led) (ht : (t, isObj o) ∈ led) : Ow g L h ((t, isObj o) :: led) := by
  refine ⟨⟨⟨fun p hp => ?_⟩, fun p hp => ?_, List.pairwise_cons.mpr ⟨fun q hq e => ?_, O.nd⟩⟩, fun p hp => ?_⟩
  · rcases List.mem_cons.mp hp with rfl | hp
    · exact O.has.get _ ht
    · exact O.has.get p hp
  · rcases List.mem_cons.mp hp with rfl | hp
    · exact O.own.off _ ht
    · exact O.own.off p hp
  · have := same_of_nodup O.has O.nd ht hq e
    exact ⟨trivial, this ▸ trivial⟩
  · rcases List.mem_cons.mp hp with rfl | hp
    · exact O.ne _ ht
    · exact O.ne p hp
theorem W_tuple0 {k : Nat} {pos : Pos} {Q : Value → Heap → Prop} (F : Fr g L h m) (O : Ow g L h led) (q : ∀ t h', Fr g L h' m → Ow g L h' ((t, tupC) :: led) → Q (.ref t) h') : Wp (model prog w) A z (eval (.Tuple [] k pos) env) Q h := fun tk =>
  Tuple_ (s := St z h tk) (spliced_none (s := St z h tk) (newTuple_N (s := St z h tk) F O.news (fun h' F' N' => ⟨h', tk, rfl, q _ h' F' (O.push1 N' O.lt)⟩) (by decide)))
end
theorem Df3 {T : Addr} (Df : DfOk K T [.none, .int 1, .int 0]) : ∃ o n a b, K.lookup T = some o ∧ o.data = .seq #[.none, .int 1 a, .int 0 b] n := by
  obtain ⟨o, n, vs, hK, hd, hv⟩ := Df
  rcases vs with _ | ⟨v1, _ | ⟨v2, _ | ⟨v3, _ | ⟨v4, vs⟩⟩⟩⟩ <;> simp only [DvAre, Dv.Is, and_false, and_true] at hv
  obtain ⟨rfl, ⟨a, rfl⟩, b, rfl⟩ := hv
  exact ⟨o, n, a, b, hK, hd⟩
noncomputable abbrev vB (x xc : Addr) (mv : Value) (wt i : Int) (t1 t2 t3 : Tok) : List (Str × Value) := [("self", .ref x), ("child", .ref xc), ("limit", .int 12 t1), ("missing", mv), ("weight", .int wt t2), ("id", .int i t3)]
theorem permV {S t l z : Led} : (S ++ (t ++ (z ++ l))).Perm ((S ++ (t ++ l)) ++ z) := by
  classical
  refine List.perm_iff_count.mpr fun x => ?_
  simp only [List.count_append]; omega
section
variable {n nc : Nat} {p : Bool} {d x xc t : Addr} {wt i : Int} {lc : Led} {Tc : Tb}
theorem mk_inv (P : PrOk prog) (k : KOk K) (I : IH prog w K ro n) (hc : nc < n) (h0 : 0 ≤ i) (MC : MRep ro true nc lc xc Tc) {args : List Value} {kw : List (Str × Value)} {mv : Value} {Z : Led} (t1 t2 : Tok) (t3 : Tok → Tok) (hmv : mv = .none ∨ ∃ t0, mv = .ref t0 ∧ (t0, tupC) ∈ Z)
    (hb : ∀ a b x name kV doc pm an ct, ∃ k, bindArgs (fnX name rf_InverseMatcher_init.qual (defArgs rf_InverseMatcher_init.st) (defBody rf_InverseMatcher_init.st) (defScope rf_InverseMatcher_init.st) rf_InverseMatcher_init.cl rf_InverseMatcher_init.dV kV doc pm an rf_InverseMatcher_init.cdv ct) ⟨.ref x :: args, kw⟩ = seqItems? (fnX name rf_InverseMatcher_init.qual (defArgs rf_InverseMatcher_init.st) (defBody rf_InverseMatcher_init.st) (defScope rf_InverseMatcher_init.st) rf_InverseMatcher_init.cl rf_InverseMatcher_init.dV kV doc pm an rf_InverseMatcher_init.cdv ct).defaults >>= k ∧
      k (some #[.none, .int 1 a, .int 0 b]) = pure (vB x xc mv wt i t1 t2 (t3 b))) :
    Does prog w K ro (12 * n + 4) (.ref cInv) args kw (Z ++ lc) fun v l => ∃ d y t j lc', v = .ref y ∧ l = (nodeC d y cInv (φInv xc t wt j) ++ ([(t, tupC)] ++ lc')) ++ Z ∧ Past ro nc xc wt i lc Tc j lc' := by
  obtain ⟨o, nn, a, b, hK, hd⟩ := Df3 k.v_InverseMatcher_init
  refine does_make k.i_inv fun x d => ?_
  refine does_super (kk := k) P k.s_inv k.fn_InverseMatcher_init (vB x xc mv wt i t1 t2 (t3 b)) (fun s name kV doc pm an ct X => ?_) (locs rfl) rfl
    (avals := [.ref xc]) (fun A z g L h Q F q => W_argsC (W_name F rfl (W_argsN q))) (wrap_init1 (j := 12 * n + 1) (b := 1) (own := Z ++ lc) k k.c_inv k.d_inv_child k.d_inv_boost (by decide)) (fun v l ⟨_, e⟩ => by rw [e]; exact Keeps.refl.node) ?_
  · obtain ⟨k', e1, e2⟩ := hb a b x name kV doc pm an ct
    exact binds_K X rfl hK hd e1 e2
  intro A z g L h v l R G F O ⟨e, e2⟩
  subst e e2
  refine W_cons (W_put (v := .int 12 t1) (fun fs => φWrap xc 1 fs ∧ ∃ v, fs "limit" = some v ∧ isInt 12 v) 4 F G O k.c_inv k.d_inv_limit (ev_name F) (fun fs q => ⟨⟨⟨(upd_ne (by decide)).trans q.1.1, let ⟨v, e, k⟩ := q.1.2; ⟨v, (upd_ne (by decide)).trans e, k⟩⟩, _, upd_same, t1, rfl⟩, .inr (Nat.le_refl _)⟩) fun h F O => ?_)
  refine W_cons (W_put (v := .int wt t2) (fun fs => φWrap xc 1 fs ∧ (∃ v, fs "limit" = some v ∧ isInt 12 v) ∧ ∃ v, fs "_weight" = some v ∧ isInt wt v) 5 F G O k.c_inv k.d_inv_weight_ (ev_name F) (fun fs q => ⟨⟨⟨(upd_ne (by decide)).trans q.1.1, let ⟨v, e, k⟩ := q.1.2; ⟨v, (upd_ne (by decide)).trans e, k⟩⟩, (let ⟨v, e, k⟩ := q.2; ⟨v, (upd_ne (by decide)).trans e, k⟩), _, upd_same, t2, rfl⟩, .inr (Nat.le_refl _)⟩) fun h F O => ?_)
  refine W_cons (W_assignAttr (W_or (W_name (v := mv) F rfl ?_)))
  have tr : ∀ Q : Bool → Heap → Prop, Q false h → Wp (model prog w) A z (truthy mv) Q h := fun Q q => by
    rcases hmv with rfl | ⟨t0, rfl, hm⟩
    · exact W_truthN q
    · exact W_truthT O (List.mem_append_right _ (List.mem_append_left _ hm)) q
  refine tr _ ⟨fun e => (nomatch e), fun _ => W_or1 (W_tuple0 F O fun t h F O => W_name F rfl ?_)⟩
  have O : Ow g L h (nodeB 5 d x cInv (fun fs => φWrap xc 1 fs ∧ (∃ v, fs "limit" = some v ∧ isInt 12 v) ∧ ∃ v, fs "_weight" = some v ∧ isInt wt v) ++ ([(t, tupC)] ++ (Z ++ lc))) := O.perm (List.perm_append_comm_assoc [(t, tupC)] (nodeB 5 d x cInv _) (Z ++ lc))
  refine W_setAttr (φ' := fun fs => φWrap xc 1 fs ∧ (∃ v, fs "limit" = some v ∧ isInt 12 v) ∧ (∃ v, fs "_weight" = some v ∧ isInt wt v) ∧ fs "missing" = some (.ref t)) F G O k.c_inv k.d_inv_missing (List.mem_cons_self ..) (by decide) 6 (by decide) (fun fs q => ⟨⟨⟨(upd_ne (by decide)).trans q.1.1, let ⟨v, e, k⟩ := q.1.2; ⟨v, (upd_ne (by decide)).trans e, k⟩⟩, (let ⟨v, e, k⟩ := q.2.1; ⟨v, (upd_ne (by decide)).trans e, k⟩), (let ⟨v, e, k⟩ := q.2.2; ⟨v, (upd_ne (by decide)).trans e, k⟩), upd_same⟩, .inr (Nat.le_refl _)⟩) fun h F O => ?_
  refine W_cons (W_put (v := .int i (t3 b)) (φInv xc t wt i) 7 F G O k.c_inv k.d_inv_id_ (ev_name F) (fun fs q => ⟨⟨⟨(upd_ne (by decide)).trans q.1.1, let ⟨v, e, k⟩ := q.1.2; ⟨v, (upd_ne (by decide)).trans e, k⟩⟩, (let ⟨v, e, k⟩ := q.2.1; ⟨v, (upd_ne (by decide)).trans e, k⟩), (let ⟨v, e, k⟩ := q.2.2.1; ⟨v, (upd_ne (by decide)).trans e, k⟩), (upd_ne (by decide)).trans q.2.2.2, _, upd_same, t3 b, rfl⟩, .inr (Nat.le_refl _)⟩) fun h F O => ?_)
  refine W_cons (W_expr (W_t0 (v_findnext k I hc h0 (by decide) MC) (fun v l ⟨_, j, lc', e, q0⟩ => by rw [e]; exact (Keeps.refl.app q0.hk).node) (R.le (by omega)) G F (O.perm permV) (ev_name F) fun v l h F O ⟨hv, j, lc', e2, q⟩ => ?_))
  subst hv e2
  exact ⟨fun a e => (nomatch e), W_nil ⟨_, (nodeC d x cInv (φInv xc t wt j) ++ ([(t, tupC)] ++ lc')) ++ Z, F, O.weaken fun o q => dictB.mono (φ := φInv xc t wt j) (φ' := φInv xc t wt j) q (by decide) fun fs q => q, rfl, d, x, t, j, lc', rfl, rfl, q⟩⟩
end
end Mine
end
section
set_option maxRecDepth 10000
namespace Mine
variable {prog : Program} {w : World} {K : Frag} {ro : List (Addr × Obj)}
section
variable {n nc : Nat} {p : Bool} {d x xc t : Addr} {wt i : Int} {lc : Led} {Tc : Tb}
/-- the cells that a new inverse took over a copy of the tuple's cell -/
theorem keepsV {S t l Z : Led} {l' : Led} (h : Keeps l l') : Keeps (Z ++ l) ((S ++ (t ++ l')) ++ Z) := fun p hp f => by
  rcases List.mem_append.mp hp with hp | hp
  · exact List.mem_append_right _ hp
  · exact List.mem_append_left _ (List.mem_append_right _ (List.mem_append_right _ (h p hp f)))
theorem made_inv (P : PrOk prog) (k : KOk K) (I : IH prog w K ro n) (hc : nc < n) (h0 : 0 ≤ i) (inv : InvV i Tc) : MadeR prog w K ro (12 * n + 5) f_InverseMatcher_replacement x (nodeC d x cInv (φInv xc t wt i) ++ [(t, tupC)]) p n true nc Tc (invT i wt Tc) := by
  intro y o Mo
  refine does_enter k.fn_InverseMatcher_replacement [("self", .ref x), ("newchild", .ref y)] (fun s _ _ _ _ _ _ _ => BindsTo.of_eq rfl) (locs rfl) ?_
  intro A z g L h R G F O
  have Sn : Sf ((nodeC d x cInv (φInv xc t wt i) ++ [(t, tupC)]) ++ o) x cInv (φInv xc t wt i) := (Sf.self).mono fun e he => List.mem_append_left _ (List.mem_append_left _ he)
  refine W_cons (W_ret (W_makeG F G k.g_InverseMatcher (W_argsC (W_name F rfl (W_argsC (W_field F G O k.c_inv k.d_inv_limit Sn (R := isInt 12) (fun fs q => iv_lim q) fun v ⟨t1, hv⟩ => W_argsN (W_kw1 ((ev_field (v := .ref t) F G O k.c_inv k.d_inv_missing Sn fun fs q => q.2.2.2.1).go (W_kw1 (W_field F G O k.c_inv k.d_inv_weight_ Sn (R := isInt wt) (fun fs q => iv_wt q) fun v2 ⟨t2, hv2⟩ => W_kw1 (W_field F G O k.c_inv k.d_inv_id_ Sn (R := isInt i) (fun fs q => iv_id q) fun v3 ⟨t3, hv3⟩ => W_kwN ⟨G.kin.keeps F.keep, ?_⟩)))))))))))
  subst hv hv2 hv3
  have O2 : Ow g L h (([(t, tupC)] ++ o) ++ nodeC d x cInv (φInv xc t wt i)) := O.perm (by
    rw [List.append_assoc]; exact List.perm_append_comm)
  refine (mk_inv P k I hc h0 Mo t1 t2 (fun _ => t3) (.inr ⟨t, rfl, List.mem_cons_self ..⟩) (fun _ _ _ _ _ _ _ _ _ => ⟨_, rfl, rfl⟩)).use R G F O2 (fun v l ⟨d, y, t, j, lc', _, e, q0⟩ => by rw [e]; exact keepsV q0.hk) fun v l h F O ⟨d2, y2, t', j, lc', e, e2, q0⟩ => q0.elim fun Tc' r1 r2 r3 r4 r5 r6 => ?_
  obtain ⟨e3, e4, e5⟩ := r6 inv
  subst e
  rw [e2, e3, e4] at O
  refine ⟨_, _, F, O.perm (led' := (nodeC d2 y2 cInv (φInv y t' wt i) ++ [(t', tupC)]) ++ ((nodeC d x cInv (φInv xc t wt i) ++ [(t, tupC)]) ++ o)) ?_, _, rfl, y2, rfl, ?_⟩
  · classical
    refine List.perm_iff_count.mpr fun x => ?_
    simp only [List.count_append]; omega
  · rw [List.append_assoc]
    exact .inv hc h0 Mo inv
set_option maxHeartbeats 1000000 in
theorem spec_inv (P : PrOk prog) (k : KOk K) (I : IH prog w K ro n) (hc : nc < n) (h0 : 0 ≤ i) (MC : MRep ro true nc lc xc Tc) (inv : InvV i Tc) :
    SpecAt prog w K ro (12 * n + 12) p n (nodeC d x cInv (φInv xc t wt i) ++ ([(t, tupC)] ++ lc)) x (invT i wt Tc) := by
  have SC := I.get (Nat.le_refl _) hc MC
  have oC := MC.ok
  exact {
    active := by
      refine can k.c_inv k.m_inv_is_active (k := 12 * n + 12) ?_
      refine does_enter k.fn_InverseMatcher_is_active [("self", .ref x)] (fun s _ _ _ _ _ _ _ => BindsTo.of_eq rfl) (locs rfl) ?_
      intro A z g L h R G F O
      refine W_cons (W_ret (W_cmp (W_field F G O k.c_inv k.d_inv_id_ Sf.node (R := isInt i) (fun fs q => iv_id q) fun v ⟨t1, hv⟩ => W_field F G O k.c_inv k.d_inv_limit Sf.node (R := isInt 12) (fun fs q => iv_lim q) fun v2 ⟨t2, hv2⟩ => ?_)))
      subst hv hv2
      exact W_lt ⟨_, _, F, O, rfl, by rw [inv_empty h0 oC.1 inv]⟩
    id := fun e T' q => by
      obtain ⟨q1, q2, q3⟩ := inv_head h0 oC.1 inv q
      refine can k.c_inv k.m_inv_id (k := 12 * n + 12) ?_
      refine does_enter k.fn_InverseMatcher_id [("self", .ref x)] (fun s _ _ _ _ _ _ _ => BindsTo.of_eq rfl) (locs rfl) ?_
      intro A z g L h R G F O
      exact W_cons (W_ret (W_field F G O k.c_inv k.d_inv_id_ Sf.node (R := isInt i) (fun fs q => iv_id q) fun v hv => ⟨_, _, F, O, rfl, by rw [q2]; exact hv⟩))
    score := fun e T' q => by
      obtain ⟨q1, q2, q3⟩ := inv_head h0 oC.1 inv q
      refine can k.c_inv k.m_inv_score (k := 12 * n + 12) ?_
      refine does_enter k.fn_InverseMatcher_score [("self", .ref x)] (fun s _ _ _ _ _ _ _ => BindsTo.of_eq rfl) (locs rfl) ?_
      intro A z g L h R G F O
      exact W_cons (W_ret (W_field F G O k.c_inv k.d_inv_weight_ Sf.node (R := isInt wt) (fun fs q => iv_wt q) fun v hv => ⟨_, _, F, O, rfl, by rw [q2]; exact hv⟩))
    next := fun e T' q => by
      obtain ⟨q1, q2, q3⟩ := inv_head h0 oC.1 inv q
      refine can k.c_inv k.m_inv_next (k := 12 * n + 12) ?_
      refine does_enter k.fn_InverseMatcher_next [("self", .ref x)] (fun s _ _ _ _ _ _ _ => BindsTo.of_eq rfl) (locs rfl) ?_
      intro A z g L h R G F O
      refine W_cons (W_if (W_tcmp (W_field F G O k.c_inv k.d_inv_id_ Sf.node (R := isInt i) (fun fs q => iv_id q) fun v ⟨t1, hv⟩ => W_field F G O k.c_inv k.d_inv_limit Sf.node (R := isInt 12) (fun fs q => iv_lim q) fun v2 ⟨t2, hv2⟩ => ?_)))
      subst hv hv2
      refine W_ge (W_truthB ⟨fun c => ?_, fun c => W_nil ?_⟩)
      · have : i ≥ 12 := by simpa using c
        omega
      refine W_cons (S_inc (φInv xc t wt (i + 1)) F G O k.c_inv k.d_inv_id_ (fun fs q => q.2.2.2.2) (fun fs v q hv => iv_up q hv) fun h F O => ?_)
      refine W_cons (W_expr (W_tS0 (v_findnext k I hc (by omega) (by decide) MC) (fun v l ⟨_, j, lc', e, q0⟩ => by rw [e]; exact (Keeps.refl.app q0.hk).node) (R.le (by omega)) G F O (ev_name F) fun v l h F O ⟨hv, j, lc', e2, q0⟩ => q0.elim fun Tc' r1 r2 r3 r4 r5 r6 => ?_))
      subst hv e2
      exact ⟨fun a e => (nomatch e), W_nil ⟨_, _, F, O, .inl rfl, by rw [q3, ← r4]; exact .inv hc (by omega) r1 r3, (Keeps.refl.app r5).node⟩⟩
    maxq := can k.c_inv k.m_inv_max_quality ((wr_maxq (c := 1) k k.c_inv k.d_inv_child k.d_inv_boost (fun fs q => q.1) SC Sf.node (fun e he => by simp [he]) (fun q => (nodup_append.mp (nodup_append.mp q).2.1).2.1) (by decide) (by decide)).le (by omega))
    copy := by
      refine can k.c_inv k.m_inv_copy (k := 12 * n + 12) ?_
      refine does_enter k.fn_InverseMatcher_copy [("self", .ref x)] (fun s _ _ _ _ _ _ _ => BindsTo.of_eq rfl) (locs rfl) ?_
      intro A z g L h R G F O
      refine W_cons (W_ret (W_makeG F G k.g_InverseMatcher (W_argsC (W_n0 SC.copy (R.le (by omega)) G F O (sB O) (ev_field F G O k.c_inv k.d_inv_child Sf.node fun fs q => q.1.1) fun v nw h F O ⟨y, e, My⟩ => ?_))))
      subst e
      have Sn : Sf (nw ++ (nodeC d x cInv (φInv xc t wt i) ++ ([(t, tupC)] ++ lc))) x cInv (φInv xc t wt i) := (Sf.node (rest := [(t, tupC)] ++ lc)).mono fun e he => List.mem_append_right _ he
      refine W_argsC (W_field F G O k.c_inv k.d_inv_limit Sn (R := isInt 12) (fun fs q => iv_lim q) fun v ⟨t1, hv⟩ => W_argsN (W_kw1 (W_field F G O k.c_inv k.d_inv_weight_ Sn (R := isInt wt) (fun fs q => iv_wt q) fun v2 ⟨t2, hv2⟩ => W_kw1 ((ev_field (v := .ref t) F G O k.c_inv k.d_inv_missing Sn fun fs q => q.2.2.2.1).go (W_kw1 (W_field F G O k.c_inv k.d_inv_id_ Sn (R := isInt i) (fun fs q => iv_id q) fun v3 ⟨t3, hv3⟩ => W_kwN ⟨G.kin.keeps F.keep, ?_⟩))))))
      subst hv hv2 hv3
      have O2 : Ow g L h (([(t, tupC)] ++ nw) ++ (nodeC d x cInv (φInv xc t wt i) ++ ([(t, tupC)] ++ lc))) := O.dup (List.mem_append_right _ (List.mem_append_right _ (List.mem_cons_self ..)))
      refine (mk_inv P k I hc h0 My t1 t2 (fun _ => t3) (.inr ⟨t, rfl, List.mem_cons_self ..⟩) (fun _ _ _ _ _ _ _ _ _ => ⟨_, rfl, rfl⟩)).use (R.le (by omega)) G F O2 (fun v l ⟨d, y, t, j, lc', _, e, q0⟩ => by rw [e]; exact keepsV q0.hk) fun v l h F O ⟨d2, y2, t', j, lc', e, e2, q0⟩ => q0.elim fun Tc' r1 r2 r3 r4 r5 r6 => ?_
      obtain ⟨e3, e4, e5⟩ := r6 inv
      subst e
      rw [e2, e3, e4] at O
      have O3 : Ow g L h ([(t, tupC)] ++ ((nodeC d2 y2 cInv (φInv y t' wt i) ++ ([(t', tupC)] ++ nw)) ++ (nodeC d x cInv (φInv xc t wt i) ++ ([(t, tupC)] ++ lc)))) := O.perm (by
        classical
        refine List.perm_iff_count.mpr fun x => ?_
        simp only [List.count_append]; omega)
      exact ⟨_, _, F, O3.right, _, rfl, y2, rfl, .inv hc h0 My inv⟩
    repl := fun args q => by
      have := wr_repl (p := p) (S := nodeC d x cInv (φInv xc t wt i) ++ [(t, tupC)]) k k.c_inv k.d_inv_child (φ := φInv xc t wt i) (c := 1) (fun fs q => q.1) (Spec.le SC (by omega)) MC (Sf.self.mono fun e he => List.mem_append_left _ he) k.m_inv_replacement (made_inv P k I hc h0 inv) (by rw [List.append_assoc]; exact .inv hc h0 MC inv) q
      rw [List.append_assoc] at this
      exact can k.c_inv k.m_inv_replace (this.le (by omega))
    skip := fun pt kx tk e T' q => by
      obtain ⟨q1, q2, q3⟩ := inv_head h0 oC.1 inv q
      refine can k.c_inv k.m_inv_skip_to (k := 12 * n + 12) ?_
      refine does_enter k.fn_InverseMatcher_skip_to [("self", .ref x), ("id", .int kx tk)] (fun s _ _ _ _ _ _ _ => BindsTo.of_eq rfl) (locs rfl) ?_
      intro A z g L h R G F O
      refine W_cons (W_if (W_tcmp (W_field F G O k.c_inv k.d_inv_id_ Sf.node (R := isInt i) (fun fs q => iv_id q) fun v ⟨t1, hv⟩ => W_field F G O k.c_inv k.d_inv_limit Sf.node (R := isInt 12) (fun fs q => iv_lim q) fun v2 ⟨t2, hv2⟩ => ?_)))
      subst hv hv2
      refine W_ge (W_truthB ⟨fun c => ?_, fun c => W_nil ?_⟩)
      · have : i ≥ 12 := by simpa using c
        omega
      refine W_cons (W_if (W_tcmp (W_name F rfl (W_field F G O k.c_inv k.d_inv_id_ Sf.node (R := isInt i) (fun fs q => iv_id q) fun v ⟨t1, hv⟩ => ?_))))
      subst hv
      refine W_lt (W_truthB ⟨fun c2 => W_cons (W_ret0 ⟨_, _, F, O, .inl rfl, ?_, fun _ => rfl, Keeps.refl⟩), fun c2 => W_nil ?_⟩)
      · have c2 : kx < i := by simpa using c2
        rw [dropLt_all fun e he => by have := (invT_mem he).1; omega]
        exact .inv hc h0 MC inv
      have c2 : i ≤ kx := by simpa using c2
      refine W_cons (W_put (v := .int kx tk) (φInv xc t wt kx) 20 F G O k.c_inv k.d_inv_id_ (ev_name F) (fun fs q => ⟨iv_up q ⟨tk, rfl⟩, .inl ⟨.inr rfl, Nat.le_refl _⟩⟩) fun h F O => ?_)
      refine W_cons (W_expr (W_tS0 (v_findnext k I hc (by omega) (by decide) MC) (fun v l ⟨_, j, lc', e, q0⟩ => by rw [e]; exact (Keeps.refl.app q0.hk).node) (R.le (by omega)) G F O (ev_name F) fun v l h F O ⟨hv, j, lc', e2, q0⟩ => q0.elim fun Tc' r1 r2 r3 r4 r5 r6 => ?_))
      subst hv e2
      refine ⟨fun a e => (nomatch e), W_nil ⟨_, _, F, O, .inl rfl, ?_, fun c => ?_, (Keeps.refl.app r5).node⟩⟩
      · rw [invT_drop (kx - i).toNat i h0 (by omega), ← r4]; exact .inv hc (by omega) r1 r3
      · rw [q2] at c
        have c : kx ≤ i := c
        have ek : kx = i := by omega
        subst ek
        obtain ⟨e3, e4, e5⟩ := r6 inv
        rw [e3, e4] }
end
end Mine
end
section
set_option maxRecDepth 10000
namespace Mine
variable {prog : Program} {w : World} {K : Frag} {ro : List (Addr × Obj)}
theorem permR {a b S T : Led} : ((S ++ (a ++ b)) ++ T).Perm (T ++ (S ++ (a ++ b))) := List.perm_append_comm
section
variable {m n na nb : Nat} {p : Bool} {d x d2 y xa xb : Addr} {la lb : Led} {Ta Tb' : Tb}
/-- RequireMatcher(a, b) -/
theorem mk_req (P : PrOk prog) (k : KOk K) (I : IH prog w K ro m) (hm : m < n) (MA : MRep ro true na la xa Ta) (MB : MRep ro true nb lb xb Tb') (ha : na < m) (hb : nb < m) :
    Does prog w K ro (12 * n + 2) (.ref cReq) [.ref xa, .ref xb] [] (la ++ lb) fun v l => ∃ d x d2 y la' lb', v = .ref x ∧ l = nodeC d x cReq (φReq xa xb y) ++ (nodeC d2 y cInter (φBi xa xb) ++ (la' ++ lb')) ∧ Met ro na nb xa xb la lb Ta Tb' la' lb' ∧ (MeetT Ta Tb' → la' = la ∧ lb' = lb) := by
  refine does_make k.i_req fun x d => ?_
  refine does_enter k.fn_RequireMatcher_init [("self", .ref x), ("a", .ref xa), ("b", .ref xb)] (fun s _ _ _ _ _ _ _ => BindsTo.of_eq rfl) (locs rfl) ?_
  intro A z g L h R G F O
  refine W_cons (W_put (v := .ref xa) (fun fs => fs "a" = some (.ref xa) ∧ fs "_id" = none) 2 F G O k.c_req k.d_req_a (ev_name F) (fun fs q => ⟨⟨upd_same, (upd_ne (by decide)).trans (q _)⟩, .inr (Nat.le_refl _)⟩) fun h F O => ?_)
  refine W_cons (W_put (v := .ref xb) (φNew xa xb) 3 F G O k.c_req k.d_req_b (ev_name F) (fun fs q => ⟨⟨⟨(upd_ne (by decide)).trans q.1, upd_same⟩, (upd_ne (by decide)).trans q.2⟩, .inr (Nat.le_refl _)⟩) fun h F O => ?_)
  refine W_cons (W_expr (W_mcall (W_global F G k.g_WrappingMatcher.1 (W_clsInit k.ci_wrap F G (W_callWithE G k.ci_wrap.keep (W_argsC (W_name F rfl (W_argsC (W_fcall (W_global F G k.g_IntersectionMatcher.1 (W_callWithE G k.g_IntersectionMatcher.2 (W_argsC (W_name F rfl (W_argsC (W_name F rfl (W_argsN ⟨G.kin.keeps F.keep, Cd.call ?_⟩))))))))))))))))
  refine (mk_inter P k I MA MB ha hb).use (R.le (by omega)) G F (O.perm List.perm_append_comm) (fun v l ⟨d, y, la', lb', _, e, q0, _⟩ => by rw [e]; exact fun p hp f => List.mem_append_right _ (q0.ka.app q0.kb p hp f)) fun v l h F O ⟨d2, y, la', lb', e, e2, q⟩ => ?_
  subst e e2
  refine W_argsN ⟨G.kin.keeps F.keep, Cd.call ?_⟩
  have O2 := O.perm permR
  refine Does.use (la := nodeB 3 d x cReq (φNew xa xb) ++ (nodeC d2 y cInter (φBi xa xb) ++ (la' ++ lb'))) (rest := []) (wrap_init1 (j := 0) (b := 3) (y := y) (own := nodeC d2 y cInter (φBi xa xb) ++ (la' ++ lb')) k k.c_req k.d_req_child k.d_req_boost (by decide)) (R.le (by omega)) G F (by rw [List.append_nil]; exact O2) (fun v l ⟨_, e⟩ => by rw [e]; exact Keeps.refl.node) fun v l h F O ⟨e, e2⟩ => ?_
  subst e e2
  rw [List.append_nil] at O
  exact ⟨fun a e => (nomatch e), W_nil ⟨_, nodeC d x cReq (φReq xa xb y) ++ (nodeC d2 y cInter (φBi xa xb) ++ (la' ++ lb')), F, O.weaken fun o q => dictB.mono (φ' := φReq xa xb y) q (by decide) fun fs ⟨q1, fs0, q2, q3⟩ => ⟨⟨(q3 _ (by decide) (by decide)).trans q2.1.1, (q3 _ (by decide) (by decide)).trans q2.1.2⟩, q1⟩, rfl, d, x, d2, y, la', lb', rfl, rfl, q⟩⟩
variable (P : PrOk prog) (k : KOk K) (I : IH prog w K ro n) (I' : IH prog w K ro m) (hm : m < n) (MA : MRep ro true na la xa Ta) (MB : MRep ro true nb lb xb Tb') (ha : na < m) (hb : nb < m) (inv : MeetT Ta Tb')
include P k I I' hm MA MB ha hb inv
theorem r_rep : MRep ro p n (nodeC d x cReq (φReq xa xb y) ++ (nodeC d2 y cInter (φBi xa xb) ++ (la ++ lb))) x (joinT (fun s _ => s) Ta Tb') :=
  .req (by omega) (by omega) MA MB inv
set_option maxHeartbeats 1000000 in
theorem r_repl {args : List Value} (hargs : args = [] ∨ ∃ i tk, i ≤ 0 ∧ args = [.int i tk]) :
    Does prog w K ro (12 * n + 6) (.ref f_RequireMatcher_replace) (.ref x :: args) [] (nodeC d x cReq (φReq xa xb y) ++ (nodeC d2 y cInter (φBi xa xb) ++ (la ++ lb))) (ReplPost ro p n (nodeC d x cReq (φReq xa xb y) ++ (nodeC d2 y cInter (φBi xa xb) ++ (la ++ lb))) (joinT (fun s _ => s) Ta Tb')) := by
  have SA := I.get (Nat.le_refl _) (by omega : na < n) MA
  have SB := I.get (Nat.le_refl _) (by omega : nb < n) MB
  have SC := I.get (Nat.le_refl _) hm (MRep.inter (p := true) (d := d2) (x := y) ha hb MA MB inv)
  refine does_repl k.fn_RequireMatcher_replace k.v_RequireMatcher_replace hargs ?_
  intro i tk hi A z g L h R0 G F O
  have R : Room A (12 * n) := R0.le (by omega)
  have sa : ∀ {h}, Ow g L h (nodeC d x cReq (φReq xa xb y) ++ (nodeC d2 y cInter (φBi xa xb) ++ (la ++ lb))) → Sub la (nodeC d x cReq (φReq xa xb y) ++ (nodeC d2 y cInter (φBi xa xb) ++ (la ++ lb))) := fun O => (sA O.right).trans O.subR
  have sb : ∀ {h}, Ow g L h (nodeC d x cReq (φReq xa xb y) ++ (nodeC d2 y cInter (φBi xa xb) ++ (la ++ lb))) → Sub lb (nodeC d x cReq (φReq xa xb y) ++ (nodeC d2 y cInter (φBi xa xb) ++ (la ++ lb))) := fun O => (sB O.right).trans O.subR
  refine W_cons (W_if (W_tnot (T_p0 R G F O SC.active (sC O) (ev_field F G O k.c_req k.d_req_child Sf.node fun fs q => q.2.1) fun h F O => ⟨fun c => ?_, fun c => ?_⟩)))
  · refine W_cons (S_retNull (k := 12 * n) k (R0.le (by omega)) G F O fun d' y h F O => ⟨_, _, F, O, _, rfl, y, _, rfl, O.subL, ?_⟩)
    have z1 : joinT (fun s _ => s) Ta Tb' = [] := by
      have e1 := meet_empty (f := fun s _ => s) inv
      have e2 := meet_empty (f := (· + ·)) inv
      cases z : joinT (fun s _ => s) Ta Tb' with
      | nil => rfl
      | cons _ _ => rw [z, ← e2] at e1; rw [← e1] at c; cases c
    rw [z1]; exact .null
  have act : (!Ta.isEmpty) = true := by
    rw [meet_empty inv] at c
    cases q : Ta.isEmpty <;> simp_all
  have rest : ∀ h, Fr g L h (fun y => (rB x i tk).reverse.lookup y) → Ow g L h (nodeC d x cReq (φReq xa xb y) ++ (nodeC d2 y cInter (φBi xa xb) ++ (la ++ lb))) →
      Wp (model prog w) A z (execs ((defBody rf_RequireMatcher_replace.st).drop 1) (envX rf_RequireMatcher_replace.qual (defScope rf_RequireMatcher_replace.st) L f_RequireMatcher_replace rf_RequireMatcher_replace.cdv rf_RequireMatcher_replace.cl)) (Ret g L (ReplPost ro p n (nodeC d x cReq (φReq xa xb y) ++ (nodeC d2 y cInter (φBi xa xb) ++ (la ++ lb))) (joinT (fun s _ => s) Ta Tb'))) h := by
    intro h F O
    refine W_cons (W_assign (g := g) (W_n1 (SA.repl _ (.inr ⟨i, tk, hi, rfl⟩)) R G F O (sa O) (ev_field F G O k.c_req k.d_req_a Sf.node fun fs q => q.1.1) (ev_name F) fun v nwa h F O ⟨ya, oa, e, sa', Ma⟩ => ⟨_, _, F, O, fun h F O => ?_⟩))
    subst e
    have Sn1 : Sf (nwa ++ (nodeC d x cReq (φReq xa xb y) ++ (nodeC d2 y cInter (φBi xa xb) ++ (la ++ lb)))) x cReq (φReq xa xb y) := Sf.node.mono fun e he => List.mem_append_right _ he
    refine W_cons (W_assign (g := g) (W_n0 (SB.repl [] (.inl rfl)) R G F O ((sb O.right).trans O.subR) (ev_field F G O k.c_req k.d_req_b Sn1 (fun fs q => q.1.2)) fun v nwb h F O ⟨yb, ob, e, sb', Mb⟩ => ⟨_, _, F, O, fun h F O => ?_⟩))
    subst e
    have Sn2 : Sf (nwb ++ (nwa ++ (nodeC d x cReq (φReq xa xb y) ++ (nodeC d2 y cInter (φBi xa xb) ++ (la ++ lb))))) x cReq (φReq xa xb y) := Sn1.mono fun e he => List.mem_append_right _ he
    have SA' := I.get (Nat.le_refl _) (by omega : na < n) Ma
    have soa : Sub oa (nwb ++ (nwa ++ (nodeC d x cReq (φReq xa xb y) ++ (nodeC d2 y cInter (φBi xa xb) ++ (la ++ lb))))) := ⟨fun e he => by rcases List.mem_append.mp (sa'.mem e he) with h | h <;> simp [h], sa'.nd⟩
    refine W_cons (W_if (W_tnot (T_p0 R G F O SA'.active soa (ev_name F) fun h F O => ⟨fun q => ?_, fun _ => ?_⟩)))
    · rw [act] at q; cases q
    refine W_cons (W_if (T_neq2 O (ev_name (v := .ref ya) F rfl) (ev_field (v := .ref xa) F G O k.c_req k.d_req_a Sn2 (fun fs q => q.1.1)) (ev_name (v := .ref yb) F rfl) (ev_field (v := .ref xb) F G O k.c_req k.d_req_b Sn2 (fun fs q => q.1.2)) Ma MA Mb MB
      soa.mem (fun e he => by simp [he]) (fun e he => by rcases List.mem_append.mp (sb'.mem e he) with h | h <;> simp [h]) (fun e he => by simp [he]) ⟨fun c => ?_, fun c => ?_⟩))
    · refine W_cons (W_ret (W_fcall (W_global F G k.g_RequireMatcher.1 (W_callWithE G k.g_RequireMatcher.2 (W_argsC (W_name F rfl (W_argsC ((ev_field (v := .ref xb) F G O k.c_req k.d_req_b Sn2 (fun fs q => q.1.2)).go (W_argsN ⟨G.kin.keeps F.keep, Cd.call ?_⟩)))))))))
      -- the new first part and the old second part lie apart
      have perm1 : (nwb ++ (nwa ++ (nodeC d x cReq (φReq xa xb y) ++ (nodeC d2 y cInter (φBi xa xb) ++ (la ++ lb))))).Perm (((nwa ++ la) ++ lb) ++ (nwb ++ (nodeC d x cReq (φReq xa xb y) ++ nodeC d2 y cInter (φBi xa xb)))) := by
        classical
        refine List.perm_iff_count.mpr fun x => ?_
        simp only [List.count_append]; omega
      have nd1 : Nd ((nwa ++ la) ++ lb) := (O.perm perm1).left.nd
      have s2 : Sub (oa ++ lb) (nwb ++ (nwa ++ (nodeC d x cReq (φReq xa xb y) ++ (nodeC d2 y cInter (φBi xa xb) ++ (la ++ lb))))) :=
        Sub.two sa' ⟨fun e h => h, (nodup_append.mp nd1).2.1⟩ nd1 fun e he => by
          simp only [List.mem_append] at he ⊢
          rcases he with (h | h) | h <;> simp [h]
      have D := (mk_req (n := n) P k I' hm Ma MB ha hb).mono (post' := fun v l => ∃ nw, l = nw ++ (oa ++ lb) ∧ ∃ x2, v = .ref x2 ∧ MRep ro p n (nw ++ (oa ++ lb)) x2 (joinT (fun s _ => s) Ta Tb')) fun v l ⟨d3, x3, d4, y4, la', lb', e, e2, _, st⟩ => by
        obtain ⟨e3, e4⟩ := st inv
        refine ⟨nodeC d3 x3 cReq (φReq ya xb y4) ++ nodeC d4 y4 cInter (φBi ya xb), by rw [e2, e3, e4, List.append_assoc], x3, e, ?_⟩
        rw [List.append_assoc]
        exact .req (by omega) (by omega) Ma MB inv
      refine D.useN (R0.le (by omega)) G F O s2 fun v nw h F O ⟨x2, e, MM⟩ => ⟨_, _, F, O, nw ++ (nwb ++ nwa), by simp only [List.append_assoc], x2, _, e, ?_, MM⟩
      have := Sub.app (b := nw) (Sub.trans s2 O.subR) (fun e he => List.mem_append_left _ he) (nodup_append.mpr ⟨O.left.nd, s2.nd, fun p hp q hq => (nodup_append.mp O.nd).2.2 p hp q (s2.mem q hq)⟩)
      simpa only [List.append_assoc] using this
    · refine W_cons (W_ret (W_name F rfl ⟨_, _, F, O, nwb ++ nwa, (List.append_assoc ..).symm, x, _, rfl, ?_, .req (d := d) (d2 := d2) (y := y) (by omega) (by omega) MA MB inv⟩))
      rw [List.append_assoc]
      exact O.right.right |> fun o => ⟨fun e he => List.mem_append_right _ (List.mem_append_right _ he), o.nd⟩
  refine W_cons (W_if (W_tand (T_nameI F rfl ⟨fun c1 => W_tand (W_tcmp (W_p0 SA.maxq R G F O (sa O) (ev_field F G O k.c_req k.d_req_a Sf.node fun fs q => q.1.1) fun v h F O ⟨qa, ⟨ta, ea⟩, ha'⟩ => ?_)), fun c1 => ⟨fun e => (nomatch e), fun _ => W_nil (W_nil (rest _ F O))⟩⟩)))
  subst ea
  refine W_name F rfl (W_lt (W_truthB ⟨fun c3 => ?_, fun c3 => ⟨fun e => (nomatch e), fun _ => W_nil (W_nil (rest _ F O))⟩⟩))
  have : qa < i := by simpa using c3
  omega
end
end Mine
end
section
set_option maxRecDepth 10000
namespace Mine
variable {prog : Program} {w : World} {K : Frag} {ro : List (Addr × Obj)}
section
variable {m n na nb : Nat} {p : Bool} {d x d2 y xa xb : Addr} {la lb : Led} {Ta Tb' : Tb}
set_option maxHeartbeats 1000000 in
theorem spec_req (P : PrOk prog) (k : KOk K) (I : IH prog w K ro n) (I' : IH prog w K ro m) (hm : m < n) (MA : MRep ro true na la xa Ta) (MB : MRep ro true nb lb xb Tb') (ha : na < m) (hb : nb < m) (inv : MeetT Ta Tb') :
    SpecAt prog w K ro (12 * n + 12) p n (nodeC d x cReq (φReq xa xb y) ++ (nodeC d2 y cInter (φBi xa xb) ++ (la ++ lb))) x (joinT (fun s _ => s) Ta Tb') := by
  have SA := I.get (Nat.le_refl _) (by omega : na < n) MA
  have SB := I.get (Nat.le_refl _) (by omega : nb < n) MB
  have MC := MRep.inter (p := true) (d := d2) (x := y) ha hb MA MB inv
  have SC := I.get (Nat.le_refl _) hm MC
  have hsub : ∀ e ∈ nodeC d2 y cInter (φBi xa xb) ++ (la ++ lb), e ∈ nodeC d x cReq (φReq xa xb y) ++ (nodeC d2 y cInter (φBi xa xb) ++ (la ++ lb)) := fun e he => List.mem_append_right _ he
  have hnd : Nd (nodeC d x cReq (φReq xa xb y) ++ (nodeC d2 y cInter (φBi xa xb) ++ (la ++ lb))) → Nd (nodeC d2 y cInter (φBi xa xb) ++ (la ++ lb)) := fun q => (nodup_append.mp q).2.1
  have sa : ∀ {g h L}, Ow g L h (nodeC d x cReq (φReq xa xb y) ++ (nodeC d2 y cInter (φBi xa xb) ++ (la ++ lb))) → Sub la (nodeC d x cReq (φReq xa xb y) ++ (nodeC d2 y cInter (φBi xa xb) ++ (la ++ lb))) := fun O => (sA O.right).trans O.subR
  have sb : ∀ {g h L}, Ow g L h (nodeC d x cReq (φReq xa xb y) ++ (nodeC d2 y cInter (φBi xa xb) ++ (la ++ lb))) → Sub lb (nodeC d x cReq (φReq xa xb y) ++ (nodeC d2 y cInter (φBi xa xb) ++ (la ++ lb))) := fun O => (sB O.right).trans O.subR
  exact {
    active := can k.c_req k.m_req_is_active (((wr_active k k.c_req k.d_req_child (fun fs q => q.2) SC Sf.node hsub hnd).mono fun v l q => ⟨q.1, by rw [q.2, meet_empty inv, meet_empty inv]⟩).le (by omega))
    id := fun e T' q => by
      obtain ⟨s, t, a', b', e1, e2, e3, e4⟩ := meet_head inv q
      have eC : joinT (· + ·) Ta Tb' = (e.1, s + t) :: joinT (· + ·) a' Tb' := by
        rw [e1, joinT_cons, e2, lk_cons, if_pos rfl]
      exact can k.c_req k.m_req_id ((wr_id k k.c_req k.d_req_child (fun fs q => q.2) SC Sf.node hsub hnd eC).le (by omega))
    score := fun e T' q => by
      obtain ⟨s, t, a', b', e1, e2, e3, e4⟩ := meet_head inv q
      refine can k.c_req k.m_req_score (k := 12 * n + 12) ?_
      refine does_enter k.fn_RequireMatcher_score [("self", .ref x)] (fun s _ _ _ _ _ _ _ => BindsTo.of_eq rfl) (locs rfl) ?_
      intro A z g L h R G F O
      exact W_cons (W_ret (W_p0 (SA.score _ _ e1) (R.le (by omega)) G F O (sa O) (ev_field F G O k.c_req k.d_req_a Sf.node fun fs q => q.1.1) fun v h F O q => ⟨_, _, F, O, rfl, by rw [e3]; exact q⟩))
    next := fun e T' q => by
      obtain ⟨s, t, a', b', e1, e2, e3, e4⟩ := meet_head inv q
      refine can k.c_req k.m_req_next (k := 12 * n + 12) ?_
      refine does_enter k.fn_WrappingMatcher_next [("self", .ref x)] (fun s _ _ _ _ _ _ _ => BindsTo.of_eq rfl) (locs rfl) ?_
      intro A z g L h R G F O
      refine W_cons (W_expr (W_tC0 (i_next k I' ha hb MA MB (fun fs q => q) inv e1 e2) (fun v l ⟨_, la', lb', e, q0⟩ => by rw [e]; exact (q0.ka.app q0.kb).node) (R.le (by omega)) G F O (ev_field F G O k.c_req k.d_req_child Sf.node fun fs q => q.2.1) fun v lc' h F O ⟨hv, la', lb', e, q0⟩ => q0.elim fun Ta2 Tb2 r1 r2 r3 r4 r5 r6 => ⟨fun a e => ?_, ?_⟩))
      · rcases hv with rfl | ⟨b, rfl⟩ <;> cases e
      subst e
      exact W_nil ⟨_, _, F, O, .inl rfl, by rw [e4, ← r4]; exact .req (by omega) (by omega) r1 r2 r3, (r5.app r6).node.node⟩
    maxq := by
      refine can k.c_req k.m_req_max_quality (k := 12 * n + 12) ?_
      refine does_enter k.fn_RequireMatcher_max_quality [("self", .ref x)] (fun s _ _ _ _ _ _ _ => BindsTo.of_eq rfl) (locs rfl) ?_
      intro A z g L h R G F O
      exact W_cons (W_ret (W_p0 SA.maxq (R.le (by omega)) G F O (sa O) (ev_field F G O k.c_req k.d_req_a Sf.node fun fs q => q.1.1) fun v h F O q => ⟨_, _, F, O, rfl, q⟩))
    copy := by
      refine can k.c_req k.m_req_copy (k := 12 * n + 12) ?_
      refine does_enter k.fn_RequireMatcher_copy [("self", .ref x)] (fun s _ _ _ _ _ _ _ => BindsTo.of_eq rfl) (locs rfl) ?_
      intro A z g L h R0 G F O
      have R := R0.le (k' := 12 * n) (by omega)
      refine W_cons (W_ret (W_fcall (W_global F G k.g_RequireMatcher.1 (W_callWithE G k.g_RequireMatcher.2 (W_argsC (W_n0 SA.copy R G F O (sa O) (ev_field F G O k.c_req k.d_req_a Sf.node fun fs q => q.1.1) fun v nwa h F O ⟨ya, e, Ma⟩ => ?_))))))
      subst e
      refine W_argsC (W_n0 SB.copy R G F O ((sb O.right).trans O.subR) (ev_field F G O k.c_req k.d_req_b (Sf.node.mono fun e he => List.mem_append_right _ he) fun fs q => q.1.2) fun v nwb h F O ⟨yb, e, Mb⟩ => W_argsN ⟨G.kin.keeps F.keep, Cd.call ?_⟩)
      subst e
      have O2 := O.perm perm3'
      refine (mk_req (n := n) P k I' hm Ma Mb ha hb).use (R0.le (by omega)) G F O2 (fun v l ⟨d, x, d2, y, la', lb', _, e, q0, _⟩ => by rw [e]; exact fun p hp f => List.mem_append_right _ (List.mem_append_right _ (q0.ka.app q0.kb p hp f))) fun v l h F O ⟨d3, x3, d4, y4, la', lb', e, e2, _, st⟩ => ?_
      obtain ⟨e3, e4⟩ := st inv
      subst e
      rw [e2, e3, e4] at O
      exact ⟨_, _, F, O, _, rfl, x3, rfl, .req (by omega) (by omega) Ma Mb inv⟩
    repl := fun args q => can k.c_req k.m_req_replace ((r_repl P k I I' hm MA MB ha hb inv q).le (by omega))
    skip := fun pt i tk e T' q => by
      obtain ⟨s, t, a', b', e1, e2, e3, e4⟩ := meet_head inv q
      refine can k.c_req k.m_req_skip_to (k := 12 * n + 12) ?_
      refine does_enter k.fn_WrappingMatcher_skip_to [("self", .ref x), ("id", .int i tk)] (fun s _ _ _ _ _ _ _ => BindsTo.of_eq rfl) (locs rfl) ?_
      intro A z g L h R G F O
      refine W_cons (W_ret (W_tC1 (i_skip k I' ha hb MA MB (fun fs q => q) inv e1 e2 i tk) (fun v l ⟨_, la', lb', e, q0, _⟩ => by rw [e]; exact (q0.ka.app q0.kb).node) (R.le (by omega)) G F O (ev_field F G O k.c_req k.d_req_child Sf.node fun fs q => q.2.1) (ev_name F) fun v lc' h F O ⟨hv, la', lb', e, ⟨Ta2, Tb2, r1, r2, r3, r4, r5, r6⟩, st⟩ => ?_))
      subst e
      exact ⟨_, _, F, O, hv, by rw [joinT_dropLt MA.ok.1, ← r4]; exact .req (by omega) (by omega) r1 r2 r3, fun c => by rw [(st c).1, (st c).2], (r5.app r6).node.node⟩ }
end
/-- every matcher keeps its contracts -/
theorem spec_all (P : PrOk prog) (k : KOk K) : ∀ (n : Nat) (ro : List (Addr × Obj)) (p : Bool) (own : Led) (x : Addr) (T : Tb), MRep ro p n own x T → SpecAt prog w K ro (12 * n + 12) p n own x T := by
  intro n
  induction n using Nat.strongRecOn with
  | _ n ih =>
    intro ro p own x T h
    have I : ∀ m, m ≤ n → IH prog w K ro m := fun m hm p m' own x T hlt M => Spec.le (ih m' (by omega) ro p own x T M) (by omega)
    have I0 := I n (Nat.le_refl _)
    cases h with
    | null => exact Spec.le (spec_null k p n 0 _ _) (by omega)
    | leaf ok => exact Spec.le (spec_leaf k ok 0 p n) (by omega)
    | union h1 h2 h3 h4 h5 => exact spec_union k I0 h4 h5 h1 h2 h3
    | inter h2 h3 h4 h5 h6 => exact spec_inter P k I0 h4 h5 h2 h3 h6
    | andnot h2 h3 h4 h5 h6 => exact spec_andnot P k I0 h4 h5 h2 h3 h6
    | maybe h2 h3 h4 h5 h6 => exact spec_maybe k I0 h4 h5 h2 h3 h6
    | wrap h1 h2 h3 h4 h5 => exact spec_wrap k I0 h1 h2 h3 h4 h5
    | filt h2 h3 h4 h5 h6 h7 => exact spec_filt P k I0 h2 h3 h4 h5 h6 h7
    | inv h2 h3 h4 h5 => exact spec_inv P k I0 h2 h3 h4 h5
    | @req p n na nb d x d2 y xa xb la lb Ta Tb h2 h3 h4 h5 h6 => exact spec_req (m := max na nb + 1) P k I0 (I _ (by omega)) (by omega) h4 h5 (by omega) (by omega) h6
    | const h1 h2 h3 h4 => exact spec_const k I0 h1 h2 h3 h4
end Mine
end
section
set_option maxRecDepth 10000
namespace Mine
variable {prog : Program} {w : World} {K : Frag} {ro : List (Addr × Obj)}
/-- a cell of a name -/
noncomputable def cellC (v : Option Value) : Cell := .dc fun o => o.data = .cell v
noncomputable def cellL (cm : Str → Option Value) (cs : List (Str × Addr)) : Led := cs.map fun e => (e.2, cellC (cm e.1))
/-- a def with cells entered -/
theorem does_enterC {fa : Addr} {qual : Str} {params : Arguments} {body : List Stmt} {scope : Scope} {dV cdv : Value} {own : Led} {post : Value → Led → Prop} {k : Nat} {args : List Value} {kw : List (Str × Value)} (I : FnIsC K fa qual params body scope [] dV cdv) (binds : List (Str × Value))
    (hbind : ∀ (s : Shared) name kV doc pm an ct, K.In s.heap → BindsTo s (fnX name qual params body scope [] dV kV doc pm an cdv ct) ⟨args, kw⟩ binds)
    (hkind : ∀ n, ∀ x ∈ binds, scope.names.lookup x.1 = some .local ∨ (scope.names.lookup x.1 = some .cell ∧ ((cellsFrom n scope.names []).lookup x.1).isSome = true))
    (hnd : ((cellsFrom 0 scope.names []).map (·.1)).Nodup)
    (body_ : ∀ (A : Around) (z : Shared) (g : Heap) (L : Addr) (h : Heap), Room A k → Gd K ro g → Fr g L h (bindL (envOfC qual scope L fa cdv).kindOf binds fun _ => none) → Ow g L h (cellL (bindC (envOfC qual scope L fa cdv).kindOf binds fun _ => none) (cellsFrom (L + 1) scope.names []) ++ own) →
      Wp (model prog w) A z (execs body (envX qual scope L fa cdv (cellsFrom (L + 1) scope.names []))) (Ret g L post) h)
    (hco : scope.isCoroutine = false := by rfl) (hgen : scope.isGenerator = false := by rfl) (hk : scope.kind = .function := by rfl) : Does prog w K ro (k + 1) (.ref fa) args kw own post := by
  intro A z g h Q R G st sz o kont tk
  obtain ⟨oc, od, osl, name, kV, doc, pm, an, ct, hK⟩ := I.at_
  obtain ⟨p, lo, me, mg, mb, T⟩ := G.top
  have X : K.In h := G.kin.keeps st
  refine codeAny_call_function (by have := R.2.1; show A.depth < 1000; omega) (X _ _ hK) rfl hco hgen rfl (codeRec_of X I.code) (hbind _ _ _ _ _ _ _ X _ _ _ _ ?_)
  refine wpAny_newFunctionEnv_cells hk (hkind _) fun env' he s' x => ?_
  subst he
  refine ⟨(T.nolimit.keeps st).keeps x.toInCall.keep, codeAny_func ?_⟩
  obtain ⟨h₁, tk', rfl, _⟩ := x.done
  have hk₁ := x.toInCall.keep
  have F₁ : Fr g h.objs.size h₁ (bindL (envOfC qual scope h.objs.size fa cdv).kindOf binds fun _ => none) := ⟨x.toInCall.ns, fun b o e => hk₁ b o (st b o e), sz⟩
  have nd1 : (((cellsFrom (h.objs.size + 1) scope.names []).map (·.1))).Nodup := cellsFrom_names scope.names 0 (h.objs.size + 1) [] [] rfl ▸ hnd
  have gn : ∀ b, h.objs.size ≤ b → g.get? b = none := fun b hb => by
    cases q : g.get? b with
    | none => rfl
    | some y => exact absurd (Heap.lt_size (st _ _ q)) (Nat.not_lt.mpr hb)
  have Lt : ∀ q ∈ own, q.1 < h.objs.size := fun q hq => let ⟨x, e, p⟩ := o.has.get q hq; Heap.lt_size e
  have cm : ∀ q ∈ cellL (bindC (envOfC qual scope h.objs.size fa cdv).kindOf binds fun _ => none) (cellsFrom (h.objs.size + 1) scope.names []), (∃ o, h₁.get? q.1 = some o ∧ q.2.Ok o) ∧ h.objs.size < q.1 := fun q hq => by
    obtain ⟨e, he, rfl⟩ := List.mem_map.mp hq
    obtain ⟨o', h1, h2⟩ := x.cell e.1 e.2 (lookup_of_mem_nodup nd1 he)
    exact ⟨⟨o', h1, h2⟩, x.above e.1 e.2 he⟩
  have O₁ : Ow g h.objs.size h₁ (cellL (bindC (envOfC qual scope h.objs.size fa cdv).kindOf binds fun _ => none) (cellsFrom (h.objs.size + 1) scope.names []) ++ own) := by
    refine ⟨⟨⟨fun q hq => ?_⟩, fun q hq => ?_, nodup_append.mpr ⟨?_, o.nd, fun p hp q hq e => ?_⟩⟩, fun q hq => ?_⟩
    · rcases List.mem_append.mp hq with hq | hq
      · exact (cm q hq).1
      · obtain ⟨x, e, p⟩ := o.has.get q hq
        exact ⟨x, hk₁ _ _ e, p⟩
    · rcases List.mem_append.mp hq with hq | hq
      · exact gn _ (Nat.le_of_lt (cm q hq).2)
      · exact o.off q hq
    · exact List.pairwise_map.mpr (x.apart.imp fun h e => absurd e h)
    · exact absurd (Lt q hq) (by rw [← e]; exact Nat.not_lt.mpr (Nat.le_of_lt (cm p hp).2))
    · rcases List.mem_append.mp hq with hq | hq
      · exact Nat.ne_of_gt (cm q hq).2
      · exact Nat.ne_of_lt (Lt q hq)
  refine (body_ (A.deeper (envOfC qual scope h.objs.size fa cdv)) z g h.objs.size h₁ (R.deeper _) G F₁ O₁).go (fun fl h' tk' q => ?_) _
  obtain ⟨m', own', F', O', hp⟩ := q
  exact ⟨h', tk', rfl, kont _ own' h' F'.keep O'.own hp⟩
/-! ## a callee that knows more of what stays -/
theorem Gd.ext {ro ro' : List (Addr × Obj)} {g : Heap} (G : Gd K ro g) (h : ∀ p ∈ ro', g.get? p.1 = some p.2) : Gd K ro' g := ⟨G.kin, G.top, h⟩
noncomputable def exL (l : List (Addr × Obj)) : Led := l.map fun p => (p.1, isObj p.2)
/-- the cells that the callee is to know of, carried in the ledger -/
theorem Does.lift {ro' : List (Addr × Obj)} {k : Nat} {f : Value} {args : List Value} {kw : List (Str × Value)} {la : Led} {post : Value → Led → Prop} (D : Does prog w K ro' k f args kw la post) (ha : ∀ p ∈ ro', p.1 ∉ addrs la) :
    Does prog w K [] k f args kw (exL ro' ++ la) fun v l => ∃ l', l = exL ro' ++ l' ∧ post v l' ∧ ∀ p ∈ ro', p.1 ∉ addrs l' := by
  intro A z g h Q R G st sz o kont
  have off : ∀ b x, g.get? b = some x → b ∉ addrs la := fun b x e q => by
    obtain ⟨p, hp, rfl⟩ := List.mem_map.mp q
    rw [o.off p (List.mem_append_right _ hp)] at e; cases e
  have up : ∀ b x, g.get? b = some x → (hideAll h (addrs la)).get? b = some x := fun b x e => hideAll_get _ (st b x e) (off b x e)
  have at_ : ∀ p ∈ ro', (hideAll h (addrs la)).get? p.1 = some p.2 := fun p hp => by
    obtain ⟨x, e, q⟩ := o.has.get (p.1, isObj p.2) (List.mem_append_left _ (List.mem_map_of_mem (f := fun p : Addr × Obj => (p.1, isObj p.2)) hp))
    have q : x = p.2 := q
    exact hideAll_get _ (q ▸ e) (ha p hp)
  refine D A z (hideAll h (addrs la)) h Q R ((G.keeps up).ext at_) (fun b x e => of_hideAll _ e) (Nat.le_of_eq (hideAll_size _ _))
    ⟨⟨fun p hp => o.has.get p (List.mem_append_right _ hp)⟩, fun p hp => hideAll_none _ (mem_addrs hp), (nodup_append.mp o.nd).2.1⟩ fun v l' h' st' o' hp => ?_
  have away : ∀ p ∈ ro', p.1 ∉ addrs l' := fun p hp q => by
    obtain ⟨r, hr, e⟩ := List.mem_map.mp q
    have e : r.1 = p.1 := e
    have := o'.off r hr
    rw [e, at_ p hp] at this; cases this
  refine kont v (exL ro' ++ l') h' (fun b x e => st' b x (up b x e)) ⟨⟨fun p hp => ?_⟩, fun p hp => ?_, nodup_append.mpr ⟨(nodup_append.mp o.nd).1, o'.nd, fun p hp q hq e => ?_⟩⟩ ⟨l', rfl, hp, away⟩
  · rcases List.mem_append.mp hp with hp | hp
    · obtain ⟨q, hq, rfl⟩ := List.mem_map.mp hp
      exact ⟨q.2, st' _ _ (at_ q hq), rfl⟩
    · exact o'.has.get p hp
  · rcases List.mem_append.mp hp with hp | hp
    · exact o.off p (List.mem_append_left _ hp)
    · cases q : g.get? p.1 with
      | none => rfl
      | some x =>
        have := o'.off p hp
        rw [up _ _ q] at this; cases this
  · obtain ⟨r, hr, rfl⟩ := List.mem_map.mp hp
    exact absurd (mem_addrs hq) (by rw [← e]; exact away r hr)
theorem MRep.mono {ro ro' : List (Addr × Obj)} {p : Bool} {n : Nat} {own : Led} {x : Addr} {T : Tb} (M : MRep ro p n own x T) (h : ∀ e ∈ ro, e ∈ ro') : MRep ro' p n own x T := by
  induction M with
  | null => exact .null
  | leaf ok => exact .leaf ⟨let ⟨v, n, a, b⟩ := ok.li; ⟨v, n, h _ a, b⟩, let ⟨v, n, a, b⟩ := ok.lw; ⟨v, n, h _ a, b⟩, ok.len, ok.short, ok.srt, ok.lo, ok.pos⟩
  | union h1 h2 h3 h4 h5 i1 i2 => exact .union h1 h2 h3 i1 i2
  | inter h2 h3 h4 h5 h6 i1 i2 => exact .inter h2 h3 i1 i2 h6
  | andnot h2 h3 h4 h5 h6 i1 i2 => exact .andnot h2 h3 i1 i2 h6
  | maybe h2 h3 h4 h5 h6 i1 i2 => exact .maybe h2 h3 i1 i2 h6
  | wrap h1 h2 h3 h4 h5 i1 => exact .wrap h1 h2 h3 h4 i1
  | filt h2 h3 h4 h5 h6 h7 i1 => exact .filt h2 h3 h4 ⟨let ⟨v, n, a, b⟩ := h5.li; ⟨v, n, h _ a, b⟩, h5.len⟩ i1 h7
  | inv h2 h3 h4 h5 i1 => exact .inv h2 h3 i1 h5
  | req h2 h3 h4 h5 h6 i1 i2 => exact .req h2 h3 i1 i2 h6
  | const h1 h2 h3 h4 i1 => exact .const h1 h2 h3 i1
end Mine
end
section
set_option maxRecDepth 10000
namespace Mine
variable {prog : Program} {w : World} {K : Frag} {ro : List (Addr × Obj)}
section
variable {A : Around} {z : Shared} {g h : Heap} {L : Addr} {m : Str → Option Value} {led : Led} {env : Env}
/-- what is never to change again -/
theorem Ow.freeze {D : Addr} {P : Obj → Prop} {rest : Led} (O : Ow g L h ((D, .dc P) :: rest)) : ∃ o, P o ∧ Ow g L h ((D, isObj o) :: rest) := by
  obtain ⟨o, e, p⟩ := O.get (List.mem_cons_self ..)
  have nd := List.pairwise_cons.mp O.nd
  refine ⟨o, p, ⟨⟨fun q hq => ?_⟩, fun q hq => ?_, List.pairwise_cons.mpr ⟨fun q hq e => (nd.1 q hq e).1.elim, nd.2⟩⟩, fun q hq => ?_⟩
  · rcases List.mem_cons.mp hq with rfl | hq
    · exact ⟨o, e, rfl⟩
    · exact O.has.get q (List.mem_cons_of_mem _ hq)
  · rcases List.mem_cons.mp hq with rfl | hq
    · exact O.own.off (D, .dc P) (List.mem_cons_self ..)
    · exact O.own.off q (List.mem_cons_of_mem _ hq)
  · rcases List.mem_cons.mp hq with rfl | hq
    · exact O.ne (D, .dc P) (List.mem_cons_self ..)
    · exact O.ne q (List.mem_cons_of_mem _ hq)
/-- a name of a cell -/
theorem W_nameC {qual : Str} {scope : Scope} {fa : Addr} {cdv : Value} {cl : List (Str × Addr)} {x : Str} {pos : Pos} {v : Value} {c : Addr} {Q : Value → Heap → Prop} (O : Ow g L h led) (hm : (c, cellC (some v)) ∈ led) (q : Q v h)
    (hc : cl.lookup x = some c) (hx : (envX qual scope L fa cdv cl).kindOf x = some .cell := by rfl) (hk : scope.kind = .function := by rfl) (hd : (x == ("__debug__" : Str)) = false := by decide) :
    Wp (model prog w) A z (eval (.Name x pos) (envX qual scope L fa cdv cl)) Q h := fun tk => by
  obtain ⟨o, e, d⟩ := O.get hm
  exact wpAny_Name (wpAny_loadName_cell (s := St z h tk) hk hx hc ⟨o, e, d⟩ ⟨h, tk, rfl, q⟩) hd
/-- a name of a cell stored -/
theorem W_storeC {qual : Str} {scope : Scope} {fa : Addr} {cdv : Value} {cl : List (Str × Addr)} {x : Str} {v : Value} {v₀ : Option Value} {c : Addr} {rest : Led} {Q : Unit → Heap → Prop} (F : Fr g L h m) (O : Ow g L h ((c, cellC v₀) :: rest))
    (q : ∀ h', Fr g L h' m → Ow g L h' ((c, cellC (some v)) :: rest) → Q () h')
    (hc : cl.lookup x = some c) (hx : (envX qual scope L fa cdv cl).kindOf x = some .cell := by rfl) (hk : scope.kind = .function := by rfl) :
    Wp (model prog w) A z (storeName (envX qual scope L fa cdv cl) x v) Q h := fun tk => by
  obtain ⟨o, e, d⟩ := O.get (List.mem_cons_self ..)
  have nd := List.pairwise_cons.mp O.nd
  have ne := O.ne (c, cellC v₀) (List.mem_cons_self ..)
  have off := O.own.off (c, cellC v₀) (List.mem_cons_self ..)
  refine wpAny_storeName_cell (s := St z h tk) hk hx hc ⟨o, e, d⟩ fun h' hv hs => ?_
  obtain ⟨o', ho', hd'⟩ := hv
  have keep : ∀ b, b ≠ c → h'.get? b = h.get? b := fun b hb => hs.2 b hb
  have F' : Fr g L h' m := ⟨F.ns.sameBut hs (Ne.symm ne), fun b ob e => (keep b fun q => by rw [q, off] at e; cases e).trans (F.keep b ob e), F.above⟩
  refine ⟨h', tk, rfl, q h' F' ⟨⟨⟨fun p hp => ?_⟩, fun p hp => ?_, List.pairwise_cons.mpr ⟨fun q hq e => (nd.1 q hq e).1.elim, nd.2⟩⟩, fun p hp => ?_⟩⟩
  · rcases List.mem_cons.mp hp with rfl | hp
    · exact ⟨o', ho', hd'⟩
    · obtain ⟨x, e, px⟩ := O.has.get p (List.mem_cons_of_mem _ hp)
      exact ⟨x, (keep p.1 fun e => (nd.1 p hp e.symm).1.elim).trans e, px⟩
  · rcases List.mem_cons.mp hp with rfl | hp
    · exact off
    · exact O.own.off p (List.mem_cons_of_mem _ hp)
  · rcases List.mem_cons.mp hp with rfl | hp
    · exact ne
    · exact O.ne p (List.mem_cons_of_mem _ hp)
end
end Mine
end
section
set_option maxRecDepth 10000
namespace Mine
variable {prog : Program} {w : World} {K : Frag} {ro : List (Addr × Obj)}
/-- a list of ints that stays, in the ledger -/
noncomputable def LLst (led : Led) (li : Addr) (ids : List Int) : Prop := ∃ vs n, (li, isObj (listOf (List.toArray vs) n)) ∈ led ∧ IntsAre vs ids
/-- the script's dict: the row and the place -/
noncomputable def dC (prog : Program) (w : World) (row : Addr) (a : Int) : Cell := .dc fun o => ∃ t, o.IsDictOf (PySem.strKind prog w) [("row", .ref row), ("at", .int a t)]
section
variable {A : Around} {z : Shared} {g h : Heap} {L : Addr} {m : Str → Option Value} {led : Led} {env : Env} {li : Addr} {ids : List Int}
theorem LLst.isList (l : LLst led li ids) (O : Ow g L h led) : ∃ vs, h.IsList li (List.toArray vs) ∧ IntsAre vs ids := by
  obtain ⟨vs, n, e, i⟩ := l
  exact ⟨vs, ⟨_, O.obj e, rfl, n, rfl⟩, i⟩
theorem W_lenO {Q : Value → Heap → Prop} (l : LLst led li ids) (O : Ow g L h led) (hl : ids.length ≤ 1000) (q : ∀ tk, Q (.int ids.length tk) h) : Wp (model prog w) A z (call (.builtin "len") [.ref li]) Q h := fun tk => by
  obtain ⟨vs, il, ia⟩ := l.isList O
  have e : ((vs.toArray.size : Nat) : Int) = ids.length := ia.sizeZ
  refine call_len_list (s := St z h tk) il (by rw [e]; omega) ⟨h, tk + 1 + 1, rfl, ?_⟩
  rw [e]; exact q _
theorem W_itemO {value slice : Expr} {i : Nat} {t : Tok} {k : Int} {Q : Value → Heap → Prop} (l : LLst led li ids) (O : Ow g L h led) (hl : ids.length ≤ 1000) (hi : ids[i]? = some k) (q : ∀ tk, Q (.int k tk) h)
    (hs : subscripted slice false (.ref li) (.int i t) = operate [.ref li, .int i t] (getItem (.ref li) (.int i t)) := by with_unfolding_all rfl) :
    Wp (model prog w) A z (subscriptTail value slice (.ref li) (.int i t)) Q h := fun tk => by
  obtain ⟨vs, il, ia⟩ := l.isList O
  have hlt : i < ids.length := (List.getElem?_eq_some_iff.mp hi).1
  have hv : i < vs.length := by rw [ia.length]; exact hlt
  obtain ⟨n, t', e1, e2⟩ := ia.at i _ (List.getElem?_eq_getElem hv)
  have : n = k := by rw [hi] at e2; cases e2; rfl
  subst this
  exact tail_any (s := St z h tk) il.typeIs slot_list_getitem.lookup (wpAny_getItem_list il (by omega) (by omega) (x := .int n t') (by rw [List.getElem?_toArray]; simp only [Int.toNat_natCast]; rw [List.getElem?_eq_getElem hv, e1]) ⟨h, tk, rfl, q _⟩) hs
theorem W_cstr {s : Str} {k : Nat} {pos : Pos} {Q : Value → Heap → Prop} (q : ∀ tk, Q (.str s tk) h) : Wp (model prog w) A z (eval (.Constant (.str s) k pos) env) Q h := fun tk => wpAny_Constant_str ⟨h, tk + 1, rfl, q tk⟩
theorem W_mod {a b : Int} {t u : Tok} {Q : Value → Heap → Prop} (hb : b ≠ 0) (q : ∀ tk, Q (.int (a.fmod b) tk) h) : Wp (model prog w) A z (binaryOp .Mod (.int a t) (.int b u)) Q h := fun tk => mod_int (s := St z h tk) hb ⟨h, tk + 1, rfl, q _⟩
theorem W_abs {a : Int} {t : Tok} {Q : Value → Heap → Prop} (q : ∀ tk, Q (.int (if a < 0 then -a else a) tk) h) : Wp (model prog w) A z (call (.builtin "abs") [.int a t]) Q h := fun tk => call_abs_int (s := St z h tk) fun u tk' => ⟨h, tk', rfl, q u⟩
/-- d[key] of the script's dict -/
theorem W_dget {value slice : Expr} {d row : Addr} {a : Int} {k : Str} {tk0 : Tok} {R : Value → Prop} {Q : Value → Heap → Prop} (O : Ow g L h led) (hm : (d, dC prog w row a) ∈ led) (hv : ∀ t, ∃ v, valueAt ([("row", .ref row), ("at", .int a t)] : List (Str × Value)) k = some v ∧ R v) (q : ∀ v, R v → Q v h)
    (hs : subscripted slice false (.ref d) (.str k tk0) = operate [.ref d, .str k tk0] (getItem (.ref d) (.str k tk0)) := by with_unfolding_all rfl) (hg : ∀ r, letTemporaryGo value (.ref d) r = pure () := by intro _; with_unfolding_all rfl) :
    Wp (model prog w) A z (subscriptTail value slice (.ref d) (.str k tk0)) Q h := fun tk => by
  obtain ⟨o, e, t, h1⟩ := O.get hm
  obtain ⟨v, e1, r⟩ := hv t
  have hD : h.DictOf (PySem.strKind prog w) d [("row", .ref row), ("at", .int a t)] := Heap.dictOf_iff.mpr ⟨o, e, h1⟩
  exact subscriptTail_builtin (s := St z h tk) hD.typeIs slot_dict_getitem.lookup (wpAny_getItem_of (k := k) (by simp [PySem.strKind, Value.isStrOf]) hD.mapOf e1 ⟨h, tk + 1, rfl, q v r⟩) hs hg
theorem W_assignSub {o i : Expr} {pos' pos : Pos} {value : Expr} {Q : Flow → Heap → Prop}
    (x : Wp (model prog w) A z (eval value env) (fun v h1 => Wp (model prog w) A z (eval o env) (fun ov h2 => Wp (model prog w) A z (eval i env) (fun iv h3 => Wp (model prog w) A z (setItem ov iv v) (fun _ => Q .next) h3) h2) h1) h)
    (hs : swapsWith value (some (.Subscript o i pos')) pos.line env = pure false := by rfl) : Wp (model prog w) A z (exec (.Assign [.Subscript o i pos'] value pos) env) Q h :=
  fun tk => wpAny_Assign_Subscript (x.go (fun v h1 t1 k => k.go (fun ov h2 t2 k => k.go (fun iv h3 t3 k => k.go (fun u h4 t4 k => ⟨h4, t4, rfl, k⟩) t3) t2) t1) tk) hs
/-- d['at'] = b -/
theorem W_dset {d row : Addr} {a b : Int} {tb tk0 : Tok} {rest : Led} {Q : Unit → Heap → Prop} (F : Fr g L h m) (O : Ow g L h ((d, dC prog w row a) :: rest)) (q : ∀ h', Fr g L h' m → Ow g L h' ((d, dC prog w row b) :: rest) → Q () h') :
    Wp (model prog w) A z (setItem (.ref d) (.str "at" tk0) (.int b tb)) Q h := fun tk => by
  obtain ⟨o, e, t, h1⟩ := O.get (List.mem_cons_self ..)
  have nd := List.pairwise_cons.mp O.nd
  have ne := O.ne (d, dC prog w row a) (List.mem_cons_self ..)
  have off := O.own.off (d, dC prog w row a) (List.mem_cons_self ..)
  refine wpAny_setItem_pairs (s := St z h tk) (hsz := by show 2 ≤ sizeLine; decide) (k := ("at" : Str)) (by simp [PySem.strKind, Value.isStrOf]) (Heap.dictOf_iff.mpr ⟨o, e, h1⟩) fun h' hm hs => ?_
  obtain ⟨o', ho', hd'⟩ := Heap.dictOf_iff.mp hm
  have keep : ∀ b, b ≠ d → h'.get? b = h.get? b := fun b hb => hs.2 b hb
  have F' : Fr g L h' m := ⟨F.ns.sameBut hs (Ne.symm ne), fun b ob e => (keep b fun q => by rw [q, off] at e; cases e).trans (F.keep b ob e), F.above⟩
  refine ⟨h', tk + 1, rfl, q h' F' ⟨⟨⟨fun p hp => ?_⟩, fun p hp => ?_, List.pairwise_cons.mpr ⟨fun q hq e => (nd.1 q hq e).1.elim, nd.2⟩⟩, fun p hp => ?_⟩⟩
  · rcases List.mem_cons.mp hp with rfl | hp
    · exact ⟨o', ho', tb, hd'⟩
    · obtain ⟨x, e, px⟩ := O.has.get p (List.mem_cons_of_mem _ hp)
      exact ⟨x, (keep p.1 fun e => (nd.1 p hp e.symm).1.elim).trans e, px⟩
  · rcases List.mem_cons.mp hp with rfl | hp
    · exact off
    · exact O.own.off p (List.mem_cons_of_mem _ hp)
  · rcases List.mem_cons.mp hp with rfl | hp
    · exact ne
    · exact O.ne p (List.mem_cons_of_mem _ hp)
end
/-- the next number of the script -/
theorem law_cell (k : KOk K) {d row : Addr} {a : Nat} {ns : List Int} {j : Nat} {rest : Led} (hr : LLst rest row ns) (hn : ns.length ≤ 48) (ha : a ≤ 10000) :
    Does prog w K ro (j + 1) (.ref f_law_cell) [.ref d] [] ((d, dC prog w row a) :: rest) fun v l => l = (d, dC prog w row (a + 1 : Nat)) :: rest ∧ ∃ i, isInt i v ∧ 0 ≤ i := by
  refine does_enter k.fn_law_cell [("d", .ref d)] (fun s _ _ _ _ _ _ _ => BindsTo.of_eq rfl) (locs rfl) ?_
  intro A z g L h R G F O
  refine W_cons (W_assign (W_subscr (W_name F rfl (W_cstr fun tk => W_dget (R := isInt a) O (List.mem_cons_self ..) (fun t => ⟨_, rfl, t, rfl⟩) fun v ⟨t, hv⟩ => ⟨_, _, F, O, fun h F O => ?_⟩))))
  subst hv
  refine W_cons (W_assignSub (W_bin (W_name F rfl (W_cint fun tk => W_add fun tk2 => W_name F rfl (W_cstr fun tk3 => W_dset (b := (a : Int) + 1) F O fun h F O => ?_)))))
  have hr2 : LLst ((d, dC prog w row ((a : Int) + 1)) :: rest) row ns := let ⟨v, n, m, i⟩ := hr; ⟨v, n, List.mem_cons_of_mem _ m, i⟩
  refine W_cons (W_if (W_tcmp (W_name F rfl (W_fcall (W_builtin F G (k.blt _ (at_ 0 rfl)) (v := .builtin "len") (by decide +kernel) (by decide) (W_callB (W_argsC (W_subscr (W_name F rfl (W_cstr fun tk => W_dget (R := fun v => v = .ref row) O (List.mem_cons_self ..) (fun t => ⟨_, rfl, rfl⟩) fun v hv => ?_))))))))))
  subst hv
  refine W_argsN (W_lenO hr2 O (by omega) fun tk => W_lt (W_truthB ⟨fun c => ?_, fun c => W_nil ?_⟩))
  · have c : (a : Int) < ns.length := by simpa using c
    have hlt : a < ns.length := by omega
    refine W_cons (W_ret (W_fcall (W_builtin F G (k.blt _ (at_ 3 rfl)) (v := .builtin "abs") (by decide +kernel) (by decide) (W_callB (W_argsC (W_subscr (W_subscr (W_name F rfl (W_cstr fun tk => W_dget (R := fun v => v = .ref row) O (List.mem_cons_self ..) (fun t => ⟨_, rfl, rfl⟩) fun v hv => W_name F rfl ?_)))))))))
    subst hv
    refine W_itemO hr2 O (by omega) (List.getElem?_eq_getElem hlt) fun tk => W_argsN (W_abs fun tk => ⟨_, _, F, O, rfl, _, ⟨tk, rfl⟩, ?_⟩)
    split <;> omega
  · refine W_cons (W_ret (W_bin (W_bin (W_bin (W_bin (W_name F rfl (W_cint fun t1 => W_mul (fun t2 => W_cint fun t3 => W_add fun t4 => W_bin (W_name F rfl (W_cint fun t5 => W_add fun t6 => W_mul (fun t7 => W_cint fun t8 => W_mod (by decide) fun t9 => ⟨_, _, F, O, rfl, _, ⟨t9, rfl⟩, ?_⟩) ?_))) ?_)))))))
    · exact Int.fmod_nonneg_of_pos _ (by decide)
    · have e : (2 : Int) ^ 64 = 18446744073709551616 := by decide
      exact IntMulOk.of_right (intBits_le_64 (by omega) (by omega))
    · have e : (2 : Int) ^ 64 = 18446744073709551616 := by decide
      exact IntMulOk.of_right (intBits_le_64 (by omega) (by omega))
end Mine
end
section
set_option maxRecDepth 10000
namespace Mine
section
variable {prog : Program} {w : World} {A : Around} {R : Result → Shared → Prop} {s : Shared}
/-- what stands of the new objects -/
noncomputable def Stand (b₀ : Nat) (h : Heap) (xs : List (Addr × Obj)) : Prop := ∀ p ∈ xs, h.get? p.1 = some p.2 ∧ b₀ ≤ p.1
/-- the values made, each with the objects that it needs -/
inductive MadeOf {α : Type} (F : α → Value → List (Addr × Obj) → Prop) : List α → List Value → List (Addr × Obj) → Prop
  | nil : MadeOf F [] [] []
  | snoc {vs ys xs v y zs} : MadeOf F vs ys xs → F v y zs → MadeOf F (vs ++ [v]) (ys ++ [y]) (zs ++ xs)
theorem MadeOf.length {α : Type} {F : α → Value → List (Addr × Obj) → Prop} {vs ys xs} (m : MadeOf F vs ys xs) : vs.length = ys.length := by
  induction m with
  | nil => rfl
  | snoc _ _ ih => rw [List.length_append, List.length_append, ih]; rfl
/-- the loop's word -/
noncomputable def CInv (s : Shared) (cenv : Env) (D : Addr) (wr : List Addr) (n : Nat) (P : Nat → Value → Prop) (St : Nat → Heap → Prop) (p : Value → Bool) (F : Value → Value → List (Addr × Obj) → Prop) (k : Nat) (s' : Shared) : Prop :=
  ∀ C : Prop, (∀ h' tk m' ys xs (vs : List Value), s' = { s with heap := h', toks := tk } → St vs.length h' → h'.PlainList D ys → h'.Ns cenv.locals m' → (∀ j v, vs[j]? = some v → P j v) →
      MadeOf F (vs.filter p) ys.toList xs → Stand s.heap.objs.size h' xs → vs.length ≤ n → k = n + 1 - vs.length →
      (∀ b o, b ≠ cenv.locals → b ∉ wr → b ≠ D → s.heap.get? b = some o → h'.get? b = some o) → C) → C
theorem comp_loop {elt iter : Expr} {x : Str} {px : Pos} {ifs : List Expr} {scope : Scope} {pos : Pos} {I D : Addr} {fp wr : List Addr} {n : Nat} {P : Nat → Value → Prop} {St : Nat → Heap → Prop}
    {cenv : Env} {m : Str → Option Value} (W : Walks prog w A I fp wr n P St) (p : Value → Bool) (F : Value → Value → List (Addr × Obj) → Prop)
    (hx : cenv.kindOf x = some .local) (hp : (cenv.scope.kind == .class || (cenv.scope.kind == .module && cenv.locals != cenv.globals)) = false)
    (hDC : D ≠ cenv.locals) (hDf : D ∉ fp) (hCf : cenv.locals ∉ fp) (hC1 : cenv.locals + 1 = s.heap.objs.size) (hD1 : D < s.heap.objs.size) (hw1 : ∀ b ∈ wr, b < s.heap.objs.size)
    (hst : St 0 s.heap) (hacc : s.heap.PlainList D #[]) (hn : s.heap.Ns cenv.locals m)
    (htests : ∀ i v h₂ tk₂ m₂, i < n → P i v → h₂.Ns cenv.locals m₂ → m₂ x = some v → (∀ b o, b ≠ cenv.locals → b ∉ wr → b ≠ D → s.heap.get? b = some o → h₂.get? b = some o) →
      wpAny (model prog w) A (forIn ifs true fun c r => if r = true then do let ok ← isTrue c cenv (eval c cenv); pure (ForInStep.yield ok) else pure (ForInStep.yield r))
        (fun ok s₃ => ok = p v ∧ PySem.Keeps { s with heap := h₂, toks := tk₂ } s₃) (notedBy (model prog w) A cenv fun e s' => R (.error e) s') { s with heap := h₂, toks := tk₂ })
    (helt : ∀ i v h₂ tk₂ m₂, i < n → P i v → p v = true → h₂.Ns cenv.locals m₂ → m₂ x = some v → (∀ b o, b ≠ cenv.locals → b ∉ wr → b ≠ D → s.heap.get? b = some o → h₂.get? b = some o) →
      wpAny (model prog w) A (eval elt cenv) (fun y s₃ => (∃ zs, F v y zs ∧ Stand h₂.objs.size s₃.heap zs) ∧ PySem.Keeps { s with heap := h₂, toks := tk₂ } s₃) (notedBy (model prog w) A cenv fun e s' => R (.error e) s') { s with heap := h₂, toks := tk₂ })
    (hR : ∀ h' tk m' ys xs (vs : List Value), h'.Ns cenv.locals m' → h'.PlainList D ys → vs.length = n → (∀ j v, vs[j]? = some v → P j v) → MadeOf F (vs.filter p) ys.toList xs → Stand s.heap.objs.size h' xs →
      (∀ b o, b ≠ cenv.locals → b ∉ wr → b ≠ D → s.heap.get? b = some o → h'.get? b = some o) → R (.ok .next) { s with heap := h', toks := tk })
    (hsz : n ≤ sizeLine := by size_fits) :
    codeAny (model prog w) A (.compLoop (.ListComp elt [⟨.Name x px, iter, ifs, 0⟩] scope pos) 0 (.ref I) (.ref D) cenv) R s := by
  refine codeAny_compLoop_tests (CInv s cenv D wr n P St p F) ?_ (n + 1)
    (fun C k => k s.heap s.toks m #[] [] [] rfl hst hacc hn (fun j v e => by simp at e) .nil (fun _ h => nomatch h) (Nat.zero_le _) rfl fun _ _ _ _ _ e => e)
  intro k s' HH
  refine HH _ fun H tk m' ys xs vs es hst' hacc' hn' hP hF hX hi ek hk => ?_
  subst es ek
  have hCw : cenv.locals ∉ wr := fun h => hCf (W.sub _ h)
  have hDw : D ∉ wr := fun h => hDf (W.sub _ h)
  have far : ∀ q : Addr × Obj, s.heap.objs.size ≤ q.1 → q.1 ≠ cenv.locals ∧ q.1 ∉ wr ∧ q.1 ≠ D := fun q hq => ⟨fun e => absurd (show cenv.locals < s.heap.objs.size from hC1 ▸ Nat.lt_succ_self _) (Nat.not_lt.mpr (e ▸ hq)), fun e => absurd (hw1 _ e) (Nat.not_lt.mpr hq), fun e => absurd hD1 (Nat.not_lt.mpr (e ▸ hq))⟩
  by_cases hlt : vs.length < n
  · refine W.item vs.length _ _ _ hlt hst' fun v h₁ tk₁ hPv hst₁ hk₁ => ?_
    refine wpAny_assign_Name (wpAny_storeName_local hx (hn'.at' fun o e => hk₁ _ o hCw e) (fun h₂ hn₂ hs₂ => ?_) hp)
    have up₂ : ∀ b o, b ≠ cenv.locals → b ∉ wr → H.get? b = some o → h₂.get? b = some o := fun b o hbC hbf e => hs₂.extBut b o hbC (hk₁ b o hbf e)
    have hst₂ : St (vs.length + 1) h₂ := W.frame _ _ _ hst₁ fun b hb o e => hs₂.extBut b o (fun h => hCf (h ▸ hb)) e
    have hX₂ : Stand s.heap.objs.size h₂ xs := fun q hq => ⟨up₂ _ _ (far q (hX q hq).2).1 (far q (hX q hq).2).2.1 (hX q hq).1, (hX q hq).2⟩
    refine wpAny_mono (htests vs.length v _ _ _ hlt hPv hn₂ (by simp) (fun b o hbC hbf hbD e => up₂ b o hbC hbf (hk b o hbC hbf hbD e))) (fun ok s₃ h₃ => ?_) fun _ _ e => e
    obtain ⟨rfl, h₃, tk₃, rfl, hk₃⟩ := h₃
    have hst₃ : St (vs.length + 1) h₃ := W.frame _ _ _ hst₂ fun b _ o e => hk₃ b o e
    have hacc₃ : h₃.PlainList D ys := hacc'.at fun o e => hk₃ _ o (up₂ D o hDC hDw e)
    have hn₃ := hn₂.keeps hk₃
    have hX₃ : Stand s.heap.objs.size h₃ xs := fun q hq => ⟨hk₃ _ _ (hX₂ q hq).1, (hX₂ q hq).2⟩
    have hP' : ∀ j u, (vs ++ [v])[j]? = some u → P j u := fun j u hj => by
      rcases Nat.lt_trichotomy j vs.length with h | h | h
      · exact hP j u (by rwa [List.getElem?_append_left h] at hj)
      · subst h; simp at hj; subst hj; exact hPv
      · have hnone : (vs ++ [v])[j]? = none := List.getElem?_eq_none (by rw [List.length_append, List.length_singleton]; omega)
        rw [hnone] at hj; cases hj
    have hlen : (vs ++ [v]).length = vs.length + 1 := List.length_append
    have ltk : n + 1 - (vs.length + 1) < n + 1 - vs.length := by omega
    cases hpv : p v with
    | false =>
      simp only [Bool.false_eq_true, if_false]
      refine ⟨n + 1 - (vs.length + 1), ltk, fun C k => k h₃ tk₃ _ ys xs (vs ++ [v]) rfl (hlen ▸ hst₃) hacc₃ hn₃ hP' ?_ hX₃ (hlen ▸ hlt) (by rw [hlen]) fun b o hbC hbf hbD e => hk₃ b o (up₂ b o hbC hbf (hk b o hbC hbf hbD e))⟩
      rw [List.filter_append]; simpa [hpv] using hF
    | true =>
      simp only [if_true]
      refine wpAny_mono (helt vs.length v _ _ _ hlt hPv hpv hn₃ (by simp) (fun b o hbC hbf hbD e => hk₃ b o (up₂ b o hbC hbf (hk b o hbC hbf hbD e)))) (fun y s₄ h₄ => ?_) fun _ _ e => e
      obtain ⟨⟨zs, hFy, hZ⟩, h₄, tk₄, rfl, hk₄⟩ := h₄
      have hys : ys.size ≤ sizeLine := by
        have e1 := hF.length
        have e2 : (vs.filter p).length ≤ vs.length := List.length_filter_le _ _
        have e4 : ys.toList.length = ys.size := by simp
        omega
      have big : s.heap.objs.size ≤ h₃.objs.size := by
        obtain ⟨o, es, ep, e, _⟩ := hn₃
        have := Heap.lt_size e
        rw [← hC1]; exact this
      refine wpAny_list_append_plain (hsz := hys) (hacc₃.at fun o e => hk₄ _ o e) fun h₅ hl₅ hs₅ => ?_
      refine ⟨n + 1 - (vs.length + 1), ltk, fun C k => k h₅ tk₄ _ (ys.push y) (zs ++ xs) (vs ++ [v]) rfl ?_ hl₅ ((hn₃.keeps hk₄).sameBut hs₅ (Ne.symm hDC)) hP' ?_ (fun q hq => ?_) (hlen ▸ hlt) (by rw [hlen])
        fun b o hbC hbf hbD e => hs₅.extBut b o hbD (hk₄ b o (hk₃ b o (up₂ b o hbC hbf (hk b o hbC hbf hbD e))))⟩
      · have := W.frame _ _ h₅ hst₃ fun b hb o e => hs₅.extBut b o (fun h => hDf (h ▸ hb)) (hk₄ b o e)
        exact hlen ▸ this
      · rw [List.filter_append]
        have : MadeOf F (vs.filter p ++ [v]) (ys.toList ++ [y]) (zs ++ xs) := .snoc hF hFy
        simpa [hpv] using this
      · rcases List.mem_append.mp hq with hq | hq
        · have z := hZ q hq
          have b1 : s.heap.objs.size ≤ q.1 := Nat.le_trans big z.2
          exact ⟨hs₅.extBut _ _ (far q b1).2.2 z.1, b1⟩
        · have z := hX₃ q hq
          exact ⟨hs₅.extBut _ _ (far q z.2).2.2 (hk₄ _ _ z.1), z.2⟩
  · have hin : vs.length = n := by omega
    refine W.done _ _ _ (hin ▸ hst') fun h₁ tk₁ hk₁ => ?_
    exact hR h₁ tk₁ m' ys xs vs (hn'.at' fun o e => hk₁ _ o hCw e) (hacc'.at fun o e => hk₁ _ o hDw e) hin hP hF (fun q hq => ⟨hk₁ _ _ (far q (hX q hq).2).2.1 (hX q hq).1, (hX q hq).2⟩) fun b o hbC hbf hbD e => hk₁ b o hbf (hk b o hbC hbf hbD e)
end
end Mine
end
section
set_option maxRecDepth 10000
namespace Mine
section
variable {prog : Program} {w : World} {A : Around} {env : Env}
noncomputable def testsOf (ifs : List Expr) (cenv : Env) : Sem Bool := forIn ifs true fun c r => if r = true then do let ok ← isTrue c cenv (eval c cenv); pure (ForInStep.yield ok) else pure (ForInStep.yield r)
theorem comp_block {E : Value → Shared → Prop} {elt iter : Expr} {x : Str} {px : Pos} {ifs : List Expr} {scope : Scope} {cl : List (Str × Addr)} {pos : Pos} {s₂ : Shared} {I : Addr} {fp wr : List Addr} {n : Nat} {P : Nat → Value → Prop}
    {St : Nat → Heap → Prop} (W : Walks prog w A I fp wr n P St) (hsz : n ≤ sizeLine) (p : Value → Bool) (F : Value → Value → List (Addr × Obj) → Prop) {RR : Value → Addr → Result → Shared → Prop}
    (hcell : ∀ y ∈ scope.names, y.2 ≠ .cell) (hkind : scope.kind = .function) (hx : scope.names.lookup x = some .local) (hst : St 0 s₂.heap) (hfp : ∀ b ∈ fp, b < s₂.heap.objs.size)
    (htests : ∀ C i v h₃ t₃ m₃ E', i < n → P i v → h₃.Ns C m₃ → m₃ x = some v → (∀ b o, b ∉ wr → s₂.heap.get? b = some o → h₃.get? b = some o) →
      wpAny (model prog w) A (testsOf ifs (compEnvC scope cl C env)) (fun ok s₄ => ok = p v ∧ PySem.Keeps { s₂ with heap := h₃, toks := t₃ } s₄) E' { s₂ with heap := h₃, toks := t₃ })
    (helt : ∀ C i v h₃ t₃ m₃ E', i < n → P i v → p v = true → h₃.Ns C m₃ → m₃ x = some v → (∀ b o, b ∉ wr → s₂.heap.get? b = some o → h₃.get? b = some o) →
      wpAny (model prog w) A (eval elt (compEnvC scope cl C env)) (fun y s₄ => (∃ zs, F v y zs ∧ Stand h₃.objs.size s₄.heap zs) ∧ PySem.Keeps { s₂ with heap := h₃, toks := t₃ } s₄) E' { s₂ with heap := h₃, toks := t₃ })
    (hRR : ∀ D C h' tk m' ys xs (vs : List Value), s₂.heap.objs.size ≤ D → s₂.heap.objs.size ≤ C → D ≠ C → h'.Ns C m' → h'.PlainList D ys → vs.length = n → (∀ j v, vs[j]? = some v → P j v) → MadeOf F (vs.filter p) ys.toList xs →
      (∀ q ∈ xs, h'.get? q.1 = some q.2 ∧ D < q.1 ∧ C < q.1) → (∀ b o, b ∉ wr → s₂.heap.get? b = some o → h'.get? b = some o) → RR (.ref D) C (.ok .next) { s₂ with heap := h', toks := tk }) :
    wpAny (model prog w) A (newList []) (fun acc s₃ => wpAny (model prog w) A (newFunctionEnv scope env.globals cl [] env.qual none .none (some env)) (fun cenv s₄ =>
      codeAny (model prog w) A (.compStart (.ListComp elt [⟨.Name x px, iter, ifs, 0⟩] scope pos) 0 (.ref I) acc { cenv with scope := relabel scope env }) (RR acc cenv.locals) s₄) E s₃) E s₂ := by
  refine wpAny_newObj_type (wpAny_newFunctionEnv hcell (by intro y hy; simp at hy) (fun h₁ hns₁ hsb₁ => ?_) hkind)
  dsimp only at hns₁ hsb₁ ⊢
  generalize hH2 : s₂.heap.push { cls := .type "list", dict := none, data := .seq ([] : List Value).toArray } = H2 at hns₁ hsb₁ ⊢
  have hC : H2.objs.size = s₂.heap.objs.size + 1 := by rw [← hH2, Heap.size_push]
  have hDC : s₂.heap.objs.size ≠ H2.objs.size := by rw [hC]; exact Nat.ne_of_lt (Nat.lt_succ_self _)
  have hS : h₁.objs.size = s₂.heap.objs.size + 2 := by rw [hsb₁.1, Heap.size_push, hC]
  have below : ∀ b, b < s₂.heap.objs.size → b ≠ H2.objs.size ∧ b ≠ s₂.heap.objs.size := fun b hb => ⟨by rw [hC]; exact Nat.ne_of_lt (Nat.lt_succ_of_lt hb), Nat.ne_of_lt hb⟩
  have hDf : s₂.heap.objs.size ∉ fp := fun hm => Nat.lt_irrefl _ (hfp _ hm)
  have hCf : H2.objs.size ∉ fp := fun hm => by have := hfp _ hm; rw [hC] at this; exact Nat.lt_irrefl _ (Nat.lt_of_succ_lt this)
  have old : ∀ b o, s₂.heap.get? b = some o → h₁.get? b = some o := fun b o e => hsb₁.extBut b o (below b (Heap.lt_size e)).1 (Heap.get?_push_of_some _ (hH2 ▸ Heap.get?_push_of_some _ e))
  have hacc : h₁.PlainList s₂.heap.objs.size #[] := ⟨_, hsb₁.extBut _ _ hDC (Heap.get?_push_of_some _ (hH2 ▸ Heap.get?_push_size _ rfl))⟩
  have hst₁ : St 0 h₁ := W.frame _ _ _ hst fun b _ o e => old b o e
  have loop : ∀ s₃ : Shared, s₃ = { s₂ with heap := h₁, toks := s₂.toks + ([] : List (Str × Value)).length } →
      codeAny (model prog w) A (.compLoop (.ListComp elt [⟨.Name x px, iter, ifs, 0⟩] scope pos) 0 (.ref I) (.ref s₂.heap.objs.size) (compEnvC scope cl H2.objs.size env))
        (RR (.ref s₂.heap.objs.size) H2.objs.size) s₃ := by
    rintro s₃ rfl
    refine comp_loop (hsz := hsz) (cenv := compEnvC scope cl H2.objs.size env) W p F (lookup_relabel_local hx) (by simp [compEnvC, relabel, hkind]) hDC hDf hCf
      (by show H2.objs.size + 1 = h₁.objs.size; rw [hS, hC]) (by show s₂.heap.objs.size < h₁.objs.size; rw [hS]; exact Nat.lt_succ_of_lt (Nat.lt_succ_self _)) (fun b hb => by show b < h₁.objs.size; have := hfp b (W.sub b hb); rw [hS]; exact Nat.lt_succ_of_lt (Nat.lt_succ_of_lt this)) hst₁ hacc hns₁
      (fun i v s₃ t₃ m₃ hi hv hn hm hk => htests _ i v s₃ t₃ m₃ _ hi hv hn hm (fun b o hbf e => hk b o (below b (Heap.lt_size e)).1 hbf (below b (Heap.lt_size e)).2 (old b o e)))
      (fun i v s₃ t₃ m₃ hi hv hpv hn hm hk => helt _ i v s₃ t₃ m₃ _ hi hv hpv hn hm (fun b o hbf e => hk b o (below b (Heap.lt_size e)).1 hbf (below b (Heap.lt_size e)).2 (old b o e))) fun h' tk m' ys xs vs hn hpl hlen hP hF hX hk => ?_
    refine hRR _ _ h' tk m' ys xs vs (Nat.le_refl _) (by rw [hC]; exact Nat.le_succ _) hDC hn hpl hlen hP hF (fun q hq => ?_) fun b o hbf e =>
      hk b o (below b (Heap.lt_size e)).1 hbf (below b (Heap.lt_size e)).2 (old b o e)
    have b1 : s₂.heap.objs.size + 2 ≤ q.1 := by have := (hX q hq).2; dsimp only at this; rw [hS] at this; exact this
    exact ⟨(hX q hq).1, Nat.lt_of_lt_of_le (Nat.lt_succ_of_lt (Nat.lt_succ_self _)) b1, by rw [hC]; exact Nat.lt_of_lt_of_le (Nat.lt_succ_self _) b1⟩
  exact codeAny_compStart_list (loop _ rfl) (W.self 0 _ _ _ hst₁ (loop _ rfl))
end

/-! ## walks over ints -/
structure WalkOf (prog : Program) (w : World) (A : Around) (src : List Int) (I : Addr) (fp wr : List Addr) (n : Nat) (P : Nat → Value → Prop) (St : Nat → Heap → Prop) : Prop where
  W : Walks prog w A I fp wr n P St
  len : n = src.length
  val : ∀ j v, j < n → P j v → ∃ k, src[j]? = some k ∧ isInt k v
  live : ∀ i h, St i h → ∃ o, h.get? I = some o
noncomputable def IterOn (prog : Program) (w : World) (A : Around) (z : Shared) (h : Heap) (xv : Value) (src : List Int) (ls : List Addr) : Prop :=
  ∀ Q : Value → Heap → Prop, (∀ I fp wr n P St h', WalkOf prog w A src I fp wr n P St → St 0 h' → (∀ b ∈ fp, b = I ∨ b ∈ ls) → I ∈ wr → (∀ b ∈ wr, b = I) → (∀ b ∈ fp, b < h'.objs.size) → (∀ b ∈ wr, h.get? b = none) → (∀ b o, h.get? b = some o → h'.get? b = some o) → Q (.ref I) h') →
    Wp (model prog w) A z (pyIter xv) Q h
noncomputable def IterOk (prog : Program) (w : World) (A : Around) (z : Shared) (h : Heap) (xv : Value) (src : List Int) : Prop := ∃ ls, IterOn prog w A z h xv src ls
noncomputable def Kp (h h' : Heap) : Prop := ∀ b o, h.get? b = some o → h'.get? b = some o
theorem Kp.refl {h : Heap} : Kp h h := fun _ _ e => e
theorem Kp.trans {h h' h'' : Heap} (a : Kp h h') (b : Kp h' h'') : Kp h h'' := fun x o e => b x o (a x o e)
theorem Kp.push {h : Heap} (o : Obj) : Kp h (h.push o) := fun _ _ e => Heap.get?_push_of_some _ e
theorem pw_all {α : Type} {R : α → α → Prop} (h : ∀ a b, R a b) : ∀ l : List α, l.Pairwise R
  | [] => .nil
  | _ :: l => .cons (fun _ _ => h _ _) (pw_all h l)
section
variable {g h h' : Heap} {L : Addr} {led : Led} {m : Str → Option Value}
theorem Ow.keeps (O : Ow g L h led) (k : ∀ p ∈ led, ∀ o, h.get? p.1 = some o → h'.get? p.1 = some o) : Ow g L h' led :=
  ⟨⟨⟨fun p hp => let ⟨o, e, q⟩ := O.has.get p hp; ⟨o, k p hp o e, q⟩⟩, O.own.off, O.nd⟩, O.ne⟩
theorem Ow.kp (O : Ow g L h led) (k : Kp h h') : Ow g L h' led := O.keeps fun p _ o e => k _ _ e
theorem get_none_of_le {b : Addr} (hb : h.objs.size ≤ b) : h.get? b = none := by
  cases q : h.get? b with
  | none => rfl
  | some o => exact absurd (Heap.lt_size q) (Nat.not_lt.mpr hb)
/-- new objects, never to change -/
theorem Ow.add (O : Ow g L h led) (F : Fr g L h m) (O' : Ow g L h' led) (xs : List (Addr × Obj)) (hx : ∀ q ∈ xs, h'.get? q.1 = some q.2 ∧ h.objs.size ≤ q.1) : Ow g L h' (exL xs ++ led) := by
  have Lt : L < h.objs.size := F.ns.lt
  have gn : ∀ b, h.objs.size ≤ b → g.get? b = none := fun b hb => by
    cases q : g.get? b with
    | none => rfl
    | some o => exact absurd (Heap.lt_size (F.keep _ _ q)) (Nat.not_lt.mpr hb)
  refine ⟨⟨⟨fun p hp => ?_⟩, fun p hp => ?_, nodup_append.mpr ⟨?_, O.nd, fun p hp q hq e => ?_⟩⟩, fun p hp => ?_⟩
  · rcases List.mem_append.mp hp with hp | hp
    · obtain ⟨q, hq, rfl⟩ := List.mem_map.mp hp
      exact ⟨q.2, (hx q hq).1, rfl⟩
    · exact O'.has.get p hp
  · rcases List.mem_append.mp hp with hp | hp
    · obtain ⟨q, hq, rfl⟩ := List.mem_map.mp hp
      exact gn _ (hx q hq).2
    · exact O.own.off p hp
  · exact List.pairwise_map.mpr (pw_all (fun a b _ => ⟨trivial, trivial⟩) _)
  · obtain ⟨r, hr, rfl⟩ := List.mem_map.mp hp
    obtain ⟨o, e2, _⟩ := O.has.get q hq
    exact absurd (Heap.lt_size e2) (Nat.not_lt.mpr (by rw [← show r.1 = q.1 from e]; exact (hx r hr).2))
  · rcases List.mem_append.mp hp with hp | hp
    · obtain ⟨q, hq, rfl⟩ := List.mem_map.mp hp
      exact Nat.ne_of_gt (Nat.lt_of_lt_of_le Lt (hx q hq).2)
    · exact O.ne p hp
theorem leaveC {C : Addr} (F : Fr g L h m) (O : Ow g L h led) (hL : L ≠ C) (hg : g.get? C = none) (hl : ∀ e ∈ led, e.1 ≠ C) (hs : Heap.ExtBut C h h') : Fr g L h' m ∧ Ow g L h' led :=
  ⟨⟨F.ns.extBut hs hL, fun b o e => hs b o (fun q => by rw [q, hg] at e; cases e) (F.keep b o e), F.above⟩, O.keeps fun p hp o e => hs _ o (hl p hp) e⟩
end
section
variable {prog : Program} {w : World} {A : Around} {z : Shared} {h : Heap} {src : List Int}
theorem iter_list {l : Addr} {vs : List Value} (hh : A.handled = none) (hl : h.IsList l (List.toArray vs)) (hi : IntsAre vs src) : IterOn prog w A z h (.ref l) src [l] := fun Q k tk => by
  have hlt : l < h.objs.size := by obtain ⟨o, e, _⟩ := id hl; exact Heap.lt_size e
  refine wpAny_pyIter_list (s := St z h tk) hl ⟨_, tk, rfl, ?_⟩
  have kp : Kp h (h.push { cls := .type "list_iterator", data := .fields #[.ref l, .int 0 0] }) := .push _
  refine k _ _ _ _ _ _ _ ⟨Walks.list hh _ l (Nat.ne_of_lt hlt) _, ?_, fun j v _ e => ?_, fun i h st => let ⟨o, e, _⟩ := st.1; ⟨o, e⟩⟩ ⟨⟨_, Heap.get?_push_size _ rfl, rfl, rfl⟩, hl.at fun o e => kp _ _ e⟩ (fun b hb => by simpa using hb) (by simp) (fun b hb => by simpa using hb) ?_ ?_ kp
  · rw [List.size_toArray]; exact hi.length
  · rw [List.getElem?_toArray] at e
    obtain ⟨n, t, e1, e2⟩ := hi.at j v e
    exact ⟨n, e2, t, e1⟩
  · intro b hb
    rw [Heap.size_push]
    simp only [List.mem_cons, List.not_mem_nil, or_false] at hb
    rcases hb with rfl | rfl
    · exact Nat.lt_succ_self _
    · exact Nat.lt_succ_of_lt hlt
  · intro b hb
    simp only [List.mem_cons, List.not_mem_nil, or_false] at hb
    subst hb
    exact get_none_of_le (Nat.le_refl _)
theorem iter_range {r : Addr} {n : Nat} {t u v : Tok} (hh : A.handled = none) (hr : IsRange h r 0 n 1 t u v) (hn : n ≤ 1000) : IterOn prog w A z h (.ref r) ((List.range n).map Int.ofNat) [] := fun Q k tk => by
  have rs : Builtin.Range.rangeSize 0 n 1 = n := by rw [rangeSize_one]; split <;> omega
  refine wpAny_pyIter_range (s := St z h tk) hr (small_one (by decide) (by decide) (by omega) (by omega)) ⟨_, tk, rfl, ?_⟩
  have kp : Kp h (h.push { cls := .type "range_iterator", data := .fields #[rawInt 0, rawInt (Builtin.Range.rangeSize 0 n 1), rawInt 1] }) := .push _
  refine k _ _ _ _ _ _ _ ⟨Walks.range hh _ 0 1 n, by simp, fun j v hj e => ?_, fun i h st => ⟨_, st⟩⟩ ?_ (fun b hb => by simpa using hb) (by simp) (fun b hb => by simpa using hb) ?_ ?_ kp
  · obtain ⟨t, rfl⟩ := e
    exact ⟨j, by rw [List.getElem?_map, List.getElem?_range hj]; rfl, t, by rw [Int.zero_add, Int.mul_one]⟩
  · rw [rs]
    have := Heap.get?_push_size h (o := { cls := .type "range_iterator", data := .fields #[rawInt 0, rawInt n, rawInt 1] }) rfl
    have e1 : (0 : Int) + ((0 : Nat) : Int) * 1 = 0 := by decide
    have e2 : (n : Int) - ((0 : Nat) : Int) = n := by simp
    show Heap.get? _ _ = _
    rw [e1, e2]; exact this
  · intro b hb
    rw [Heap.size_push]
    simp only [List.mem_cons, List.not_mem_nil, or_false] at hb
    subst hb; exact Nat.lt_succ_self _
  · intro b hb
    simp only [List.mem_cons, List.not_mem_nil, or_false] at hb
    subst hb
    exact get_none_of_le (Nat.le_refl _)
theorem flat_keys : ∀ {kvs : List (Int × Value)} {c : List (Int × Int)}, PyProof.V.FlatPairs PyData.int kvs (kdfD c) → kvs.map (·.1) = c.map (·.1)
  | [], [], _ => rfl
  | (k, v) :: r, (k', v') :: c, h => by
    cases h with
    | cons a b => rw [List.map_cons, List.map_cons, flat_keys b]
/-- a table of ints by ints, in an object -/
structure TabO (prog : Program) (w : World) (o : Obj) (c : List (Int × Int)) : Prop where
  is_ : ∃ kvs, o.IsDictOf (PySem.intKind prog w) kvs ∧ PyProof.V.FlatPairs PyData.int kvs (kdfD c)
theorem iter_dict {d : Addr} {o : Obj} {c : List (Int × Int)} (hh : A.handled = none) (hd : (d == sysModules) = false) (e : h.get? d = some o) (T : TabO prog w o c) : IterOn prog w A z h (.ref d) (c.map (·.1)) [d] := fun Q k tk => by
  obtain ⟨kvs, ⟨es, ep, r⟩, hf⟩ := T
  have hm : h.DictAt (PySem.intKind prog w) d kvs ep := ⟨o, es, e, r⟩
  have hlt : d < h.objs.size := Heap.lt_size e
  refine wpAny_pyIter_dict (s := St z h tk) hd hm ⟨_, tk, rfl, ?_⟩
  have kp : Kp h (h.push { cls := .type "dict_keyiterator", data := .fields #[.ref d, .int 0 0, .int kvs.length 0, .int ep 0] }) := .push _
  refine k _ _ _ _ _ _ _ ⟨Walks.dictKeys hh _ d (Nat.ne_of_lt hlt) kvs ep, ?_, fun j v hj e => ?_, fun i h st => let ⟨o, e, _⟩ := st.1; ⟨o, e⟩⟩ ⟨⟨_, Heap.get?_push_size _ rfl, rfl, rfl⟩, hm.at' fun o e => kp _ _ e⟩ (fun b hb => by simpa using hb) (by simp) (fun b hb => by simpa using hb) ?_ ?_ kp
  · rw [← flat_keys hf, List.length_map]
  · obtain ⟨k, x, e1, e2⟩ := e
    refine ⟨k, by rw [← flat_keys hf, List.getElem?_map, e1]; rfl, ?_⟩
    exact Value.isInt_shape e2
  · intro b hb
    rw [Heap.size_push]
    simp only [List.mem_cons, List.not_mem_nil, or_false] at hb
    rcases hb with rfl | rfl
    · exact Nat.lt_succ_self _
    · exact Nat.lt_succ_of_lt hlt
  · intro b hb
    simp only [List.mem_cons, List.not_mem_nil, or_false] at hb
    subst hb
    exact get_none_of_le (Nat.le_refl _)
end
/-! ## the rule of a list comprehension -/
theorem MadeOf.ints {FF : Int → Value → List (Addr × Obj) → Prop} {p : Int → Bool} {p' : Value → Bool} {F : Value → Value → List (Addr × Obj) → Prop} (hp : ∀ k v, isInt k v → p' v = p k) (hF : ∀ k v y zs, isInt k v → F v y zs → FF k y zs) :
    ∀ {vs : List Value} {ns : List Int} {l : List Value}, l = vs.filter p' → (∀ (j : Nat) v, vs[j]? = some v → ∃ k : Int, ns[j]? = some k ∧ isInt k v) → vs.length = ns.length → ∀ {ys xs}, MadeOf F l ys xs → MadeOf FF (ns.filter p) ys xs := by
  intro vs ns l hl hv hn ys xs M
  have key : ∀ (vs : List Value) (ns : List Int), (∀ (j : Nat) v, vs[j]? = some v → ∃ k : Int, ns[j]? = some k ∧ isInt k v) → vs.length = ns.length →
      (vs.filter p').length = (ns.filter p).length ∧ ∀ (j : Nat) v, (vs.filter p')[j]? = some v → ∃ k : Int, (ns.filter p)[j]? = some k ∧ isInt k v := by
    intro vs
    induction vs with
    | nil => intro ns _ h; cases ns with
      | nil => exact ⟨rfl, fun j v e => nomatch e⟩
      | cons _ _ => cases h
    | cons v vs ih =>
      intro ns hv hn
      cases ns with
      | nil => cases hn
      | cons n ns =>
        obtain ⟨k, e, hk⟩ := hv 0 v rfl
        cases e
        have ih := ih ns (fun j u e => hv (j + 1) u e) (Nat.succ.inj hn)
        rw [List.filter_cons, List.filter_cons, hp n v hk]
        cases p n with
        | false => exact ih
        | true =>
          refine ⟨congrArg Nat.succ ih.1, fun j u e => ?_⟩
          cases j with
          | zero => cases e; exact ⟨n, rfl, hk⟩
          | succ j => exact ih.2 j u e
  obtain ⟨k1, k2⟩ := key vs ns hv hn
  rw [← hl] at k1 k2
  generalize ns.filter p = ms at k1 k2
  clear hl hv hn key
  induction M generalizing ms with
  | nil => cases ms with
    | nil => exact .nil
    | cons _ _ => cases k1
  | @snoc vs ys xs v y zs M1 hF1 ih =>
    rw [List.length_append] at k1
    have hms : ms = ms.take vs.length ++ ms.drop vs.length := (List.take_append_drop _ _).symm
    obtain ⟨k, e1, e2⟩ := k2 vs.length v (by simp)
    have hd : ms.drop vs.length = [k] := by
      rw [List.drop_eq_getElem_cons (by rw [← k1]; simp)]
      have hl : vs.length < ms.length := by rw [← k1]; simp
      rw [List.getElem?_eq_getElem hl] at e1
      cases e1
      rw [List.drop_eq_nil_of_le (by rw [← k1]; simp)]
    rw [hms, hd]
    refine .snoc (ih _ (by rw [List.length_take, ← k1]; simp) fun j u hj => ?_) (hF k v _ _ e2 hF1)
    have hj' : j < vs.length := (List.getElem?_eq_some_iff.mp hj).1
    obtain ⟨k', e3, e4⟩ := k2 j u (by rw [List.getElem?_append_left hj']; exact hj)
    exact ⟨k', by rw [List.getElem?_take_of_lt hj']; exact e3, e4⟩
noncomputable def onInt {β : Type} (d : β) (f : Int → β) : Value → β
  | .int k _ => f k
  | _ => d
structure CompOk (prog : Program) (w : World) (A : Around) (z : Shared) (env : Env) (scope : Scope) (cl : List (Str × Addr)) (x : Str) (ifs : List Expr) (elt : Expr) (src : List Int) (p : Int → Bool) (FF : Int → Value → List (Addr × Obj) → Prop)
    (g : Heap) (L : Addr) (led : Led) (m : Str → Option Value) : Prop where
  tests : ∀ C h2 m2 k v, k ∈ src → isInt k v → h2.Ns C m2 → m2 x = some v → Fr g L h2 m → Ow g L h2 led →
    Wp (model prog w) A z (testsOf ifs (compEnvC scope cl C env)) (fun ok h3 => ok = p k ∧ Kp h2 h3) h2
  elts : ∀ C h2 m2 k v, k ∈ src → isInt k v → p k = true → h2.Ns C m2 → m2 x = some v → Fr g L h2 m → Ow g L h2 led →
    Wp (model prog w) A z (eval elt (compEnvC scope cl C env)) (fun y h3 => (∃ zs, FF k y zs ∧ Stand h2.objs.size h3 zs) ∧ Kp h2 h3) h2
section
variable {prog : Program} {w : World} {A : Around} {z : Shared} {g h : Heap} {L : Addr} {m : Str → Option Value} {led : Led} {env : Env}
  {elt iter : Expr} {x : Str} {px : Pos} {ifs : List Expr} {scope : Scope} {cl : List (Str × Addr)} {pos : Pos} {src : List Int} {p : Int → Bool} {FF : Int → Value → List (Addr × Obj) → Prop}
theorem comp_core {E : Value → Shared → Prop} {h1 : Heap} {tk : Nat} {xv : Value} {RR : Value → Addr → Result → Shared → Prop} (hsrc : src.length ≤ 1000) (F : Fr g L h1 m) (O : Ow g L h1 led) (it : IterOk prog w A z h1 xv src)
    (hcell : ∀ y ∈ scope.names, y.2 ≠ .cell) (hkind : scope.kind = .function) (hx : scope.names.lookup x = some .local)
    (ok : CompOk prog w A z env scope cl x ifs elt src p FF g L led m)
    (q : ∀ D C n ys xs h' tk' mC, L ≠ C → g.get? C = none → (∀ e ∈ exL ((D, listOf ys n) :: xs) ++ led, e.1 ≠ C) → h'.Ns C mC → (∀ e ∈ led, e.1 < D) → Fr g L h' m → Ow g L h' (exL ((D, listOf ys n) :: xs) ++ led) →
      MadeOf FF (src.filter p) ys.toList xs → RR (.ref D) C (.ok .next) (St z h' tk')) :
    wpAny (model prog w) A (pyIter xv) (fun it s₂ => wpAny (model prog w) A (newList []) (fun acc s₃ => wpAny (model prog w) A (newFunctionEnv scope env.globals cl [] env.qual none .none (some env)) (fun cenv s₄ =>
      codeAny (model prog w) A (.compStart (.ListComp elt [⟨.Name x px, iter, ifs, 0⟩] scope pos) 0 it acc { cenv with scope := relabel scope env }) (RR acc cenv.locals) s₄) E s₃) E s₂) E (St z h1 tk) := by
  obtain ⟨ls, it⟩ := it
  refine wpAny_mono (it (fun it h2 => ∀ tk, wpAny (model prog w) A (newList []) (fun acc s₃ => wpAny (model prog w) A (newFunctionEnv scope env.globals cl [] env.qual none .none (some env)) (fun cenv s₄ =>
      codeAny (model prog w) A (.compStart (.ListComp elt [⟨.Name x px, iter, ifs, 0⟩] scope pos) 0 it acc { cenv with scope := relabel scope env }) (RR acc cenv.locals) s₄) E s₃) E (St z h2 tk)) ?_ tk) (fun it s₂ ⟨h2, t2, e, k⟩ => e ▸ k t2) fun _ _ f => f.elim
  intro I fp wr n P St₀ h2 W hst _ _ _ hfp hwr k2 tk2
  have keep : ∀ h3 : Heap, (∀ b o, b ∉ wr → h2.get? b = some o → h3.get? b = some o) → Kp h1 h3 := fun h3 k b o e => k b o (fun hb => by rw [hwr b hb] at e; cases e) (k2 b o e)
  have e1000 : n ≤ sizeLine := by rw [W.len]; have : (1000 : Nat) ≤ sizeLine := by decide
                                  omega
  have Pk : ∀ j v, j < n → P j v → ∃ k, src[j]? = some k ∧ isInt k v := W.val
  have F2 := F.keeps k2
  have O2 := O.kp k2
  have isI : ∀ k v (p : Int → Bool), isInt k v → onInt false p v = p k := fun k v p ⟨t, e⟩ => by subst e; rfl
  refine comp_block (s₂ := St z h2 tk2) (RR := RR) W.W e1000 (onInt false p) (fun v y zs => ∃ k, isInt k v ∧ FF k y zs) hcell hkind hx hst hfp ?_ ?_ ?_
  · intro C i v h3 t3 m3 E' hi hP hn hm hk
    obtain ⟨k, e1, e2⟩ := Pk i v hi hP
    have kp := keep h3 hk
    refine (ok.tests C h3 m3 k v (List.mem_of_getElem? e1) e2 hn hm (F.keeps kp) (O.kp kp)).go (fun b h4 t4 q => ?_) t3
    exact ⟨q.1.trans (isI k v p e2).symm, h4, t4, rfl, q.2⟩
  · intro C i v h3 t3 m3 E' hi hP hp hn hm hk
    obtain ⟨k, e1, e2⟩ := Pk i v hi hP
    have kp := keep h3 hk
    refine (ok.elts C h3 m3 k v (List.mem_of_getElem? e1) e2 ((isI k v p e2).symm.trans hp) hn hm (F.keeps kp) (O.kp kp)).go (fun b h4 t4 q => ?_) t3
    obtain ⟨⟨zs, q1, q2⟩, q3⟩ := q
    exact ⟨⟨zs, ⟨k, e2, q1⟩, q2⟩, h4, t4, rfl, q3⟩
  · intro D C h' tk' m' ys xs vs hD hC hDC hn hpl hlen hPv hM hX hk
    obtain ⟨nn, hpl⟩ := hpl
    have kp := keep h' hk
    have O' := O.kp kp
    have F' := F.keeps kp
    have led1 : ∀ e ∈ led, e.1 < h2.objs.size := fun e he => let ⟨o, e1, _⟩ := O2.has.get e he; Heap.lt_size e1
    refine q D C nn ys xs h' tk' m' (Nat.ne_of_lt (Nat.lt_of_lt_of_le F2.ns.lt hC)) ?_ (fun e he => ?_) hn (fun e he => Nat.lt_of_lt_of_le (led1 e he) hD) F' (O2.add F2 O' ((D, listOf ys nn) :: xs) fun q hq => ?_)
      (MadeOf.ints (p' := onInt false p) (fun k v e => isI k v p e) (fun k v y zs e ⟨k', e', f⟩ => ?_) rfl (fun j v e => Pk j v (by rw [← hlen]; exact (List.getElem?_eq_some_iff.mp e).1) (hPv j v e)) (by rw [hlen, W.len]) hM)
    · cases q : g.get? C with
      | none => rfl
      | some o => exact absurd (Heap.lt_size (F2.keep _ _ q)) (Nat.not_lt.mpr hC)
    · rcases List.mem_append.mp he with he | he
      · obtain ⟨r, hr, rfl⟩ := List.mem_map.mp he
        rcases List.mem_cons.mp hr with rfl | hr
        · exact hDC
        · exact Nat.ne_of_gt (hX r hr).2.2
      · exact Nat.ne_of_lt (Nat.lt_of_lt_of_le (led1 e he) hC)
    · rcases List.mem_cons.mp hq with rfl | hq
      · exact ⟨hpl, hD⟩
      · exact ⟨(hX q hq).1, Nat.le_trans hD (Nat.le_of_lt (hX q hq).2.1)⟩
    · obtain ⟨t, rfl⟩ := e
      obtain ⟨t', e'⟩ := e'
      cases e'
      exact f
/-- a comprehension -/
theorem W_comp {Q : Value → Heap → Prop} (src : List Int) (p : Int → Bool) (FF : Int → Value → List (Addr × Obj) → Prop) (hsrc : src.length ≤ 1000) (F : Fr g L h m) (O : Ow g L h led)
    (it : Wp (model prog w) A z (eval iter env) (fun xv h1 => Kp h h1 ∧ IterOk prog w A z h1 xv src) h)
    (ok : CompOk prog w A z env scope cl x ifs elt src p FF g L led m)
    (q : ∀ D n ys xs h', (∀ e ∈ led, e.1 < D) → Fr g L h' m → Ow g L h' (exL ((D, listOf ys n) :: xs) ++ led) → MadeOf FF (src.filter p) ys.toList xs → Q (.ref D) h')
    (hclos : closureFor scope env = pure cl := by rfl) (hcell : ∀ y ∈ scope.names, y.2 ≠ .cell := by decide) (hkind : scope.kind = .function := by rfl)
    (hnames : ∀ y ∈ scope.names, y.2 = .local → scope.names.lookup y.1 = some .local := by decide) (hx : scope.names.lookup x = some .local := by rfl)
    (hs : ∀ x, foldedSetIterable iter env x = pure x := by intro _; rfl) :
    Wp (model prog w) A z (eval (.ListComp elt [⟨.Name x px, iter, ifs, 0⟩] scope pos) env) Q h := fun tk => by
  rw [eval_ListComp]
  refine wpAny_comprehension_free (use := none) rfl hs hclos hkind hnames (it.go (fun xv h1 t1 k => ?_) tk)
  obtain ⟨kp, it1⟩ := k
  have F1 := F.keeps kp
  have O1 := O.kp kp
  refine comp_core (RR := fun acc C => compPost (model prog w) A _ none _ acc C) hsrc F1 O1 it1 hcell hkind hx ok fun D C n ys xs h' tk' mC hL hg hl hn hlt F' O' M => ?_
  refine ⟨mC, hn, fun h'' hs'' => ⟨h'', tk', rfl, ?_⟩⟩
  obtain ⟨F'', O''⟩ := leaveC F' O' hL hg hl hs''.extBut
  exact q D n ys xs h'' hlt F'' O'' M
theorem W_assignComp {qual : Str} {scope₀ : Scope} {fa : Addr} {cdv : Value} {cl₀ : List (Str × Addr)} {y : Str} {py spos : Pos} {Q : Flow → Heap → Prop} (src : List Int) (p : Int → Bool) (FF : Int → Value → List (Addr × Obj) → Prop) (hsrc : src.length ≤ 1000) (F : Fr g L h m) (O : Ow g L h led)
    (it : Wp (model prog w) A z (eval iter (envX qual scope₀ L fa cdv cl₀)) (fun xv h1 => Kp h h1 ∧ IterOk prog w A z h1 xv src) h)
    (ok : CompOk prog w A z (envX qual scope₀ L fa cdv cl₀) scope cl x ifs elt src p FF g L led m)
    (q : ∀ D n ys xs h', (∀ e ∈ led, e.1 < D) → Fr g L h' (upd m y (.ref D)) → Ow g L h' (exL ((D, listOf ys n) :: xs) ++ led) → MadeOf FF (src.filter p) ys.toList xs → Q .next h')
    (hsw : swapsWith (.ListComp elt [⟨.Name x px, iter, ifs, 0⟩] scope pos) (some (.Name y py)) spos.line (envX qual scope₀ L fa cdv cl₀) = pure true := by rfl)
    (hclos : closureFor scope (envX qual scope₀ L fa cdv cl₀) = pure cl := by rfl) (hcell : ∀ y ∈ scope.names, y.2 ≠ .cell := by decide) (hkind : scope.kind = .function := by rfl)
    (hnames : ∀ y ∈ scope.names, y.2 = .local → scope.names.lookup y.1 = some .local := by decide) (hx : scope.names.lookup x = some .local := by rfl)
    (hk : scope₀.kind = .function := by rfl) (hy : (envX qual scope₀ L fa cdv cl₀).kindOf y = some .local := by rfl)
    (hs : ∀ x, foldedSetIterable iter (envX qual scope₀ L fa cdv cl₀) x = pure x := by intro _; rfl) :
    Wp (model prog w) A z (exec (.Assign [.Name y py] (.ListComp elt [⟨.Name x px, iter, ifs, 0⟩] scope pos) spos) (envX qual scope₀ L fa cdv cl₀)) Q h := fun tk => by
  rw [exec_Assign_Name_used _ _ _ _ hsw]
  refine wpAny_bind (wpAny_standAt (wpAny_bind ?_))
  show wpAny _ A (do let _ ← comprehension (.ListComp elt [⟨.Name x px, iter, ifs, 0⟩] scope pos) scope (envX qual scope₀ L fa cdv cl₀) _ (newList []) false (eval iter (envX qual scope₀ L fa cdv cl₀)) (some (assign (.Name y py) (envX qual scope₀ L fa cdv cl₀)))) _ _ _
  refine wpAny_bind (wpAny_mono (wpAny_comprehension_free (use := some (assign (.Name y py) (envX qual scope₀ L fa cdv cl₀))) (Q := fun _ s' => ∃ h' tk', s' = St z h' tk' ∧ Q .next h') rfl hs hclos hkind hnames
    (it.go (fun xv h1 t1 k => ?_) _)) (fun _ s' hq => wpAny_pure (wpAny_pure hq)) fun _ _ e => e)
  obtain ⟨kp, it1⟩ := k
  have F1 := F.keeps kp
  have O1 := O.kp kp
  refine comp_core (RR := fun acc C => compPost (model prog w) A _ (some (assign (.Name y py) (envX qual scope₀ L fa cdv cl₀))) _ acc C) hsrc F1 O1 it1 hcell hkind hx ok fun D C n ys xs h' tk' mC hL hg hl hn hlt F' O' M => ?_
  show wpAny _ A (assign (.Name y py) (envX qual scope₀ L fa cdv cl₀) (.ref D)) _ _ _
  obtain ⟨oC, es, ep, hoC, hdC, hrest⟩ := id hn
  have OC : Ow g L h' ((C, isObj oC) :: (exL ((D, listOf ys n) :: xs) ++ led)) := by
    refine ⟨⟨⟨fun e he => ?_⟩, fun e he => ?_, List.pairwise_cons.mpr ⟨fun e he e2 => absurd e2.symm (hl e he), O'.nd⟩⟩, fun e he => ?_⟩
    · rcases List.mem_cons.mp he with rfl | he
      · exact ⟨_, hoC, rfl⟩
      · exact O'.has.get e he
    · rcases List.mem_cons.mp he with rfl | he
      · exact hg
      · exact O'.own.off e he
    · rcases List.mem_cons.mp he with rfl | he
      · exact Ne.symm hL
      · exact O'.ne e he
  refine (W_assignName (z := z) (Q := fun _ h2 => h2.Ns C mC ∧ Fr g L h2 (upd m y (.ref D)) ∧ Ow g L h2 (exL ((D, listOf ys n) :: xs) ++ led)) F' OC (fun h2 F2 O2 => ⟨?_, F2, O2.right (a := [(C, isObj oC)])⟩) hk hy).go (fun _ h2 t2 k => ?_) tk'
  · exact ⟨oC, es, ep, O2.obj (List.mem_cons_self ..), hdC, hrest⟩
  · obtain ⟨n2, F2, O2⟩ := k
    refine ⟨mC, n2, fun h3 hs3 => ⟨h3, t2, rfl, ?_⟩⟩
    obtain ⟨F'', O''⟩ := leaveC F2 O2 hL hg hl hs3.extBut
    exact q D n ys xs h3 hlt F'' O'' M
end
end Mine
end
section
set_option maxRecDepth 100000
namespace Mine
theorem list_no_keys : typeLookup (.type "list") "keys" = pure none := by rw [typeLookup_type, builtinLookup_eq_fast]; kernel_rfl
section
variable {prog : Program} {w : World} {A : Around} {E : Value → Shared → Prop} {s : Shared}
theorem getAttrQ_miss_list {a : Addr} {xs : Array Value} {k : Nat} {name : Str} {Q : Option Value → Shared → Prop}
    (hx : s.heap.get? a = some (listOf xs k)) (hmiss : typeLookup (.type "list") name = pure none) (hname : (["__module__", "__name__", "__qualname__", "__doc__", "__annotations__"] : List Str).contains name = false) (hA : A.handled = none)
    (h : ∀ h' tk, (∀ b o, s.heap.get? b = some o → h'.get? b = some o) → Q none { s with heap := h', toks := tk }) (hsz : name.length + 100 ≤ sizeLine := by size_fits) :
    wpAny (model prog w) A (getAttr? (.ref a) name) Q E s := by
  obtain ⟨hp, g, d, tk, os⟩ := s
  have hT : ∀ tk', (⟨hp, g, d, tk', os⟩ : Shared).TypeIs (.ref a) "list" := fun _ => ⟨_, hx, rfl⟩
  have f1 := sub_AttributeError
  have f3 := F.slot_list_getattribute.lookup
  have f4 := F.slot_list_getattribute.bind (.ref a)
  have f5 := am_list_getattr_none
  unfold getAttr? getAttrBy? getAttrBy
  repeat (any_goals (first | assumption | exact hT _ | ((with_reducible show wpAny _ _ (call (Value.builtin "list.__getattribute__") _ _) _ _ _); refine call_meets F.slot_list_getattribute (hT _) am_entry_list_getattribute (F.args_list_getattribute_2 _ _) (meets_getattribute_miss_list a xs k #[] name _ hmiss hname hsz) ⟨hx, hA, fun h' tk' e hx' => ?_⟩) | wp_step))
  obtain ⟨t', u', he⟩ := hx'.there
  show wpAny _ _ (getattributeRaised _ _ _ _ _ _ _) _ _ _
  unfold getattributeRaised
  have f9 : isSubtype (.type "AttributeError") (.type "AttributeError") = pure true := sub_AttributeError
  have hTe : ∀ tk', (⟨h', g, d, tk', os⟩ : Shared).TypeIs (.ref e) "AttributeError" := fun _ => ⟨_, he, rfl⟩
  repeat (any_goals (first | assumption | exact hTe _ | wp_step))
  exact h _ _ hx'.keeps

end
end Mine
end
section
set_option maxRecDepth 100000
namespace Mine
section
variable {prog : Program} {w : World} {A : Around} {E : Value → Shared → Prop} {s : Shared}
theorem plain_update_loop : plainId "dict.update.loop" = true := by decide +kernel
theorem entry_update_loop : entryFor table "dict.update.loop" = some Builtin.«dict.update.loop» := entryFor_of_fast (by kernel_rfl)
noncomputable abbrev tupO (k v : Value) : Obj := { cls := .type "tuple", data := .seq #[k, v] }
/-- a pair, as a tuple -/
noncomputable def PairAt (h : Heap) (y : Value) (kv : Int × Value) : Prop := ∃ t key, y = .ref t ∧ h.get? t = some (tupO key kv.2) ∧ isInt kv.1 key
theorem pairs_loop {I l d : Addr} {res : Value} {R : Result → Shared → Prop} (ys : List Value) (more : List (Int × Value)) (hlen : ys.length = more.length) (hn : more.length ≤ 1000) (hA : A.handled = none) (hId : I ≠ d) (hlI : l ≠ I) (hld : l ≠ d) :
    ∀ (k i : Nat) (s : Shared) (acc : List (Int × Value)) (u : Value), (u = rawInt i) → ys.length - i = k → i ≤ ys.length → s.heap.IsListIter I l i → s.heap.IsList l ys.toArray → s.heap.DictOf (PySem.intKind prog w) d acc → acc.length ≤ i →
      (∀ (j : Nat) y kv, ys[j]? = some y → more[j]? = some kv → PairAt s.heap y kv) → (∀ (j : Nat) t, ys[j]? = some (Value.ref t) → t ≠ I ∧ t ≠ d) →
      (∀ h' tk, h'.DictOf (PySem.intKind prog w) d (merged acc (more.drop i)) → (∀ b o, b ≠ I → b ≠ d → s.heap.get? b = some o → h'.get? b = some o) → R (.ok (.ret res)) { s with heap := h', toks := tk }) →
      codeAny (model prog w) A (.builtin "dict.update.loop" ⟨[.ref d, .ref I, u, res], []⟩) R s := by
  intro k
  induction k with
  | zero =>
    rintro i s acc u rfl hk hi hit hl hd hac hp hne hR
    refine codeAny_builtin entry_update_loop ?_
    rw [Around.under_plainId plain_update_loop _]
    show wpAny _ A.in1 (pyNext (.ref I) >>= _) _ _ s
    refine wpAny_bind (wpAny_pyNext_list_end hA hit hl (by simp; omega) fun h' hs' => ?_)
    have e : more.drop i = [] := List.drop_eq_nil_of_le (by omega)
    rw [e] at hR
    show wpAny _ _ (Builtin.Dict.addKeywords d [] >>= _) _ _ _
    refine wpAny_bind (wpAny_pure (wpAny_pure (hR h' _ ?_ fun b o hb _ e => hs' b o hb e)))
    obtain ⟨o, es, ep, ho, r⟩ := hd
    exact ⟨o, es, ep, hs' _ _ (Ne.symm hId) ho, r⟩
  | succ k ih =>
    rintro i s acc u rfl hk hi hit hl hd hac hp hne hR
    have hlt : i < ys.length := by omega
    refine codeAny_builtin entry_update_loop ?_
    rw [Around.under_plainId plain_update_loop _]
    show wpAny _ A.in1 (pyNext (.ref I) >>= _) _ _ s
    have hltm : i < more.length := by omega
    refine wpAny_bind (wpAny_pyNext_list_item hit hl (x := ys[i]) (by simp [hlt]) fun h1 hit1 hs1 => ?_)
    obtain ⟨t, key, e1, e2, tk, rfl⟩ := hp i ys[i] more[i] (List.getElem?_eq_getElem hlt) (List.getElem?_eq_getElem hltm)
    have nt := hne i t (by rw [List.getElem?_eq_getElem hlt, e1])
    have ht1 : h1.get? t = some (tupO (.int more[i].1 tk) more[i].2) := hs1.extBut _ _ nt.1 e2
    rw [e1]
    have hT1 : ({ s with heap := h1 } : Shared).TypeIs (.ref t) "tuple" := ⟨_, ht1, rfl⟩
    have hd1 : h1.DictOf (PySem.intKind prog w) d acc := hd.extBut hs1.extBut (Ne.symm hId)
    refine wpAny_bind (wpAny_holding ?_)
    refine wpAny_bind (wpAny_tryCatch ?_)
    unfold Builtin.Dict.pairItems
    refine wpAny_bind (wpAny_typeOf hT1 ?_)
    rw [if_pos (by decide)]
    refine wpAny_bind (wpAny_seqItems ht1 rfl (wpAny_pure ?_))
    show wpAny _ _ (holding [.int more[i].1 tk, more[i].2] (dictSet d (.int more[i].1 tk) more[i].2)) _ _ _
    have hac' : acc.length ≤ sizeLine := by
      have : (1000 : Nat) ≤ sizeLine := by decide
      omega
    refine wpAny_holding (wpAny_dictSet_pairs (hsz := hac') (k := more[i].1) (by simp [PySem.intKind, Value.isInt]) hd1 fun h2 hd2 hs2 => ?_)
    refine wpAny_pure ⟨plainId_quiet plain_update_loop _, ih (i + 1) _ (stored acc more[i].1 more[i].2) _ rfl (by omega) hlt (hit1.extBut hs2.extBut hId) ((hl.extBut hs1.extBut hlI).extBut hs2.extBut hld) hd2 ?_ ?_ hne ?_⟩
    · have := stored_length_le acc more[i].1 more[i].2
      omega
    · intro j y kv ej ek
      obtain ⟨t', key', f1, f2, f3⟩ := hp j y kv ej ek
      have nt' := hne j t' (by rw [ej, f1])
      exact ⟨t', key', f1, hs2.extBut _ _ nt'.2 (hs1.extBut _ _ nt'.1 f2), f3⟩
    · intro h' tk' hd' hk'
      refine hR h' tk' ?_ fun b o hb hb' e => hk' b o hb hb' (hs2.extBut b o hb' (hs1.extBut b o hb e))
      have e : more.drop i = more[i] :: more.drop (i + 1) := List.drop_eq_getElem_cons hltm
      rw [e]
      exact hd'
theorem call_dict_pairs {l : Addr} {n : Nat} {ys : List Value} {more : List (Int × Value)} {Q : Value → Shared → Prop} (hl : s.heap.get? l = some (listOf ys.toArray n)) (hlen : ys.length = more.length) (hn : more.length ≤ 1000) (hA : A.handled = none)
    (hp : ∀ (j : Nat) y kv, ys[j]? = some y → more[j]? = some kv → PairAt s.heap y kv)
    (h : ∀ h' tk, h'.DictOf (PySem.intKind prog w) s.heap.objs.size (merged [] more) → (∀ b o, s.heap.get? b = some o → h'.get? b = some o) → Q (.ref s.heap.objs.size) { s with heap := h', toks := tk }) :
    wpAny (model prog w) A (call (.type "dict") [.ref l]) Q E s := by
  refine callType_codes (Q₁ := fun obj s₁ => obj = .ref s.heap.objs.size ∧ s₁ = { s with heap := s.heap.push { cls := .type "dict", data := .dict #[] } }) F.kt_called_dict (F.kt_typeCall_dict_1 _) F.entry_dict_init (kt_code_dict_new _ ⟨rfl, rfl⟩) ?_
  rintro obj s₁ ⟨rfl, rfl⟩
  have hnew : (s.heap.push { cls := .type "dict", data := .dict #[] }).DictOf (PySem.intKind prog w) s.heap.objs.size [] := Heap.DictOf.new s.heap
  have hl' : (s.heap.push { cls := .type "dict", data := .dict #[] }).get? l = some (listOf ys.toArray n) := Heap.get?_push_of_some _ hl
  have hlt : l < s.heap.objs.size := Heap.lt_size hl
  refine ⟨hnew.typeIs, F.args_dict_init_2 _ _, ?_⟩
  unfold Builtin.«dict.__init__»
  refine wpAny_bind ?_
  unfold Builtin.Dict.selfAndRest
  refine wpAny_bind (wpAny_notOrdered_dict hnew.typeIs ?_)
  show wpAny _ _ (pure (s.heap.objs.size, [Value.ref l])) _ _ _
  refine wpAny_pure ?_
  show wpAny _ _ (Builtin.Dict.updateFrom "dict.__init__" s.heap.objs.size (.ref l) [] .none) _ _ _
  unfold Builtin.Dict.updateFrom
  refine wpAny_bind (wpAny_typeOf (T := "list") ⟨_, hl', rfl⟩ ?_)
  rw [if_pos (by decide)]
  refine wpAny_bind (getAttrQ_miss_list hl' list_no_keys (by decide) hA fun h1 tk1 k1 => ?_)
  simp only [Option.isNone_none, if_true]
  refine wpAny_bind (wpAny_rule ?_)
  have kd : ∀ o, (s.heap.push { cls := .type "dict", data := .dict #[] }).get? s.heap.objs.size = some o → h1.get? s.heap.objs.size = some o := fun o e => k1 _ _ e
  have il : h1.IsList l ys.toArray := ⟨_, k1 _ _ hl', rfl, n, rfl⟩
  have ds : s.heap.objs.size < h1.objs.size := Heap.lt_size (kd _ (Heap.get?_push_size _ rfl))
  refine wpAny_bind (wpAny_pyIter_list il ?_)
  refine wpAny_pure ⟨plainId_quiet plain_update_loop _, ?_⟩
  have kp : ∀ b o, s.heap.get? b = some o → (h1.push { cls := .type "list_iterator", data := .fields #[.ref l, .int 0 0] }).get? b = some o := fun b o e => Heap.get?_push_of_some _ (k1 _ _ (Heap.get?_push_of_some _ e))
  have low : ∀ b o, s.heap.get? b = some o → b ≠ h1.objs.size ∧ b ≠ s.heap.objs.size := fun b o e => ⟨Nat.ne_of_lt (Nat.lt_trans (Heap.lt_size e) ds), Nat.ne_of_lt (Heap.lt_size e)⟩
  refine pairs_loop (prog := prog) (w := w) (A := A.in1) (l := l) ys more hlen hn hA (Nat.ne_of_gt ds) (low l _ hl).1 (low l _ hl).2 _ 0 _ [] (rawInt 0) rfl rfl (Nat.zero_le _) ?_ ?_ ?_ (Nat.le_refl _) ?_ ?_ ?_
  · exact ⟨_, Heap.get?_push_size _ rfl, rfl, rfl⟩
  · exact ⟨listOf ys.toArray n, kp _ _ hl, rfl, n, rfl⟩
  · obtain ⟨o, es, ep, ho, r⟩ := hnew
    exact ⟨o, es, ep, Heap.get?_push_of_some _ (kd _ ho), r⟩
  · intro j y kv ej ek
    obtain ⟨t, key, f1, f2, f3⟩ := hp j y kv ej ek
    exact ⟨t, key, f1, kp _ _ f2, f3⟩
  · intro j t ej
    have hj : j < more.length := by rw [← hlen]; exact (List.getElem?_eq_some_iff.mp ej).1
    obtain ⟨t', key, f1, f2, f3⟩ := hp j _ more[j] ej (List.getElem?_eq_getElem hj)
    cases f1
    exact low _ _ f2
  · intro h' tk' hd' hk'
    refine ⟨rfl, h h' tk' hd' fun b o e => hk' b o (low b o e).1 (low b o e).2 (kp b o e)⟩
end
end Mine
end
section
set_option maxRecDepth 100000
namespace Mine
noncomputable abbrev zipO (f0 : Value) (b : Bool) (TI TO : Addr) : Obj := { cls := .type "zip", dict := none, data := .fields #[f0, .bool b, .bool false, .ref TI, .ref TO], slots := #[] }
section
variable {prog : Program} {w : World} {A : Around} {E : Value → Shared → Prop} {s : Shared}
theorem wpAny_alive {M : Model} {a : Addr} {Q : Option Obj → Shared → Prop} (h : Q (s.heap.get? a) s) : wpAny M A (loadIfAlive a) Q E s := fun Γ p _ => h
theorem notFree {z TI TO a : Addr} {b : Bool} {oa : Obj} {Q : Bool → Shared → Prop} (hz : s.heap.get? z = some (zipO (rawInt a) b TI TO)) (ha : s.heap.get? a = some oa)
    (h : ∀ h', h'.get? z = some (zipO (rawInt a) true TI TO) → Heap.SameBut z s.heap h' → Q false { s with heap := h' }) : wpAny (model prog w) A (Builtin.SmallTypes.ownedTupleIsFree (.ref z)) Q E s := by
  unfold Builtin.SmallTypes.ownedTupleIsFree
  refine wpAny_bind (wpAny_field hz rfl (x := rawInt a) rfl ?_)
  show wpAny _ _ (loadIfAlive a >>= _) _ _ _
  refine wpAny_bind (wpAny_alive ?_)
  rw [ha]
  simp only [Option.isNone_some, Bool.false_eq_true, if_false]
  refine wpAny_bind (wpAny_field hz rfl (x := .bool b) rfl ?_)
  cases b with
  | true =>
    rw [if_neg (by decide)]
    exact wpAny_pure (h _ hz (Heap.SameBut.refl _ _))
  | false =>
    rw [if_pos (by decide)]
    refine wpAny_bind (wpAny_setField_rec hz (by simp) fun h₁ hz₁ hs₁ => ?_)
    exact wpAny_pure (h _ hz₁ hs₁)
theorem zip_item2 {z TI TO i1 i2 l1 l2 a : Addr} {bb : Bool} {oa : Obj} {k1 k2 : Nat} {xs ys : Array Value} {x y : Value} {Q : Value → Shared → Prop} (D : ZipApart z TI TO i1 i2 l1 l2)
    (hz : s.heap.get? z = some (zipO (rawInt a) bb TI TO)) (ha : s.heap.get? a = some oa) (hTI : IsPair s.heap TI (.ref i1) (.ref i2))
    (h1 : s.heap.IsListIter i1 l1 k1) (h2 : s.heap.IsListIter i2 l2 k2) (hl1 : s.heap.IsList l1 xs) (hl2 : s.heap.IsList l2 ys) (hx : xs[k1]? = some x) (hy : ys[k2]? = some y)
    (hQ : ∀ h', h'.get? z = some (zipO (rawInt a) true TI TO) → h'.IsListIter i1 l1 (k1 + 1) → h'.IsListIter i2 l2 (k2 + 1) → IsPair h' s.heap.objs.size x y → h'.objs.size = s.heap.objs.size + 1 →
      (∀ c o, c ≠ z → c ≠ i1 → c ≠ i2 → s.heap.get? c = some o → h'.get? c = some o) → Q (.ref s.heap.objs.size) { s with heap := h' }) :
    wpAny (model prog w) A (Builtin.«zip.__next__» ⟨[.ref z], []⟩) (fun fin s' => ∃ v, fin = .done (.ret v) ∧ Q v s') E s := by
  show wpAny _ _ (field (.ref z) 2 >>= _) _ _ _
  refine wpAny_bind (wpAny_field hz rfl (x := .bool false) rfl ?_)
  show wpAny _ _ (field (.ref z) 3 >>= _) _ _ _
  refine wpAny_bind (wpAny_field hz rfl (x := .ref TI) rfl ?_)
  refine wpAny_bind (wpAny_seqItems hTI rfl ?_)
  show wpAny _ _ (Builtin.SmallTypes.ownedTupleIsFree (.ref z) >>= _) _ _ _
  refine wpAny_bind (notFree hz ha fun h₁ hz₁ hs₁ => ?_)
  simp only [Bool.false_eq_true, if_false]
  refine wpAny_bind ?_
  rw [← Array.forIn_toList]
  simp only [List.forIn_cons, List.forIn_nil]
  refine wpAny_bind (wpAny_bind (wpAny_holding ?_))
  show wpAny _ _ (Builtin.SmallTypes.nextOf (.ref i1) >>= _) _ _ _
  refine wpAny_bind (wpAny_nextOf_list_item (h1.extBut hs₁.extBut D.i1z) (hl1.extBut hs₁.extBut D.l1z) hx fun h₂ h1₂ hs₂ => wpAny_pure (wpAny_pure ?_))
  refine wpAny_bind (wpAny_bind (wpAny_holding ?_))
  show wpAny _ _ (Builtin.SmallTypes.nextOf (.ref i2) >>= _) _ _ _
  refine wpAny_bind (wpAny_nextOf_list_item ((h2.extBut hs₁.extBut D.i2z).extBut hs₂.extBut D.i12.symm) ((hl2.extBut hs₁.extBut D.l2z).extBut hs₂.extBut D.l2i1) hy fun h₃ h2₃ hs₃ => wpAny_pure (wpAny_pure (wpAny_pure ?_)))
  refine wpAny_bind (wpAny_newTuple (hsz := by show (2 : Nat) ≤ sizeLine; decide) (wpAny_pure ⟨_, rfl, ?_⟩))
  have hsz : h₃.objs.size = s.heap.objs.size := by rw [hs₃.1, hs₂.1, hs₁.1]
  show Q (.ref h₃.objs.size) _
  rw [hsz]
  have up : ∀ c o, c ≠ z → c ≠ i1 → c ≠ i2 → s.heap.get? c = some o → (h₃.push { cls := .type "tuple", data := .seq #[x, y] }).get? c = some o := fun c o c1 c2 c3 e =>
    Heap.get?_push_of_some _ (hs₃.extBut _ _ c3 (hs₂.extBut _ _ c2 (hs₁.extBut _ _ c1 e)))
  refine hQ _ (Heap.get?_push_of_some _ (hs₃.extBut _ _ D.i2z.symm (hs₂.extBut _ _ D.i1z.symm hz₁))) ((h1₂.extBut hs₃.extBut D.i12).at fun o e => Heap.get?_push_of_some _ e) (h2₃.at fun o e => Heap.get?_push_of_some _ e) ?_ (by rw [Heap.size_push, hsz]) up
  have := Heap.get?_push_size h₃ (o := { cls := .type "tuple", data := .seq #[x, y] }) rfl
  rwa [hsz] at this
theorem zip_end2 {z TI TO i1 i2 l1 l2 a : Addr} {bb : Bool} {oa : Obj} {k1 : Nat} {xs : Array Value} {Q : Fin → Shared → Prop} (hh : A.handled = none) (D : ZipApart z TI TO i1 i2 l1 l2)
    (hz : s.heap.get? z = some (zipO (rawInt a) bb TI TO)) (ha : s.heap.get? a = some oa) (hTI : IsPair s.heap TI (.ref i1) (.ref i2))
    (h1 : s.heap.IsListIter i1 l1 k1) (hl1 : s.heap.IsList l1 xs) (hx : xs[k1]? = none)
    (hE : ∀ h' e, (∀ c o, c ≠ z → c ≠ i1 → s.heap.get? c = some o → h'.get? c = some o) → (∃ o, h'.get? e = some o ∧ o.cls = .type "StopIteration") → E (.ref e) { s with heap := h' }) :
    wpAny (model prog w) A (Builtin.«zip.__next__» ⟨[.ref z], []⟩) Q E s := by
  show wpAny _ _ (field (.ref z) 2 >>= _) _ _ _
  refine wpAny_bind (wpAny_field hz rfl (x := .bool false) rfl ?_)
  show wpAny _ _ (field (.ref z) 3 >>= _) _ _ _
  refine wpAny_bind (wpAny_field hz rfl (x := .ref TI) rfl ?_)
  refine wpAny_bind (wpAny_seqItems hTI rfl ?_)
  show wpAny _ _ (Builtin.SmallTypes.ownedTupleIsFree (.ref z) >>= _) _ _ _
  refine wpAny_bind (notFree hz ha fun h₁ hz₁ hs₁ => ?_)
  simp only [Bool.false_eq_true, if_false]
  refine wpAny_bind ?_
  rw [← Array.forIn_toList]
  simp only [List.forIn_cons, List.forIn_nil]
  refine wpAny_bind (wpAny_bind (wpAny_holding ?_))
  show wpAny _ _ (Builtin.SmallTypes.nextOf (.ref i1) >>= _) _ _ _
  exact wpAny_bind (wpAny_nextOf_list_end hh (h1.extBut hs₁.extBut D.i1z) (hl1.extBut hs₁.extBut D.l1z) hx fun h₂ e hs₂ he => hE h₂ e (fun c o c1 c2 e => hs₂ _ _ c2 (hs₁.extBut _ _ c1 e)) he)
/-- how a zip stands: its k-th turn is to come -/
structure ZipSt (h : Heap) (z TI TO i1 i2 l1 l2 : Addr) (xs ys : Array Value) (k : Nat) : Prop where
  z : h.get? z = some (zipO .none false TI TO) ∨ ∃ a b oa, a ≠ z ∧ a ≠ TO ∧ a ≠ i1 ∧ a ≠ i2 ∧ h.get? z = some (zipO (rawInt (a : Nat)) b TI TO) ∧ h.get? a = some oa
  TI : IsPair h TI (.ref i1) (.ref i2)
  TO : ∃ a b, IsPair h TO a b
  i1 : h.IsListIter i1 l1 k
  i2 : h.IsListIter i2 l2 k
  l1 : h.IsList l1 xs
  l2 : h.IsList l2 ys
theorem zip_next {z TI TO i1 i2 l1 l2 : Addr} {k : Nat} {xs ys : Array Value} {x y : Value} {Q : Option Value → Shared → Prop} (D : ZipApart z TI TO i1 i2 l1 l2) (S : ZipSt s.heap z TI TO i1 i2 l1 l2 xs ys k) (hx : xs[k]? = some x) (hy : ys[k]? = some y)
    (hQ : ∀ h', ZipSt h' z TI TO i1 i2 l1 l2 xs ys (k + 1) → h'.get? s.heap.objs.size = some (tupO x y) → h'.objs.size = s.heap.objs.size + 1 →
      (∀ c o, c ≠ z → c ≠ TO → c ≠ i1 → c ≠ i2 → s.heap.get? c = some o → h'.get? c = some o) → Q (some (.ref s.heap.objs.size)) { s with heap := h' }) :
    wpAny (model prog w) A (pyNext (.ref z)) Q E s := by
  obtain ⟨hz, hTI, ⟨a, b, hTO⟩, h1, h2, hl1, hl2⟩ := S
  have lt : ∀ {c o}, s.heap.get? c = some o → s.heap.objs.size ≠ c := fun e => Nat.ne_of_gt (Heap.lt_size e)
  have lti1 : s.heap.objs.size ≠ i1 := by obtain ⟨_, e, _⟩ := h1; exact lt e
  have lti2 : s.heap.objs.size ≠ i2 := by obtain ⟨_, e, _⟩ := h2; exact lt e
  rcases hz with hz | ⟨a0, bb, oa, n1, n2, n3, n4, hz, ha⟩
  · refine wpAny_pyNext_zip_item D hz hTI hTO h1 h2 hl1 hl2 hx hy fun h' a1 a2 a3 a4 a5 a6 hk => hQ h' ⟨.inr ⟨s.heap.objs.size, false, _, lt hz, lt hTO, lti1, lti2, a1, a5⟩, hk _ _ D.TIz D.TITO D.TIi1 D.TIi2 hTI, ⟨_, _, a2⟩, a3, a4,
      hl1.at fun o e => hk _ o D.l1z D.l1TO D.l1i1 D.l1i2 e, hl2.at fun o e => hk _ o D.l2z D.l2TO D.l2i1 D.l2i2 e⟩ a5 a6 hk
  · have hT : s.TypeIs (.ref z) "zip" := ⟨_, hz, rfl⟩
    unfold pyNext
    refine wpAny_bind (wpAny_attempt (wpAny_callSpecial?_slot (name := Str.ofString "__next__") hT F.slot_zip_next
      (wpAny_call_entry F.slot_zip_next hT F.entry_zip_next
        (zip_item2 D hz ha hTI h1 h2 hl1 hl2 hx hy fun h' a1 a3 a4 a5 a6 hk => wpAny_pure (hQ h' ⟨.inr ⟨a0, true, oa, n1, n2, n3, n4, a1, hk _ _ n1 n3 n4 ha⟩, hk _ _ D.TIz D.TIi1 D.TIi2 hTI, ⟨a, b, hk _ _ D.TOz D.TOi1 D.TOi2 hTO⟩, a3, a4,
          hl1.at fun o e => hk _ o D.l1z D.l1i1 D.l1i2 e, hl2.at fun o e => hk _ o D.l2z D.l2i1 D.l2i2 e⟩ a5 a6 fun c o c1 _ c3 c4 e => hk c o c1 c3 c4 e)) (F.args_zip_next_1 _))))
theorem zip_done {z TI TO i1 i2 l1 l2 : Addr} {k : Nat} {xs ys : Array Value} {Q : Option Value → Shared → Prop} (hh : A.handled = none) (D : ZipApart z TI TO i1 i2 l1 l2) (S : ZipSt s.heap z TI TO i1 i2 l1 l2 xs ys k) (hx : xs[k]? = none)
    (hQ : ∀ h', (∀ c o, c ≠ z → c ≠ TO → c ≠ i1 → c ≠ i2 → s.heap.get? c = some o → h'.get? c = some o) → Q none { s with heap := h' }) :
    wpAny (model prog w) A (pyNext (.ref z)) Q E s := by
  obtain ⟨hz, hTI, ⟨a, b, hTO⟩, h1, h2, hl1, hl2⟩ := S
  rcases hz with hz | ⟨a0, bb, oa, n1, n2, n3, n4, hz, ha⟩
  · exact wpAny_pyNext_zip_end hh D hz hTI hTO h1 h2 hl1 hl2 (.inl hx) hQ
  · have hT : s.TypeIs (.ref z) "zip" := ⟨_, hz, rfl⟩
    unfold pyNext
    refine wpAny_bind (wpAny_attempt (wpAny_callSpecial?_slot (name := Str.ofString "__next__") hT F.slot_zip_next
      (wpAny_call_entry F.slot_zip_next hT F.entry_zip_next (zip_end2 hh D hz ha hTI h1 hl1 hx fun h' e hk he => ?_) (F.args_zip_next_1 _))))
    obtain ⟨o, ho, hc⟩ := he
    refine wpAny_bind (wpAny_isInstance (T := "StopIteration") (b := true) ⟨o, ho, hc⟩ isSubtype_stop ?_)
    exact wpAny_pure (hQ _ fun c o c1 _ c3 _ e => hk c o c1 c3 e)
theorem zip_no_len : typeLookup (.type "zip") "__len__" = pure none := by rw [typeLookup_type, builtinLookup_eq_fast]; kernel_rfl
theorem zip_no_hint : typeLookup (.type "zip") "__length_hint__" = pure none := by rw [typeLookup_type, builtinLookup_eq_fast]; kernel_rfl
/-- the pairs made so far: their tuples lie one after another from base -/
noncomputable def PairsFrom (h : Heap) (base : Nat) (xs ys : List Value) (k : Nat) : Prop := ∀ j, j < k → ∀ x y, xs[j]? = some x → ys[j]? = some y → h.get? (base + j) = some (tupO x y)
theorem extend_zip {R : Result → Shared → Prop} {z TI TO i1 i2 l1 l2 S : Addr} {res : Value} (base : Nat) (xs ys : List Value) (hlen : ys.length = xs.length) (hn : xs.length ≤ 1000) (hA : A.handled = none) (D : ZipApart z TI TO i1 i2 l1 l2)
    (hS : S ≠ z ∧ S ≠ TI ∧ S ≠ TO ∧ S ≠ i1 ∧ S ≠ i2 ∧ S ≠ l1 ∧ S ≠ l2) (hb : z < base ∧ TO < base ∧ i1 < base ∧ i2 < base ∧ S < base) :
    ∀ (r k : Nat) (s : Shared) (acc : List Value) (c : Nat), xs.length - k = r → k ≤ xs.length → ZipSt s.heap z TI TO i1 i2 l1 l2 xs.toArray ys.toArray k → s.heap.get? S = some (listOf acc.toArray c) → acc = (List.range k).map (fun j => Value.ref (base + j)) →
      s.heap.objs.size = base + k → PairsFrom s.heap base xs ys k →
      (∀ h' tk c', h'.get? S = some (listOf ((List.range xs.length).map (fun j => Value.ref (base + j))).toArray c') → PairsFrom h' base xs ys xs.length →
        (∀ b o, b ≠ z → b ≠ TO → b ≠ i1 → b ≠ i2 → b ≠ S → s.heap.get? b = some o → h'.get? b = some o) → R (.ok (.ret res)) { s with heap := h', toks := tk }) →
      codeAny (model prog w) A (.builtin "list.extend.loop" ⟨[.ref S, .ref z, res], []⟩) R s := by
  intro r
  induction r with
  | zero =>
    intro k s acc c hk hi Z hSo hacc hsz hp hR
    have hkn : k = xs.length := by omega
    subst hkn
    refine codeAny_builtin F.entry_extend_loop ?_
    rw [Around.under_plainId F.plain_extend_loop _]
    show wpAny _ A.in1 (pyNext (.ref z) >>= _) _ _ s
    refine wpAny_bind (zip_done hA D Z (by simp) fun h' hk' => ?_)
    refine wpAny_pure (hR h' _ c ?_ (fun j hj x y ex ey => ?_) fun b o c1 c2 c3 c4 _ e => hk' b o c1 c2 c3 c4 e)
    · rw [← hacc]; exact hk' _ _ hS.1 hS.2.2.1 hS.2.2.2.1 hS.2.2.2.2.1 hSo
    · have ne : ∀ a, a < base → base + j ≠ a := fun a ha => Nat.ne_of_gt (Nat.lt_of_lt_of_le ha (Nat.le_add_right _ _))
      exact hk' _ _ (ne _ hb.1) (ne _ hb.2.1) (ne _ hb.2.2.1) (ne _ hb.2.2.2.1) (hp j hj x y ex ey)
  | succ r ih =>
    intro k s acc c hk hi Z hSo hacc hsz hp hR
    have hlt : k < xs.length := by omega
    have hlty : k < ys.length := by omega
    refine codeAny_builtin F.entry_extend_loop ?_
    rw [Around.under_plainId F.plain_extend_loop _]
    show wpAny _ A.in1 (pyNext (.ref z) >>= _) _ _ s
    refine wpAny_bind (zip_next D Z (x := xs[k]) (y := ys[k]) (by simp [hlt]) (by simp [hlty]) fun h' Z' ht hsz' hk' => ?_)
    have hSo' := hk' _ _ hS.1 hS.2.2.1 hS.2.2.2.1 hS.2.2.2.2.1 hSo
    show wpAny _ A.in1 (updateSeq S (·.push (.ref s.heap.objs.size)) >>= _) _ _ _
    refine wpAny_bind ?_
    have sl : (1001 : Nat) ≤ sizeLine := by decide
    have hal : acc.length = k := by rw [hacc]; simp
    refine wpAny_updateSeq hSo' rfl (wpAny_pure ⟨plainId_quiet F.plain_extend_loop _, ?_⟩) (by show acc.toArray.size ≤ _; simp only [List.size_toArray, hal]; omega) (by show (acc.toArray.push _).size ≤ sizeLine + 1; simp only [Array.size_push, List.size_toArray, hal]; omega)
    have hSu := Heap.get?_update_self (Obj.mapSeq (·.push (Value.ref s.heap.objs.size))) hSo' rfl
    have oth : ∀ b o, b ≠ S → h'.get? b = some o → (h'.update S (Obj.mapSeq (·.push (Value.ref s.heap.objs.size)))).get? b = some o := fun b o hb' e => (Heap.get?_update_other _ _ (Ne.symm hb')).trans e
    have ne : ∀ j a, a < base → base + j ≠ a := fun j a ha => Nat.ne_of_gt (Nat.lt_of_lt_of_le ha (Nat.le_add_right _ _))
    refine ih (k + 1) _ (acc ++ [.ref s.heap.objs.size]) _ (by omega) hlt ?_ (by
      have e : (acc ++ [Value.ref s.heap.objs.size]).toArray = acc.toArray.push (.ref s.heap.objs.size) := by simp
      rw [e]; exact hSu) ?_ ?_ ?_ ?_
    · obtain ⟨z1, z2, ⟨a, b, z3⟩, z4, z5, z6, z7⟩ := Z'
      refine ⟨?_, oth _ _ (Ne.symm hS.2.1) z2, ⟨a, b, oth _ _ (Ne.symm hS.2.2.1) z3⟩, z4.at fun o e => oth _ o (Ne.symm hS.2.2.2.1) e, z5.at fun o e => oth _ o (Ne.symm hS.2.2.2.2.1) e, z6.at fun o e => oth _ o (Ne.symm hS.2.2.2.2.2.1) e, z7.at fun o e => oth _ o (Ne.symm hS.2.2.2.2.2.2) e⟩
      rcases z1 with z1 | ⟨a0, b0, oa, n1, n2, n3, n4, z1, ha⟩
      · exact .inl (oth _ _ (Ne.symm hS.1) z1)
      · by_cases q : a0 = S
        · exact .inr ⟨a0, b0, _, n1, n2, n3, n4, oth _ _ (Ne.symm hS.1) z1, by rw [q]; exact hSu⟩
        · exact .inr ⟨a0, b0, oa, n1, n2, n3, n4, oth _ _ (Ne.symm hS.1) z1, oth _ _ q ha⟩
    · rw [hacc, List.range_succ, List.map_append, hsz]; rfl
    · show (h'.update S _).objs.size = _
      rw [(Heap.SameBut.update ..).1, hsz', hsz]; omega
    · intro j hj x y ex ey
      by_cases q : j = k
      · subst q
        rw [List.getElem?_eq_getElem hlt] at ex
        rw [List.getElem?_eq_getElem hlty] at ey
        cases ex; cases ey
        refine oth _ _ (ne _ _ hb.2.2.2.2) ?_
        rw [← hsz]; exact ht
      · exact oth _ _ (ne _ _ hb.2.2.2.2) (hk' _ _ (ne _ _ hb.1) (ne _ _ hb.2.1) (ne _ _ hb.2.2.1) (ne _ _ hb.2.2.2.1) (hp j (by omega) x y ex ey))
    · intro h'' tk c' e1 e2 e3
      exact hR h'' tk c' e1 e2 fun b o c1 c2 c3 c4 c5 e => e3 b o c1 c2 c3 c4 c5 (oth _ _ c5 (hk' _ _ c1 c2 c3 c4 e))
theorem call_list_zip {z TI TO i1 i2 l1 l2 : Addr} {xs ys : List Value} {Q : Value → Shared → Prop} (hlen : ys.length = xs.length) (hn : xs.length ≤ 1000) (hA : A.handled = none) (D : ZipApart z TI TO i1 i2 l1 l2) (hz0 : s.heap.get? z = some (zipO .none false TI TO)) (Z : ZipSt s.heap z TI TO i1 i2 l1 l2 xs.toArray ys.toArray 0)
    (hQ : ∀ h' tk c', h'.get? s.heap.objs.size = some (listOf ((List.range xs.length).map (fun j => Value.ref (s.heap.objs.size + 1 + j))).toArray c') → PairsFrom h' (s.heap.objs.size + 1) xs ys xs.length →
        (∀ b o, b ≠ z → b ≠ TO → b ≠ i1 → b ≠ i2 → s.heap.get? b = some o → h'.get? b = some o) → Q (.ref s.heap.objs.size) { s with heap := h', toks := tk }) :
    wpAny (model prog w) A (call (.type "list") [.ref z]) Q E s := by
  refine callType_codes (Q₁ := fun obj s₁ => obj = .ref s.heap.objs.size ∧ s₁ = { s with heap := s.heap.push { cls := .type "list", data := .seq #[] } }) F.called_list (F.typeCall_list_1 _) F.entry_list_init
    (code_list_new _ ⟨rfl, rfl⟩) fun obj s₁ h₁ => ?_
  obtain ⟨rfl, rfl⟩ := h₁
  have hS : (s.heap.push { cls := .type "list", data := .seq #[] }).get? s.heap.objs.size = some { cls := .type "list", data := .seq #[] } := Heap.get?_push_size _ rfl
  refine ⟨⟨_, hS, rfl⟩, F.args_list_init_2 _ _, ?_⟩
  obtain ⟨z1, z2, ⟨a, b, z3⟩, z4, z5, z6, z7⟩ := Z
  have lt : ∀ {c o}, s.heap.get? c = some o → c < s.heap.objs.size := fun e => Heap.lt_size e
  have hzlt : z < s.heap.objs.size := by rcases z1 with e | ⟨_, _, _, _, _, _, _, e, _⟩ <;> exact lt e
  have l1 : ∀ {c l i}, s.heap.IsListIter c l i → c < s.heap.objs.size := fun ⟨_, e, _⟩ => lt e
  have l2 : ∀ {c xs}, s.heap.IsList c xs → c < s.heap.objs.size := fun ⟨_, e, _⟩ => lt e
  have hT : ∀ h' : Heap, (∀ b o, b ≠ s.heap.objs.size → (s.heap.push { cls := .type "list", data := .seq #[] }).get? b = some o → h'.get? b = some o) → ({ s with heap := h' } : Shared).TypeIs (.ref z) "zip" := fun h' k => by
    have up : ∀ o, s.heap.get? z = some o → h'.get? z = some o := fun o e => k _ _ (Nat.ne_of_lt hzlt) (Heap.get?_push_of_some _ e)
    rcases z1 with e | ⟨_, _, _, _, _, _, _, e, _⟩ <;> exact ⟨_, up _ e, rfl⟩
  show wpAny _ A.in1.in1 (do let old ← Builtin.List.listItems (.ref s.heap.objs.size); Builtin.List.listUpdate (.ref s.heap.objs.size) (fun _ => #[]); letGo old.toList.reverse; Builtin.List.listExtendWith (.ref s.heap.objs.size) (.ref z) .none) _ _ _
  refine wpAny_bind ?_
  unfold Builtin.List.listItems
  refine wpAny_bind (wpAny_seqItems hS rfl (wpAny_pure ?_))
  show wpAny _ A.in1.in1 (updateSeq s.heap.objs.size (fun _ => #[]) >>= fun _ => letGo (#[] : Array Value).toList.reverse >>= fun _ => Builtin.List.listExtendWith (.ref s.heap.objs.size) (.ref z) .none) _ _ _
  refine wpAny_bind (wpAny_updateSeq hS rfl ?_)
  have hS₂ := Heap.get?_update_self (Obj.mapSeq (fun _ => (#[] : Array Value))) hS rfl
  refine wpAny_bind (wpAny_letGo ?_)
  unfold Builtin.List.listExtendWith
  have k1 : ∀ b o, b ≠ s.heap.objs.size → (s.heap.push { cls := .type "list", data := .seq #[] }).get? b = some o → ((s.heap.push { cls := .type "list", data := .seq #[] }).update s.heap.objs.size (Obj.mapSeq (fun _ => (#[] : Array Value)))).get? b = some o :=
    fun b o hb e => (Heap.get?_update_other _ _ (Ne.symm hb)).trans e
  have T1 := hT _ k1
  refine wpAny_bind (wpAny_typeOf T1 ?_)
  have h1 : Builtin.List.listSameRef (.ref s.heap.objs.size) (.ref z) = false := by simp [Builtin.List.listSameRef, Nat.ne_of_gt hzlt]
  have h2 : (Value.type "zip" == Value.type "list") = false := by decide
  have h3 : (Value.type "zip" == Value.type "tuple") = false := by decide
  simp only [h1, h2, h3, Bool.or_false, Bool.false_eq_true, if_false]
  have up1 : ∀ b o, s.heap.get? b = some o → ((s.heap.push { cls := .type "list", data := .seq #[] }).update s.heap.objs.size (Obj.mapSeq (fun _ => (#[] : Array Value)))).get? b = some o := fun b o e => k1 b o (Nat.ne_of_lt (lt e)) (Heap.get?_push_of_some _ e)
  refine wpAny_bind (wpAny_pyIter_zip (up1 _ _ hz0) ?_)
  refine wpAny_bind (wpAny_holding ?_)
  unfold Builtin.List.listLengthHint
  refine wpAny_bind (wpAny_specialOf T1 zip_no_len ?_)
  show wpAny _ A.in1.in1 (specialOf (Value.ref z) (Str.ofString "__length_hint__") >>= _) _ _ _
  refine wpAny_bind (wpAny_specialOf T1 zip_no_hint ?_)
  refine wpAny_pure ?_
  show wpAny _ A.in1.in1 (rule "list.extend.makes-room" >>= fun _ => Builtin.List.listTouch (.ref s.heap.objs.size) >>= fun _ =>
    again (.builtin "list.extend.loop" ⟨[.ref s.heap.objs.size, .ref z, .none], []⟩)) _ _ _
  refine wpAny_bind (wpAny_rule ?_)
  refine wpAny_bind ?_
  show wpAny _ A.in1.in1 (updateSeq s.heap.objs.size (·.push .none) >>= fun _ => updateSeq s.heap.objs.size (·.pop)) _ _ _
  refine wpAny_bind (wpAny_updateSeq hS₂ rfl ?_)
  have hS₃ := Heap.get?_update_self (Obj.mapSeq (·.push Value.none)) hS₂ rfl
  refine wpAny_updateSeq (hz := by seq_fits) hS₃ rfl ?_
  have hS₄ := Heap.get?_update_self (Obj.mapSeq (·.pop)) hS₃ rfl
  have oth : ∀ b o, s.heap.get? b = some o → ((((s.heap.push { cls := .type "list", data := .seq #[] }).update s.heap.objs.size (Obj.mapSeq (fun _ => (#[] : Array Value)))).update s.heap.objs.size (Obj.mapSeq (·.push Value.none))).update s.heap.objs.size (Obj.mapSeq (·.pop))).get? b = some o :=
    fun b o e => (Heap.get?_update_other _ _ (Nat.ne_of_gt (lt e))).trans ((Heap.get?_update_other _ _ (Nat.ne_of_gt (lt e))).trans (up1 _ _ e))
  generalize hH : (((s.heap.push { cls := .type "list", data := .seq #[] }).update s.heap.objs.size (Obj.mapSeq (fun _ => (#[] : Array Value)))).update s.heap.objs.size (Obj.mapSeq (·.push Value.none))).update s.heap.objs.size (Obj.mapSeq (·.pop)) = H at hS₄ oth ⊢
  obtain ⟨c5, hS5⟩ : ∃ c, H.get? s.heap.objs.size = some (listOf ([] : List Value).toArray c) := ⟨_, hS₄⟩
  have sz : H.objs.size = s.heap.objs.size + 1 := by rw [← hH, (Heap.SameBut.update ..).1, (Heap.SameBut.update ..).1, (Heap.SameBut.update ..).1, Heap.size_push]
  refine wpAny_pure ⟨plainId_quiet F.plain_extend_loop _, ?_⟩
  have sne : ∀ c, c < s.heap.objs.size → s.heap.objs.size ≠ c := fun c => Nat.ne_of_gt
  have sl : ∀ c, c < s.heap.objs.size → c < s.heap.objs.size + 1 := fun c => Nat.lt_succ_of_lt
  refine extend_zip (prog := prog) (w := w) (A := A.in1) (s.heap.objs.size + 1) xs ys hlen hn hA D ⟨sne _ hzlt, sne _ (lt z2), sne _ (lt z3), sne _ (l1 z4), sne _ (l1 z5), sne _ (l2 z6), sne _ (l2 z7)⟩
    ⟨sl _ hzlt, sl _ (lt z3), sl _ (l1 z4), sl _ (l1 z5), Nat.lt_succ_self _⟩ _ 0 _ [] c5 rfl (Nat.zero_le _) ?_ ?_ rfl ?_ ?_ ?_
  · exact ⟨.inl (oth _ _ hz0), oth _ _ z2, ⟨a, b, oth _ _ z3⟩, z4.at fun o e => oth _ o e, z5.at fun o e => oth _ o e, z6.at fun o e => oth _ o e, z7.at fun o e => oth _ o e⟩
  · exact hS5
  · exact sz
  · exact fun j hj => absurd hj (Nat.not_lt_zero _)
  · intro h'' tk c' e1 e2 e3
    exact ⟨rfl, hQ h'' tk c' e1 e2 fun b o c1 c2 c3 c4 e => e3 b o c1 c2 c3 c4 (Nat.ne_of_lt (lt e)) (oth _ _ e)⟩
end
end Mine
end
section
set_option maxRecDepth 10000
namespace Mine
/-- a dict of ints by ints, never to change -/
noncomputable def DTab (prog : Program) (w : World) (led : Led) (d : Addr) (c : List (Int × Int)) : Prop := ∃ o, (d, isObj o) ∈ led ∧ (d == sysModules) = false ∧ TabO prog w o c
noncomputable def PairsOf (h : Heap) (ys : List Value) (c : List (Int × Int)) : Prop := ∃ more : List (Int × Value), ys.length = more.length ∧ PyProof.V.FlatPairs PyData.int more (kdfD c) ∧ ∀ (j : Nat) y kv, ys[j]? = some y → more[j]? = some kv → PairAt h y kv
theorem flat_app {a b : List (Int × Value)} {A B : List (PyData × PyData)} (h : PyProof.V.FlatPairs PyData.int a A) (k : PyProof.V.FlatPairs PyData.int b B) : PyProof.V.FlatPairs PyData.int (a ++ b) (A ++ B) := by
  induction h with
  | nil => exact k
  | cons x _ ih => exact .cons x ih
/-- a pair k, f k as a tuple -/
noncomputable def PairFF (f : Int → Int) (k : Int) (y : Value) (xs : List (Addr × Obj)) : Prop := ∃ t a b, y = .ref t ∧ xs = [(t, tupO a b)] ∧ isInt k a ∧ isInt (f k) b
theorem made_pairs {f : Int → Int} {ks : List Int} {ys : List Value} {xs : List (Addr × Obj)} {h : Heap} (M : MadeOf (PairFF f) ks ys xs) (hx : ∀ q ∈ xs, h.get? q.1 = some q.2) : PairsOf h ys (ks.map fun k => (k, f k)) := by
  induction M with
  | nil => exact ⟨[], rfl, .nil, fun j y kv e => nomatch e⟩
  | @snoc vs ys xs v y zs M1 hF ih =>
    obtain ⟨more, e1, e2, e3⟩ := ih fun q hq => hx q (List.mem_append_right _ hq)
    obtain ⟨t, a, b, rfl, rfl, ia, tb, rfl⟩ := hF
    refine ⟨more ++ [(v, .int (f v) tb)], by simp [e1], ?_, fun j u kv eu ek => ?_⟩
    · unfold kdfD at e2 ⊢
      rw [List.map_append, List.map_append]
      exact flat_app e2 (.cons (PyProof.V.Flat.int _ _) .nil)
    · rcases Nat.lt_trichotomy j more.length with c | c | c
      · rw [List.getElem?_append_left c] at ek
        rw [List.getElem?_append_left (by rw [e1]; exact c)] at eu
        exact e3 j u kv eu ek
      · subst c
        rw [← e1] at eu
        simp at ek eu
        subst ek; subst eu
        exact ⟨t, a, rfl, hx (t, tupO a (.int (f v) tb)) (by simp), ia⟩
      · rw [List.getElem?_eq_none (by rw [List.length_append]; simp; omega)] at ek; cases ek
theorem ints_of : ∀ {vs : List Value} {ns : List Int}, (∀ (j : Nat) v, vs[j]? = some v → ∃ k : Int, ns[j]? = some k ∧ isInt k v) → vs.length = ns.length → IntsAre vs ns
  | [], [], _, _ => .nil
  | [], _ :: _, _, h => nomatch h
  | _ :: _, [], _, h => nomatch h
  | v :: vs, n :: ns, hv, hl => by
    obtain ⟨k, e, t, rfl⟩ := hv 0 v rfl
    cases e
    exact .cons _ _ (ints_of (fun j u e => hv (j + 1) u e) (Nat.succ.inj hl))
section
variable {prog : Program} {w : World} {A : Around} {z : Shared} {g h : Heap} {L : Addr} {m : Str → Option Value} {led : Led} {env : Env} {K : Frag} {ro : List (Addr × Obj)}
theorem Gd.low (G : Gd K ro g) (F : Fr g L h m) : (h.objs.size == sysModules) = false := by
  obtain ⟨p, l, me, a, b, T⟩ := G.top
  exact F.notModules (modules_low T.nolimit)
theorem DTab.tab {d : Addr} {c : List (Int × Int)} (T : DTab prog w led d c) (O : Ow g L h led) : IntTab prog w h d (kdfD c) := by
  obtain ⟨o, m, lo, kvs, hd, hf⟩ := T
  exact TabAt.ofObj lo (O.obj m) hd hf
theorem W_dictOf {l : Addr} {n : Nat} {ys : List Value} {c : List (Int × Int)} {Q : Value → Heap → Prop} (hh : A.handled = none) (G : Gd K ro g) (F : Fr g L h m) (O : Ow g L h led) (hl : (l, isObj (listOf ys.toArray n)) ∈ led) (hp : PairsOf h ys c) (hnd : (c.map (·.1)).Nodup) (hc : c.length ≤ 1000)
    (q : ∀ d o h', (d == sysModules) = false → (∀ e ∈ led, e.1 < d) → TabO prog w o c → Fr g L h' m → Ow g L h' ((d, isObj o) :: led) → Q (.ref d) h') : Wp (model prog w) A z (call (.type "dict") [.ref l]) Q h := fun tk => by
  obtain ⟨more, e1, e2, e3⟩ := hp
  have hk := flat_keys e2
  have hlen : more.length = c.length := by
    have := congrArg List.length hk
    simpa using this
  refine call_dict_pairs (s := St z h tk) (more := more) (O.obj hl) e1 (by omega) hh e3 fun h' tk' hd kp => ⟨h', tk', rfl, ?_⟩
  rw [merged_nil_of_nodup more (hk ▸ hnd)] at hd
  obtain ⟨o, ho, hd⟩ := Heap.dictOf_iff.mp hd
  exact q _ o h' (G.low F) (fun e he => let ⟨o', e1, _⟩ := O.has.get e he; Heap.lt_size e1) ⟨more, hd, e2⟩ (F.keeps kp) (O.add F (O.kp kp) [(h.objs.size, o)] fun p hp => by
    rcases List.mem_singleton.mp hp with rfl
    exact ⟨ho, Nat.le_refl _⟩)
theorem W_ditem {value slice : Expr} {d : Addr} {c : List (Int × Int)} {k : Int} {t : Tok} {Q : Value → Heap → Prop} (T : IntTab prog w h d (kdfD c)) (hk : kdfHas c k = true) (q : ∀ t, Q (.int (kdfLook c k 0) t) h)
    (hs : subscripted slice false (.ref d) (.int k t) = operate [.ref d, .int k t] (getItem (.ref d) (.int k t)) := by with_unfolding_all rfl) (hg : ∀ r, letTemporaryGo value (.ref d) r = pure () := by intro _; with_unfolding_all rfl) :
    Wp (model prog w) A z (subscriptTail value slice (.ref d) (.int k t)) Q h := fun tk => kdf_item (s := St z h tk) T hk (fun t => ⟨h, _, rfl, q t⟩) hs hg
theorem W_din {d : Addr} {c : List (Int × Int)} {k : Int} {t : Tok} {Q : Value → Heap → Prop} (T : IntTab prog w h d (kdfD c)) (q : Q (.bool (kdfHas c k)) h) : Wp (model prog w) A z (compareOp .In (.int k t) (.ref d)) Q h := fun tk => kdf_in (s := St z h tk) T ⟨h, _, rfl, q⟩
theorem W_dnotin {d : Addr} {c : List (Int × Int)} {k : Int} {t : Tok} {Q : Value → Heap → Prop} (T : IntTab prog w h d (kdfD c)) (q : Q (.bool (!kdfHas c k)) h) : Wp (model prog w) A z (compareOp .NotIn (.int k t) (.ref d)) Q h := fun tk => kdf_notin (s := St z h tk) T ⟨h, _, rfl, q⟩
/-- the keys of a dict, in order -/
theorem W_sorted {d : Addr} {c : List (Int × Int)} {Q : Value → Heap → Prop} (hh : A.handled = none) (F : Fr g L h m) (O : Ow g L h led) (T : IntTab prog w h d (kdfD c)) (hc : c.length < 64)
    (q : ∀ l vs n ns h', IntsAre vs ns → ns.Perm (c.map (·.1)) → ns.Pairwise (· ≤ ·) → Fr g L h' m → Ow g L h' ((l, isObj (listOf (List.toArray vs) n)) :: led) → Q (.ref l) h') : Wp (model prog w) A z (call (.builtin "sorted") [.ref d]) Q h := fun tk => by
  obtain ⟨lo, kvs, hD, hf⟩ := T
  obtain ⟨ep, hat⟩ := hD.dictAt
  have hk := flat_keys hf
  have hlen : kvs.length = c.length := by
    have := congrArg List.length hk
    simpa using this
  have sl : (1000 : Nat) ≤ sizeLine := by decide
  refine kdu_sorted (s := St z h tk) (kdl_dict (knd := PySem.intKind prog w) (kvs := kvs) (ep := ep) lo) hh F O.news hat (by omega) fun D h1 tk1 vs F1 N1 lt1 hl hv => ?_
  have ho := (N1 _ (List.mem_cons_self ..)).1
  have hi : IntsAre vs (c.map (·.1)) := by
    refine ints_of (fun j v e => ?_) (by rw [hl, hlen, List.length_map])
    obtain ⟨k, x, e1, e2⟩ := hv j v e
    exact ⟨k, by rw [← hk, List.getElem?_map, e1]; rfl, Value.isInt_shape e2⟩
  refine wpAny_call_entry PyProof.Rows.slot_list_sort ⟨_, ho, rfl⟩ PyProof.Rows.entry_list_sort (list_sort_tree (n := 0) (vs := vs) ho hi (by omega) fun out ns' hI hp hP => ⟨.none, rfl, ?_⟩) (PyProof.Rows.args_list_sort _)
  obtain ⟨e, he⟩ := sortedHeap_at (out := out) ho
  obtain ⟨nD1, nD2⟩ := (N1 _ (List.mem_cons_self ..)).2
  have old : ∀ b o, b ≠ D → h1.get? b = some o → (sortedHeap h1 D vs out).get? b = some o := fun b o hb e => (sortedHeap_old hb (Heap.lt_size e)).trans e
  refine ⟨_, tk1, rfl, q D out.toList e ns' _ hI hp hP ⟨F1.ns.at' fun o e => old _ _ (Ne.symm nD1) e, fun b o e => old _ _ (fun q => by rw [q, nD2] at e; cases e) (F1.keep b o e), F1.above⟩ ?_⟩
  have O1 : Ow g L (sortedHeap h1 D vs out) led := O.ofNews fun p hp => ⟨old _ _ (Nat.ne_of_lt (lt1 p hp)) (N1 p (List.mem_cons_of_mem _ hp)).1, (N1 p (List.mem_cons_of_mem _ hp)).2⟩
  have lt2 : ∀ p ∈ led, p.1 < D := fun p hp => lt1 _ (List.mem_map_of_mem (f := fun p : Addr × Cell => (p.1, (h.get? p.1).getD default)) hp)
  refine ⟨⟨⟨fun p hp => ?_⟩, fun p hp => ?_, List.pairwise_cons.mpr ⟨fun q hq e => absurd (lt2 q hq) (by rw [← show D = q.1 from e]; exact Nat.lt_irrefl _), O.nd⟩⟩, fun p hp => ?_⟩
  · rcases List.mem_cons.mp hp with rfl | hp
    · exact ⟨_, he, rfl⟩
    · exact O1.has.get p hp
  · rcases List.mem_cons.mp hp with rfl | hp
    · exact nD2
    · exact O.own.off p hp
  · rcases List.mem_cons.mp hp with rfl | hp
    · exact nD1
    · exact O.ne p hp
theorem W_mind {d : Addr} {c : List (Int × Int)} {Q : Value → Heap → Prop} (hh : A.handled = none) (F : Fr g L h m) (O : Ow g L h led) (T : IntTab prog w h d (kdfD c)) (hc : 0 < c.length)
    (q : ∀ M v h', isInt M v → M ∈ c.map (·.1) → (∀ a ∈ c.map (·.1), M ≤ a) → Fr g L h' m → Ow g L h' led → Q v h') : Wp (model prog w) A z (call (.builtin "min") [.ref d]) Q h := fun tk => by
  obtain ⟨lo, kvs, hD, hf⟩ := T
  obtain ⟨ep, hm⟩ := hD.dictAt
  have hk := flat_keys hf
  have hlen : kvs.length = c.length := by
    have := congrArg List.length hk
    simpa using this
  have hlt : d < h.objs.size := by obtain ⟨_, _, e, _⟩ := hm; exact Heap.lt_size e
  refine call_min_walk (s := St z h tk) (wpAny_pyIter_dict (s := St z h tk) lo hm ?_)
  have kp : Kp h (h.push { cls := .type "dict_keyiterator", data := .fields #[.ref d, .int 0 0, .int kvs.length 0, .int ep 0] }) := .push _
  have val : ∀ (i : Nat) (v : Value), (∃ k x, kvs[i]? = some (k, x) ∧ (PySem.intKind prog w).is k v = true) → ∃ t, v = .int (((c.map (·.1))[i]?).getD 0) t := fun i v ⟨k, x, e1, e2⟩ => by
    obtain ⟨t, rfl⟩ := Value.isInt_shape e2
    exact ⟨t, by rw [← hk, List.getElem?_map, e1]; rfl⟩
  refine ⟨_, _, _, _, _, _, _, rfl, Walks.dictKeys (A := A.in1) hh _ d (Nat.ne_of_lt hlt) kvs ep, ⟨⟨_, Heap.get?_push_size _ rfl, rfl, rfl⟩, hm.at' fun o e => kp _ _ e⟩, ?_, by rw [hlen]; exact hc, CmpOf.ints_lt (fun i => ((c.map (·.1))[i]?).getD 0) val, fun v h' tk' hP hk' => ?_⟩
  · intro b hb
    show b < (h.push _).objs.size
    rw [Heap.size_push]
    simp only [List.mem_cons, List.not_mem_nil, or_false] at hb
    rcases hb with rfl | rfl
    · exact Nat.lt_succ_self _
    · exact Nat.lt_succ_of_lt hlt
  · have kp2 : Kp h h' := fun b o e => hk' b o (fun hb => by
      simp only [List.mem_cons, List.not_mem_nil, or_false] at hb
      exact absurd (Heap.lt_size e) (by rw [hb]; exact Nat.lt_irrefl _)) (kp b o e)
    obtain ⟨t, ht⟩ := val _ _ hP
    obtain ⟨a1, a2⟩ := argBest_lt (fun i => ((c.map (·.1))[i]?).getD 0) (kvs.length - 1)
    have hcl : (c.map (·.1)).length = c.length := by simp
    refine ⟨h', tk', rfl, q _ v h' ⟨t, ht⟩ ?_ (fun a ha => ?_) (F.keeps kp2) (O.kp kp2)⟩
    · rw [List.getElem?_eq_getElem (by omega)]
      exact List.getElem_mem _
    · obtain ⟨j, hj, rfl⟩ := List.mem_iff_getElem.mp ha
      have := a2 j (by omega)
      rw [List.getElem?_eq_getElem hj] at this
      exact this
/-! ### lists -/
theorem LLst.lift {led led' : Led} {l : Addr} {ns : List Int} (x : LLst led l ns) (hs : ∀ e ∈ led, e ∈ led') : LLst led' l ns := let ⟨vs, n, m, i⟩ := x; ⟨vs, n, hs _ m, i⟩
theorem DTab.lift {led led' : Led} {d : Addr} {c : List (Int × Int)} (x : DTab prog w led d c) (hs : ∀ e ∈ led, e ∈ led') : DTab prog w led' d c := let ⟨o, m, r⟩ := x; ⟨o, hs _ m, r⟩
theorem W_leq {a b : Addr} {ns ms : List Int} {Q : Value → Heap → Prop} (R : A.units + 64 < cLine) (O : Ow g L h led) (x : LLst led a ns) (y : LLst led b ms) (q : Q (.bool (decide (ns = ms))) h) : Wp (model prog w) A z (compareOp .Eq (.ref a) (.ref b)) Q h := fun tk => by
  obtain ⟨vs, il, ia⟩ := x.isList O
  obtain ⟨ws, jl, ja⟩ := y.isList O
  exact ke_eq_ints (s := St z h tk) il jl ia ja R ⟨h, tk, rfl, q⟩
theorem W_lne {a b : Addr} {ns ms : List Int} {Q : Value → Heap → Prop} (R : A.units + 64 < cLine) (O : Ow g L h led) (x : LLst led a ns) (y : LLst led b ms) (q : Q (.bool (!decide (ns = ms))) h) : Wp (model prog w) A z (compareOp .NotEq (.ref a) (.ref b)) Q h := fun tk => by
  obtain ⟨vs, il, ia⟩ := x.isList O
  obtain ⟨ws, jl, ja⟩ := y.isList O
  exact ke_ne_ints (s := St z h tk) il jl ia ja R ⟨h, tk, rfl, q⟩
theorem W_dne {a b : Addr} {c e : List (Int × Int)} {Q : Value → Heap → Prop} (R : A.units < cLine) (T : IntTab prog w h a (kdfD c)) (U : IntTab prog w h b (kdfD [])) (q : Q (.bool (!c.isEmpty)) h) : Wp (model prog w) A z (compareOp .NotEq (.ref a) (.ref b)) Q h := fun tk => by
  cases c with
  | nil => exact kne_tabs (s := St z h tk) (r := true) PyProof.V.same_int T U rfl R .nil ⟨h, tk, rfl, q⟩
  | cons x c => exact kne_tabs_len (s := St z h tk) T U (by simp [kdfD]) R ⟨h, tk, rfl, q⟩
theorem Room.units {k : Nat} (R : Room A k) : A.units + 64 < cLine := by have := R.2.2; show A.units + 64 < 9900; omega
end
end Mine
end
section
set_option maxRecDepth 10000
namespace Mine
/-- an object as it stands, to change later -/
noncomputable abbrev dcO (o : Obj) : Cell := .dc fun x => x = o
section
variable {prog : Program} {w : World} {A : Around} {z : Shared} {g h : Heap} {L : Addr} {m : Str → Option Value} {led : Led} {env : Env} {K : Frag} {ro : List (Addr × Obj)}
  {qual : Str} {scope : Scope} {fa : Addr} {cdv : Value} {cl : List (Str × Addr)}
theorem Ow.add1 (O : Ow g L h led) (F : Fr g L h m) (o : Obj) (ho : o.isFreed = false) : Fr g L (h.push o) m ∧ Ow g L (h.push o) ((h.objs.size, isObj o) :: led) :=
  ⟨F.keeps (Kp.push o), O.add F (O.kp (Kp.push o)) [(h.objs.size, o)] fun p hp => by
    rcases List.mem_singleton.mp hp with rfl
    exact ⟨Heap.get?_push_size _ ho, Nat.le_refl _⟩⟩
/-! ### new objects -/
theorem W_tuple2 {e1 e2 : Expr} {k : Nat} {pos : Pos} {Q : Value → Heap → Prop}
    (x : Wp (model prog w) A z (eval e1 env) (fun a h1 => Wp (model prog w) A z (eval e2 env) (fun b h2 => ∃ m2 led2, Fr g L h2 m2 ∧ Ow g L h2 led2 ∧ ∀ t h3, Fr g L h3 m2 → Ow g L h3 ((t, isObj (tupO a b)) :: led2) → Q (.ref t) h3) h1) h)
    (hs1 : starEach [e1, e2] env = (false, eval e1 env) :: starEach [e2] env := by rfl) (hs2 : starEach [e2] env = (false, eval e2 env) :: starEach [] env := by rfl) :
    Wp (model prog w) A z (eval (.Tuple [e1, e2] k pos) env) Q h := fun tk => by
  have W : Wp (model prog w) A z (spliced (backTo pos (starEach [e1, e2] env))) (fun vs h3 => ∃ a b, vs = [a, b] ∧ ∃ m2 led2, Fr g L h3 m2 ∧ Ow g L h3 led2 ∧ ∀ t h4, Fr g L h4 m2 → Ow g L h4 ((t, isObj (tupO a b)) :: led2) → Q (.ref t) h4) h :=
    W_argsC (x.mono fun a h1 q => W_argsC (q.mono fun b h2 q => W_argsN ⟨a, b, rfl, q⟩) hs2) hs1
  refine wpAny_Tuple (W.go (fun vs h3 t3 k => ?_) tk)
  obtain ⟨a, b, rfl, m2, led2, F2, O2, q⟩ := k
  refine ⟨by show (2 : Nat) ≤ sizeLine; decide, _, t3, rfl, ?_⟩
  obtain ⟨F3, O3⟩ := O2.add1 F2 (tupO a b) rfl
  exact q _ _ F3 O3
theorem W_list0 {pos : Pos} {Q : Value → Heap → Prop} (F : Fr g L h m) (O : Ow g L h led) (q : ∀ l h', Fr g L h' m → Ow g L h' ((l, isObj (listOf (List.toArray []) 0)) :: led) → Q (.ref l) h') :
    Wp (model prog w) A z (eval (.List [] pos) env) Q h := fun tk => by
  refine wpAny_List ((W_argsN (z := z) (Q := fun vs h1 => vs = [] ∧ h1 = h) ⟨rfl, rfl⟩).go (fun vs h3 t3 k => ?_) tk)
  obtain ⟨rfl, rfl⟩ := k
  refine ⟨by decide, _, t3, rfl, ?_⟩
  obtain ⟨F3, O3⟩ := O.add1 F (listOf (List.toArray []) 0) rfl
  exact q _ _ F3 O3
/-! ### slices -/
theorem W_slice {value : Expr} {lo hi : Option Expr} {vl vu : Value} {pl pu : Option Int} {p2 pos : Pos} {l : Addr} {ns ms : List Int} {Q : Value → Heap → Prop} (F : Fr g L h m) (O : Ow g L h led) (x : LLst led l ns) (hl : ns.length ≤ 1000)
    (hv : Ev prog w A z env h value (.ref l)) (elo : Wp (model prog w) A z (evalPart lo env) (fun v h1 => v = vl ∧ h1 = h) h) (ehi : Wp (model prog w) A z (evalPart hi env) (fun v h1 => v = vu ∧ h1 = h) h) (plo : IsPart vl pl) (phi : IsPart vu pu)
    (hm : ∀ vs : List Value, IntsAre vs ns → IntsAre (slicePick vs.toArray pl pu none).toList ms)
    (q : ∀ D ws h', IntsAre ws ms → Fr g L h' m → Ow g L h' ((D, isObj (listOf (List.toArray ws) 0)) :: led) → Q (.ref D) h')
    (hs : ∀ s : Addr, subscripted (.Slice lo hi none p2) false (.ref l) (.ref s) = operate [.ref s, .ref l] (getItem (.ref l) (.ref s)) := by intro _; with_unfolding_all rfl) (ht : ∀ r, letTemporaryGo value (.ref l) r = pure () := by intro _; with_unfolding_all rfl) :
    Wp (model prog w) A z (eval (.Subscript value (.Slice lo hi none p2) pos) env) Q h := fun tk => by
  refine Subscript_ (hv.go (Q := fun v h1 => v = .ref l ∧ h1 = h) ⟨rfl, rfl⟩ |>.go (fun v h1 t1 k => ?_) tk)
  obtain ⟨rfl, rfl⟩ := k
  refine wpAny_Slice (elo.go (fun v h1 t1 k => ?_) t1)
  obtain ⟨rfl, rfl⟩ := k
  refine ehi.go (fun v h1 t1 k => ?_) t1
  obtain ⟨rfl, rfl⟩ := k
  refine evalPart_none_step ?_
  obtain ⟨vs, il, ia⟩ := x.isList O
  have hsz : vs.toArray.size ≤ sizeLine := by
    have : (1000 : Nat) ≤ sizeLine := by decide
    have := ia.length
    simp only [List.size_toArray]; omega
  refine kmk_slice_ints (s := St z h1 t1) (c := ms.length) F O.news il plo phi ia (hm vs ia) rfl (fun D ws h' F' N' lt hi' _ _ => ⟨h', t1, rfl, q D ws h' hi' F' ?_⟩) (hs _) ht hsz
  have nD := (N' _ (List.mem_cons_self ..)).2
  have O1 : Ow g L h' led := O.ofNews fun p hp => N' p (List.mem_cons_of_mem _ hp)
  have lt2 : ∀ p ∈ led, p.1 < D := fun p hp => lt _ (List.mem_map_of_mem (f := fun p : Addr × Cell => (p.1, (h1.get? p.1).getD default)) hp)
  refine ⟨⟨⟨fun p hp => ?_⟩, fun p hp => ?_, List.pairwise_cons.mpr ⟨fun q hq e => absurd (lt2 q hq) (by rw [← show D = q.1 from e]; exact Nat.lt_irrefl _), O.nd⟩⟩, fun p hp => ?_⟩
  · rcases List.mem_cons.mp hp with rfl | hp
    · exact ⟨_, (N' _ (List.mem_cons_self ..)).1, rfl⟩
    · exact O1.has.get p hp
  · rcases List.mem_cons.mp hp with rfl | hp
    · exact nD.2
    · exact O.own.off p hp
  · rcases List.mem_cons.mp hp with rfl | hp
    · exact nD.1
    · exact O.ne p hp
/-! ### tuples taken apart -/
theorem W_assignCell {x : Str} {p1 p2 : Pos} {value : Expr} {c : Addr} {Q : Flow → Heap → Prop}
    (v : Wp (model prog w) A z (eval value (envX qual scope L fa cdv cl)) (fun v h1 => ∃ m1 led1 v₀, Fr g L h1 m1 ∧ Ow g L h1 ((c, cellC v₀) :: led1) ∧ ∀ h2, Fr g L h2 m1 → Ow g L h2 ((c, cellC (some v)) :: led1) → Q .next h2) h)
    (hc : cl.lookup x = some c := by rfl) (hs : swapsWith value (some (.Name x p1)) p2.line (envX qual scope L fa cdv cl) = pure false := by rfl) (hk : scope.kind = .function := by rfl) (hx : (envX qual scope L fa cdv cl).kindOf x = some .cell := by rfl) :
    Wp (model prog w) A z (exec (.Assign [.Name x p1] value p2) (envX qual scope L fa cdv cl)) Q h :=
  fun tk => wpAny_Assign_Name (v.go (fun v h1 t1 k => by
    obtain ⟨m1, led1, v₀, F1, O1, k⟩ := k
    exact (W_storeC (Q := fun _ => Q .next) F1 O1 k hc hx hk).go (fun _ h2 t2 k => ⟨h2, t2, rfl, k⟩) t1) tk) hs
theorem W_unpack2 {x y : Str} {p1 p2 : Pos} {k : Nat} {tp p3 : Pos} {value : Expr} {Q : Flow → Heap → Prop} (hh : A.handled = none)
    (v : Wp (model prog w) A z (eval value env) (fun v h1 => ∃ m1 led1 t a b, v = .ref t ∧ (t, isObj (tupO a b)) ∈ led1 ∧ Fr g L h1 m1 ∧ Ow g L h1 led1 ∧ ∀ h2, Fr g L h2 m1 → Ow g L h2 led1 →
      Wp (model prog w) A z (assign (.Name x p1) env a) (fun _ h3 => Wp (model prog w) A z (assign (.Name y p2) env b) (fun _ => Q .next) h3) h2) h)
    (hs : swapsWithSole [.Tuple [.Name x p1, .Name y p2] k tp] value p3.line env = pure false := by rfl) (hw : swappedStores [.Tuple [.Name x p1, .Name y p2] k tp] value env = pure none := by rfl) :
    Wp (model prog w) A z (exec (.Assign [.Tuple [.Name x p1, .Name y p2] k tp] value p3) env) Q h := fun tk => by
  refine Assign_Tuple (v.go (fun v h1 t1 q => ?_) tk) hs hw
  obtain ⟨m1, led1, t, a, b, rfl, hm, F1, O1, q⟩ := q
  refine unpackN_ (s := St z h1 t1) F1 O1.news (items := #[a, b]) ⟨_, O1.obj hm, rfl, 0, rfl⟩ hh rfl rfl fun h2 F2 N2 => ?_
  have O2 : Ow g L h2 led1 := O1.ofNews N2
  refine wpAny_assignInOrder_more ((q h2 F2 O2).go (fun _ h3 t3 q => ?_) t1)
  refine wpAny_assignInOrder_more (q.go (fun _ h4 t4 q => ?_) t3)
  exact wpAny_assignInOrder_none ⟨h4, t4, rfl, q⟩
theorem W_assignC {x : Str} {p1 : Pos} {v : Value} {v₀ : Option Value} {c : Addr} {rest : Led} {Q : Unit → Heap → Prop} (F : Fr g L h m) (O : Ow g L h ((c, cellC v₀) :: rest))
    (q : ∀ h', Fr g L h' m → Ow g L h' ((c, cellC (some v)) :: rest) → Q () h')
    (hc : cl.lookup x = some c := by rfl) (hx : (envX qual scope L fa cdv cl).kindOf x = some .cell := by rfl) (hk : scope.kind = .function := by rfl) :
    Wp (model prog w) A z (assign (.Name x p1) (envX qual scope L fa cdv cl) v) Q h := fun tk => by
  rw [arm_assign_Name]
  exact wpAny_bind (wpAny_standAt (wpAny_bindName (W_storeC F O q hc hx hk tk)))
/-- x, y = e1, e2 -/
theorem W_swap {x y : Str} {p1 p2 : Pos} {k k2 : Nat} {tp tp2 p3 : Pos} {e1 e2 : Expr} {a b : Value} {Q : Flow → Heap → Prop} (hh : A.handled = none) (F : Fr g L h m) (O : Ow g L h led)
    (ev1 : Ev prog w A z (envX qual scope L fa cdv cl) h e1 a) (ev2 : Ev prog w A z (envX qual scope L fa cdv cl) h e2 b)
    (q : ∀ h2, Fr g L h2 (upd (upd m y b) x a) → Ow g L h2 led → Q .next h2)
    (hk : scope.kind = .function := by rfl) (hx : (envX qual scope L fa cdv cl).kindOf x = some .local := by rfl) (hy : (envX qual scope L fa cdv cl).kindOf y = some .local := by rfl)
    (hs : swapsWithSole [.Tuple [.Name x p1, .Name y p2] k tp] (.Tuple [e1, e2] k2 tp2) p3.line (envX qual scope L fa cdv cl) = pure false := by rfl)
    (hw : swappedStores [.Tuple [.Name x p1, .Name y p2] k tp] (.Tuple [e1, e2] k2 tp2) (envX qual scope L fa cdv cl) = pure (some [x, y]) := by rfl)
    (hs1 : starEach [e1, e2] (envX qual scope L fa cdv cl) = (false, eval e1 (envX qual scope L fa cdv cl)) :: starEach [e2] (envX qual scope L fa cdv cl) := by rfl) (hs2 : starEach [e2] (envX qual scope L fa cdv cl) = (false, eval e2 (envX qual scope L fa cdv cl)) :: starEach [] (envX qual scope L fa cdv cl) := by rfl) :
    Wp (model prog w) A z (exec (.Assign [.Tuple [.Name x p1, .Name y p2] k tp] (.Tuple [e1, e2] k2 tp2) p3) (envX qual scope L fa cdv cl)) Q h := fun tk => by
  have W : Wp (model prog w) A z (eval (.Tuple [e1, e2] k2 tp2) (envX qual scope L fa cdv cl)) (fun v h1 => ∃ t, v = .ref t ∧ Fr g L h1 m ∧ Ow g L h1 ((t, isObj (tupO a b)) :: led)) h :=
    W_tuple2 (ev1.go (ev2.go ⟨m, led, F, O, fun t h3 F3 O3 => ⟨t, rfl, F3, O3⟩⟩)) hs1 hs2
  refine Assign_Tuple_swapped (W.go (fun v h1 t1 q1 => ?_) tk) hs hw
  obtain ⟨t, rfl, F1, O1⟩ := q1
  refine unpackItemsN_ (s := St z h1 t1) F1 O1.news (items := #[a, b]) ⟨_, O1.obj (List.mem_cons_self ..), rfl, 0, rfl⟩ hh rfl fun h2 F2 N2 => ?_
  have O2 : Ow g L h2 led := (O1.ofNews N2).right (a := [(t, isObj (tupO a b))])
  show wpAny _ A (assignInOrder [fun v => bindName (envX qual scope L fa cdv cl) y v, fun v => bindName (envX qual scope L fa cdv cl) x v] [b, a]) _ _ _
  refine wpAny_assignInOrder_more (wpAny_bindName ((W_store (z := z) (Q := fun _ h3 => Fr g L h3 (upd m y b) ∧ Ow g L h3 led) F2 O2 (fun h3 F3 O3 => ⟨F3, O3⟩) hk hy).go (fun _ h3 t3 q3 => ?_) t1))
  refine wpAny_assignInOrder_more (wpAny_bindName ((W_store (z := z) (Q := fun _ h4 => Q .next h4) q3.1 q3.2 (fun h4 F4 O4 => q h4 F4 O4) hk hx).go (fun _ h4 t4 q4 => ?_) t3))
  exact wpAny_assignInOrder_none ⟨h4, t4, rfl, q4⟩
end
end Mine
end
section
set_option maxRecDepth 10000
namespace Mine
section
variable {prog : Program} {w : World} {A : Around} {z : Shared} {g h : Heap} {L : Addr} {m : Str → Option Value} {led : Led} {env : Env} {K : Frag} {ro : List (Addr × Obj)}
  {qual : Str} {scope : Scope} {fa : Addr} {cdv : Value} {cl : List (Str × Addr)}
theorem W_callT {T : String} {e : Expr} {rest : List Expr} {pos : Pos} {Q : Value → Heap → Prop}
    (x : Wp (model prog w) A z (spliced (backTo pos (starEach (e :: rest) env))) (QT (model prog w) A z T Q) h)
    (he : starEach (e :: rest) env = (false, eval e env) :: starEach rest env := by rfl) (hplain : (backTo pos (starEach rest env)).any (·.1) = false := by rfl) :
    Wp (model prog w) A z (callWith pos (.type T) [] (backTo pos (starEach (e :: rest) env)) (backToKw pos (keywordEach [] env))) Q h :=
  fun tk => PySem.Pv.callWith_type1 (x.go (fun vs h1 t1 k => k t1) tk) he hplain
/-! ### for -/
noncomputable def ForPost (J : Nat → (Str → Option Value) → Led → Prop) (g : Heap) (L : Addr) (I : Addr) (oI : Obj) (i : Nat) (Q : Flow → Heap → Prop) (fl : Flow) (h2 : Heap) : Prop := match fl with
  | .next | .cont => ∃ m2 led2, Fr g L h2 m2 ∧ Ow g L h2 ((I, dcO oI) :: led2) ∧ J (i + 1) m2 led2
  | .brk => Q .next h2
  | .ret v => Q (.ret v) h2
noncomputable def ForI (src : List Int) (J : Nat → (Str → Option Value) → Led → Prop) (g : Heap) (L I : Addr) (z : Shared) (S₀ : Nat → Heap → Prop) (r : Nat) (s : Shared) : Prop :=
  ∀ C : Prop, (∀ i h tk m led, s = St z h tk → r = src.length - i → i ≤ src.length → S₀ i h → Fr g L h m → Ow g L h led → (∀ p ∈ led, p.1 ≠ I) → J i m led → C) → C
theorem W_for {x : Str} {px : Pos} {iter : Expr} {body : List Stmt} {pos : Pos} {Q : Flow → Heap → Prop} (src : List Int) (ls : List Addr) (J : Nat → (Str → Option Value) → Led → Prop)
    (it : Wp (model prog w) A z (eval iter (envX qual scope L fa cdv cl)) (fun xv h1 => ∃ m0 led0, Fr g L h1 m0 ∧ Ow g L h1 led0 ∧ J 0 m0 led0 ∧ IterOn prog w A z h1 xv src ls) h)
    (has : ∀ a ∈ ls, ∃ o, ∀ i m led, J i m led → (a, isObj o) ∈ led)
    (turn : ∀ i k v m1 led1 I oI h1, src[i]? = some k → isInt k v → J i m1 led1 → Fr g L h1 (upd m1 x v) → Ow g L h1 ((I, dcO oI) :: led1) → Wp (model prog w) A z (execs body (envX qual scope L fa cdv cl)) (ForPost J g L I oI i Q) h1)
    (done : ∀ m2 led2 h2, Fr g L h2 m2 → Ow g L h2 led2 → J src.length m2 led2 → Q .next h2)
    (hk : scope.kind = .function := by rfl) (hx : (envX qual scope L fa cdv cl).kindOf x = some .local := by rfl)
    (hs : ∀ x, foldedSetIterable iter (envX qual scope L fa cdv cl) x = pure x := by intro _; rfl) :
    Wp (model prog w) A z (exec (.For (.Name x px) iter body [] pos) (envX qual scope L fa cdv cl)) Q h := fun tk => by
  refine wpAny_For (it.go (fun xv h1 t1 k => ?_) tk) hs
  obtain ⟨m0, led0, F1, O1, j0, itr⟩ := k
  refine (itr (fun it h2 => ∃ I fp wr n P St, it = .ref I ∧ WalkOf prog w A src I fp wr n P St ∧ St 0 h2 ∧ (∀ b ∈ fp, b = I ∨ b ∈ ls) ∧ I ∈ wr ∧ (∀ b ∈ wr, b = I) ∧ h1.get? I = none ∧ Kp h1 h2) ?_).go (fun it h2 t2 k => ?_) t1
  · intro I fp wr n P St h' W hst hf hI hw _ hn kp
    exact ⟨I, fp, wr, n, P, St, rfl, W, hst, hf, hI, hw, hn I hI, kp⟩
  obtain ⟨I, fp, wr, n, P, St₀, rfl, W, hst, hf, hI, hw, hI0, kp⟩ := k
  have iL : L ≠ I := fun e => by obtain ⟨o, _, _, e1, _⟩ := F1.ns; rw [e, hI0] at e1; cases e1
  have ig : g.get? I = none := by
    cases q : g.get? I with
    | none => rfl
    | some o => have := F1.keep _ _ q; rw [hI0] at this; cases this
  have low : ∀ {H : Heap} {led : Led}, Ow g L H led → True := fun _ => trivial
  refine codeAny_forLoop (ForI src J g L I z St₀) ?_ src.length
    (fun C k => k 0 h2 t2 m0 led0 rfl rfl (Nat.zero_le _) hst (F1.keeps kp) (O1.kp kp) ?_ j0)
  rotate_left
  · intro p hp e
    obtain ⟨o, e1, _⟩ := O1.has.get p hp
    rw [e, hI0] at e1; cases e1
  intro r s HH
  refine HH _ fun i H tk1 mi ledi es er hi hsti Fi Oi hne ji => ?_
  subst es er
  by_cases hlt : i < src.length
  · refine W.W.item i _ _ _ (by rw [W.len]; exact hlt) hsti fun v H1 tk2 hP hst1 hk1 => ?_
    obtain ⟨k, ek, ik⟩ := W.val i v (by rw [W.len]; exact hlt) hP
    have old : ∀ b o, b ≠ I → H.get? b = some o → H1.get? b = some o := fun b o hb e => hk1 b o (fun hm => hb (hw b hm)) e
    have F1' : Fr g L H1 mi := ⟨Fi.ns.at' fun o e => old _ _ iL e, fun b o e => old _ _ (fun q => by rw [q, ig] at e; cases e) (Fi.keep b o e), Fi.above⟩
    have O1' : Ow g L H1 ledi := Oi.keeps fun p hp o e => old _ _ (hne p hp) e
    obtain ⟨oI, eI⟩ := W.live _ _ hst1
    have O2 : Ow g L H1 ((I, dcO oI) :: ledi) := by
      refine ⟨⟨⟨fun e he => ?_⟩, fun e he => ?_, List.pairwise_cons.mpr ⟨fun e he e2 => absurd e2.symm (hne e he), O1'.nd⟩⟩, fun e he => ?_⟩
      · rcases List.mem_cons.mp he with rfl | he
        · exact ⟨_, eI, rfl⟩
        · exact O1'.has.get e he
      · rcases List.mem_cons.mp he with rfl | he
        · exact ig
        · exact O1'.own.off e he
      · rcases List.mem_cons.mp he with rfl | he
        · exact Ne.symm iL
        · exact O1'.ne e he
    refine (W_assignName (z := z) (Q := fun _ h3 => Fr g L h3 (upd mi x v) ∧ Ow g L h3 ((I, dcO oI) :: ledi)) F1' O2 (fun h3 F3 O3 => ⟨F3, O3⟩) hk hx).go (fun _ h3 t3 q => ?_) tk2
    refine (turn i k v mi ledi I oI h3 ek ik ji q.1 q.2).go (fun fl h4 t4 q4 => ?_) t3
    have next : (∃ m2 led2, Fr g L h4 m2 ∧ Ow g L h4 ((I, dcO oI) :: led2) ∧ J (i + 1) m2 led2) → ∃ m_1, m_1 < src.length - i ∧ ForI src J g L I z St₀ m_1 (St z h4 t4) := by
      rintro ⟨m2, led2, F4, O4, j4⟩
      refine ⟨src.length - (i + 1), by omega, fun C k => k (i + 1) h4 t4 m2 led2 rfl rfl hlt (W.W.frame _ _ _ hst1 fun b hb o e => ?_) F4 (O4.right (a := [(I, dcO oI)])) (fun p hp e => ((List.pairwise_cons.mp O4.nd).1 p hp e.symm).1.elim) j4⟩
      rcases hf b hb with rfl | hb
      · obtain ⟨o', e1, e2⟩ := O4.get (List.mem_cons_self ..)
        have e2 : o' = oI := e2
        rw [eI] at e; cases e
        rw [e1, e2]
      · obtain ⟨oa, hoa⟩ := has b hb
        have e1 := O1'.obj (hoa _ _ _ ji)
        have e2 := O4.obj (List.mem_cons_of_mem _ (hoa _ _ _ j4))
        rw [e1] at e; cases e
        exact e2
    cases fl with
    | next => exact next q4
    | cont => exact next q4
    | brk => exact ⟨h4, t4, rfl, q4⟩
    | ret v => exact ⟨h4, t4, rfl, q4⟩
  · have hin : i = src.length := by omega
    subst hin
    refine W.W.done _ _ _ (by rw [W.len]; exact hsti) fun H1 tk2 hk1 => ?_
    have old : ∀ b o, b ≠ I → H.get? b = some o → H1.get? b = some o := fun b o hb e => hk1 b o (fun hm => hb (hw b hm)) e
    refine wpAny_execs_nil ⟨H1, tk2, rfl, done mi ledi H1 ⟨Fi.ns.at' fun o e => old _ _ iL e, fun b o e => old _ _ (fun q => by rw [q, ig] at e; cases e) (Fi.keep b o e), Fi.above⟩ (Oi.keeps fun p hp o e => old _ _ (hne p hp) e) ji⟩
end
end Mine
end
section
set_option maxRecDepth 10000
namespace Mine
/-! ## blocks of a ledger, put in another order -/
noncomputable def cat : List Led → Led
  | [] => []
  | [a] => a
  | a :: b :: r => a ++ cat (b :: r)
theorem cat_eq : ∀ bs : List Led, cat bs = bs.flatten
  | [] => rfl
  | [a] => by simp [cat]
  | a :: b :: r => by rw [cat, cat_eq (b :: r)]; simp
theorem ledPerm (bs : List Led) (i j : List Nat) (h : i.Perm j := by decide) : (cat (i.map fun k => bs.getD k [])).Perm (cat (j.map fun k => bs.getD k [])) := by
  rw [cat_eq, cat_eq]
  exact (h.map _).flatten
/-! ## lists only -/
noncomputable def AllL (ro : List (Addr × Obj)) : Prop := ∀ p ∈ ro, p.2.cls = .type "list"
theorem dictB_cls {b : Nat} {φ : (Str → Option Value) → Prop} {o : Obj} (h : (dictB b φ).Ok o) : o.cls ≠ .type "list" := by
  obtain ⟨fs, ⟨⟨es, n, rfl, _⟩, _⟩, _⟩ := h
  exact fun e => by injection e with e; exact absurd e (by decide)
theorem node_noList {b : Nat} {d x C : Addr} {φ : (Str → Option Value) → Prop} : ∀ e ∈ nodeB b d x C φ, ∀ o, e.2.Ok o → o.cls ≠ .type "list" := fun e he o h => by
  rcases List.mem_cons.mp he with rfl | he
  · exact dictB_cls h
  · rcases List.mem_singleton.mp he with rfl
    have h : o = instObj C d := h
    subst h
    exact fun e => by cases e
theorem noList_app {a b : Led} (ha : ∀ e ∈ a, ∀ o, e.2.Ok o → o.cls ≠ .type "list") (hb : ∀ e ∈ b, ∀ o, e.2.Ok o → o.cls ≠ .type "list") : ∀ e ∈ a ++ b, ∀ o, e.2.Ok o → o.cls ≠ .type "list" := fun e he => (List.mem_append.mp he).elim (ha e) (hb e)
theorem MRep.noList {ro : List (Addr × Obj)} {p : Bool} {n : Nat} {own : Led} {x : Addr} {T : Tb} (h : MRep ro p n own x T) : ∀ e ∈ own, ∀ o, e.2.Ok o → o.cls ≠ .type "list" := by
  induction h with
  | null =>
    intro e he o h
    rcases List.mem_cons.mp he with rfl | he
    · have h : o = emptyDict := h
      subst h; exact fun e => by injection e with e; exact absurd e (by decide)
    · rcases List.mem_singleton.mp he with rfl
      have h : o = _ := h
      subst h; exact fun e => by cases e
  | leaf h => exact node_noList
  | union h1 h2 h3 h4 h5 i1 i2 => exact noList_app node_noList (noList_app i1 i2)
  | inter h2 h3 h4 h5 h6 i1 i2 => exact noList_app node_noList (noList_app i1 i2)
  | andnot h2 h3 h4 h5 h6 i1 i2 => exact noList_app node_noList (noList_app i1 i2)
  | maybe h2 h3 h4 h5 h6 i1 i2 => exact noList_app node_noList (noList_app i1 i2)
  | wrap h1 h2 h3 h4 h5 i1 => exact noList_app node_noList i1
  | filt h2 h3 h4 h5 h6 h7 i1 => exact noList_app node_noList i1
  | inv h2 h3 h4 h5 i1 =>
    refine noList_app node_noList (noList_app (fun e he o h => ?_) i1)
    rcases List.mem_singleton.mp he with rfl
    have h : o = _ := h
    subst h; exact fun e => by injection e with e; exact absurd e (by decide)
  | req h2 h3 h4 h5 h6 i1 i2 => exact noList_app node_noList (noList_app node_noList (noList_app i1 i2))
  | const h1 h2 h3 h4 i1 => exact noList_app node_noList i1
theorem apart_of {g h : Heap} {L : Addr} {led la : Led} {ro : List (Addr × Obj)} (O : Ow g L h led) (hr : ∀ e ∈ exL ro, e ∈ led) (hl : ∀ e ∈ la, e ∈ led) (hA : AllL ro) (hn : ∀ e ∈ la, ∀ o, e.2.Ok o → o.cls ≠ .type "list") : ∀ p ∈ ro, p.1 ∉ addrs la := fun p hp q => by
  obtain ⟨e, he, e1⟩ := List.mem_map.mp q
  obtain ⟨o, e2, e3⟩ := O.has.get _ (hr (p.1, isObj p.2) (List.mem_map_of_mem (f := fun p : Addr × Obj => (p.1, isObj p.2)) hp))
  obtain ⟨o', e4, e5⟩ := O.has.get e (hl e he)
  have e1 : e.1 = p.1 := e1
  rw [e1, e2] at e4
  have e3 : o = p.2 := e3
  cases e4
  exact hn e he o e5 (by rw [e3]; exact hA p hp)
section
variable {prog : Program} {w : World} {K : Frag} {ro : List (Addr × Obj)} {k : Nat} {x : Addr} {nm : Str} {args : List Value} {own : Led} {post : Value → Led → Prop}
theorem Can.lift (C : Can prog w K ro k x nm args own post) (ha : ∀ p ∈ ro, p.1 ∉ addrs own) : Can prog w K [] k x nm args (exL ro ++ own) fun v l => ∃ l', l = exL ro ++ l' ∧ post v l' :=
  let ⟨f, M, D⟩ := C.is_
  let ⟨C, φ, s, r⟩ := M.is_
  ⟨f, ⟨C, φ, s.mono fun e h => List.mem_append_right _ h, r⟩, (D.lift ha).mono fun v l ⟨l', e, p, _⟩ => ⟨l', e, p⟩⟩
theorem Can.liftP {post : Value → Prop} (C : Can prog w K ro k x nm args own fun v l => l = own ∧ post v) (ha : ∀ p ∈ ro, p.1 ∉ addrs own) : Can prog w K [] k x nm args (exL ro ++ own) fun v l => l = exL ro ++ own ∧ post v :=
  (C.lift ha).mono fun v l ⟨l', e, e2, p⟩ => ⟨by rw [e, e2], p⟩
theorem Keeps.exL {l l' : Led} (k : Keeps l l') : Keeps (exL ro ++ l) (exL ro ++ l') := Keeps.app Keeps.refl k
end
/-! ## names and numbers in a comprehension -/
section
variable {prog : Program} {w : World} {A : Around} {z : Shared} {g h : Heap} {L : Addr} {m : Str → Option Value} {led : Led} {env : Env}
  {scope : Scope} {cl : List (Str × Addr)} {C : Addr} {m2 : Str → Option Value}
theorem W_ck {x : Str} {pos : Pos} {v : Value} {Q : Value → Heap → Prop} (hn : h.Ns C m2) (hv : m2 x = some v) (q : Q v h) (hk : (compEnvC scope cl C env).scope.kind = .function := by rfl) (hl : (compEnvC scope cl C env).kindOf x = some .local := by rfl)
    (hd : (x == ("__debug__" : Str)) = false := by decide) : Wp (model prog w) A z (eval (.Name x pos) (compEnvC scope cl C env)) Q h := fun tk =>
  wpAny_Name (wpAny_loadName_local (s := St z h tk) hk hl hn hv ⟨h, tk, rfl, q⟩) hd
theorem W_cc {x : Str} {pos : Pos} {v : Value} {c : Addr} {Q : Value → Heap → Prop} (O : Ow g L h led) (hm : (c, cellC (some v)) ∈ led) (q : Q v h) (hc : cl.lookup x = some c) (hk : (compEnvC scope cl C env).scope.kind = .function := by rfl) (hl : (compEnvC scope cl C env).kindOf x = some .cell := by rfl)
    (hd : (x == ("__debug__" : Str)) = false := by decide) : Wp (model prog w) A z (eval (.Name x pos) (compEnvC scope cl C env)) Q h := fun tk => by
  obtain ⟨o, e, d⟩ := O.get hm
  exact wpAny_Name (wpAny_loadName_cell (s := St z h tk) hk hl hc ⟨o, e, d⟩ ⟨h, tk, rfl, q⟩) hd
theorem W_noIf {Q : Bool → Heap → Prop} {cenv : Env} (q : Q true h) : Wp (model prog w) A z (testsOf [] cenv) Q h := Wp.pure q
theorem W_oneIf {c : Expr} {Q : Bool → Heap → Prop} {cenv : Env} (x : Wp (model prog w) A z (isTrue c cenv (eval c cenv)) Q h) : Wp (model prog w) A z (testsOf [c] cenv) Q h := by
  unfold testsOf
  simp only [List.forIn_cons, List.forIn_nil, if_true]
  exact Wp.bind (Wp.bind (x.mono fun b h1 q => Wp.pure (Wp.pure q)))
theorem W_fdiv {a b : Int} {t u : Tok} {Q : Value → Heap → Prop} (hb : 0 < b) (hb1 : b ≤ 5000) (q : ∀ tk, Q (.int (a.fdiv b) tk) h) : Wp (model prog w) A z (binaryOp .FloorDiv (.int a t) (.int b u)) Q h := fun tk => floordiv_int (s := St z h tk) (by omega) ⟨h, tk + 1, rfl, q _⟩ (.inl (PyProof.noPylong_small (by omega)))
theorem W_pow2 {b : Nat} {t u : Tok} {Q : Value → Heap → Prop} (hb : b ≤ 20) (q : ∀ tk, Q (.int ((2 : Int) ^ b) tk) h) : Wp (model prog w) A z (binaryOp .Pow (.int 2 t) (.int b u)) Q h := fun tk => by
  refine pow_int_small (s := St z h tk) (a := 2) (n := (b : Int)) (by omega) (by omega) (by decide) ⟨h, tk + 1, rfl, ?_⟩
  have := q tk
  rwa [← show ((b : Int).toNat) = b from Int.toNat_natCast b] at this
end
end Mine
end
section
set_option maxRecDepth 10000
namespace Mine
theorem Keeps.dcons {d : Addr} {P P' : Obj → Prop} {r r' : Led} (k : Keeps r r') : Keeps ((d, .dc P) :: r) ((d, .dc P') :: r') := fun p hp f => by
  rcases List.mem_cons.mp hp with rfl | hp
  · exact f.elim
  · exact List.mem_cons_of_mem _ (k p hp f)
/-- an int made of k, no new object -/
noncomputable def IntFF (f : Int → Int) (k : Int) (y : Value) (xs : List (Addr × Obj)) : Prop := xs = [] ∧ isInt (f k) y
theorem made_ints {f : Int → Int} {ks : List Int} {ys : List Value} {xs : List (Addr × Obj)} (M : MadeOf (IntFF f) ks ys xs) : xs = [] ∧ IntsAre ys (ks.map f) := by
  suffices h : xs = [] ∧ ys.length = ks.length ∧ ∀ (j : Nat) v, ys[j]? = some v → ∃ k : Int, (ks.map f)[j]? = some k ∧ isInt k v from ⟨h.1, ints_of h.2.2 (by rw [h.2.1, List.length_map])⟩
  induction M with
  | nil => exact ⟨rfl, rfl, fun j v e => nomatch e⟩
  | @snoc vs ys xs v y zs M1 hF ih =>
    obtain ⟨e1, e2, e3⟩ := ih
    obtain ⟨rfl, i⟩ := hF
    refine ⟨e1, by simp [e2], fun j u eu => ?_⟩
    rcases Nat.lt_trichotomy j ys.length with c | c | c
    · rw [List.getElem?_append_left c] at eu
      rw [List.map_append, List.getElem?_append_left (by rw [List.length_map, ← e2]; exact c)]
      exact e3 j u eu
    · subst c
      simp at eu
      subst eu
      exact ⟨f v, by rw [e2]; simp, i⟩
    · rw [List.getElem?_eq_none (by rw [List.length_append]; simp; omega)] at eu; cases eu
section
variable {prog : Program} {w : World} {A : Around} {z : Shared} {g h : Heap} {L : Addr} {m : Str → Option Value} {led : Led} {env : Env} {K : Frag} {ro : List (Addr × Obj)}
theorem W_range {n : Nat} {t : Tok} {Q : Value → Heap → Prop} (hh : A.handled = none) (hn : n ≤ 1000) (q : ∀ xv h', Kp h h' → IterOn prog w A z h' xv ((List.range n).map Int.ofNat) [] → Q xv h') : Wp (model prog w) A z (call (.type "range") [.int n t]) Q h := fun tk =>
  call_range_1 (s := St z h tk) ⟨_, _, rfl, q _ _ (Kp.push _) (iter_range hh (IsRange.new ..) hn)⟩
theorem LLst.of_made {D : Addr} {ys : Array Value} {n : Nat} {f : Int → Int} {ks : List Int} {xs : List (Addr × Obj)} (M : MadeOf (IntFF f) ks ys.toList xs) : LLst (exL ((D, listOf ys n) :: xs) ++ led) D (ks.map f) :=
  ⟨ys.toList, n, by simp [exL], (made_ints M).2⟩
/-- bit k of a number -/
noncomputable def bitOf (N k : Int) : Bool := (N.fdiv ((2 : Int) ^ k.toNat)).fmod 2 == 1
noncomputable def bits12 (N : Int) : List Int := ((List.range 12).map Int.ofNat).filter (bitOf N)
theorem mem12 {k : Int} (h : k ∈ (List.range 12).map Int.ofNat) : ∃ j : Nat, k = j ∧ j < 12 := by
  obtain ⟨j, hj, rfl⟩ := List.mem_map.mp h
  exact ⟨j, rfl, List.mem_range.mp hj⟩
/-- [k for k in range(12) if number // 2 ** k % 2 == 1] -/
theorem bits_ok {scope : Scope} {cl : List (Str × Addr)} {px p1 p2 p3 p4 p5 p6 p7 p8 p9 : Pos} {a1 a2 a3 : Nat} {c : Addr} {N : Int} {t : Tok} (hc : cl.lookup ("number" : Str) = some c) (hm : (c, cellC (some (.int N t))) ∈ led)
    (hk : ∀ C, (compEnvC scope cl C env).scope.kind = .function := by intro _; rfl) (hl : ∀ C, (compEnvC scope cl C env).kindOf "k" = some .local := by intro _; rfl) (hl2 : ∀ C, (compEnvC scope cl C env).kindOf "number" = some .cell := by intro _; rfl) :
    CompOk prog w A z env scope cl "k" [.Compare (.BinOp (.BinOp (.Name "number" p1) .FloorDiv (.BinOp (.Constant (.int 2) a1 p2) .Pow (.Name "k" p3) p4) p5) .Mod (.Constant (.int 2) a2 p6) p7) [.Eq] [.Constant (.int 1) a3 p8] p9] (.Name "k" px)
      ((List.range 12).map Int.ofNat) (bitOf N) (IntFF id) g L led m where
  tests := fun C h2 m2 k v hk2 hv hn hx F O => by
    obtain ⟨j, rfl, hj⟩ := mem12 hk2
    obtain ⟨tv, rfl⟩ := hv
    refine W_oneIf (W_tcmp (W_bin (W_bin (W_cc O hm (W_bin (W_cint fun t1 => W_ck hn hx (W_pow2 (by omega) fun t2 => W_fdiv ?_ ?_ fun t3 => W_cint fun t4 => W_mod (by decide) fun t5 => W_cint fun t6 => W_eq (W_truthB ⟨rfl, Kp.refl⟩)) (hk C) (hl C))) hc (hk C) (hl2 C)))))
    · exact Int.pow_pos (by decide)
    · have : (2 : Int) ^ j ≤ 2 ^ 11 := by
        have : (2 : Nat) ^ j ≤ 2 ^ 11 := Nat.pow_le_pow_right (by decide) (by omega)
        exact_mod_cast this
      omega
  elts := fun C h2 m2 k v hk2 hv hp hn hx F O => W_ck hn hx ⟨⟨[], ⟨rfl, hv⟩, fun _ h => nomatch h⟩, Kp.refl⟩ (hk C) (hl C)
/-! ### zip -/
structure ZipFresh (h h' : Heap) (z : Addr) (vs ws : List Value) : Prop where
  is_ : ∃ TI TO i1 i2 l1 l2, ZipApart z TI TO i1 i2 l1 l2 ∧ h'.get? z = some (zipO .none false TI TO) ∧ ZipSt h' z TI TO i1 i2 l1 l2 vs.toArray ws.toArray 0 ∧ h.objs.size ≤ z ∧ h.objs.size ≤ TO ∧ h.objs.size ≤ i1 ∧ h.objs.size ≤ i2
theorem W_zip {a b : Addr} {ns ms : List Int} {Q : Value → Heap → Prop} (O : Ow g L h led) (x : LLst led a ns) (y : LLst led b ms) (q : ∀ z h' vs ws, IntsAre vs ns → IntsAre ws ms → ZipFresh h h' z vs ws → Kp h h' → Q (.ref z) h') :
    Wp (model prog w) A z (call (.type "zip") [.ref a, .ref b]) Q h := fun tk => by
  obtain ⟨vs, il, ia⟩ := x.isList O
  obtain ⟨ws, jl, ja⟩ := y.isList O
  have la : a < h.objs.size := by obtain ⟨_, e, _⟩ := il; exact Heap.lt_size e
  have lb : b < h.objs.size := by obtain ⟨_, e, _⟩ := jl; exact Heap.lt_size e
  refine call_zip_2 (s := St z h tk) il jl fun h' hz hTI hTO hit1 hit2 hsz hk => ⟨h', tk, rfl, q _ h' vs ws ia ja ⟨_, _, _, _, _, _, zipApart_new la lb, hz, ?_, ?_⟩ hk⟩
  · exact ⟨.inl hz, hTI, ⟨_, _, hTO⟩, hit1, hit2, il.at fun o e => hk _ _ e, jl.at fun o e => hk _ _ e⟩
  · exact ⟨Nat.le_add_right _ _, Nat.le_add_right _ _, Nat.le_refl _, Nat.le_add_right _ _⟩
theorem zip_flat : ∀ {ns : List Int} {ws : List Value} {ms : List Int}, IntsAre ws ms → PyProof.V.FlatPairs PyData.int (ns.zip ws) (kdfD (ns.zip ms))
  | [], _, _, _ => by rw [List.zip_nil_left, List.zip_nil_left]; exact .nil
  | n :: ns, _, _, .nil => .nil
  | n :: ns, _, _, .cons k t r => .cons (.int _ _) (zip_flat r)
theorem W_listzip {h₁ : Heap} {z' : Addr} {vs ws : List Value} {ns ms : List Int} {Q : Value → Heap → Prop} (hh : A.handled = none) (Zf : ZipFresh h h₁ z' vs ws) (kp : Kp h h₁) (F : Fr g L h m) (O : Ow g L h led) (ia : IntsAre vs ns) (ja : IntsAre ws ms) (hl : ms.length = ns.length) (hn : ns.length ≤ 1000)
    (q : ∀ D c ys h', Fr g L h' m → Ow g L h' ((D, isObj (listOf (List.toArray ys) c)) :: led) → PairsOf h' ys (ns.zip ms) → Q (.ref D) h') : Wp (model prog w) A z (call (.type "list") [.ref z']) Q h₁ := fun tk => by
  obtain ⟨TI, TO, i1, i2, l1, l2, D, hz, Z, n1, n2, n3, n4⟩ := Zf
  have lv := ia.length
  have lw := ja.length
  refine call_list_zip (s := St z h₁ tk) (by omega) (by omega) hh D hz Z fun h' tk' c' e1 e2 e3 => ⟨h', tk', rfl, ?_⟩
  have kp2 : Kp h h' := fun b o e => by
    have lt := Heap.lt_size e
    exact e3 b o (Nat.ne_of_lt (Nat.lt_of_lt_of_le lt n1)) (Nat.ne_of_lt (Nat.lt_of_lt_of_le lt n2)) (Nat.ne_of_lt (Nat.lt_of_lt_of_le lt n3)) (Nat.ne_of_lt (Nat.lt_of_lt_of_le lt n4)) (kp b o e)
  have big : h.objs.size ≤ h₁.objs.size := Nat.le_trans n1 (Nat.le_of_lt (Heap.lt_size hz))
  refine q _ c' _ h' (F.keeps kp2) (O.add F (O.kp kp2) [(h₁.objs.size, listOf _ c')] fun p hp => by
    rcases List.mem_singleton.mp hp with rfl
    exact ⟨e1, big⟩) ⟨ns.zip ws, ?_, zip_flat ja, fun j y kv ey ek => ?_⟩
  · simp; omega
  · have hj : j < vs.length := by
      have := (List.getElem?_eq_some_iff.mp ey).1
      simpa using this
    have hjw : j < ws.length := by omega
    have hjn : j < ns.length := by omega
    simp [hj] at ey
    simp [List.getElem?_zip_eq_some] at ek
    obtain ⟨k1, k2⟩ := ek
    obtain ⟨n, t, f1, f2⟩ := ia.at j vs[j] (List.getElem?_eq_getElem hj)
    refine ⟨_, vs[j], ey.symm, e2 j hj vs[j] kv.2 (List.getElem?_eq_getElem hj) k2, t, ?_⟩
    rw [f1]
    rw [k1] at f2
    cases f2; rfl
end
end Mine
end
section
set_option maxRecDepth 10000
namespace Mine
/-- two tables say the same -/
noncomputable def Same (c T : Tb) : Prop := (c.map (·.1)).Nodup ∧ ∀ k, lk k c = lk k T
/-- what the law's makers of trees give back -/
structure Made' (prog : Program) (w : World) (row d : Addr) (b : Nat) (p : Bool) (n : Nat) (rest : Led) (v : Value) (l : Led) : Prop where
  is_ : ∃ a' ro own fz t s x c T o, a' ≤ b ∧ l = (d, dC prog w row (a' : Nat)) :: (exL ro ++ (own ++ (exL fz ++ rest))) ∧ v = .ref t ∧ (t, tupO (.ref x) (.ref s)) ∈ fz ∧ (s, o) ∈ fz ∧ (s == sysModules) = false ∧ TabO prog w o c ∧
    AllL ro ∧ MRep ro p n own x T ∧ Same c T
theorem Made'.elim {prog : Program} {w : World} {row d : Addr} {b : Nat} {p : Bool} {n : Nat} {rest : Led} {v : Value} {l : Led} {C : Prop} (q : Made' prog w row d b p n rest v l)
    (k : ∀ a' ro own fz t s x c T o, a' ≤ b → l = (d, dC prog w row (a' : Nat)) :: (exL ro ++ (own ++ (exL fz ++ rest))) → v = .ref t → (t, tupO (.ref x) (.ref s)) ∈ fz → (s, o) ∈ fz → (s == sysModules) = false → TabO prog w o c → AllL ro → MRep ro p n own x T → Same c T → C) : C := by
  obtain ⟨a', ro, own, fz, t, s, x, c, T, o, h1, h2, h3, h4, h5, h6, h7, h8, h9, h10⟩ := q.is_
  exact k a' ro own fz t s x c T o h1 h2 h3 h4 h5 h6 h7 h8 h9 h10
noncomputable def wOf (N k : Int) : Int := 1 + (N.fdiv 4096 + 5 * k).fmod 9
variable {prog : Program} {w : World} {K : Frag} {ro : List (Addr × Obj)}
theorem bits12_srt (N : Int) : (bits12 N).Pairwise (· < ·) := by
  refine List.Pairwise.sublist List.filter_sublist (List.pairwise_map.mpr ?_)
  exact (List.pairwise_lt_range (n := 12)).imp fun h => Int.ofNat_lt.mpr h
theorem nodup_lt {l : List Int} (h : l.Pairwise (· < ·)) : l.Nodup := h.imp fun h => Int.ne_of_lt h
theorem law_leaf (k : KOk K) {d row : Addr} {a : Nat} {ns : List Int} {j : Nat} {rest : Led} (hr : LLst rest row ns) (hn : ns.length ≤ 48) (ha : a ≤ 10000) :
    Does prog w K [] (j + 20) (.ref f_law_leaf) [.ref d] [] ((d, dC prog w row a) :: rest) (Made' prog w row d (a + 1) true 0 rest) := by
  refine does_enterC k.fn_law_leaf [("d", .ref d)] (fun s _ _ _ _ _ _ _ => BindsTo.of_eq rfl) (fun n => by simp; exact .inl rfl) (by decide +kernel) ?_
  intro A z g L h R G F O
  have O : Ow g L h ((L + 2, cellC none) :: (L + 1, cellC none) :: (d, dC prog w row a) :: rest) := O
  have hr1 : ∀ c1 c2 c3, LLst (c1 :: c2 :: c3 :: rest) row ns := fun c1 c2 c3 => hr.lift fun e he => by first | solve_by_elim -exfalso -symm (maxDepth := 30) [List.Mem.head, List.Mem.tail, List.mem_append_left, List.mem_append_right, he] | simp [he]
  refine W_cons (W_assignCell (g := g) (c := L + 1) (W_fcall (W_global F G k.g_law_cell.1 (W_callWithE G k.g_law_cell.2 (W_argsC (W_name F rfl (W_argsN ⟨G.kin.keeps F.keep, Cd.call ?_⟩)))))))
  refine (law_cell (j := j) k hr hn ha).use (R.le (by omega)) G F (O.perm (ledPerm [[(L + 2, cellC none)], [(L + 1, cellC none)], (d, dC prog w row a) :: rest] [0, 1, 2] [2, 0, 1])) (fun v l q => ?_) fun v l h F O q => ?_
  · rw [q.1]; exact Keeps.refl.dcons
  obtain ⟨rfl, N, ⟨tN, rfl⟩, N0⟩ := q
  refine ⟨_, (L + 2, cellC none) :: (d, dC prog w row (a + 1 : Nat)) :: rest, none, F, O.perm (ledPerm [(d, dC prog w row (a + 1 : Nat)) :: rest, [(L + 2, cellC none)], [(L + 1, cellC none)]] [0, 1, 2] [2, 1, 0]), fun h F O => ?_⟩
  -- ids
  refine W_cons (W_assignComp ((List.range 12).map Int.ofNat) (bitOf N) (IntFF id) (by decide) F O ?_ (bits_ok (c := L + 1) rfl (List.mem_cons_self ..)) fun D1 n1 y1 x1 h _ F O M1 => ?_)
  · refine W_fcall (W_builtin F G (k.blt _ (at_ 4 rfl)) (v := .type "range") (by decide +kernel) (by decide) (W_callT (W_argsC (W_cint fun tk => W_argsN (W_range (n := 12) R.1 (by decide) fun xv h' kp it => ⟨kp, [], it⟩)))))
  obtain ⟨rfl, i1⟩ := made_ints M1
  rw [List.map_id] at i1
  have l1 : ∀ led, (D1, isObj (listOf y1 n1)) ∈ led → LLst led D1 (bits12 N) := fun led hm => ⟨y1.toList, n1, hm, i1⟩
  have len1 : (bits12 N).length ≤ 12 := by
    have := List.length_filter_le (bitOf N) ((List.range 12).map Int.ofNat)
    simp at this; exact this
  have lo1 : ∀ k ∈ bits12 N, 0 ≤ k ∧ k < 12 := fun k hk => by
    obtain ⟨j, rfl, hj⟩ := mem12 (List.mem_filter.mp hk).1
    omega
  have O : Ow g L h ([(D1, isObj (listOf y1 n1)), (L + 1, cellC (some (.int N tN)))] ++ ([(L + 2, cellC none)] ++ ((d, dC prog w row (a + 1 : Nat)) :: rest))) := O
  -- extra
  refine W_cons (W_assignCell (g := g) (c := L + 2) (W_bin (W_nameC (c := L + 1) (v := .int N tN) O (by first | solve_by_elim -exfalso -symm (maxDepth := 30) [List.Mem.head, List.Mem.tail, List.mem_append_left, List.mem_append_right] | simp) (W_cint fun t1 => W_fdiv (by decide) (by decide) fun t2 => ⟨_, _, none, F, O.perm (ledPerm [[(D1, isObj (listOf y1 n1)), (L + 1, cellC (some (.int N tN)))], [(L + 2, cellC none)], (d, dC prog w row (a + 1 : Nat)) :: rest] [0, 1, 2] [1, 0, 2]), fun h F O => ?_⟩) rfl)))
  have O : Ow g L h ((L + 2, cellC (some (.int (N.fdiv 4096) t2))) :: (D1, isObj (listOf y1 n1)) :: (L + 1, cellC (some (.int N tN))) :: (d, dC prog w row (a + 1 : Nat)) :: rest) := O
  -- weights
  refine W_cons (W_assignComp (bits12 N) (fun _ => true) (IntFF (wOf N)) (by omega) F O (W_name F rfl ⟨Kp.refl, [D1], ?_⟩) ?_ fun D2 n2 y2 x2 h _ F O M2 => ?_)
  · obtain ⟨vs, il, ia⟩ := (l1 _ (by first | solve_by_elim -exfalso -symm (maxDepth := 30) [List.Mem.head, List.Mem.tail, List.mem_append_left, List.mem_append_right] | simp)).isList O
    exact iter_list R.1 il ia
  · refine ⟨fun C h2 m2 k v hk hv hn hx F O => W_noIf ⟨rfl, Kp.refl⟩, fun C h2 m2 k v hk hv _ hn hx F O => ?_⟩
    obtain ⟨tv, rfl⟩ := hv
    have b := lo1 k hk
    have e64 : (2 : Int) ^ 64 = 18446744073709551616 := by decide
    exact W_bin (W_cint fun t1 => W_bin (W_bin (W_cc (c := L + 2) O (List.mem_cons_self ..) (W_bin (W_cint fun t3 => W_ck hn hx (W_mul (fun t4 => W_add fun t5 => W_cint fun t6 => W_mod (by decide) fun t7 => W_add fun t8 => ⟨⟨[], ⟨rfl, t8, rfl⟩, fun _ h => nomatch h⟩, Kp.refl⟩) (IntMulOk.of_right (intBits_le_64 (by omega) (by omega))))) ) rfl)))
  have hfilt : (bits12 N).filter (fun _ => true) = bits12 N := List.filter_eq_self.mpr fun _ _ => rfl
  rw [hfilt] at M2
  obtain ⟨rfl, i2⟩ := made_ints M2
  have l2 : ∀ led, (D2, isObj (listOf y2 n2)) ∈ led → LLst led D2 ((bits12 N).map (wOf N)) := fun led hm => ⟨y2.toList, n2, hm, i2⟩
  have O : Ow g L h ((D2, isObj (listOf y2 n2)) :: (L + 2, cellC (some (.int (N.fdiv 4096) t2))) :: (D1, isObj (listOf y1 n1)) :: (L + 1, cellC (some (.int N tN))) :: (d, dC prog w row (a + 1 : Nat)) :: rest) := O
  refine W_cons (W_ret (W_tuple2 (g := g) (L := L) (W_fcall (W_global F G k.g_ListMatcher.1 (W_callWithE G k.g_ListMatcher.2 (W_argsC (W_name F rfl (W_argsC (W_name F rfl (W_argsN ⟨G.kin.keeps F.keep, Cd.call ?_⟩))))))))))
  refine (mk_leaf (i := 0) (j := j) k (.inl ⟨rfl, rfl⟩)).useN (R.le (by omega)) G F O ⟨(fun _ h => nomatch h), Nd.nil⟩ fun v nw h F O ⟨dx, x, e, e2⟩ => ?_
  subst e e2
  have O : Ow g L h (nodeC dx x cList (φLeaf D1 D2 ((0 : Nat) : Int)) ++ ((D2, isObj (listOf y2 n2)) :: (L + 2, cellC (some (.int (N.fdiv 4096) t2))) :: (D1, isObj (listOf y1 n1)) :: (L + 1, cellC (some (.int N tN))) :: (d, dC prog w row (a + 1 : Nat)) :: rest)) := O
  -- dict(list(zip(ids, weights)))
  refine W_fcall (W_builtin F G (k.blt _ (at_ 5 rfl)) (v := .type "dict") (by decide +kernel) (by decide) (W_callT (W_argsC ?_)))
  refine W_fcall (W_builtin F G (k.blt _ (at_ 6 rfl)) (v := .type "list") (by decide +kernel) (by decide) (W_callT (W_argsC ?_)))
  refine W_fcall (W_builtin F G (k.blt _ (at_ 7 rfl)) (v := .type "zip") (by decide +kernel) (by decide) (W_callT (W_argsC (W_name F rfl (W_argsC (W_name F rfl (W_argsN ?_)))))))
  refine W_zip O (l1 _ (by first | solve_by_elim -exfalso -symm (maxDepth := 30) [List.Mem.head, List.Mem.tail, List.mem_append_left, List.mem_append_right] | simp)) (l2 _ (by first | solve_by_elim -exfalso -symm (maxDepth := 30) [List.Mem.head, List.Mem.tail, List.mem_append_left, List.mem_append_right] | simp)) fun zz h₁ vs ws ia ja Zf kp => W_argsN ?_
  refine W_listzip R.1 Zf kp F O ia ja (by first | solve_by_elim -exfalso -symm (maxDepth := 30) [List.Mem.head, List.Mem.tail, List.mem_append_left, List.mem_append_right] | simp) (by omega) fun Dz cz yz h F O hp => W_argsN ?_
  refine W_dictOf R.1 G F O (List.mem_cons_self ..) hp ?_ ?_ fun s o h sm _ TO F O => ?_
  · rw [List.map_fst_zip (by first | solve_by_elim -exfalso -symm (maxDepth := 30) [List.Mem.head, List.Mem.tail, List.mem_append_left, List.mem_append_right] | simp)]; exact nodup_lt (bits12_srt N)
  · rw [List.length_zip, List.length_map]; omega
  refine ⟨_, _, F, O, fun t h F O => ?_⟩
  have O := O.perm (ledPerm [[(t, isObj (tupO (.ref x) (.ref s)))], [(s, isObj o)], [(Dz, isObj (listOf (List.toArray yz) cz))], nodeC dx x cList (φLeaf D1 D2 ((0 : Nat) : Int)), [(D2, isObj (listOf y2 n2))], [(L + 2, cellC (some (.int (N.fdiv 4096) t2)))], [(D1, isObj (listOf y1 n1))], [(L + 1, cellC (some (.int N tN)))], [(d, dC prog w row (a + 1 : Nat))], rest]
    [0, 1, 2, 3, 4, 5, 6, 7, 8, 9] [2, 5, 7, 8, 6, 4, 3, 0, 1, 9])
  have O := Ow.right (a := [(Dz, isObj (listOf (List.toArray yz) cz)), (L + 2, cellC (some (.int (N.fdiv 4096) t2))), (L + 1, cellC (some (.int N tN)))]) O
  have hlen : ((bits12 N).map (wOf N)).length = (bits12 N).length := List.length_map ..
  refine ⟨_, (d, dC prog w row (a + 1 : Nat)) :: (exL [(D1, listOf y1 n1), (D2, listOf y2 n2)] ++ (nodeC dx x cList (φLeaf D1 D2 ((0 : Nat) : Int)) ++ (exL [(t, tupO (.ref x) (.ref s)), (s, o)] ++ rest))), F, O,
    ⟨a + 1, [(D1, listOf y1 n1), (D2, listOf y2 n2)], nodeC dx x cList (φLeaf D1 D2 ((0 : Nat) : Int)), [(t, tupO (.ref x) (.ref s)), (s, o)], t, s, x, _, _, o, Nat.le_refl _, rfl, rfl, by first | solve_by_elim -exfalso -symm (maxDepth := 30) [List.Mem.head, List.Mem.tail, List.mem_append_left, List.mem_append_right] | simp, by first | solve_by_elim -exfalso -symm (maxDepth := 30) [List.Mem.head, List.Mem.tail, List.mem_append_left, List.mem_append_right] | simp, sm, TO, ?_, .leaf (i := 0) (li := D1) (lw := D2) ⟨⟨y1.toList, n1, by first | solve_by_elim -exfalso -symm (maxDepth := 30) [List.Mem.head, List.Mem.tail, List.mem_append_left, List.mem_append_right] | simp, i1⟩, ⟨y2.toList, n2, by first | solve_by_elim -exfalso -symm (maxDepth := 30) [List.Mem.head, List.Mem.tail, List.mem_append_left, List.mem_append_right] | simp, i2⟩, hlen, Nat.le_trans len1 (by decide), bits12_srt N, lo1, ?_⟩, ?_⟩⟩
  · intro p hp
    simp only [List.mem_cons, List.not_mem_nil, or_false] at hp
    rcases hp with rfl | rfl <;> rfl
  · intro q hq
    obtain ⟨k', _, rfl⟩ := List.mem_map.mp hq
    have := Int.fmod_nonneg_of_pos (N.fdiv 4096 + 5 * k') (b := 9) (by decide)
    unfold wOf; omega
  · exact ⟨by rw [List.map_fst_zip (by first | solve_by_elim -exfalso -symm (maxDepth := 30) [List.Mem.head, List.Mem.tail, List.mem_append_left, List.mem_append_right] | simp)]; exact nodup_lt (bits12_srt N), fun k' => rfl⟩
end Mine
end
section
set_option maxRecDepth 10000
namespace Mine
/-! ## tables as dicts hold them -/
theorem find_lk (k : Int) : ∀ c : Tb, (c.find? fun p => decide (p.1 = k)).map (·.2) = lk k c
  | [] => rfl
  | e :: c => by
    rw [lk_cons, List.find?_cons]
    by_cases h : e.1 = k
    · simp [h]
    · rw [if_neg fun q => h q.symm]
      simp only [h, decide_false]
      exact find_lk k c
theorem look_lk (c : Tb) (k d : Int) : kdfLook c k d = (lk k c).getD d := by unfold kdfLook; rw [find_lk]
theorem has_lk (k : Int) : ∀ c : Tb, kdfHas c k = (lk k c).isSome
  | [] => rfl
  | e :: c => by
    have ih := has_lk k c
    unfold kdfHas at ih ⊢
    rw [List.any_cons, ih, lk_cons]
    by_cases h : e.1 = k
    · rw [if_pos h.symm]; simp [h]
    · rw [if_neg fun q => h q.symm]; simp [h]
theorem lk_isSome {k : Int} {c : Tb} : (lk k c).isSome = true ↔ k ∈ c.map (·.1) := by
  rw [← has_lk]
  unfold kdfHas
  simp
theorem lk_append (k : Int) (b : Tb) : ∀ a : Tb, lk k (a ++ b) = (lk k a).or (lk k b)
  | [] => by simp [lk_nil]
  | e :: a => by
    rw [List.cons_append, lk_cons, lk_cons]
    by_cases h : k = e.1
    · rw [if_pos h, if_pos h]; rfl
    · rw [if_neg h, if_neg h]; exact lk_append k b a
theorem lk_put (c : Tb) (i v k : Int) : lk k (kdfPut c i v) = if k = i then some v else lk k c := by
  unfold kdfPut
  split
  · rename_i h
    have key : ∀ c : Tb, lk k (c.map fun p => if decide (p.1 = i) then (p.1, v) else p) = if k = i then (lk k c).map fun _ => v else lk k c := by
      intro c
      induction c with
      | nil => simp [lk_nil]
      | cons e c ih =>
        rw [List.map_cons, lk_cons, lk_cons, ih]
        by_cases h1 : e.1 = i
        · simp only [h1, decide_true, if_true]
          by_cases h2 : k = i
          · simp [h2]
          · simp [h2]
        · simp only [h1, decide_false, Bool.false_eq_true, if_false]
          by_cases h2 : k = e.1
          · have : k ≠ i := fun q => h1 (h2 ▸ q)
            simp [h2, h1]
          · simp [h2]
    rw [key]
    by_cases h2 : k = i
    · rw [if_pos h2, if_pos h2]
      have : (lk k c).isSome = true := by
        rw [← has_lk]; unfold kdfHas; rw [h2]; exact h
      obtain ⟨x, hx⟩ := Option.isSome_iff_exists.mp this
      rw [hx]; rfl
    · rw [if_neg h2, if_neg h2]
  · rename_i h
    rw [lk_append]
    have hn : lk i c = none := by
      cases q : lk i c with
      | none => rfl
      | some x =>
        have : (lk i c).isSome = true := by rw [q]; rfl
        rw [← has_lk] at this; exact absurd this h
    by_cases h2 : k = i
    · subst h2
      rw [hn, if_pos rfl, lk_cons]; simp
    · rw [if_neg h2, lk_cons, if_neg h2, lk_nil]; simp
theorem put_keys (c : Tb) (i v : Int) (h : (c.map (·.1)).Nodup) : ((kdfPut c i v).map (·.1)).Nodup := by
  unfold kdfPut
  split
  · rw [List.map_map]
    have : (c.map ((fun x => x.1) ∘ fun p => if decide (p.1 = i) then (p.1, v) else p)) = c.map (·.1) := List.map_congr_left fun p _ => by
      show (if decide (p.1 = i) then (p.1, v) else p).1 = p.1
      split <;> rfl
    rw [this]; exact h
  · rename_i hc
    rw [List.map_append]
    refine List.nodup_append.mpr ⟨h, by simp, fun a ha b hb => ?_⟩
    simp at hb; subst hb
    rintro rfl
    have := lk_isSome.mpr ha
    rw [← has_lk] at this
    exact hc this
/-- found[k] = found.get(k, 0) + others[k] -/
noncomputable def addOne (c2 : Tb) (acc : Tb) (k : Int) : Tb := kdfPut acc k ((lk k acc).getD 0 + (lk k c2).getD 0)
theorem addOne_fold (c2 : Tb) : ∀ (ks : List Int) (acc : Tb), ks.Nodup → (acc.map (·.1)).Nodup →
    ((ks.foldl (addOne c2) acc).map (·.1)).Nodup ∧ ∀ k, lk k (ks.foldl (addOne c2) acc) = if k ∈ ks then some ((lk k acc).getD 0 + (lk k c2).getD 0) else lk k acc
  | [], acc, _, h => ⟨h, fun k => by simp⟩
  | i :: ks, acc, hn, h => by
    obtain ⟨h1, h2⟩ := List.nodup_cons.mp hn
    obtain ⟨a, b⟩ := addOne_fold c2 ks (addOne c2 acc i) h2 (put_keys acc i _ h)
    refine ⟨a, fun k => ?_⟩
    rw [List.foldl_cons, b k]
    unfold addOne
    rw [lk_put]
    by_cases q : k = i
    · subst q
      simp [h1]
    · simp [q]
theorem addOne_len (c2 : Tb) : ∀ (ks : List Int) (acc : Tb), (ks.foldl (addOne c2) acc).length ≤ acc.length + ks.length
  | [], acc => by simp
  | i :: ks, acc => by
    have := addOne_len c2 ks (addOne c2 acc i)
    have := kdfPut_len acc i ((lk i acc).getD 0 + (lk i c2).getD 0)
    simp only [List.foldl_cons, List.length_cons]
    unfold addOne at *
    omega
/-- a dict of ints by ints, to change -/
noncomputable def tabC (prog : Program) (w : World) (c : Tb) : Cell := .dc fun o => TabO prog w o c
section
variable {prog : Program} {w : World} {A : Around} {z : Shared} {g h : Heap} {L : Addr} {m : Str → Option Value} {led : Led} {env : Env} {K : Frag} {ro : List (Addr × Obj)}
theorem Ow.thaw {d : Addr} {o : Obj} {P : Obj → Prop} (O : Ow g L h ((d, isObj o) :: led)) (hn : ∀ e ∈ led, e.1 ≠ d) (p : P o) : Ow g L h ((d, .dc P) :: led) := by
  refine ⟨⟨⟨fun e he => ?_⟩, fun e he => ?_, List.pairwise_cons.mpr ⟨fun e he e2 => absurd e2.symm (hn e he), (List.pairwise_cons.mp O.nd).2⟩⟩, fun e he => ?_⟩
  · rcases List.mem_cons.mp he with rfl | he
    · exact ⟨o, O.obj (List.mem_cons_self ..), p⟩
    · exact O.has.get e (List.mem_cons_of_mem _ he)
  · rcases List.mem_cons.mp he with rfl | he
    · exact O.own.off (d, isObj o) (List.mem_cons_self ..)
    · exact O.own.off e (List.mem_cons_of_mem _ he)
  · rcases List.mem_cons.mp he with rfl | he
    · exact O.ne (d, isObj o) (List.mem_cons_self ..)
    · exact O.ne e (List.mem_cons_of_mem _ he)
theorem tab_dc {d : Addr} {c : Tb} (O : Ow g L h led) (hm : (d, tabC prog w c) ∈ led) (lo : (d == sysModules) = false) : IntTab prog w h d (kdfD c) := by
  obtain ⟨o, e, kvs, hd, hf⟩ := O.get hm
  exact TabAt.ofObj lo e hd hf
theorem W_getM {d : Addr} {c : Tb} {pl : Sem Bool} {Q : Value × List Value → Heap → Prop} (T : IntTab prog w h d (kdfD c)) (q : Q (.builtin "dict.get", [.ref d]) h) : Wp (model prog w) A z (getMethod (.ref d) "get" pl) Q h := fun tk => by
  obtain ⟨lo, kvs, hD, hf⟩ := T
  exact getMethod_builtin (s := St z h tk) hD.typeIs PySem.F.plainAttrs_dict PySem.F.slot_dict_get PySem.F.type_dict_get hD.mapOf.noDict ⟨h, tk, rfl, q⟩
theorem W_get2 {d : Addr} {c : Tb} {k e : Int} {t u : Tok} {Q : Value → Heap → Prop} (T : IntTab prog w h d (kdfD c)) (q : ∀ t, Q (.int ((lk k c).getD e) t) h) : Wp (model prog w) A z (call (.builtin "dict.get") [.ref d, .int k t, .int e u]) Q h := fun tk =>
  kdf_get2 (s := St z h tk) T fun t => ⟨h, _, rfl, by rw [look_lk]; exact q t⟩
theorem W_tset {d : Addr} {c : Tb} {k v : Int} {t u : Tok} {rest : Led} {Q : Unit → Heap → Prop} (F : Fr g L h m) (O : Ow g L h ((d, tabC prog w c) :: rest)) (hc : c.length ≤ 1000) (q : ∀ h', Fr g L h' m → Ow g L h' ((d, tabC prog w (kdfPut c k v)) :: rest) → Q () h') :
    Wp (model prog w) A z (setItem (.ref d) (.int k t) (.int v u)) Q h := fun tk => by
  obtain ⟨o, e, kvs, hd, hf⟩ := O.get (List.mem_cons_self ..)
  have nd := List.pairwise_cons.mp O.nd
  have ne := O.ne (d, tabC prog w c) (List.mem_cons_self ..)
  have off := O.own.off (d, tabC prog w c) (List.mem_cons_self ..)
  have hl : kvs.length ≤ sizeLine := by
    have := congrArg List.length (flat_keys hf)
    simp only [List.length_map] at this
    have : (1000 : Nat) ≤ sizeLine := by decide
    omega
  refine wpAny_setItem_pairs (s := St z h tk) (hsz := hl) (k := k) (by simp [PySem.intKind, Value.isInt]) (Heap.dictOf_iff.mpr ⟨o, e, hd⟩) fun h' hm hs => ?_
  obtain ⟨o', ho', hd'⟩ := Heap.dictOf_iff.mp hm
  have keep : ∀ b, b ≠ d → h'.get? b = h.get? b := fun b hb => hs.2 b hb
  have F' : Fr g L h' m := ⟨F.ns.sameBut hs (Ne.symm ne), fun b ob e => (keep b fun q => by rw [q, off] at e; cases e).trans (F.keep b ob e), F.above⟩
  have hf' := hf.stored PyProof.V.same_int k (PyProof.V.Flat.int v u)
  rw [kdfD_put] at hf'
  refine ⟨h', tk + 1, rfl, q h' F' ⟨⟨⟨fun p hp => ?_⟩, fun p hp => ?_, List.pairwise_cons.mpr ⟨fun q hq e => (nd.1 q hq e).1.elim, nd.2⟩⟩, fun p hp => ?_⟩⟩
  · rcases List.mem_cons.mp hp with rfl | hp
    · exact ⟨o', ho', _, hd', hf'⟩
    · obtain ⟨x, e, px⟩ := O.has.get p (List.mem_cons_of_mem _ hp)
      exact ⟨x, (keep p.1 fun e => (nd.1 p hp e.symm).1.elim).trans e, px⟩
  · rcases List.mem_cons.mp hp with rfl | hp
    · exact off
    · exact O.own.off p (List.mem_cons_of_mem _ hp)
  · rcases List.mem_cons.mp hp with rfl | hp
    · exact ne
    · exact O.ne p (List.mem_cons_of_mem _ hp)
end
end Mine
end
section
set_option maxRecDepth 10000
namespace Mine
section
variable {prog : Program} {w : World} {A : Around} {z : Shared} {g h : Heap} {L : Addr} {m : Str → Option Value} {led : Led} {env : Env} {K : Frag} {ro : List (Addr × Obj)}
  {qual : Str} {scope : Scope} {fa : Addr} {cdv : Value} {cl : List (Str × Addr)}
theorem pair_ok {cs : Scope} {cc : List (Str × Addr)} {x : Str} {ifs : List Expr} {e : Expr} {px pos : Pos} {kk : Nat} {src : List Int} {p : Int → Bool} {f : Int → Int} (hx : x ≠ "__debug__")
    (tests : ∀ C h2 m2 k v, k ∈ src → isInt k v → h2.Ns C m2 → m2 x = some v → Fr g L h2 m → Ow g L h2 led → Wp (model prog w) A z (testsOf ifs (compEnvC cs cc C env)) (fun ok h3 => ok = p k ∧ Kp h2 h3) h2)
    (val : ∀ C h2 m2 k v, k ∈ src → isInt k v → p k = true → h2.Ns C m2 → m2 x = some v → Fr g L h2 m → Ow g L h2 led → Wp (model prog w) A z (eval e (compEnvC cs cc C env)) (fun y h3 => isInt (f k) y ∧ h3 = h2) h2)
    (hk : ∀ C, (compEnvC cs cc C env).scope.kind = .function := by intro _; rfl) (hl : ∀ C, (compEnvC cs cc C env).kindOf x = some .local := by intro _; rfl)
    (hs1 : ∀ C, starEach [.Name x px, e] (compEnvC cs cc C env) = (false, eval (.Name x px) (compEnvC cs cc C env)) :: starEach [e] (compEnvC cs cc C env) := by intro _; rfl) (hs2 : ∀ C, starEach [e] (compEnvC cs cc C env) = (false, eval e (compEnvC cs cc C env)) :: starEach [] (compEnvC cs cc C env) := by intro _; rfl) :
    CompOk prog w A z env cs cc x ifs (.Tuple [.Name x px, e] kk pos) src p (PairFF f) g L led m where
  tests := tests
  elts := fun C h2 m2 k v hk2 hv hp hn hm F O => fun tk => by
    have W : Wp (model prog w) A z (spliced (backTo pos (starEach [.Name x px, e] (compEnvC cs cc C env)))) (fun vs h3 => ∃ b, vs = [v, b] ∧ isInt (f k) b ∧ h3 = h2) h2 :=
      W_argsC (W_ck hn hm (W_argsC ((val C h2 m2 k v hk2 hv hp hn hm F O).mono fun b h3 q => W_argsN ⟨b, rfl, q.1, q.2⟩) (hs2 C)) (hk C) (hl C) (by simpa using hx)) (hs1 C)
    refine wpAny_Tuple (W.go (fun vs h3 t3 q => ?_) tk)
    obtain ⟨b, rfl, ib, rfl⟩ := q
    refine ⟨by show (2 : Nat) ≤ sizeLine; decide, _, t3, rfl, ⟨[(h3.objs.size, tupO v b)], ⟨_, v, b, rfl, rfl, hv, ib⟩, fun q hq => ?_⟩, Kp.push _⟩
    rcases List.mem_singleton.mp hq with rfl
    exact ⟨Heap.get?_push_size _ rfl, Nat.le_refl _⟩
/-- dict([(k, e) for k in it if t]) -/
theorem W_dictComp {iter elt : Expr} {x : Str} {px : Pos} {ifs : List Expr} {cs : Scope} {cc : List (Str × Addr)} {cpos p1 p2 : Pos} {src : List Int} {p : Int → Bool} {f : Int → Int} {Q : Value → Heap → Prop} (k : KOk K) (R : A.handled = none) (G : Gd K ro g) (F : Fr g L h m) (O : Ow g L h led) (hnd : src.Nodup) (hsrc : src.length ≤ 1000)
    (it : Wp (model prog w) A z (eval iter (envX qual scope L fa cdv cl)) (fun xv h1 => Kp h h1 ∧ IterOk prog w A z h1 xv src) h)
    (ok : CompOk prog w A z (envX qual scope L fa cdv cl) cs cc x ifs elt src p (PairFF f) g L led m)
    (q : ∀ s o h', (s == sysModules) = false → (∀ e ∈ led, e.1 < s) → TabO prog w o ((src.filter p).map fun k => (k, f k)) → Fr g L h' m → Ow g L h' ((s, isObj o) :: led) → Q (.ref s) h')
    (hclos : closureFor cs (envX qual scope L fa cdv cl) = pure cc := by rfl) (hcell : ∀ y ∈ cs.names, y.2 ≠ .cell := by decide) (hkind : cs.kind = .function := by rfl)
    (hnames : ∀ y ∈ cs.names, y.2 = .local → cs.names.lookup y.1 = some .local := by decide) (hx : cs.names.lookup x = some .local := by rfl)
    (hs : ∀ x, foldedSetIterable iter (envX qual scope L fa cdv cl) x = pure x := by intro _; rfl)
    (hk : scope.kind = .function := by rfl) (hb : (envX qual scope L fa cdv cl).kindOf "dict" = some .globalImplicit := by rfl) :
    Wp (model prog w) A z (eval (.Call (.Name "dict" p1) [.ListComp elt [⟨.Name x px, iter, ifs, 0⟩] cs cpos] [] p2) (envX qual scope L fa cdv cl)) Q h := by
  refine W_fcall (W_builtin F G (k.blt _ (at_ 5 rfl)) (v := .type "dict") (by decide +kernel) (by decide) (W_callT (W_argsC (W_comp src p (PairFF f) hsrc F O it ok (fun D n ys xs h1 lt F1 O1 M => W_argsN ?_) hclos hcell hkind hnames hx hs))) hk hb)
  have hp : PairsOf h1 ys.toList ((src.filter p).map fun k => (k, f k)) := made_pairs M fun q hq => O1.obj (List.mem_append_left _ (List.mem_map_of_mem (f := fun p : Addr × Obj => (p.1, isObj p.2)) (List.mem_cons_of_mem _ hq)))
  have hid : (((src.filter p).map fun k => (k, f k)).map (·.1)) = src.filter p := by rw [List.map_map]; exact List.map_id'' (fun _ => rfl) _
  refine W_dictOf (n := n) R G F1 O1 (List.mem_append_left _ (List.mem_cons_self ..)) hp ?_ ?_ fun s o h2 sm lt2 T F2 O2 => ?_
  · rw [hid]; exact hnd.sublist List.filter_sublist
  · rw [List.length_map]; exact Nat.le_trans (List.length_filter_le _ _) hsrc
  · have O3 := O2.perm (ledPerm [[(s, isObj o)], exL ((D, listOf ys n) :: xs), led] [0, 1, 2] [1, 0, 2])
    exact q s o h2 sm (fun e he => lt2 e (List.mem_append_right _ he)) T F2 (Ow.right (a := exL ((D, listOf ys n) :: xs)) O3)
theorem iter_tab {d : Addr} {c : Tb} (hh : A.handled = none) (O : Ow g L h led) (T : DTab prog w led d c) : IterOn prog w A z h (.ref d) (c.map (·.1)) [d] := by
  obtain ⟨o, m, lo, T⟩ := T
  exact iter_dict hh lo (O.obj m) T
end
end Mine
end
section
set_option maxRecDepth 10000
namespace Mine
variable {prog : Program} {w : World} {K : Frag} {ro : List (Addr × Obj)}
/-- a table's words on the keys of dicts: small -/
structure Small (c : Tb) : Prop where
  nd : (c.map (·.1)).Nodup
  len : c.length ≤ 12
/-- the sum of two tables, key by key -/
noncomputable def SumLk (a b : Option Int) : Option Int := if a.isSome || b.isSome then some (a.getD 0 + b.getD 0) else none
theorem lk_keys (f : Int → Int) (k : Int) : ∀ ks : List Int, lk k (ks.map fun i => (i, f i)) = if k ∈ ks then some (f k) else none
  | [] => by simp [lk_nil]
  | i :: ks => by
    rw [List.map_cons, lk_cons, lk_keys f k ks]
    by_cases h : k = i
    · subst h; simp
    · simp [h]
theorem lk_self (c : Tb) (k : Int) : lk k ((c.map (·.1)).map fun i => (i, (lk i c).getD 0)) = lk k c := by
  rw [lk_keys]
  cases h : lk k c with
  | none => rw [if_neg fun q => by rw [← lk_isSome, h] at q; cases q]
  | some v => rw [if_pos (lk_isSome.mp (by rw [h]; rfl))]; rfl
theorem map_keys (f : Int → Int) (ks : List Int) : (ks.map fun i => (i, f i)).map (·.1) = ks := by rw [List.map_map]; exact List.map_id'' (fun _ => rfl) _
theorem law_sum (k : KOk K) {s1 s2 : Addr} {c1 c2 : Tb} {j : Nat} {rest : Led} (h1 : DTab prog w rest s1 c1) (h2 : DTab prog w rest s2 c2) (m1 : Small c1) (m2 : Small c2) :
    Does prog w K [] (j + 1) (.ref f_law_sum) [.ref s1, .ref s2] [] rest fun v l => ∃ s o c, v = .ref s ∧ l = (s, isObj o) :: rest ∧ (s == sysModules) = false ∧ TabO prog w o c ∧ (c.map (·.1)).Nodup ∧ ∀ i, lk i c = SumLk (lk i c1) (lk i c2) := by
  refine does_enterC k.fn_law_sum [("scores", .ref s1), ("others", .ref s2)] (fun s _ _ _ _ _ _ _ => BindsTo.of_eq rfl) (fun n x hx => ?_) (by decide +kernel) ?_
  · simp only [List.mem_cons, List.not_mem_nil, or_false] at hx
    rcases hx with rfl | rfl
    · exact .inr ⟨rfl, rfl⟩
    · exact .inl rfl
  intro A z g L h R G F O
  have O : Ow g L h ((L + 1, cellC (some (.ref s1))) :: rest) := O
  have hs1 : DTab prog w ((L + 1, cellC (some (.ref s1))) :: rest) s1 c1 := h1.lift fun e he => List.mem_cons_of_mem _ he
  refine W_cons (W_assign (g := g) (W_dictComp (src := c1.map (·.1)) (p := fun _ => true) (f := fun i => (lk i c1).getD 0) k R.1 G F O m1.nd (by rw [List.length_map]; have := m1.len; omega) (W_nameC (c := L + 1) O (List.mem_cons_self ..) ⟨Kp.refl, [s1], iter_tab R.1 O hs1⟩ rfl) (pair_ok (by decide) (fun C h2 m2 k v hk hv hn hx F O => W_noIf ⟨rfl, Kp.refl⟩) fun C h2 m2 k v hk hv _ hn hx F O => ?_) fun s o h sm lt T F O => ?_))
  · obtain ⟨tv, rfl⟩ := hv
    exact W_subscr (W_cc (c := L + 1) O (List.mem_cons_self ..) (W_ck hn hx (W_ditem (hs1.tab O) (by rw [has_lk]; exact lk_isSome.mpr hk) fun t => ⟨⟨t, by rw [look_lk]⟩, rfl⟩)) rfl)
  have hfilt : (c1.map (·.1)).filter (fun _ => true) = c1.map (·.1) := List.filter_eq_self.mpr fun _ _ => rfl
  rw [hfilt] at T
  have O := O.thaw (P := fun o => TabO prog w o ((c1.map (·.1)).map fun i => (i, (lk i c1).getD 0))) (fun e he => Nat.ne_of_lt (lt e he)) T
  refine ⟨_, _, F, O, fun h F O => ?_⟩
  generalize hc0 : ((c1.map (·.1)).map fun i => (i, (lk i c1).getD 0)) = c0 at T O
  have k0 : (c0.map (·.1)).Nodup := by rw [← hc0, map_keys]; exact m1.nd
  have l0 : c0.length ≤ 12 := by rw [← hc0, List.length_map, List.length_map]; exact m1.len
  have e0 : ∀ i, lk i c0 = lk i c1 := fun i => by rw [← hc0]; exact lk_self c1 i
  have hs2 : ∀ X, DTab prog w (X :: (L + 1, cellC (some (.ref s1))) :: rest) s2 c2 := fun X => h2.lift fun e he => List.mem_cons_of_mem _ (List.mem_cons_of_mem _ he)
  refine W_cons (W_for (g := g) (c2.map (·.1)) [s2] (fun i m led => m "found" = some (.ref s) ∧ m "others" = some (.ref s2) ∧ led = (s, tabC prog w (((c2.map (·.1)).take i).foldl (addOne c2) c0)) :: (L + 1, cellC (some (.ref s1))) :: rest)
    (W_name F rfl ⟨_, _, F, O, ⟨rfl, rfl, rfl⟩, iter_tab R.1 O (hs2 _)⟩) (fun a ha => ?_) (fun i kk v m1' led1 I oI h ek ik ji F O => ?_) fun m2' led2 h F O ji => ?_)
  · rcases List.mem_singleton.mp ha with rfl
    obtain ⟨o2, hm, _⟩ := h2
    exact ⟨o2, fun i m led ji => by rw [ji.2.2]; exact List.mem_cons_of_mem _ (List.mem_cons_of_mem _ hm)⟩
  · obtain ⟨j1, j2, rfl⟩ := ji
    obtain ⟨tv, rfl⟩ := ik
    have hmem : kk ∈ c2.map (·.1) := List.mem_of_getElem? ek
    have hlt : i < (c2.map (·.1)).length := (List.getElem?_eq_some_iff.mp ek).1
    have f1 : (upd m1' "k" (.int kk tv)) "found" = some (.ref s) := (upd_ne (by decide)).trans j1
    have f2 : (upd m1' "k" (.int kk tv)) "others" = some (.ref s2) := (upd_ne (by decide)).trans j2
    have f3 : (upd m1' "k" (.int kk tv)) "k" = some (.int kk tv) := upd_same
    have T1 : IntTab prog w h s (kdfD (((c2.map (·.1)).take i).foldl (addOne c2) c0)) := tab_dc O (List.mem_cons_of_mem _ (List.mem_cons_self ..)) sm
    have T2 : IntTab prog w h s2 (kdfD c2) := DTab.tab (h2.lift fun e he => List.mem_cons_of_mem _ (List.mem_cons_of_mem _ (List.mem_cons_of_mem _ he))) O
    have hlen : (((c2.map (·.1)).take i).foldl (addOne c2) c0).length ≤ 1000 := by
      have h1 := addOne_len c2 ((c2.map (·.1)).take i) c0
      have h2 := m2.len
      have h3 : ((c2.map (·.1)).take i).length ≤ c2.length := by rw [List.length_take, List.length_map]; exact Nat.min_le_right _ _
      omega
    have hstep : ((c2.map (·.1)).take (i + 1)).foldl (addOne c2) c0 = addOne c2 (((c2.map (·.1)).take i).foldl (addOne c2) c0) kk := by
      rw [List.take_add_one, ek, List.foldl_append]; rfl
    refine W_cons (W_assignSub (W_bin (W_mcall (W_name F f1 (W_getM T1 (W_callB (W_argsC (W_name F f3 (W_argsC (W_cint fun t => W_argsN ?_))))))))))
    refine W_get2 T1 fun t => W_subscr (W_name F f2 (W_name F f3 ?_))
    refine W_ditem T2 (by rw [has_lk]; exact lk_isSome.mpr hmem) fun t => W_add fun t => W_name F f1 (W_name F f3 ?_)
    have O := O.perm (ledPerm [[(I, dcO oI)], [(s, tabC prog w (((c2.map (·.1)).take i).foldl (addOne c2) c0))], (L + 1, cellC (some (.ref s1))) :: rest] [0, 1, 2] [1, 0, 2])
    rw [look_lk]
    refine W_tset F O hlen fun h F O => W_nil ⟨_, _, F, O.perm (ledPerm [[(s, tabC prog w _)], [(I, dcO oI)], (L + 1, cellC (some (.ref s1))) :: rest] [0, 1, 2] [1, 0, 2]), f1, f2, ?_⟩
    rw [hstep]; rfl
  · obtain ⟨j1, j2, rfl⟩ := ji
    rw [List.take_of_length_le (Nat.le_refl _)] at O
    obtain ⟨a1, a2⟩ := addOne_fold c2 (c2.map (·.1)) c0 m2.nd k0
    obtain ⟨o', To, O⟩ := O.freeze
    refine W_cons (W_ret (W_name F j1 ⟨_, (s, isObj o') :: rest, F, Ow.right (a := [(L + 1, cellC (some (.ref s1)))]) (O.perm (ledPerm [[(s, isObj o')], [(L + 1, cellC (some (.ref s1)))], rest] [0, 1, 2] [1, 0, 2])), s, o', _, rfl, rfl, sm, To, a1, fun i => ?_⟩))
    rw [a2, e0]
    unfold SumLk
    by_cases q : i ∈ c2.map (·.1)
    · rw [if_pos q, if_pos (by rw [lk_isSome.mpr q]; simp)]
    · rw [if_neg q]
      have : lk i c2 = none := by
        cases r : lk i c2 with
        | none => rfl
        | some _ => exact absurd (lk_isSome.mp (by rw [r]; rfl)) q
      rw [this]
      cases lk i c1 <;> simp
end Mine
end
section
set_option maxRecDepth 10000
namespace Mine
/-! ## what the tables of the nodes say of a key -/
theorem lk_comp (c : Tb) (p : Int → Bool) (f : Int → Int) (k : Int) : lk k (((c.map (·.1)).filter p).map fun i => (i, f i)) = if (lk k c).isSome && p k then some (f k) else none := by
  rw [lk_keys]
  by_cases h : k ∈ (c.map (·.1)).filter p
  · obtain ⟨h1, h2⟩ := List.mem_filter.mp h
    rw [if_pos h, if_pos (by rw [lk_isSome.mpr h1, h2]; rfl)]
  · rw [if_neg h, if_neg fun q => ?_]
    simp only [Bool.and_eq_true] at q
    exact h (List.mem_filter.mpr ⟨lk_isSome.mp q.1, q.2⟩)
theorem lk_mapv (g : Int × Int → Int) (k : Int) : ∀ T : Tb, lk k (T.map fun e => (e.1, g e)) = (lk k T).map fun s => g (k, s)
  | [] => rfl
  | e :: T => by
    rw [List.map_cons, lk_cons, lk_cons, lk_mapv g k T]
    by_cases h : k = e.1
    · rw [if_pos h, if_pos h, h]; rfl
    · rw [if_neg h, if_neg h]
theorem lk_mulT (c k : Int) (T : Tb) : lk k (mulT c T) = (lk k T).map (· * c) := lk_mapv (fun e => e.2 * c) k T
theorem lk_constT (c k : Int) (T : Tb) : lk k (constT c T) = (lk k T).map fun _ => c := lk_mapv (fun _ => c) k T
theorem lk_maybeT (k : Int) (a b : Tb) : lk k (maybeT a b) = (lk k a).map fun s => s + (lk k b).getD 0 := lk_mapv (fun e => e.2 + (lk e.1 b).getD 0) k a
theorem lk_filter (p : Int → Bool) (k : Int) : ∀ T : Tb, lk k (T.filter fun e => p e.1) = if p k then lk k T else none
  | [] => by simp [lk_nil]
  | e :: T => by
    rw [List.filter_cons, lk_cons]
    by_cases h : k = e.1
    · subst h
      by_cases q : p e.1 = true
      · rw [if_pos q, lk_cons, if_pos rfl, if_pos q, if_pos rfl]
      · rw [if_neg q, lk_filter p e.1 T, if_neg q, if_neg q]
    · rw [if_neg h]
      by_cases q : p e.1 = true
      · rw [if_pos q, lk_cons, if_neg h, lk_filter p k T]
      · rw [if_neg q, lk_filter p k T]
theorem lk_diffT (k : Int) (a b : Tb) : lk k (diffT a b) = if (lk k b).isNone then lk k a else none := lk_filter (fun i => (lk i b).isNone) k a
theorem lk_filtT (ids : List Int) (ex : Bool) (k : Int) (a : Tb) : lk k (filtT ids ex a) = if ids.contains k != ex then lk k a else none := lk_filter (fun i => ids.contains i != ex) k a
theorem lk_joinT (f : Int → Int → Int) (k : Int) (b : Tb) : ∀ a : Tb, lk k (joinT f a b) = (lk k a).bind fun s => (lk k b).map fun t => f s t
  | [] => rfl
  | e :: a => by
    rw [joinT_cons, lk_cons]
    have ih := lk_joinT f k b a
    by_cases h : k = e.1
    · subst h
      rw [if_pos rfl]
      cases q : lk e.1 b with
      | none => dsimp only; rw [ih, q]; cases lk e.1 a <;> rfl
      | some t => dsimp only; rw [lk_cons, if_pos rfl]; rfl
    · rw [if_neg h]
      cases q : lk e.1 b with
      | none => exact ih
      | some t => dsimp only; rw [lk_cons, if_neg h]; exact ih
theorem lk_mergeT (k : Int) : ∀ (n : Nat) (a b : Tb), a.length + b.length ≤ n → Srt a → Srt b → lk k (mergeT a b) = SumLk (lk k a) (lk k b) := by
  have e1 : ∀ b : Option Int, SumLk none b = b := fun b => by cases b <;> simp [SumLk]
  have e2 : ∀ a : Option Int, SumLk a none = a := fun a => by cases a <;> simp [SumLk]
  intro n
  induction n with
  | zero =>
    intro a b h _ _
    have ha : a = [] := by cases a <;> simp_all
    subst ha
    rw [mergeT_nil_left, lk_nil, e1]
  | succ n ih =>
    intro a b h sa sb
    match a, b with
    | [], b => rw [mergeT_nil_left, lk_nil, e1]
    | a, [] => rw [mergeT_nil_right, lk_nil, e2]
    | (p, s) :: a, (q, t) :: b =>
      simp only [List.length_cons] at h
      rw [mergeT_cons]
      by_cases h1 : p < q
      · rw [if_pos h1, lk_cons, ih a ((q, t) :: b) (by simp only [List.length_cons]; omega) sa.tail sb, lk_cons k (p, s)]
        by_cases h2 : k = p
        · rw [if_pos h2, if_pos h2]
          have : lk k ((q, t) :: b) = none := lk_head_lt sb fun e T' he => by cases he; show k < q; omega
          rw [this, e2]
        · rw [if_neg h2, if_neg h2]
      · rw [if_neg h1]
        by_cases h3 : q < p
        · rw [if_pos h3, lk_cons, ih ((p, s) :: a) b (by simp only [List.length_cons]; omega) sa sb.tail, lk_cons k (q, t)]
          by_cases h2 : k = q
          · rw [if_pos h2, if_pos h2]
            have : lk k ((p, s) :: a) = none := lk_head_lt sa fun e T' he => by cases he; show k < p; omega
            rw [this, e1]
          · rw [if_neg h2, if_neg h2]
        · have e : p = q := by omega
          subst e
          rw [if_neg h3, lk_cons, ih a b (by omega) sa.tail sb.tail, lk_cons k (p, s), lk_cons k (p, t)]
          by_cases h2 : k = p
          · rw [if_pos h2, if_pos h2, if_pos h2]; rfl
          · rw [if_neg h2, if_neg h2, if_neg h2]
theorem lk_invT (i wt k : Int) (c : Tb) : lk k (invT i wt c) = if (k ∈ (List.range 12).map Int.ofNat ∧ i ≤ k) ∧ (lk k c).isNone = true then some wt else none := by
  have e : invT i wt c = (((List.range 12).map Int.ofNat).filter fun k => decide (i ≤ k ∧ (lk k c).isNone = true)).map fun k => (k, wt) := by
    unfold invT
    generalize List.range 12 = l
    induction l with
    | nil => rfl
    | cons j l ih =>
      rw [List.filterMap_cons, List.map_cons, List.filter_cons]
      by_cases h : i ≤ (j : Int) ∧ (lk (j : Int) c).isNone = true
      · rw [if_pos h]
        have h' : decide (i ≤ Int.ofNat j ∧ (lk (Int.ofNat j) c).isNone = true) = true := decide_eq_true h
        rw [if_pos h', List.map_cons]
        exact congrArg _ ih
      · rw [if_neg h]
        have h' : ¬ decide (i ≤ Int.ofNat j ∧ (lk (Int.ofNat j) c).isNone = true) = true := fun q => h (of_decide_eq_true q)
        rw [if_neg h']
        exact ih
  rw [e, lk_keys (fun _ => wt)]
  by_cases h : (k ∈ (List.range 12).map Int.ofNat ∧ i ≤ k) ∧ (lk k c).isNone = true
  · rw [if_pos h, if_pos (List.mem_filter.mpr ⟨h.1.1, by simp [h.1.2, h.2]⟩)]
  · rw [if_neg h, if_neg fun q => ?_]
    obtain ⟨q1, q2⟩ := List.mem_filter.mp q
    simp only [decide_eq_true_eq] at q2
    exact h ⟨⟨q1, q2.1⟩, q2.2⟩
/-! ## two tables that say the same -/
theorem Same.small {c T : Tb} (s : Same c T) (b : Bd T) : Small c := by
  refine ⟨s.1, ?_⟩
  have hsub : ∀ k ∈ c.map (·.1), k ∈ (List.range 12).map Int.ofNat := fun k hk => by
    have h1 := lk_isSome.mpr hk
    rw [s.2 k] at h1
    obtain ⟨e, he, rfl⟩ := List.mem_map.mp (lk_isSome.mp h1)
    have := b e he
    exact List.mem_map.mpr ⟨e.1.toNat, List.mem_range.mpr (by omega), by show ((e.1.toNat : Nat) : Int) = e.1; omega⟩
  have := List.Nodup.length_le_of_subset s.1 hsub
  simpa using this
theorem Same.mem {c T : Tb} (s : Same c T) (k : Int) : k ∈ c.map (·.1) ↔ k ∈ T.map (·.1) := by rw [← lk_isSome, ← lk_isSome, s.2]
theorem same_comp {c T T' : Tb} (s : Same c T) (p : Int → Bool) (f : Int → Int) (h : ∀ k, lk k T' = if (lk k T).isSome && p k then some (f k) else none) : Same (((c.map (·.1)).filter p).map fun i => (i, f i)) T' :=
  ⟨by rw [map_keys]; exact s.1.sublist List.filter_sublist, fun k => by rw [lk_comp, h, s.2]⟩
end Mine
end
section
set_option maxRecDepth 10000
namespace Mine
variable {prog : Program} {w : World} {K : Frag} {ro : List (Addr × Obj)}
theorem W_gt {A : Around} {z : Shared} {h : Heap} {a b : Int} {t u : Tok} {Q : Value → Heap → Prop} (q : Q (.bool (decide (b < a))) h) : Wp (model prog w) A z (compareOp .Gt (.int a t) (.int b u)) Q h := fun tk => gt_int (s := St z h tk) ⟨h, tk, rfl, q⟩
theorem Made'.mono {row d : Addr} {b b' : Nat} {p : Bool} {n n' : Nat} {rest l : Led} {v : Value} (M : Made' prog w row d b true n rest v l) (hb : b ≤ b') (hn : n ≤ n') : Made' prog w row d b' p n' rest v l := by
  obtain ⟨a', ro, own, fz, t, s, x, c, T, o, h1, h2, h3, h4, h5, h6, h7, h8, h9, h10⟩ := M
  exact ⟨a', ro, own, fz, t, s, x, c, T, o, Nat.le_trans h1 hb, h2, h3, h4, h5, h6, h7, h8, (h9.up hn).weak p, h10⟩
theorem Made'.up {row d : Addr} {b b' : Nat} {p : Bool} {n n' : Nat} {rest l : Led} {v : Value} (M : Made' prog w row d b p n rest v l) (hb : b ≤ b') (hn : n ≤ n') : Made' prog w row d b' p n' rest v l := by
  obtain ⟨a', ro, own, fz, t, s, x, c, T, o, h1, h2, h3, h4, h5, h6, h7, h8, h9, h10⟩ := M
  exact ⟨a', ro, own, fz, t, s, x, c, T, o, Nat.le_trans h1 hb, h2, h3, h4, h5, h6, h7, h8, h9.up hn, h10⟩
theorem Made'.keeps {row d : Addr} {b a : Nat} {p : Bool} {n : Nat} {rest l : Led} {v : Value} (M : Made' prog w row d b p n rest v l) : Keeps ((d, dC prog w row a) :: rest) l := by
  obtain ⟨a', ro, own, fz, t, s, x, c, T, o, h1, h2, _⟩ := M
  rw [h2]
  exact Keeps.dcons fun p hp f => by simp [hp]
theorem ih_all (P : PrOk prog) (k : KOk K) (ro : List (Addr × Obj)) (n : Nat) : IH prog w K ro n := fun p m own x T hlt M => Spec.le (spec_all P k m ro p own x T M) (by omega)
theorem exL_app (a b : List (Addr × Obj)) : exL (a ++ b) = exL a ++ exL b := List.map_append
theorem AllL.app {a b : List (Addr × Obj)} (ha : AllL a) (hb : AllL b) : AllL (a ++ b) := fun p hp => (List.mem_append.mp hp).elim (ha p) (hb p)
/-- the tuple handed back -/
theorem made_ret {g h : Heap} {L : Addr} {m : Str → Option Value} {row d : Addr} {b : Nat} {p : Bool} {n a' : Nat} {rest X drop own : Led} {t s x : Addr} {o : Obj} {c T : Tb} {ro : List (Addr × Obj)} (F : Fr g L h m) (O : Ow g L h ((t, isObj (tupO (.ref x) (.ref s))) :: (s, isObj o) :: X))
    (px : X.Perm (drop ++ ((d, dC prog w row (a' : Nat)) :: (exL ro ++ (own ++ rest))))) (hb : a' ≤ b) (sm : (s == sysModules) = false) (To : TabO prog w o c) (hA : AllL ro) (M : MRep ro p n own x T) (S : Same c T) :
    Ret g L (Made' prog w row d b p n rest) (.ret (.ref t)) h := by
  have O := O.perm ((px.cons _).cons _)
  have O := O.perm (ledPerm [[(t, isObj (tupO (.ref x) (.ref s)))], [(s, isObj o)], drop, [(d, dC prog w row (a' : Nat))], exL ro, own, rest] [0, 1, 2, 3, 4, 5, 6] [2, 3, 4, 5, 0, 1, 6])
  exact ⟨m, _, F, Ow.right (a := drop) O, a', ro, own, [(t, tupO (.ref x) (.ref s)), (s, o)], t, s, x, c, T, o, hb, rfl, rfl, by simp, by simp, sm, To, hA, M, S⟩
/-- numbers of the script that a plain tree asks for, at most -/
noncomputable def cost : Nat → Nat
  | 0 => 2
  | n + 1 => 1 + 2 * cost n
theorem cost_two : ∀ n, 2 ≤ cost n
  | 0 => Nat.le_refl _
  | n + 1 => by have := cost_two n; unfold cost; omega
noncomputable abbrev envP (L : Addr) : Env := envX rf_law_plain.qual (defScope rf_law_plain.st) L f_law_plain rf_law_plain.cdv (cellsFrom (L + 1) (defScope rf_law_plain.st).names [])
/-- a ledger's blocks in a tree -/
noncomputable abbrev Tr := Lean.Data.AC.Expr
noncomputable def trFl (s : Tr) : List Nat := Lean.Data.AC.Expr.rec (fun i => [i]) (fun _ _ s t => s ++ t) s
noncomputable def trEv (bs : List Led) (s : Tr) : Led := Lean.Data.AC.Expr.rec (fun i => bs.getD i []) (fun _ _ s t => s ++ t) s
theorem trEv_fl (bs : List Led) (s : Tr) : trEv bs s = ((trFl s).map fun i => bs.getD i []).flatten := by
  induction s with
  | var i => exact (List.append_nil _).symm
  | op s t hs ht => exact (congr (congrArg _ hs) ht).trans ((congrArg List.flatten List.map_append).trans List.flatten_append).symm
theorem trPerm (bs : List Led) (s t : Tr) (h : (trFl s).isPerm (trFl t) = true := by rfl) : (trEv bs s).Perm (trEv bs t) := by
  rw [trEv_fl, trEv_fl]
  exact ((List.isPerm_iff.mp h).map _).flatten
theorem permTo {X Y : Led} (bs : List Led) (i j : List Nat) (e1 : X = cat (i.map fun k => bs.getD k [])) (e2 : cat (j.map fun k => bs.getD k []) = Y) (h : i.Perm j := by decide) : X.Perm Y := by
  rw [e1, ← e2]; exact ledPerm bs i j h
end Mine
end
section
set_option maxRecDepth 10000
namespace Mine
variable {prog : Program} {w : World} {K : Frag} {ro : List (Addr × Obj)}
section
variable {A : Around} {z : Shared} {g h : Heap} {L : Addr} {m : Str → Option Value} {j : Nat} {d row : Addr} {b a2 n n1 : Nat} {rest : Led} {ro1 fz1 ro2 fz2 : List (Addr × Obj)} {own1 own2 : Led} {s1 x1 s2 x2 : Addr} {d1 T1 d2 T2 : Tb} {o1 o2 : Obj} {kind : Int} {tk : Tok}
/-- a union and its table -/
theorem plain_bin (P : PrOk prog) (k : KOk K) (R : Room A (j + 119)) (G : Gd K [] g) (hn6 : n ≤ 6) (hn1 : n1 + 2 ≤ n) (hb : a2 ≤ b)
    (h51 : (s1, o1) ∈ fz1) (sm1 : (s1 == sysModules) = false) (To1 : TabO prog w o1 d1) (A1 : AllL ro1) (M1 : MRep ro1 true n1 own1 x1 T1) (S1 : Same d1 T1)
    (h52 : (s2, o2) ∈ fz2) (sm2 : (s2 == sysModules) = false) (To2 : TabO prog w o2 d2) (A2 : AllL ro2) (M2 : MRep ro2 true n1 own2 x2 T2) (S2 : Same d2 T2)
    (F : Fr g L h m) (m3 : m "kind" = some (.int kind tk)) (m5 : m "first" = some (.ref x1)) (m6 : m "second" = some (.ref x2))
    (O : Ow g L h ([(L + 3, cellC (some (.ref s2))), (L + 1, cellC (some (.ref s1))), (L + 2, cellC none)] ++ ((d, dC prog w row (a2 : Nat)) :: (exL (ro1 ++ ro2) ++ ((own1 ++ own2) ++ (exL (fz1 ++ fz2) ++ rest)))))) :
    Wp (model prog w) A z (execs ((defBody rf_law_plain.st).drop 7) (envP L)) (Ret g L (Made' prog w row d b true n rest)) h := by
  have hm1 : (s1, isObj o1) ∈ exL (fz1 ++ fz2) := List.mem_map_of_mem (f := fun p : Addr × Obj => (p.1, isObj p.2)) (List.mem_append_left _ h51)
  have hm2 : (s2, isObj o2) ∈ exL (fz1 ++ fz2) := List.mem_map_of_mem (f := fun p : Addr × Obj => (p.1, isObj p.2)) (List.mem_append_right _ h52)
  have sml1 := S1.small M1.ok.2
  have sml2 := S2.small M2.ok.2
  have MA : MRep (ro1 ++ ro2) true n1 own1 x1 T1 := M1.mono fun e he => List.mem_append_left _ he
  have MB : MRep (ro1 ++ ro2) true n1 own2 x2 T2 := M2.mono fun e he => List.mem_append_right _ he
  have AL := A1.app A2
  have ap : ∀ p ∈ ro1 ++ ro2, p.1 ∉ addrs (own1 ++ own2) := apart_of O (fun e he => by first | solve_by_elim -exfalso -symm (maxDepth := 30) [List.Mem.head, List.Mem.tail, List.mem_append_left, List.mem_append_right, he] | simp [he]) (fun e he => by simp only [List.mem_append, List.mem_cons] at he ⊢; exact .inr (.inr (.inr (.inl he)))) AL (noList_app M1.noList M2.noList)
  refine W_cons (W_if (W_tcmp (W_name F m3 (W_cint fun t5 => W_eq (W_truthB ⟨fun c => W_cons (W_ret ?_), fun c => W_nil ?_⟩)))))
  · refine W_tuple2 (g := g) (L := L) (W_fcall (W_global F G k.g_UnionMatcher.1 (W_callWithE G k.g_UnionMatcher.2 (W_argsC (W_name F m5 (W_argsC (W_name F m6 (W_argsN ⟨G.kin.keeps F.keep, Cd.call ?_⟩))))))))
    refine (mk_union (j := j) k x1 x2 (mergeT T1 T2)).useN (R.le (by omega)) G F O ⟨(fun _ h => nomatch h), Nd.nil⟩ fun v nw h F O ⟨dd, x, e, e2⟩ => ?_
    subst e e2
    have O : Ow g L h (nodeC dd x cUnion (φUnion x1 x2 (mergeT T1 T2)) ++ ([(L + 3, cellC (some (.ref s2))), (L + 1, cellC (some (.ref s1))), (L + 2, cellC none)] ++ ((d, dC prog w row (a2 : Nat)) :: (exL (ro1 ++ ro2) ++ ((own1 ++ own2) ++ (exL (fz1 ++ fz2) ++ rest)))))) := O
    refine W_fcall (W_global F G k.g_law_sum.1 (W_callWithE G k.g_law_sum.2 (W_argsC (W_nameC (c := L + 1) (v := .ref s1) O (by first | solve_by_elim -exfalso -symm (maxDepth := 30) [List.Mem.head, List.Mem.tail, List.mem_append_left, List.mem_append_right] | simp) (W_argsC (W_nameC (c := L + 3) (v := .ref s2) O (by first | solve_by_elim -exfalso -symm (maxDepth := 30) [List.Mem.head, List.Mem.tail, List.mem_append_left, List.mem_append_right] | simp) (W_argsN ⟨G.kin.keeps F.keep, Cd.call ?_⟩) rfl)) rfl))))
    have LS := (law_sum (rest := [(s1, isObj o1), (s2, isObj o2)]) (j := j) k (⟨o1, by first | solve_by_elim -exfalso -symm (maxDepth := 30) [List.Mem.head, List.Mem.tail, List.mem_append_left, List.mem_append_right] | simp, sm1, To1⟩ : DTab prog w _ s1 d1) (⟨o2, by first | solve_by_elim -exfalso -symm (maxDepth := 30) [List.Mem.head, List.Mem.tail, List.mem_append_left, List.mem_append_right] | simp, sm2, To2⟩ : DTab prog w _ s2 d2) sml1 sml2).mono (post' := fun v l => ∃ nw, l = nw ++ [(s1, isObj o1), (s2, isObj o2)] ∧ ∃ s o c, v = .ref s ∧ nw = [(s, isObj o)] ∧ (s == sysModules) = false ∧ TabO prog w o c ∧ (c.map (·.1)).Nodup ∧ ∀ i, lk i c = SumLk (lk i d1) (lk i d2)) fun v l ⟨s, o, c, e1, e2, r⟩ => ⟨[(s, isObj o)], e2, s, o, c, e1, rfl, r⟩
    refine LS.useN (R.le (by omega)) G F O ⟨fun e he => ?_, ?_⟩ fun v nw h F O ⟨s, o, c, e1, e2, sm, To, nd, lkc⟩ => ?_
    · simp only [List.mem_cons, List.not_mem_nil, or_false] at he
      rcases he with rfl | rfl <;> simp [hm1, hm2]
    · exact List.pairwise_cons.mpr ⟨fun e he _ => by rcases List.mem_singleton.mp he with rfl; exact ⟨trivial, trivial⟩, List.pairwise_singleton _ _⟩
    subst e1 e2
    refine ⟨_, _, F, O, fun t h F O => made_ret (drop := [(L + 3, cellC (some (.ref s2))), (L + 1, cellC (some (.ref s1))), (L + 2, cellC none)] ++ exL (fz1 ++ fz2)) (own := nodeC dd x cUnion (φUnion x1 x2 (mergeT T1 T2)) ++ (own1 ++ own2)) F O ?_ hb sm To AL (.union (fun q => ⟨q, q⟩) (by omega) (by omega) MA MB) ⟨nd, fun i => ?_⟩⟩
    · exact trPerm [nodeC dd x cUnion (φUnion x1 x2 (mergeT T1 T2)), [(L + 3, cellC (some (.ref s2))), (L + 1, cellC (some (.ref s1))), (L + 2, cellC none)], [(d, dC prog w row (a2 : Nat))], exL (ro1 ++ ro2), own1 ++ own2, exL (fz1 ++ fz2), rest] (.op (.var 0) (.op (.var 1) (.op (.var 2) (.op (.var 3) (.op (.var 4) (.op (.var 5) (.var 6))))))) (.op (.op (.var 1) (.var 5)) (.op (.var 2) (.op (.var 3) (.op (.op (.var 0) (.var 4)) (.var 6)))))
    · rw [lkc, lk_mergeT i _ _ _ (Nat.le_refl _) M1.ok.1 M2.ok.1, S1.2, S2.2]
  have O : Ow g L h ((exL (ro1 ++ ro2) ++ (own1 ++ own2)) ++ ([(L + 3, cellC (some (.ref s2))), (L + 1, cellC (some (.ref s1))), (L + 2, cellC none)] ++ ((d, dC prog w row (a2 : Nat)) :: (exL (fz1 ++ fz2) ++ rest)))) :=
    O.perm (trPerm [[(L + 3, cellC (some (.ref s2))), (L + 1, cellC (some (.ref s1))), (L + 2, cellC none)], [(d, dC prog w row (a2 : Nat))], exL (ro1 ++ ro2), own1 ++ own2, exL (fz1 ++ fz2), rest] (.op (.var 0) (.op (.var 1) (.op (.var 2) (.op (.var 3) (.op (.var 4) (.var 5)))))) (.op (.op (.var 2) (.var 3)) (.op (.var 0) (.op (.var 1) (.op (.var 4) (.var 5))))))
  refine W_cons (W_if (W_tcmp (W_name F m3 (W_cint fun t5 => W_eq (W_truthB ⟨fun c => W_cons (W_ret ?_), fun c => W_nil (W_cons (W_ret ?_))⟩)))))
  · -- intersection
    refine W_tuple2 (g := g) (L := L) (W_fcall (W_global F G k.g_IntersectionMatcher.1 (W_callWithE G k.g_IntersectionMatcher.2 (W_argsC (W_name F m5 (W_argsC (W_name F m6 (W_argsN ⟨G.kin.keeps F.keep, Cd.call ?_⟩))))))))
    refine ((mk_inter (n := n1 + 1) P k (ih_all P k (ro1 ++ ro2) (n1 + 1)) MA MB (Nat.lt_succ_self n1) (Nat.lt_succ_self n1)).lift ap).use (R.le (by omega)) G F O (fun v l q => ?_) fun v l h F O q => ?_
    · obtain ⟨l', e, ⟨dd, y, la', lb', _, e2, q0, _⟩, _⟩ := q
      refine q0.elim fun Ta' Tb' q1 q2 q3 q4 q5 q6 => ?_
      rw [e, e2]
      exact Keeps.exL fun p hp f => by
        rcases List.mem_append.mp hp with hp | hp
        · simp [q5 p hp f]
        · simp [q6 p hp f]
    obtain ⟨l', e, ⟨dd, x, la', lb', e3, e2, q0, _⟩, _⟩ := q
    refine q0.elim fun Ta' Tb' q1 q2 q3 q4 q5 q6 => ?_
    subst e3
    rw [e, e2] at O
    have O : Ow g L h ([(L + 3, cellC (some (.ref s2))), (L + 1, cellC (some (.ref s1))), (L + 2, cellC none)] ++ ((d, dC prog w row (a2 : Nat)) :: (exL (ro1 ++ ro2) ++ ((nodeC dd x cInter (φBi x1 x2) ++ (la' ++ lb')) ++ (exL (fz1 ++ fz2) ++ rest))))) :=
      O.perm (trPerm [exL (ro1 ++ ro2), nodeC dd x cInter (φBi x1 x2) ++ (la' ++ lb'), [(L + 3, cellC (some (.ref s2))), (L + 1, cellC (some (.ref s1))), (L + 2, cellC none)], [(d, dC prog w row (a2 : Nat))], exL (fz1 ++ fz2), rest] (.op (.op (.var 0) (.var 1)) (.op (.var 2) (.op (.var 3) (.op (.var 4) (.var 5))))) (.op (.var 2) (.op (.var 3) (.op (.var 0) (.op (.var 1) (.op (.var 4) (.var 5)))))))
    have hT1 : DTab prog w ([(L + 3, cellC (some (.ref s2))), (L + 1, cellC (some (.ref s1))), (L + 2, cellC none)] ++ ((d, dC prog w row (a2 : Nat)) :: (exL (ro1 ++ ro2) ++ ((nodeC dd x cInter (φBi x1 x2) ++ (la' ++ lb')) ++ (exL (fz1 ++ fz2) ++ rest))))) s1 d1 := ⟨o1, by first | solve_by_elim -exfalso -symm (maxDepth := 30) [List.Mem.head, List.Mem.tail, List.mem_append_left, List.mem_append_right, hm1] | simp [hm1], sm1, To1⟩
    have hT2 : DTab prog w ([(L + 3, cellC (some (.ref s2))), (L + 1, cellC (some (.ref s1))), (L + 2, cellC none)] ++ ((d, dC prog w row (a2 : Nat)) :: (exL (ro1 ++ ro2) ++ ((nodeC dd x cInter (φBi x1 x2) ++ (la' ++ lb')) ++ (exL (fz1 ++ fz2) ++ rest))))) s2 d2 := ⟨o2, by first | solve_by_elim -exfalso -symm (maxDepth := 30) [List.Mem.head, List.Mem.tail, List.mem_append_left, List.mem_append_right, hm2] | simp [hm2], sm2, To2⟩
    refine W_dictComp (src := d1.map (·.1)) (p := fun i => kdfHas d2 i) (f := fun i => (lk i d1).getD 0 + (lk i d2).getD 0) k R.1 G F O sml1.nd (by rw [List.length_map]; have := sml1.len; omega) (W_nameC (c := L + 1) (v := .ref s1) O (by first | solve_by_elim -exfalso -symm (maxDepth := 30) [List.Mem.head, List.Mem.tail, List.mem_append_left, List.mem_append_right] | simp) ⟨Kp.refl, [s1], iter_tab R.1 O hT1⟩ rfl) (pair_ok (by decide) (fun C h2 m2 k v hk hv hn hx F O => ?_) fun C h2 m2 k v hk hv hp hn hx F O => ?_) fun s o h sm lt T F O => ?_
    · obtain ⟨tv, rfl⟩ := hv
      exact W_oneIf (W_tcmp (W_ck hn hx (W_cc (c := L + 3) (v := .ref s2) O (by first | solve_by_elim -exfalso -symm (maxDepth := 30) [List.Mem.head, List.Mem.tail, List.mem_append_left, List.mem_append_right] | simp) (W_din (hT2.tab O) (W_truthB ⟨rfl, Kp.refl⟩)) rfl)))
    · obtain ⟨tv, rfl⟩ := hv
      refine W_bin (W_subscr (W_cc (c := L + 1) (v := .ref s1) O (by first | solve_by_elim -exfalso -symm (maxDepth := 30) [List.Mem.head, List.Mem.tail, List.mem_append_left, List.mem_append_right] | simp) (W_ck hn hx (W_ditem (hT1.tab O) (by rw [has_lk]; exact lk_isSome.mpr hk) fun t => ?_)) rfl))
      exact W_subscr (W_cc (c := L + 3) (v := .ref s2) O (by first | solve_by_elim -exfalso -symm (maxDepth := 30) [List.Mem.head, List.Mem.tail, List.mem_append_left, List.mem_append_right] | simp) (W_ck hn hx (W_ditem (hT2.tab O) hp fun t2 => W_add fun t3 => ⟨⟨t3, by rw [look_lk, look_lk]⟩, rfl⟩)) rfl)
    refine ⟨_, _, F, O, fun t h F O => made_ret (drop := [(L + 3, cellC (some (.ref s2))), (L + 1, cellC (some (.ref s1))), (L + 2, cellC none)] ++ exL (fz1 ++ fz2)) (own := nodeC dd x cInter (φBi x1 x2) ++ (la' ++ lb')) F O ?_ hb sm T AL (.inter (by omega) (by omega) q1 q2 q3) (same_comp S1 _ _ fun i => ?_)⟩
    · exact trPerm [[(L + 3, cellC (some (.ref s2))), (L + 1, cellC (some (.ref s1))), (L + 2, cellC none)], [(d, dC prog w row (a2 : Nat))], exL (ro1 ++ ro2), nodeC dd x cInter (φBi x1 x2) ++ (la' ++ lb'), exL (fz1 ++ fz2), rest] (.op (.var 0) (.op (.var 1) (.op (.var 2) (.op (.var 3) (.op (.var 4) (.var 5)))))) (.op (.op (.var 0) (.var 4)) (.op (.var 1) (.op (.var 2) (.op (.var 3) (.var 5)))))
    · rw [q4, lk_joinT, has_lk, S1.2, S2.2]
      cases lk i T1 <;> cases lk i T2 <;> simp
  · -- require
    refine W_tuple2 (g := g) (L := L) (W_fcall (W_global F G k.g_RequireMatcher.1 (W_callWithE G k.g_RequireMatcher.2 (W_argsC (W_name F m5 (W_argsC (W_name F m6 (W_argsN ⟨G.kin.keeps F.keep, Cd.call ?_⟩))))))))
    refine ((mk_req (m := n1 + 1) (n := n1 + 2) P k (ih_all P k (ro1 ++ ro2) (n1 + 1)) (Nat.lt_succ_self _) MA MB (Nat.lt_succ_self n1) (Nat.lt_succ_self n1)).lift ap).use (R.le (by omega)) G F O (fun v l q => ?_) fun v l h F O q => ?_
    · obtain ⟨l', e, ⟨dd, y, dd2, y2, la', lb', _, e2, q0, _⟩, _⟩ := q
      refine q0.elim fun Ta' Tb' q1 q2 q3 q4 q5 q6 => ?_
      rw [e, e2]
      exact Keeps.exL fun p hp f => by
        rcases List.mem_append.mp hp with hp | hp
        · simp [q5 p hp f]
        · simp [q6 p hp f]
    obtain ⟨l', e, ⟨dd, x, dd2, y2, la', lb', e3, e2, q0, _⟩, _⟩ := q
    refine q0.elim fun Ta' Tb' q1 q2 q3 q4 q5 q6 => ?_
    subst e3
    rw [e, e2] at O
    have MX : MRep (ro1 ++ ro2) true n (nodeC dd x cReq (φReq x1 x2 y2) ++ (nodeC dd2 y2 cInter (φBi x1 x2) ++ (la' ++ lb'))) x _ := .req (by omega) (by omega) q1 q2 q3
    generalize nodeC dd x cReq (φReq x1 x2 y2) ++ (nodeC dd2 y2 cInter (φBi x1 x2) ++ (la' ++ lb')) = X at O MX
    have O : Ow g L h ([(L + 3, cellC (some (.ref s2))), (L + 1, cellC (some (.ref s1))), (L + 2, cellC none)] ++ ((d, dC prog w row (a2 : Nat)) :: (exL (ro1 ++ ro2) ++ (X ++ (exL (fz1 ++ fz2) ++ rest))))) :=
      O.perm (trPerm [exL (ro1 ++ ro2), X, [(L + 3, cellC (some (.ref s2))), (L + 1, cellC (some (.ref s1))), (L + 2, cellC none)], [(d, dC prog w row (a2 : Nat))], exL (fz1 ++ fz2), rest] (.op (.op (.var 0) (.var 1)) (.op (.var 2) (.op (.var 3) (.op (.var 4) (.var 5))))) (.op (.var 2) (.op (.var 3) (.op (.var 0) (.op (.var 1) (.op (.var 4) (.var 5)))))))
    have hT1 : DTab prog w ([(L + 3, cellC (some (.ref s2))), (L + 1, cellC (some (.ref s1))), (L + 2, cellC none)] ++ ((d, dC prog w row (a2 : Nat)) :: (exL (ro1 ++ ro2) ++ (X ++ (exL (fz1 ++ fz2) ++ rest))))) s1 d1 := ⟨o1, by first | solve_by_elim -exfalso -symm (maxDepth := 30) [List.Mem.head, List.Mem.tail, List.mem_append_left, List.mem_append_right, hm1] | simp [hm1], sm1, To1⟩
    have hT2 : DTab prog w ([(L + 3, cellC (some (.ref s2))), (L + 1, cellC (some (.ref s1))), (L + 2, cellC none)] ++ ((d, dC prog w row (a2 : Nat)) :: (exL (ro1 ++ ro2) ++ (X ++ (exL (fz1 ++ fz2) ++ rest))))) s2 d2 := ⟨o2, by first | solve_by_elim -exfalso -symm (maxDepth := 30) [List.Mem.head, List.Mem.tail, List.mem_append_left, List.mem_append_right, hm2] | simp [hm2], sm2, To2⟩
    refine W_dictComp (src := d1.map (·.1)) (p := fun i => kdfHas d2 i) (f := fun i => (lk i d1).getD 0) k R.1 G F O sml1.nd (by rw [List.length_map]; have := sml1.len; omega) (W_nameC (c := L + 1) (v := .ref s1) O (by first | solve_by_elim -exfalso -symm (maxDepth := 30) [List.Mem.head, List.Mem.tail, List.mem_append_left, List.mem_append_right] | simp) ⟨Kp.refl, [s1], iter_tab R.1 O hT1⟩ rfl) (pair_ok (by decide) (fun C h2 m2 k v hk hv hn hx F O => ?_) fun C h2 m2 k v hk hv hp hn hx F O => ?_) fun s o h sm lt T F O => ?_
    · obtain ⟨tv, rfl⟩ := hv
      exact W_oneIf (W_tcmp (W_ck hn hx (W_cc (c := L + 3) (v := .ref s2) O (by first | solve_by_elim -exfalso -symm (maxDepth := 30) [List.Mem.head, List.Mem.tail, List.mem_append_left, List.mem_append_right] | simp) (W_din (hT2.tab O) (W_truthB ⟨rfl, Kp.refl⟩)) rfl)))
    · obtain ⟨tv, rfl⟩ := hv
      exact W_subscr (W_cc (c := L + 1) (v := .ref s1) O (by first | solve_by_elim -exfalso -symm (maxDepth := 30) [List.Mem.head, List.Mem.tail, List.mem_append_left, List.mem_append_right] | simp) (W_ck hn hx (W_ditem (hT1.tab O) (by rw [has_lk]; exact lk_isSome.mpr hk) fun t => ⟨⟨t, by rw [look_lk]⟩, rfl⟩)) rfl)
    refine ⟨_, _, F, O, fun t h F O => made_ret (drop := [(L + 3, cellC (some (.ref s2))), (L + 1, cellC (some (.ref s1))), (L + 2, cellC none)] ++ exL (fz1 ++ fz2)) (own := X) F O ?_ hb sm T AL MX (same_comp S1 _ _ fun i => ?_)⟩
    · exact trPerm [[(L + 3, cellC (some (.ref s2))), (L + 1, cellC (some (.ref s1))), (L + 2, cellC none)], [(d, dC prog w row (a2 : Nat))], exL (ro1 ++ ro2), X, exL (fz1 ++ fz2), rest] (.op (.var 0) (.op (.var 1) (.op (.var 2) (.op (.var 3) (.op (.var 4) (.var 5)))))) (.op (.op (.var 0) (.var 4)) (.op (.var 1) (.op (.var 2) (.op (.var 3) (.var 5)))))
    · rw [q4, lk_joinT, has_lk, S1.2, S2.2]
      cases lk i T1 <;> cases lk i T2 <;> simp
end
end Mine
end
section
set_option maxRecDepth 10000
namespace Mine
variable {prog : Program} {w : World} {K : Frag} {ro : List (Addr × Obj)}
section
variable {A : Around} {z : Shared} {g h : Heap} {L : Addr} {m : Str → Option Value} {j : Nat} {d row : Addr} {b a1 C n n1 : Nat} {rest : Led} {ro1 fz1 : List (Addr × Obj)} {own1 : Led} {s1 x1 : Addr} {d1 T1 : Tb} {o1 : Obj} {kind M dp : Int} {tk tM tp : Tok}
theorem plain_rest (P : PrOk prog) (k : KOk K) (R : Room A (j + 119)) (G : Gd K [] g) (hn6 : n ≤ 6) (hn1 : n1 + 2 ≤ n) (hb : a1 + C ≤ b) (hb2 : b ≤ 10000)
    (next : ∀ a td, a + C ≤ 10000 → Does prog w K [] (j + 119) (.ref f_law_plain) [.ref d, .int (dp - 1) td] [] ((d, dC prog w row a) :: rest) (Made' prog w row d (a + C) true n1 rest))
    (h5 : (s1, o1) ∈ fz1) (sm1 : (s1 == sysModules) = false) (To1 : TabO prog w o1 d1) (A1 : AllL ro1) (M1 : MRep ro1 true n1 own1 x1 T1) (S1 : Same d1 T1)
    (kb : 0 < kind) (kb2 : kind < 7)
    (F : Fr g L h m) (m1 : m "d" = some (.ref d)) (m2 : m "deep" = some (.int dp tp)) (m3 : m "kind" = some (.int kind tk)) (m4 : m "number" = some (.int M tM)) (m5 : m "first" = some (.ref x1))
    (O : Ow g L h ([(L + 1, cellC (some (.ref s1)))] ++ ([(L + 3, cellC none), (L + 2, cellC none)] ++ ((d, dC prog w row (a1 : Nat)) :: (exL ro1 ++ (own1 ++ (exL fz1 ++ rest))))))) :
    Wp (model prog w) A z (execs ((defBody rf_law_plain.st).drop 5) (envP L)) (Ret g L (Made' prog w row d b true n rest)) h := by
  have hm : (s1, isObj o1) ∈ exL fz1 := List.mem_map_of_mem (f := fun p : Addr × Obj => (p.1, isObj p.2)) h5
  have hm1 : ∀ X Y : Led, DTab prog w (X ++ (Y ++ ((d, dC prog w row (a1 : Nat)) :: (exL ro1 ++ (own1 ++ (exL fz1 ++ rest)))))) s1 d1 := fun X Y => ⟨o1, by
    have : (s1, isObj o1) ∈ exL fz1 := List.mem_map_of_mem (f := fun p : Addr × Obj => (p.1, isObj p.2)) h5
    simp [this], sm1, To1⟩
  have okT1 := M1.ok
  have sm := S1.small okT1.2
  refine W_cons (W_if (W_tcmp (W_name F m3 (W_cint fun t5 => W_gt (W_truthB ⟨fun c => ?_, fun c => W_nil ?_⟩)))))
  · simp only [decide_eq_true_eq] at c
    -- given
    refine W_cons (W_assignCell (g := g) (c := L + 2) (W_bin (W_cint fun t6 => W_bin (W_name F m4 (W_cint fun t7 => W_mod (by decide) fun t8 => W_add fun t9 => ⟨_, _, none, F, O.perm (ledPerm [[(L + 1, cellC (some (.ref s1)))], [(L + 3, cellC none)], [(L + 2, cellC none)], (d, dC prog w row (a1 : Nat)) :: (exL ro1 ++ (own1 ++ (exL fz1 ++ rest)))] [0, 1, 2, 3] [2, 0, 1, 3]), fun h F O => ?_⟩)))))
    have gb := Int.fmod_nonneg_of_pos M (b := 5) (by decide)
    have gb2 := Int.fmod_lt_of_pos M (b := 5) (by decide)
    generalize hgv : 1 + M.fmod 5 = gv at O
    have gv1 : 1 ≤ gv ∧ gv ≤ 5 := by omega
    have O : Ow g L h ([(L + 2, cellC (some (.int gv t9))), (L + 1, cellC (some (.ref s1)))] ++ ([(L + 3, cellC none)] ++ ((d, dC prog w row (a1 : Nat)) :: (exL ro1 ++ (own1 ++ (exL fz1 ++ rest)))))) := O
    refine W_cons (W_if (W_tcmp (W_name F m3 (W_cint fun t5 => W_eq (W_truthB ⟨fun c => W_cons (W_ret ?_), fun c => W_nil ?_⟩)))))
    · -- boosted
      refine W_tuple2 (g := g) (L := L) (W_makeG F G k.g_WrappingMatcher (W_argsC (W_name F m5 (W_argsN (W_kw1 (W_nameC (c := L + 2) (v := .int gv t9) O (by first | solve_by_elim -exfalso -symm (maxDepth := 30) [List.Mem.head, List.Mem.tail, List.mem_append_left, List.mem_append_right] | simp) (W_kwN ⟨G.kin.keeps F.keep, ?_⟩) rfl))))))
      refine (mk_wrap (j := j) k x1 gv t9).useN (R.le (by omega)) G F O ⟨(fun _ h => nomatch h), Nd.nil⟩ fun v nw h F O ⟨dd, x, e, e2⟩ => ?_
      subst e e2
      have O : Ow g L h (nodeC dd x cWrap (φWrap x1 gv) ++ ([(L + 2, cellC (some (.int gv t9))), (L + 1, cellC (some (.ref s1)))] ++ ([(L + 3, cellC none)] ++ ((d, dC prog w row (a1 : Nat)) :: (exL ro1 ++ (own1 ++ (exL fz1 ++ rest))))))) := O
      have hsT : DTab prog w (nodeC dd x cWrap (φWrap x1 gv) ++ ([(L + 2, cellC (some (.int gv t9))), (L + 1, cellC (some (.ref s1)))] ++ ([(L + 3, cellC none)] ++ ((d, dC prog w row (a1 : Nat)) :: (exL ro1 ++ (own1 ++ (exL fz1 ++ rest))))))) s1 d1 := (hm1 _ _).lift fun e he => List.mem_append_right _ he
      refine W_dictComp (src := d1.map (·.1)) (p := fun _ => true) (f := fun i => (lk i d1).getD 0 * gv) k R.1 G F O sm.nd (by rw [List.length_map]; have := sm.len; omega) (W_nameC (c := L + 1) (v := .ref s1) O (by first | solve_by_elim -exfalso -symm (maxDepth := 30) [List.Mem.head, List.Mem.tail, List.mem_append_left, List.mem_append_right] | simp) ⟨Kp.refl, [s1], iter_tab R.1 O hsT⟩ rfl) (pair_ok (by decide) (fun C h2 m2 k v hk hv hn hx F O => W_noIf ⟨rfl, Kp.refl⟩) fun C h2 m2 k v hk hv _ hn hx F O => ?_) fun s o h sm2 lt T F O => ?_
      · obtain ⟨tv, rfl⟩ := hv
        have e64 : (2 : Int) ^ 64 = 18446744073709551616 := by decide
        refine W_bin (W_subscr (W_cc (c := L + 1) (v := .ref s1) O (by first | solve_by_elim -exfalso -symm (maxDepth := 30) [List.Mem.head, List.Mem.tail, List.mem_append_left, List.mem_append_right] | simp) (W_ck hn hx (W_ditem (hsT.tab O) (by rw [has_lk]; exact lk_isSome.mpr hk) fun t => W_cc (c := L + 2) (v := .int gv t9) O (by first | solve_by_elim -exfalso -symm (maxDepth := 30) [List.Mem.head, List.Mem.tail, List.mem_append_left, List.mem_append_right] | simp) (W_mul (fun t2 => ⟨⟨t2, by rw [look_lk]⟩, rfl⟩) (IntMulOk.of_right (intBits_le_64 (by omega) (by omega)))) rfl)) rfl))
      refine ⟨_, _, F, O, fun t h F O => made_ret (drop := [(L + 2, cellC (some (.int gv t9))), (L + 1, cellC (some (.ref s1))), (L + 3, cellC none)] ++ exL fz1) (own := nodeC dd x cWrap (φWrap x1 gv) ++ own1) F O ?_ (show a1 ≤ b by omega) sm2 T A1 (.wrap (fun q => q) (by omega) (by omega) (by omega) M1) (same_comp S1 _ _ fun i => ?_)⟩
      · exact trPerm [nodeC dd x cWrap (φWrap x1 gv), [(L + 2, cellC (some (.int gv t9))), (L + 1, cellC (some (.ref s1))), (L + 3, cellC none)], [(d, dC prog w row (a1 : Nat))], exL ro1, own1, exL fz1, rest] (.op (.var 0) (.op (.var 1) (.op (.var 2) (.op (.var 3) (.op (.var 4) (.op (.var 5) (.var 6))))))) (.op (.op (.var 1) (.var 5)) (.op (.var 2) (.op (.var 3) (.op (.op (.var 0) (.var 4)) (.var 6)))))
      · rw [lk_mulT, S1.2]
        cases lk i T1 <;> simp
    refine W_cons (W_if (W_tcmp (W_name F m3 (W_cint fun t5 => W_eq (W_truthB ⟨fun c => W_cons (W_ret ?_), fun c => W_nil (W_cons (W_ret ?_))⟩)))))
    · -- the other ones
      refine W_tuple2 (g := g) (L := L) (W_makeG F G k.g_InverseMatcher (W_argsC (W_name F m5 (W_argsC (W_cint fun t12 => W_argsN (W_kw1 (W_nameC (c := L + 2) (v := .int gv t9) O (by first | solve_by_elim -exfalso -symm (maxDepth := 30) [List.Mem.head, List.Mem.tail, List.mem_append_left, List.mem_append_right] | simp) (W_kwN ⟨G.kin.keeps F.keep, ?_⟩) rfl)))))))
      have ap : ∀ p ∈ ro1, p.1 ∉ addrs own1 := apart_of O (fun e he => by first | solve_by_elim -exfalso -symm (maxDepth := 30) [List.Mem.head, List.Mem.tail, List.mem_append_left, List.mem_append_right, he] | simp [he]) (fun e he => by first | solve_by_elim -exfalso -symm (maxDepth := 30) [List.Mem.head, List.Mem.tail, List.mem_append_left, List.mem_append_right, he] | simp [he]) A1 M1.noList
      have O : Ow g L h ((exL ro1 ++ own1) ++ ([(L + 2, cellC (some (.int gv t9))), (L + 1, cellC (some (.ref s1))), (L + 3, cellC none)] ++ ((d, dC prog w row (a1 : Nat)) :: (exL fz1 ++ rest)))) :=
        O.perm (trPerm [[(L + 2, cellC (some (.int gv t9))), (L + 1, cellC (some (.ref s1))), (L + 3, cellC none)], [(d, dC prog w row (a1 : Nat))], exL ro1, own1, exL fz1, rest] (.op (.var 0) (.op (.var 1) (.op (.var 2) (.op (.var 3) (.op (.var 4) (.var 5)))))) (.op (.op (.var 2) (.var 3)) (.op (.var 0) (.op (.var 1) (.op (.var 4) (.var 5))))))
      refine ((mk_inv (n := n1 + 1) (i := 0) (wt := gv) (Z := []) P k (ih_all P k ro1 (n1 + 1)) (Nat.lt_succ_self n1) (Int.le_refl _) M1 t12 t9 (fun b => b) (.inl rfl) (fun _ _ _ _ _ _ _ _ _ => ⟨_, rfl, rfl⟩)).lift ap).use (R.le (by omega)) G F O (fun v l q => ?_) fun v l h F O q => ?_
      · obtain ⟨l', e, ⟨dd, y, tt, jj, lc', _, e2, q0⟩, _⟩ := q
        refine q0.elim fun Tc' q1 q2 q3 q4 q5 q6 => ?_
        rw [e, e2]
        exact Keeps.exL fun p hp f => by first | solve_by_elim -exfalso -symm (maxDepth := 30) [List.Mem.head, List.Mem.tail, List.mem_append_left, List.mem_append_right, q5 p hp f] | simp [q5 p hp f]
      obtain ⟨l', e, ⟨dd, x, tt, jj, lc', e3, e2, q0⟩, _⟩ := q
      refine q0.elim fun Tc' q1 q2 q3 q4 q5 q6 => ?_
      subst e3
      rw [e, e2, List.append_nil] at O
      have O : Ow g L h (((L + 2, cellC (some (.int gv t9))) :: (L + 1, cellC (some (.ref s1))) :: [(L + 3, cellC none)]) ++ ((d, dC prog w row (a1 : Nat)) :: (exL ro1 ++ ((nodeC dd x cInv (φInv x1 tt gv jj) ++ ([(tt, tupC)] ++ lc')) ++ (exL fz1 ++ rest))))) :=
        O.perm (trPerm [exL ro1, nodeC dd x cInv (φInv x1 tt gv jj) ++ ([(tt, tupC)] ++ lc'), [(L + 2, cellC (some (.int gv t9))), (L + 1, cellC (some (.ref s1))), (L + 3, cellC none)], [(d, dC prog w row (a1 : Nat))], exL fz1, rest] (.op (.op (.var 0) (.var 1)) (.op (.var 2) (.op (.var 3) (.op (.var 4) (.var 5))))) (.op (.var 2) (.op (.var 3) (.op (.var 0) (.op (.var 1) (.op (.var 4) (.var 5)))))))
      have hsT : DTab prog w (((L + 2, cellC (some (.int gv t9))) :: (L + 1, cellC (some (.ref s1))) :: [(L + 3, cellC none)]) ++ ((d, dC prog w row (a1 : Nat)) :: (exL ro1 ++ ((nodeC dd x cInv (φInv x1 tt gv jj) ++ ([(tt, tupC)] ++ lc')) ++ (exL fz1 ++ rest))))) s1 d1 := ⟨o1, by first | solve_by_elim -exfalso -symm (maxDepth := 30) [List.Mem.head, List.Mem.tail, List.mem_append_left, List.mem_append_right, hm] | simp [hm], sm1, To1⟩
      refine W_dictComp (src := (List.range 12).map Int.ofNat) (p := fun i => !kdfHas d1 i) (f := fun _ => gv) k R.1 G F O (by decide) (by decide) ?_ (pair_ok (by decide) (fun C h2 m2 k v hk hv hn hx F O => ?_) fun C h2 m2 k v hk hv _ hn hx F O => ?_) fun s o h sm2 lt T F O => ?_
      · exact W_fcall (W_builtin F G (k.blt _ (at_ 4 rfl)) (v := .type "range") (by decide +kernel) (by decide) (W_callT (W_argsC (W_cint fun tk => W_argsN (W_range (n := 12) R.1 (by decide) fun xv h' kp it => ⟨kp, [], it⟩)))))
      · obtain ⟨tv, rfl⟩ := hv
        exact W_oneIf (W_tcmp (W_ck hn hx (W_cc (c := L + 1) (v := .ref s1) O (by first | solve_by_elim -exfalso -symm (maxDepth := 30) [List.Mem.head, List.Mem.tail, List.mem_append_left, List.mem_append_right] | simp) (W_dnotin (hsT.tab O) (W_truthB ⟨rfl, Kp.refl⟩)) rfl)))
      · exact W_cc (c := L + 2) (v := .int gv t9) O (by first | solve_by_elim -exfalso -symm (maxDepth := 30) [List.Mem.head, List.Mem.tail, List.mem_append_left, List.mem_append_right] | simp) ⟨⟨t9, rfl⟩, rfl⟩ rfl
      refine ⟨_, _, F, O, fun t h F O => made_ret (drop := [(L + 2, cellC (some (.int gv t9))), (L + 1, cellC (some (.ref s1))), (L + 3, cellC none)] ++ exL fz1) (own := nodeC dd x cInv (φInv x1 tt gv jj) ++ ([(tt, tupC)] ++ lc')) F O ?_ (show a1 ≤ b by omega) sm2 T A1 (.inv (by omega) (by omega) q1 q3) ⟨?_, fun i => ?_⟩⟩
      · exact trPerm [[(L + 2, cellC (some (.int gv t9))), (L + 1, cellC (some (.ref s1))), (L + 3, cellC none)], [(d, dC prog w row (a1 : Nat))], exL ro1, nodeC dd x cInv (φInv x1 tt gv jj) ++ ([(tt, tupC)] ++ lc'), exL fz1, rest] (.op (.var 0) (.op (.var 1) (.op (.var 2) (.op (.var 3) (.op (.var 4) (.var 5)))))) (.op (.op (.var 0) (.var 4)) (.op (.var 1) (.op (.var 2) (.op (.var 3) (.var 5)))))
      · rw [map_keys (fun _ => gv)]; exact List.Nodup.sublist List.filter_sublist (by decide)
      · rw [q4, lk_invT, lk_keys (fun _ => gv)]
        have e1 : i ∈ ((List.range 12).map Int.ofNat).filter (fun i => !kdfHas d1 i) ↔ (i ∈ (List.range 12).map Int.ofNat ∧ (0 : Int) ≤ i) ∧ (lk i T1).isNone = true := by
          rw [List.mem_filter, has_lk, S1.2]
          refine ⟨fun q => ⟨⟨q.1, ?_⟩, by simpa using q.2⟩, fun q => ⟨q.1.1, by simpa using q.2⟩⟩
          obtain ⟨j', rfl, _⟩ := mem12 q.1
          omega
        by_cases q : i ∈ ((List.range 12).map Int.ofNat).filter (fun i => !kdfHas d1 i)
        · rw [if_pos q, if_pos (e1.mp q)]
        · rw [if_neg q, if_neg fun r => q (e1.mpr r)]
    · -- a constant score
      refine W_tuple2 (g := g) (L := L) (W_makeG F G k.g_ConstantScoreWrapperMatcher (W_argsC (W_name F m5 (W_argsN (W_kw1 (W_nameC (c := L + 2) (v := .int gv t9) O (by first | solve_by_elim -exfalso -symm (maxDepth := 30) [List.Mem.head, List.Mem.tail, List.mem_append_left, List.mem_append_right] | simp) (W_kwN ⟨G.kin.keeps F.keep, ?_⟩) rfl))))))
      refine (mk_const (j := j) k x1 gv t9).useN (R.le (by omega)) G F O ⟨(fun _ h => nomatch h), Nd.nil⟩ fun v nw h F O ⟨dd, x, e, e2⟩ => ?_
      subst e e2
      have O : Ow g L h (nodeC dd x cConst (φConst x1 gv) ++ ([(L + 2, cellC (some (.int gv t9))), (L + 1, cellC (some (.ref s1)))] ++ ([(L + 3, cellC none)] ++ ((d, dC prog w row (a1 : Nat)) :: (exL ro1 ++ (own1 ++ (exL fz1 ++ rest))))))) := O
      have hsT : DTab prog w (nodeC dd x cConst (φConst x1 gv) ++ ([(L + 2, cellC (some (.int gv t9))), (L + 1, cellC (some (.ref s1)))] ++ ([(L + 3, cellC none)] ++ ((d, dC prog w row (a1 : Nat)) :: (exL ro1 ++ (own1 ++ (exL fz1 ++ rest))))))) s1 d1 := ⟨o1, by first | solve_by_elim -exfalso -symm (maxDepth := 30) [List.Mem.head, List.Mem.tail, List.mem_append_left, List.mem_append_right, hm] | simp [hm], sm1, To1⟩
      refine W_dictComp (src := d1.map (·.1)) (p := fun _ => true) (f := fun i => gv) k R.1 G F O sm.nd (by rw [List.length_map]; have := sm.len; omega) (W_nameC (c := L + 1) (v := .ref s1) O (by first | solve_by_elim -exfalso -symm (maxDepth := 30) [List.Mem.head, List.Mem.tail, List.mem_append_left, List.mem_append_right] | simp) ⟨Kp.refl, [s1], iter_tab R.1 O hsT⟩ rfl) (pair_ok (by decide) (fun C h2 m2 k v hk hv hn hx F O => W_noIf ⟨rfl, Kp.refl⟩) fun C h2 m2 k v hk hv _ hn hx F O => ?_) fun s o h sm2 lt T F O => ?_
      · exact W_cc (c := L + 2) (v := .int gv t9) O (by first | solve_by_elim -exfalso -symm (maxDepth := 30) [List.Mem.head, List.Mem.tail, List.mem_append_left, List.mem_append_right] | simp) ⟨⟨t9, rfl⟩, rfl⟩ rfl
      refine ⟨_, _, F, O, fun t h F O => made_ret (drop := [(L + 2, cellC (some (.int gv t9))), (L + 1, cellC (some (.ref s1))), (L + 3, cellC none)] ++ exL fz1) (own := nodeC dd x cConst (φConst x1 gv) ++ own1) F O ?_ (show a1 ≤ b by omega) sm2 T A1 (.const (fun q => q) (by omega) (by omega) M1) (same_comp S1 _ _ fun i => ?_)⟩
      · exact trPerm [nodeC dd x cConst (φConst x1 gv), [(L + 2, cellC (some (.int gv t9))), (L + 1, cellC (some (.ref s1))), (L + 3, cellC none)], [(d, dC prog w row (a1 : Nat))], exL ro1, own1, exL fz1, rest] (.op (.var 0) (.op (.var 1) (.op (.var 2) (.op (.var 3) (.op (.var 4) (.op (.var 5) (.var 6))))))) (.op (.op (.var 1) (.var 5)) (.op (.var 2) (.op (.var 3) (.op (.op (.var 0) (.var 4)) (.var 6)))))
      · rw [lk_constT]
        cases lk i T1 <;> simp
  · simp only [decide_eq_false_iff_not] at c
    refine W_cons (W_unpack2 (g := g) (L := L) R.1 (W_fcall (W_global F G k.g_law_plain.1 (W_callWithE G k.g_law_plain.2 (W_argsC (W_name F m1 (W_argsC (W_bin (W_name F m2 (W_cint fun t5 => W_sub fun t6 => W_argsN ⟨G.kin.keeps F.keep, Cd.call ?_⟩))))))))))
    have O : Ow g L h (((d, dC prog w row (a1 : Nat)) :: rest) ++ ([(L + 1, cellC (some (.ref s1))), (L + 3, cellC none), (L + 2, cellC none)] ++ (exL ro1 ++ (own1 ++ exL fz1)))) :=
      O.perm (trPerm [[(L + 1, cellC (some (.ref s1))), (L + 3, cellC none), (L + 2, cellC none)], [(d, dC prog w row (a1 : Nat))], exL ro1, own1, exL fz1, rest] (.op (.var 0) (.op (.var 1) (.op (.var 2) (.op (.var 3) (.op (.var 4) (.var 5)))))) (.op (.op (.var 1) (.var 5)) (.op (.var 0) (.op (.var 2) (.op (.var 3) (.var 4))))))
    refine (next a1 t6 (by omega)).use R G F O (fun v l q => q.keeps) fun v l h F O q => ?_
    refine q.elim fun a2 ro2 own2 fz2 t2 s2 x2 d2 T2 o2 g1 eL eV g4 g5 sm2 To2 A2 M2 S2 => ?_
    subst eL eV
    have O : Ow g L h (((d, dC prog w row (a2 : Nat)) :: (exL ro2 ++ (own2 ++ (exL fz2 ++ rest)))) ++ ([(L + 1, cellC (some (.ref s1))), (L + 3, cellC none), (L + 2, cellC none)] ++ (exL ro1 ++ (own1 ++ exL fz1)))) := O
    have g4' : (t2, isObj (tupO (.ref x2) (.ref s2))) ∈ exL fz2 := List.mem_map_of_mem (f := fun p : Addr × Obj => (p.1, isObj p.2)) g4
    refine ⟨_, _, t2, .ref x2, .ref s2, rfl, by first | solve_by_elim -exfalso -symm (maxDepth := 30) [List.Mem.head, List.Mem.tail, List.mem_append_left, List.mem_append_right, g4'] | simp [g4'], F, O, fun h F O => W_assignName F O fun h F O => ?_⟩
    refine W_assignC (c := L + 3) F (O.perm (trPerm [(d, dC prog w row (a2 : Nat)) :: (exL ro2 ++ (own2 ++ (exL fz2 ++ rest))), [(L + 1, cellC (some (.ref s1)))], [(L + 3, cellC none)], [(L + 2, cellC none)], exL ro1 ++ (own1 ++ exL fz1)] (.op (.var 0) (.op (.op (.var 1) (.op (.var 2) (.var 3))) (.var 4))) (.op (.var 2) (.op (.var 0) (.op (.var 1) (.op (.var 3) (.var 4))))))) (fun h F O => ?_) rfl
    have O : Ow g L h ([(L + 3, cellC (some (.ref s2))), (L + 1, cellC (some (.ref s1))), (L + 2, cellC none)] ++ ((d, dC prog w row (a2 : Nat)) :: (exL (ro1 ++ ro2) ++ ((own1 ++ own2) ++ (exL (fz1 ++ fz2) ++ rest))))) :=
      by rw [exL_app, exL_app]; exact O.perm (trPerm [[(L + 3, cellC (some (.ref s2)))], [(d, dC prog w row (a2 : Nat))], exL ro2, own2, exL fz2, rest, [(L + 1, cellC (some (.ref s1)))], [(L + 2, cellC none)], exL ro1, own1, exL fz1] (.op (.var 0) (.op (.op (.var 1) (.op (.var 2) (.op (.var 3) (.op (.var 4) (.var 5))))) (.op (.var 6) (.op (.var 7) (.op (.var 8) (.op (.var 9) (.var 10))))))) (.op (.var 0) (.op (.var 6) (.op (.var 7) (.op (.var 1) (.op (.op (.var 8) (.var 2)) (.op (.op (.var 9) (.var 3)) (.op (.op (.var 10) (.var 4)) (.var 5)))))))))
    exact plain_bin P k R G hn6 hn1 (by omega) h5 sm1 To1 A1 M1 S1 g5 sm2 To2 A2 M2 S2 F ((upd_ne (by decide)).trans m3) ((upd_ne (by decide)).trans m5) upd_same O
end
end Mine
end
section
set_option maxRecDepth 10000
namespace Mine
variable {prog : Program} {w : World} {K : Frag} {ro : List (Addr × Obj)}
theorem law_plain0 (P : PrOk prog) (k : KOk K) {d row : Addr} {a : Nat} {ns : List Int} {j : Nat} {rest : Led} {deep : Nat} {td : Tok} (hdeep : deep ≤ 3) (hr : LLst rest row ns) (hn : ns.length ≤ 48) (ha : a + cost deep ≤ 10000)
    (next : 0 < deep → ∀ a td, a + cost (deep - 1) ≤ 10000 → Does prog w K [] (j + 119) (.ref f_law_plain) [.ref d, .int ((deep : Int) - 1) td] [] ((d, dC prog w row a) :: rest) (Made' prog w row d (a + cost (deep - 1)) true (2 * (deep - 1)) rest)) :
    Does prog w K [] (j + 120) (.ref f_law_plain) [.ref d, .int (deep : Int) td] [] ((d, dC prog w row a) :: rest) (Made' prog w row d (a + cost deep) true (2 * deep) rest) := by
  refine does_enterC k.fn_law_plain [("d", .ref d), ("deep", .int deep td)] (fun s _ _ _ _ _ _ _ => BindsTo.of_eq rfl) (fun n x hx => ?_) (by decide +kernel) ?_
  · simp only [List.mem_cons, List.not_mem_nil, or_false] at hx
    rcases hx with rfl | rfl
    · exact .inl rfl
    · exact .inl rfl
  intro A z g L h R G F O
  have O : Ow g L h ([(L + 3, cellC none), (L + 2, cellC none), (L + 1, cellC none)] ++ ((d, dC prog w row a) :: rest)) := O
  have hc2 := cost_two deep
  refine W_cons (W_assign (g := g) (W_fcall (W_global F G k.g_law_cell.1 (W_callWithE G k.g_law_cell.2 (W_argsC (W_name F rfl (W_argsN ⟨G.kin.keeps F.keep, Cd.call ?_⟩)))))))
  refine (law_cell (j := j) k hr hn (by omega)).use (R.le (by omega)) G F (O.perm (ledPerm [[(L + 3, cellC none), (L + 2, cellC none), (L + 1, cellC none)], (d, dC prog w row a) :: rest] [0, 1] [1, 0])) (fun v l q => ?_) fun v l h F O q => ?_
  · rw [q.1]; exact Keeps.refl.dcons
  obtain ⟨rfl, N, ⟨tN, rfl⟩, N0⟩ := q
  refine ⟨_, _, F, O, fun h F O => ?_⟩
  refine W_cons (W_assign (W_bin (W_name F rfl (W_cint fun t1 => W_mod (by decide) fun t2 => ⟨_, _, F, O, fun h F O => ?_⟩))))
  refine W_cons (W_assign (W_bin (W_name F rfl (W_cint fun t3 => W_fdiv (by decide) (by decide) fun t4 => ⟨_, _, F, O, fun h F O => ?_⟩))))
  have O : Ow g L h (((d, dC prog w row (a + 1 : Nat)) :: rest) ++ [(L + 3, cellC none), (L + 2, cellC none), (L + 1, cellC none)]) := O
  have kb := Int.fmod_nonneg_of_pos N (b := 8) (by decide)
  have kb2 := Int.fmod_lt_of_pos N (b := 8) (by decide)
  generalize N.fmod 8 = kind at F kb kb2
  generalize N.fdiv 8 = M at F
  -- a leaf
  have leaf : ∀ p1 p2 p3 pr, Wp (model prog w) A z (exec (.Return (some (.Call (.Name "_law_leaf" p1) [.Name "d" p2] [] p3)) pr) (envX rf_law_plain.qual (defScope rf_law_plain.st) L f_law_plain rf_law_plain.cdv (cellsFrom (L + 1) (defScope rf_law_plain.st).names []))) (fun fl h => match fl with | .ret v => Ret g L (Made' prog w row d (a + cost deep) true (2 * deep) rest) (.ret v) h | _ => False) h := by
    intro p1 p2 p3 pr
    refine W_ret (W_fcall (W_global F G k.g_law_leaf.1 (W_callWithE G k.g_law_leaf.2 (W_argsC (W_name F rfl (W_argsN ⟨G.kin.keeps F.keep, Cd.call ?_⟩))))))
    refine (law_leaf (j := j + 50) k hr hn (by omega)).use (R.le (by omega)) G F O (fun v l q => q.keeps) fun v l h F O q => ?_
    obtain ⟨a', ro, own, fz, t, s, x, c, T, o, h1, h2, h3, r⟩ := (q.up (b' := a + cost deep) (n' := 2 * deep) (by omega) (Nat.zero_le _)).is_
    subst h3
    exact ⟨_, l, F, O.left, a', ro, own, fz, t, s, x, c, T, o, h1, h2, rfl, r⟩
  refine W_cons (W_if (Wp.mono (Q := fun b h1 => b = decide ((deep : Int) = 0 ∨ kind = 0 ∨ kind = 7) ∧ h1 = h) ?_ fun b h1 q => ?_))
  · refine W_tor (W_tcmp (W_name F rfl (W_cint fun t5 => W_eq (W_truthB ⟨fun c => ⟨?_, rfl⟩, fun c => ?_⟩))))
    · simp only [beq_iff_eq] at c
      exact (decide_eq_true (.inl c)).symm
    refine W_tor (W_tcmp (W_name F rfl (W_cint fun t5 => W_eq (W_truthB ⟨fun c2 => ⟨?_, rfl⟩, fun c2 => ?_⟩))))
    · simp only [beq_iff_eq] at c2
      exact (decide_eq_true (.inr (.inl c2))).symm
    refine W_tor (W_tcmp (W_name F rfl (W_cint fun t5 => W_eq (W_truthB ⟨fun c3 => ⟨?_, rfl⟩, fun c3 => W_torN ⟨?_, rfl⟩⟩))))
    · simp only [beq_iff_eq] at c3
      exact (decide_eq_true (.inr (.inr c3))).symm
    · simp only [beq_eq_false_iff_ne, ne_eq] at c c2 c3
      exact (decide_eq_false fun q => q.elim c fun q => q.elim c2 c3).symm
  obtain ⟨e1, e2⟩ := q
  rw [e1, e2]
  clear e1 e2
  refine ⟨fun c => W_cons ((leaf _ _ _ _).mono fun fl h q => ?_), fun c => W_nil ?_⟩
  · cases fl <;> first | exact q.elim | exact q
  simp only [decide_eq_false_iff_not, not_or] at c
  obtain ⟨c1, c2, c3⟩ := c
  have hd : 0 < deep := by omega
  clear leaf
  have hcost : cost deep = 1 + 2 * cost (deep - 1) := by
    have : deep = (deep - 1) + 1 := by omega
    conv => lhs; rw [this]
    rfl
  -- first, scores
  refine W_cons (W_unpack2 (g := g) (L := L) R.1 (W_fcall (W_global F G k.g_law_plain.1 (W_callWithE G k.g_law_plain.2 (W_argsC (W_name F rfl (W_argsC (W_bin (W_name F rfl (W_cint fun t5 => W_sub fun t6 => W_argsN ⟨G.kin.keeps F.keep, Cd.call ?_⟩))))))))))
  refine (next hd (a + 1) t6 (by omega)).use R G F O (fun v l q => q.keeps) fun v l h F O q => ?_
  refine q.elim fun a1 ro1 own1 fz1 t1 s1 x1 d1 T1 o1 h1 eL eV h4 h5 sm1 To1 A1 M1 S1 => ?_
  subst eL eV
  refine ⟨_, _, t1, .ref x1, .ref s1, rfl, ?_, F, O, fun h F O => W_assignName F O fun h F O => ?_⟩
  · simp only [exL, List.mem_append, List.mem_cons, List.mem_map]
    exact .inl (.inr (.inr (.inr (.inl ⟨_, h4, rfl⟩))))
  have O : Ow g L h (((d, dC prog w row (a1 : Nat)) :: (exL ro1 ++ (own1 ++ (exL fz1 ++ rest)))) ++ [(L + 3, cellC none), (L + 2, cellC none), (L + 1, cellC none)]) := O
  refine W_assignC (c := L + 1) F (O.perm (ledPerm [(d, dC prog w row (a1 : Nat)) :: (exL ro1 ++ (own1 ++ (exL fz1 ++ rest))), [(L + 3, cellC none), (L + 2, cellC none)], [(L + 1, cellC none)]] [0, 1, 2] [2, 1, 0])) (fun h F O => ?_) rfl
  have O : Ow g L h ([(L + 1, cellC (some (.ref s1)))] ++ ([(L + 3, cellC none), (L + 2, cellC none)] ++ ((d, dC prog w row (a1 : Nat)) :: (exL ro1 ++ (own1 ++ (exL fz1 ++ rest)))))) := O
  refine plain_rest (tk := t2) (tM := t4) (tp := td) (C := cost (deep - 1)) (n1 := 2 * (deep - 1)) (kind := kind) (dp := (deep : Int)) (M := M) P k R G (by omega) (by omega) (by omega) ha (fun a td ha => next hd a td ha) h5 sm1 To1 A1 M1 S1 (by omega) (by omega) F ?_ ?_ ?_ ?_ ?_ O
  · rfl
  · rfl
  · rfl
  · rfl
  · rfl
theorem law_plain (P : PrOk prog) (k : KOk K) {d row : Addr} {ns : List Int} {rest : Led} (hr : LLst rest row ns) (hn : ns.length ≤ 48) : ∀ (deep : Nat), deep ≤ 3 → ∀ (a : Nat) (td : Tok) (j : Nat), a + cost deep ≤ 10000 →
    Does prog w K [] (j + 120 + deep) (.ref f_law_plain) [.ref d, .int (deep : Int) td] [] ((d, dC prog w row a) :: rest) (Made' prog w row d (a + cost deep) true (2 * deep) rest)
  | 0, hd, a, td, j, ha => (law_plain0 (j := j) (deep := 0) P k hd hr hn ha fun h => absurd h (Nat.lt_irrefl _)).le (by omega)
  | deep + 1, hd, a, td, j, ha => by
    refine (law_plain0 (j := j + 1 + deep) (deep := deep + 1) P k hd hr hn ha fun _ a td ha => ?_).le (by omega)
    have e : ((deep + 1 : Nat) : Int) - 1 = (deep : Int) := by omega
    rw [e]
    exact (law_plain P k hr hn deep (by omega) a td j ha).le (by omega)
end Mine
end
section
set_option maxRecDepth 10000
namespace Mine
variable {prog : Program} {w : World} {K : Frag} {ro : List (Addr × Obj)}
theorem exclude_ (P : PrOk prog) (k : KOk K) {n nc : Nat} {pc : Bool} {xc li : Addr} {ids : List Int} {lc : Led} {Tc : Tb} (I : IH prog w K ro n) (hc : nc < n) (ok : ListOk ro li ids) (MC : MRep ro pc nc lc xc Tc) :
    Does prog w K ro (12 * n + 5) (.ref f_ExcludeMatcher) [.ref xc, .ref li] [] lc fun v l => ∃ d y lc', v = .ref y ∧ l = nodeC d y cFilt (φFilt xc 1 li true) ++ lc' ∧ Fit ro pc nc xc ids true lc Tc lc' := by
  obtain ⟨o, nn, tk, hK, hd⟩ := Df1 k.v_ExcludeMatcher
  refine does_enterV k.fn_ExcludeMatcher hK hd [("child", .ref xc), ("excluded", .ref li), ("boost", .int 1 tk)] (fun _ _ _ _ _ _ => ⟨_, rfl, rfl⟩) (locs rfl) ?_
  intro A z g L h R G F O
  refine W_cons (W_ret (W_makeG F G k.g_FilterMatcher (W_argsC (W_name F rfl (W_argsC (W_name F rfl (W_argsN (W_kw1 (W_cbool (W_kw1 (W_name F rfl (W_kwN ⟨G.kin.keeps F.keep, ?_⟩))))))))))))
  refine (mk_filt P k I hc ok MC tk (fun _ _ _ _ _ _ _ _ => ⟨_, rfl, rfl⟩)).use (rest := []) (R.le (by omega)) G F (by rw [List.append_nil]; exact O) (fun v l ⟨d, y, lc', _, e, q0⟩ => by rw [e]; exact fun p hp f => List.mem_append_right _ (q0.hk p hp f)) fun v l h F O q => ?_
  rw [List.append_nil] at O
  exact ⟨_, _, F, O, q⟩
end Mine
end
section
set_option maxRecDepth 10000
namespace Mine
variable {prog : Program} {w : World} {K : Frag} {ro : List (Addr × Obj)}
noncomputable abbrev envT (L : Addr) : Env := envX rf_law_tree.qual (defScope rf_law_tree.st) L f_law_tree rf_law_tree.cdv (cellsFrom (L + 1) (defScope rf_law_tree.st).names [])
theorem preN_of {d1 T1 d2 T2 : Tb} (S1 : Same d1 T1) (S2 : Same d2 T2) (t1 : Srt T1) {M : Int} (hM : M ∈ d1.map (·.1)) (hM2 : ∀ a ∈ d1.map (·.1), M ≤ a) (h : lk M d2 = none ∨ ∀ a ∈ d2.map (·.1), M ≤ a) : PreN T1 T2 := by
  intro e T' f U e1 e2 hlt
  have he : e.1 = M := by
    have a1 : e.1 ∈ d1.map (·.1) := (S1.mem e.1).mpr (by rw [e1]; simp)
    have a2 : M ∈ T1.map (·.1) := (S1.mem M).mp hM
    obtain ⟨q, hq, rfl⟩ := List.mem_map.mp a2
    have a3 := hM2 _ a1
    rw [e1] at hq t1
    have := head_le t1 q hq
    omega
  rcases h with h | h
  · rw [he, ← S2.2]; exact h
  · have := h f.1 ((S2.mem f.1).mpr (by rw [e2]; simp))
    omega
section
variable {A : Around} {z : Shared} {g h : Heap} {L : Addr} {m : Str → Option Value} {j : Nat} {d row : Addr} {b a2 n n1 n2 : Nat} {rest Z led : Led} {ro1 fz1 ro2 fz2 : List (Addr × Obj)} {own1 own2 : Led} {s1 x1 s2 x2 : Addr} {d1 T1 d2 T2 : Tb} {o1 o2 : Obj} {kind : Int} {tk : Tok} {p2 : Bool}
theorem W_dict0 {env : Env} {pos : Pos} {Q : Value → Heap → Prop} (G : Gd K ro g) (F : Fr g L h m) (O : Ow g L h led) (q : ∀ s h', IntTab prog w h' s (kdfD []) → Fr g L h' m → Ow g L h' led → Q (.ref s) h') : Wp (model prog w) A z (eval (.Dict [] [] pos) env) Q h := fun tk => by
  refine wpAny_Dict_empty (s := St z h tk) ⟨_, tk, rfl, q _ _ ⟨G.low F, [], Heap.DictOf.new h, .nil⟩ (F.keeps (Kp.push _)) (O.kp (Kp.push _))⟩
/-- return (UnionMatcher(first, second), _law_sum(scores, others)) -/
theorem tree_union (k : KOk K) (R : Room A (j + 119)) (G : Gd K [] g) (hn1 : n1 < n) (hn2 : n2 < n) (hb : a2 ≤ b)
    (h51 : (s1, o1) ∈ fz1) (sm1 : (s1 == sysModules) = false) (To1 : TabO prog w o1 d1) (A1 : AllL ro1) (M1 : MRep ro1 false n1 own1 x1 T1) (S1 : Same d1 T1)
    (h52 : (s2, o2) ∈ fz2) (sm2 : (s2 == sysModules) = false) (To2 : TabO prog w o2 d2) (A2 : AllL ro2) (M2 : MRep ro2 p2 n2 own2 x2 T2) (S2 : Same d2 T2)
    (F : Fr g L h m) (m5 : m "first" = some (.ref x1)) (m6 : m "second" = some (.ref x2))
    (O : Ow g L h ([(L + 5, cellC (some (.ref s2))), (L + 2, cellC (some (.ref s1)))] ++ (Z ++ ((d, dC prog w row (a2 : Nat)) :: (exL (ro1 ++ ro2) ++ ((own1 ++ own2) ++ (exL (fz1 ++ fz2) ++ rest)))))))
    (q1 q2 q3 q4 q5 q6 q7 q8 q9 pr : Pos) (kk : Nat) :
    Wp (model prog w) A z (exec (.Return (some (.Tuple [.Call (.Name "UnionMatcher" q1) [.Name "first" q2, .Name "second" q3] [] q4, .Call (.Name "_law_sum" q5) [.Name "scores" q6, .Name "others" q7] [] q8] kk q9)) pr) (envT L)) (fun fl h => ∃ v, fl = .ret v ∧ Ret g L (Made' prog w row d b false n rest) (.ret v) h) h := by
  have hm1 : (s1, isObj o1) ∈ exL (fz1 ++ fz2) := List.mem_map_of_mem (f := fun p : Addr × Obj => (p.1, isObj p.2)) (List.mem_append_left _ h51)
  have hm2 : (s2, isObj o2) ∈ exL (fz1 ++ fz2) := List.mem_map_of_mem (f := fun p : Addr × Obj => (p.1, isObj p.2)) (List.mem_append_right _ h52)
  have sml1 := S1.small M1.ok.2
  have sml2 := S2.small M2.ok.2
  have MA : MRep (ro1 ++ ro2) false n1 own1 x1 T1 := M1.mono fun e he => List.mem_append_left _ he
  have MB : MRep (ro1 ++ ro2) p2 n2 own2 x2 T2 := M2.mono fun e he => List.mem_append_right _ he
  have AL := A1.app A2
  refine W_ret (W_tuple2 (g := g) (L := L) (W_fcall (W_global F G k.g_UnionMatcher.1 (W_callWithE G k.g_UnionMatcher.2 (W_argsC (W_name F m5 (W_argsC (W_name F m6 (W_argsN ⟨G.kin.keeps F.keep, Cd.call ?_⟩)))))))))
  refine (mk_union (j := j) k x1 x2 (mergeT T1 T2)).useN (R.le (by omega)) G F O ⟨(fun _ h => nomatch h), Nd.nil⟩ fun v nw h F O ⟨dd, x, e, e2⟩ => ?_
  subst e e2
  have O : Ow g L h (nodeC dd x cUnion (φUnion x1 x2 (mergeT T1 T2)) ++ ([(L + 5, cellC (some (.ref s2))), (L + 2, cellC (some (.ref s1)))] ++ (Z ++ ((d, dC prog w row (a2 : Nat)) :: (exL (ro1 ++ ro2) ++ ((own1 ++ own2) ++ (exL (fz1 ++ fz2) ++ rest))))))) := O
  refine W_fcall (W_global F G k.g_law_sum.1 (W_callWithE G k.g_law_sum.2 (W_argsC (W_nameC (c := L + 2) (v := .ref s1) O (by first | solve_by_elim -exfalso -symm (maxDepth := 30) [List.Mem.head, List.Mem.tail, List.mem_append_left, List.mem_append_right] | simp) (W_argsC (W_nameC (c := L + 5) (v := .ref s2) O (by first | solve_by_elim -exfalso -symm (maxDepth := 30) [List.Mem.head, List.Mem.tail, List.mem_append_left, List.mem_append_right] | simp) (W_argsN ⟨G.kin.keeps F.keep, Cd.call ?_⟩) rfl)) rfl))))
  have LS := (law_sum (rest := [(s1, isObj o1), (s2, isObj o2)]) (j := j) k (⟨o1, by first | solve_by_elim -exfalso -symm (maxDepth := 30) [List.Mem.head, List.Mem.tail, List.mem_append_left, List.mem_append_right] | simp, sm1, To1⟩ : DTab prog w _ s1 d1) (⟨o2, by first | solve_by_elim -exfalso -symm (maxDepth := 30) [List.Mem.head, List.Mem.tail, List.mem_append_left, List.mem_append_right] | simp, sm2, To2⟩ : DTab prog w _ s2 d2) sml1 sml2).mono (post' := fun v l => ∃ nw, l = nw ++ [(s1, isObj o1), (s2, isObj o2)] ∧ ∃ s o c, v = .ref s ∧ nw = [(s, isObj o)] ∧ (s == sysModules) = false ∧ TabO prog w o c ∧ (c.map (·.1)).Nodup ∧ ∀ i, lk i c = SumLk (lk i d1) (lk i d2)) fun v l ⟨s, o, c, e1, e2, r⟩ => ⟨[(s, isObj o)], e2, s, o, c, e1, rfl, r⟩
  refine LS.useN (R.le (by omega)) G F O ⟨fun e he => ?_, ?_⟩ fun v nw h F O ⟨s, o, c, e1, e2, sm, To, nd, lkc⟩ => ?_
  · simp only [List.mem_cons, List.not_mem_nil, or_false] at he
    rcases he with rfl | rfl <;> simp [hm1, hm2]
  · exact List.pairwise_cons.mpr ⟨fun e he _ => by rcases List.mem_singleton.mp he with rfl; exact ⟨trivial, trivial⟩, List.pairwise_singleton _ _⟩
  subst e1 e2
  refine ⟨_, _, F, O, fun t h F O => ⟨_, rfl, made_ret (drop := [(L + 5, cellC (some (.ref s2))), (L + 2, cellC (some (.ref s1)))] ++ (Z ++ exL (fz1 ++ fz2))) (own := nodeC dd x cUnion (φUnion x1 x2 (mergeT T1 T2)) ++ (own1 ++ own2)) F O ?_ hb sm To AL (.union (fun q => nomatch q) (by omega) (by omega) MA MB) ⟨nd, fun i => ?_⟩⟩⟩
  · exact trPerm [nodeC dd x cUnion (φUnion x1 x2 (mergeT T1 T2)), [(L + 5, cellC (some (.ref s2))), (L + 2, cellC (some (.ref s1)))], Z, [(d, dC prog w row (a2 : Nat))], exL (ro1 ++ ro2), own1 ++ own2, exL (fz1 ++ fz2), rest] (.op (.var 0) (.op (.var 1) (.op (.var 2) (.op (.var 3) (.op (.var 4) (.op (.var 5) (.op (.var 6) (.var 7)))))))) (.op (.op (.var 1) (.op (.var 2) (.var 6))) (.op (.var 3) (.op (.var 4) (.op (.op (.var 0) (.var 5)) (.var 7)))))
  · rw [lkc, lk_mergeT i _ _ _ (Nat.le_refl _) M1.ok.1 M2.ok.1, S1.2, S2.2]
end
end Mine
end
section
set_option maxRecDepth 10000
namespace Mine
variable {prog : Program} {w : World} {K : Frag} {ro : List (Addr × Obj)}
section
variable {A : Around} {z : Shared} {g h : Heap} {L : Addr} {m : Str → Option Value} {j : Nat} {d row : Addr} {b a2 n n1 n2 : Nat} {rest Z led : Led} {ro1 fz1 ro2 fz2 : List (Addr × Obj)} {own1 own2 : Led} {s1 x1 s2 x2 : Addr} {d1 T1 d2 T2 : Tb} {o1 o2 : Obj} {kind : Int} {tk : Tok}
theorem tree_two (P : PrOk prog) (k : KOk K) (R : Room A (j + 119)) (G : Gd K [] g) (hn6 : n ≤ 6) (hn1 : n1 + 2 ≤ n) (hn2 : n2 ≤ n1) (hb : a2 ≤ b)
    (h51 : (s1, o1) ∈ fz1) (sm1 : (s1 == sysModules) = false) (To1 : TabO prog w o1 d1) (A1 : AllL ro1) (M1 : MRep ro1 false n1 own1 x1 T1) (S1 : Same d1 T1)
    (h52 : (s2, o2) ∈ fz2) (sm2 : (s2 == sysModules) = false) (To2 : TabO prog w o2 d2) (A2 : AllL ro2) (M2 : MRep ro2 true n2 own2 x2 T2) (S2 : Same d2 T2)
    (F : Fr g L h m) (m3 : m "kind" = some (.int kind tk)) (m5 : m "first" = some (.ref x1)) (m6 : m "second" = some (.ref x2))
    (O : Ow g L h ([(L + 5, cellC (some (.ref s2))), (L + 2, cellC (some (.ref s1)))] ++ (Z ++ ((d, dC prog w row (a2 : Nat)) :: (exL (ro1 ++ ro2) ++ ((own1 ++ own2) ++ (exL (fz1 ++ fz2) ++ rest))))))) :
    Wp (model prog w) A z (execs ((defBody rf_law_tree.st).drop 9) (envT L)) (Ret g L (Made' prog w row d b false n rest)) h := by
  have hm1 : (s1, isObj o1) ∈ exL (fz1 ++ fz2) := List.mem_map_of_mem (f := fun p : Addr × Obj => (p.1, isObj p.2)) (List.mem_append_left _ h51)
  have hm2 : (s2, isObj o2) ∈ exL (fz1 ++ fz2) := List.mem_map_of_mem (f := fun p : Addr × Obj => (p.1, isObj p.2)) (List.mem_append_right _ h52)
  have sml1 := S1.small M1.ok.2
  have sml2 := S2.small M2.ok.2
  have MA : MRep (ro1 ++ ro2) false n1 own1 x1 T1 := M1.mono fun e he => List.mem_append_left _ he
  have MB : MRep (ro1 ++ ro2) true n1 own2 x2 T2 := (M2.mono fun e he => List.mem_append_right _ he).up hn2
  have AL := A1.app A2
  have ap : ∀ p ∈ ro1 ++ ro2, p.1 ∉ addrs (own1 ++ own2) := apart_of O (fun e he => by first | solve_by_elim -exfalso -symm (maxDepth := 30) [List.Mem.head, List.Mem.tail, List.mem_append_left, List.mem_append_right, he] | simp [he]) (fun e he => by simp only [List.mem_append, List.mem_cons] at he ⊢; exact .inr (.inr (.inr (.inr (.inl he))))) AL (noList_app M1.noList M2.noList)
  have hT1 : ∀ X : Led, DTab prog w ([(L + 5, cellC (some (.ref s2))), (L + 2, cellC (some (.ref s1)))] ++ (Z ++ ((d, dC prog w row (a2 : Nat)) :: (exL (ro1 ++ ro2) ++ (X ++ (exL (fz1 ++ fz2) ++ rest)))))) s1 d1 := fun X => ⟨o1, by first | solve_by_elim -exfalso -symm (maxDepth := 30) [List.Mem.head, List.Mem.tail, List.mem_append_left, List.mem_append_right, hm1] | simp [hm1], sm1, To1⟩
  have hT2 : ∀ X : Led, DTab prog w ([(L + 5, cellC (some (.ref s2))), (L + 2, cellC (some (.ref s1)))] ++ (Z ++ ((d, dC prog w row (a2 : Nat)) :: (exL (ro1 ++ ro2) ++ (X ++ (exL (fz1 ++ fz2) ++ rest)))))) s2 d2 := fun X => ⟨o2, by first | solve_by_elim -exfalso -symm (maxDepth := 30) [List.Mem.head, List.Mem.tail, List.mem_append_left, List.mem_append_right, hm2] | simp [hm2], sm2, To2⟩
  have go : ∀ {X : Led} {h : Heap}, Ow g L h ((exL (ro1 ++ ro2) ++ X) ++ ([(L + 5, cellC (some (.ref s2))), (L + 2, cellC (some (.ref s1)))] ++ (Z ++ ((d, dC prog w row (a2 : Nat)) :: (exL (fz1 ++ fz2) ++ rest))))) → Ow g L h ([(L + 5, cellC (some (.ref s2))), (L + 2, cellC (some (.ref s1)))] ++ (Z ++ ((d, dC prog w row (a2 : Nat)) :: (exL (ro1 ++ ro2) ++ (X ++ (exL (fz1 ++ fz2) ++ rest)))))) := fun {X h} O =>
    O.perm (trPerm [exL (ro1 ++ ro2), X, [(L + 5, cellC (some (.ref s2))), (L + 2, cellC (some (.ref s1)))], Z, [(d, dC prog w row (a2 : Nat))], exL (fz1 ++ fz2), rest] (.op (.op (.var 0) (.var 1)) (.op (.var 2) (.op (.var 3) (.op (.var 4) (.op (.var 5) (.var 6)))))) (.op (.var 2) (.op (.var 3) (.op (.var 4) (.op (.var 0) (.op (.var 1) (.op (.var 5) (.var 6))))))))
  have back : ∀ {h : Heap}, Ow g L h ([(L + 5, cellC (some (.ref s2))), (L + 2, cellC (some (.ref s1)))] ++ (Z ++ ((d, dC prog w row (a2 : Nat)) :: (exL (ro1 ++ ro2) ++ ((own1 ++ own2) ++ (exL (fz1 ++ fz2) ++ rest)))))) → Ow g L h ((exL (ro1 ++ ro2) ++ (own1 ++ own2)) ++ ([(L + 5, cellC (some (.ref s2))), (L + 2, cellC (some (.ref s1)))] ++ (Z ++ ((d, dC prog w row (a2 : Nat)) :: (exL (fz1 ++ fz2) ++ rest))))) := fun {h} O =>
    O.perm (trPerm [exL (ro1 ++ ro2), own1 ++ own2, [(L + 5, cellC (some (.ref s2))), (L + 2, cellC (some (.ref s1)))], Z, [(d, dC prog w row (a2 : Nat))], exL (fz1 ++ fz2), rest] (.op (.var 2) (.op (.var 3) (.op (.var 4) (.op (.var 0) (.op (.var 1) (.op (.var 5) (.var 6))))))) (.op (.op (.var 0) (.var 1)) (.op (.var 2) (.op (.var 3) (.op (.var 4) (.op (.var 5) (.var 6)))))))
  have out : ∀ X : Led, ([(L + 5, cellC (some (.ref s2))), (L + 2, cellC (some (.ref s1)))] ++ (Z ++ ((d, dC prog w row (a2 : Nat)) :: (exL (ro1 ++ ro2) ++ (X ++ (exL (fz1 ++ fz2) ++ rest)))))).Perm (([(L + 5, cellC (some (.ref s2))), (L + 2, cellC (some (.ref s1)))] ++ (Z ++ exL (fz1 ++ fz2))) ++ ((d, dC prog w row (a2 : Nat)) :: (exL (ro1 ++ ro2) ++ (X ++ rest)))) := fun X =>
    trPerm [[(L + 5, cellC (some (.ref s2))), (L + 2, cellC (some (.ref s1)))], Z, [(d, dC prog w row (a2 : Nat))], exL (ro1 ++ ro2), X, exL (fz1 ++ fz2), rest] (.op (.var 0) (.op (.var 1) (.op (.var 2) (.op (.var 3) (.op (.var 4) (.op (.var 5) (.var 6))))))) (.op (.op (.var 0) (.op (.var 1) (.var 5))) (.op (.var 2) (.op (.var 3) (.op (.var 4) (.var 6)))))
  refine W_cons (W_if (W_tcmp (W_name F m3 (W_cint fun t5 => W_lt (W_truthB ⟨fun c => W_cons (W_ret ?_), fun c => W_nil ?_⟩)))))
  · -- and-maybe
    refine W_tuple2 (g := g) (L := L) (W_fcall (W_global F G k.g_AndMaybeMatcher.1 (W_callWithE G k.g_AndMaybeMatcher.2 (W_argsC (W_name F m5 (W_argsC (W_name F m6 (W_argsN ⟨G.kin.keeps F.keep, Cd.call ?_⟩))))))))
    refine ((mk_maybe (n := n1 + 1) k (ih_all P k (ro1 ++ ro2) (n1 + 1)) MA MB (Nat.lt_succ_self n1) (Nat.lt_succ_self n1)).lift ap).use (R.le (by omega)) G F (back O) (fun v l q => ?_) fun v l h F O q => ?_
    · obtain ⟨l', e, ⟨dd, y, lb', _, e2, ⟨T, q1, q2, q3, q4, q5⟩⟩, _⟩ := q
      rw [e, e2]
      exact Keeps.exL fun p hp f => by
        rcases List.mem_append.mp hp with hp | hp
        · simp [hp]
        · simp [q5 p hp f]
    obtain ⟨l', e, ⟨dd, x, lb', e3, e2, ⟨T, q1, q2, q3, q4, q5⟩⟩, _⟩ := q
    subst e3
    rw [e, e2] at O
    have MX : MRep (ro1 ++ ro2) false n (nodeC dd x cMaybe (φBi x1 x2) ++ (own1 ++ lb')) x _ := .maybe (by omega) (by omega) MA q1 q3
    generalize nodeC dd x cMaybe (φBi x1 x2) ++ (own1 ++ lb') = X at O MX
    have O := go O
    refine W_dictComp (src := d1.map (·.1)) (p := fun _ => true) (f := fun i => (lk i d1).getD 0 + (lk i d2).getD 0) k R.1 G F O sml1.nd (by rw [List.length_map]; have := sml1.len; omega) (W_nameC (c := L + 2) (v := .ref s1) O (by first | solve_by_elim -exfalso -symm (maxDepth := 30) [List.Mem.head, List.Mem.tail, List.mem_append_left, List.mem_append_right] | simp) ⟨Kp.refl, [s1], iter_tab R.1 O (hT1 X)⟩ rfl) (pair_ok (by decide) (fun C h2 m2 k v hk hv hn hx F O => W_noIf ⟨rfl, Kp.refl⟩) fun C h2 m2 k v hk hv hp hn hx F O => ?_) fun s o h sm lt To F O => ?_
    · obtain ⟨tv, rfl⟩ := hv
      refine W_bin (W_subscr (W_cc (c := L + 2) (v := .ref s1) O (by first | solve_by_elim -exfalso -symm (maxDepth := 30) [List.Mem.head, List.Mem.tail, List.mem_append_left, List.mem_append_right] | simp) (W_ck hn hx (W_ditem ((hT1 X).tab O) (by rw [has_lk]; exact lk_isSome.mpr hk) fun t => ?_)) rfl))
      refine W_mcall (W_cc (c := L + 5) (v := .ref s2) O (by first | solve_by_elim -exfalso -symm (maxDepth := 30) [List.Mem.head, List.Mem.tail, List.mem_append_left, List.mem_append_right] | simp) (W_getM ((hT2 X).tab O) (W_callB (W_argsC (W_ck hn hx (W_argsC (W_cint fun t2 => W_argsN (W_get2 ((hT2 X).tab O) fun t3 => W_add fun t4 => ⟨⟨t4, by rw [look_lk]⟩, rfl⟩))))))) rfl)
    refine ⟨_, _, F, O, fun t h F O => made_ret (own := X) F O (out X) hb sm To AL MX (same_comp S1 _ _ fun i => ?_)⟩
    rw [q2, lk_maybeT, S1.2, S2.2]
    cases lk i T1 <;> simp
  · have keysT : ∀ {h : Heap}, Ow g L h ([(L + 5, cellC (some (.ref s2))), (L + 2, cellC (some (.ref s1)))] ++ (Z ++ ((d, dC prog w row (a2 : Nat)) :: (exL (ro1 ++ ro2) ++ ((own1 ++ own2) ++ (exL (fz1 ++ fz2) ++ rest)))))) → IntTab prog w h s1 (kdfD d1) ∧ IntTab prog w h s2 (kdfD d2) := fun O => ⟨(hT1 _).tab O, (hT2 _).tab O⟩
    refine W_cons (W_if (Wp.mono (Q := fun bb h1 => Fr g L h1 m ∧ Ow g L h1 ([(L + 5, cellC (some (.ref s2))), (L + 2, cellC (some (.ref s1)))] ++ (Z ++ ((d, dC prog w row (a2 : Nat)) :: (exL (ro1 ++ ro2) ++ ((own1 ++ own2) ++ (exL (fz1 ++ fz2) ++ rest)))))) ∧ (bb = false → PreN T1 T2)) ?_ fun bb h1 q => ?_))
    · refine W_tand (W_tcmp (W_nameC (c := L + 2) (v := .ref s1) O (by first | solve_by_elim -exfalso -symm (maxDepth := 30) [List.Mem.head, List.Mem.tail, List.mem_append_left, List.mem_append_right] | simp) (W_dict0 G F O fun e0 h E0 F O => W_dne (e := []) (by have := R.units; omega) (keysT O).1 E0 (W_truthB ⟨fun c1 => ?_, fun c1 => ⟨F, O, fun _ => ?_⟩⟩)) rfl))
      · have hne : 0 < d1.length := by cases d1 with
          | nil => cases c1
          | cons _ _ => simp
        refine W_tand (W_tcmp (W_fcall (W_builtin F G (k.blt _ (at_ 2 rfl)) (v := .builtin "min") (by decide +kernel) (by decide) (W_callB (W_argsC (W_nameC (c := L + 2) (v := .ref s1) O (by first | solve_by_elim -exfalso -symm (maxDepth := 30) [List.Mem.head, List.Mem.tail, List.mem_append_left, List.mem_append_right] | simp) (W_argsN (W_mind R.1 F O (keysT O).1 hne fun mn v h iv hM hM2 F O => ?_)) rfl))))))
        obtain ⟨tv, rfl⟩ := iv
        refine W_nameC (c := L + 5) (v := .ref s2) O (by first | solve_by_elim -exfalso -symm (maxDepth := 30) [List.Mem.head, List.Mem.tail, List.mem_append_left, List.mem_append_right] | simp) (W_din (keysT O).2 (W_truthB ⟨fun c2 => ?_, fun c2 => ⟨F, O, fun _ => preN_of S1 S2 M1.ok.1 hM hM2 (.inl ?_)⟩⟩)) rfl
        · have hne2 : 0 < d2.length := by
            rw [has_lk] at c2
            cases d2 with
            | nil => cases c2
            | cons _ _ => simp
          refine W_tand (W_tcmp (W_fcall (W_builtin F G (k.blt _ (at_ 2 rfl)) (v := .builtin "min") (by decide +kernel) (by decide) (W_callB (W_argsC (W_nameC (c := L + 5) (v := .ref s2) O (by first | solve_by_elim -exfalso -symm (maxDepth := 30) [List.Mem.head, List.Mem.tail, List.mem_append_left, List.mem_append_right] | simp) (W_argsN (W_mind R.1 F O (keysT O).2 hne2 fun mn2 v2 h iv2 hN hN2 F O => ?_)) rfl))))))
          obtain ⟨tv2, rfl⟩ := iv2
          refine W_fcall (W_builtin F G (k.blt _ (at_ 2 rfl)) (v := .builtin "min") (by decide +kernel) (by decide) (W_callB (W_argsC (W_nameC (c := L + 2) (v := .ref s1) O (by first | solve_by_elim -exfalso -symm (maxDepth := 30) [List.Mem.head, List.Mem.tail, List.mem_append_left, List.mem_append_right] | simp) (W_argsN (W_mind R.1 F O (keysT O).1 hne fun mn3 v3 h iv3 hP hP2 F O => ?_)) rfl))))
          obtain ⟨tv3, rfl⟩ := iv3
          refine W_lt (W_truthB ⟨fun c3 => W_tandN ⟨F, O, fun q => nomatch q⟩, fun c3 => ⟨F, O, fun _ => preN_of S1 S2 M1.ok.1 hP hP2 (.inr fun a ha => ?_)⟩⟩)
          simp only [decide_eq_false_iff_not] at c3
          have := hN2 a ha
          omega
        · rw [has_lk] at c2
          cases q : lk mn d2 with
          | none => rfl
          | some _ => rw [q] at c2; cases c2
      · have : d1 = [] := by cases d1 with
          | nil => rfl
          | cons _ _ => cases c1
        intro e T' f U e1 _ _
        have a1 := (S1.mem e.1).mpr (by rw [e1]; simp)
        rw [this] at a1; cases a1
    obtain ⟨F, O, hpre⟩ := q
    refine ⟨fun _ => W_cons ((tree_union (n := n) (n1 := n1) (n2 := n2) k R G (by omega) (by omega) hb h51 sm1 To1 A1 M1 S1 h52 sm2 To2 A2 M2 S2 F m5 m6 O _ _ _ _ _ _ _ _ _ _ _).mono fun fl h q => ?_), fun c2 => W_nil (W_cons (W_ret ?_))⟩
    · obtain ⟨v, rfl, q⟩ := q
      exact q
    -- and not
    have pre := hpre c2
    refine W_tuple2 (g := g) (L := L) (W_fcall (W_global F G k.g_AndNotMatcher.1 (W_callWithE G k.g_AndNotMatcher.2 (W_argsC (W_name F m5 (W_argsC (W_name F m6 (W_argsN ⟨G.kin.keeps F.keep, Cd.call ?_⟩))))))))
    refine ((mk_andnot (n := n1 + 1) P k (ih_all P k (ro1 ++ ro2) (n1 + 1)) MA MB (Nat.lt_succ_self n1) (Nat.lt_succ_self n1) pre).lift ap).use (R.le (by omega)) G F (back O) (fun v l q => ?_) fun v l h F O q => ?_
    · obtain ⟨l', e, ⟨dd, y, la', lb', _, e2, ⟨Ta', Tb', q1, q2, q3, q4, q5, q6⟩, _⟩, _⟩ := q
      rw [e, e2]
      exact Keeps.exL fun p hp f => by
        rcases List.mem_append.mp hp with hp | hp
        · simp [q5 p hp f]
        · simp [q6 p hp f]
    obtain ⟨l', e, ⟨dd, x, la', lb', e3, e2, ⟨Ta', Tb', q1, q2, q3, q4, q5, q6⟩, _⟩, _⟩ := q
    subst e3
    rw [e, e2] at O
    have MX : MRep (ro1 ++ ro2) false n (nodeC dd x cAndNot (φBi x1 x2) ++ (la' ++ lb')) x _ := .andnot (by omega) (by omega) q1 q2 q3
    generalize nodeC dd x cAndNot (φBi x1 x2) ++ (la' ++ lb') = X at O MX
    have O := go O
    refine W_dictComp (src := d1.map (·.1)) (p := fun i => !kdfHas d2 i) (f := fun i => (lk i d1).getD 0) k R.1 G F O sml1.nd (by rw [List.length_map]; have := sml1.len; omega) (W_nameC (c := L + 2) (v := .ref s1) O (by first | solve_by_elim -exfalso -symm (maxDepth := 30) [List.Mem.head, List.Mem.tail, List.mem_append_left, List.mem_append_right] | simp) ⟨Kp.refl, [s1], iter_tab R.1 O (hT1 X)⟩ rfl) (pair_ok (by decide) (fun C h2 m2 k v hk hv hn hx F O => ?_) fun C h2 m2 k v hk hv hp hn hx F O => ?_) fun s o h sm lt To F O => ?_
    · obtain ⟨tv, rfl⟩ := hv
      exact W_oneIf (W_tcmp (W_ck hn hx (W_cc (c := L + 5) (v := .ref s2) O (by first | solve_by_elim -exfalso -symm (maxDepth := 30) [List.Mem.head, List.Mem.tail, List.mem_append_left, List.mem_append_right] | simp) (W_dnotin ((hT2 X).tab O) (W_truthB ⟨rfl, Kp.refl⟩)) rfl)))
    · obtain ⟨tv, rfl⟩ := hv
      exact W_subscr (W_cc (c := L + 2) (v := .ref s1) O (by first | solve_by_elim -exfalso -symm (maxDepth := 30) [List.Mem.head, List.Mem.tail, List.mem_append_left, List.mem_append_right] | simp) (W_ck hn hx (W_ditem ((hT1 X).tab O) (by rw [has_lk]; exact lk_isSome.mpr hk) fun t => ⟨⟨t, by rw [look_lk]⟩, rfl⟩)) rfl)
    refine ⟨_, _, F, O, fun t h F O => made_ret (own := X) F O (out X) hb sm To AL MX (same_comp S1 _ _ fun i => ?_)⟩
    rw [q4, lk_diffT, has_lk, S1.2, S2.2]
    cases lk i T1 <;> cases lk i T2 <;> simp
end
end Mine
end
section
set_option maxRecDepth 10000
namespace Mine
variable {prog : Program} {w : World} {K : Frag} {ro : List (Addr × Obj)}
section
variable {A : Around} {z : Shared} {g h : Heap} {L : Addr} {m : Str → Option Value} {j : Nat} {d row : Addr} {b a1 n n1 : Nat} {rest led : Led} {ro1 fz1 : List (Addr × Obj)} {own1 : Led} {s1 x1 : Addr} {d1 T1 : Tb} {o1 : Obj} {kind M : Int} {tk tM : Tok}
theorem W_lin {l : Addr} {ns : List Int} {k : Int} {t : Tok} {Q : Value → Heap → Prop} (O : Ow g L h led) (x : LLst led l ns) (q : Q (.bool (ns.contains k)) h) : Wp (model prog w) A z (compareOp .In (.int k t) (.ref l)) Q h := fun tk => by
  obtain ⟨vs, il, ia⟩ := x.isList O
  refine in_list_ints (s := St z h tk) il ia ⟨h, tk, rfl, ?_⟩
  have e : ns.any (fun x => x == k) = ns.contains k := by
    rw [List.contains_eq_any_beq]
    exact List.any_congr rfl fun x => BEq.comm
  rw [e]; exact q
theorem W_lnotin {l : Addr} {ns : List Int} {k : Int} {t : Tok} {Q : Value → Heap → Prop} (O : Ow g L h led) (x : LLst led l ns) (q : Q (.bool (!ns.contains k)) h) : Wp (model prog w) A z (compareOp .NotIn (.int k t) (.ref l)) Q h := fun tk => by
  obtain ⟨vs, il, ia⟩ := x.isList O
  refine notin_list_ints (s := St z h tk) il ia ⟨h, tk, rfl, ?_⟩
  have e : ns.any (fun x => x == k) = ns.contains k := by
    rw [List.contains_eq_any_beq]
    exact List.any_congr rfl fun x => BEq.comm
  rw [e]; exact q
set_option maxHeartbeats 4000000 in
theorem tree_rest (P : PrOk prog) (k : KOk K) (R : Room A (j + 129)) (G : Gd K [] g) {deep : Nat} {C C2 : Nat} {td : Tok} (hd : 0 < deep) (hd3 : deep ≤ 3) (hn : n = 2 * deep) (hn1 : n1 = 2 * (deep - 1)) (hb : a1 + C ≤ b) (hb2 : b ≤ 10000) (hC : ∀ p, p ≤ 2 → p ≤ deep - 1 → cost p ≤ C)
    {ns : List Int} (hr : LLst rest row ns) (hns : ns.length ≤ 48)
    (next : ∀ a td, a + C ≤ 10000 → Does prog w K [] (j + 129) (.ref f_law_tree) [.ref d, .int ((deep : Int) - 1) td] [] ((d, dC prog w row a) :: rest) (Made' prog w row d (a + C) false n1 rest))
    (h5 : (s1, o1) ∈ fz1) (sm1 : (s1 == sysModules) = false) (To1 : TabO prog w o1 d1) (A1 : AllL ro1) (M1 : MRep ro1 false n1 own1 x1 T1) (S1 : Same d1 T1)
    (kb : 0 < kind) (kb2 : kind < 8)
    (F : Fr g L h m) (m1 : m "d" = some (.ref d)) (m2 : m "deep" = some (.int (deep : Int) td)) (m3 : m "kind" = some (.int kind tk)) (m5 : m "first" = some (.ref x1))
    (O : Ow g L h ([(L + 2, cellC (some (.ref s1))), (L + 1, cellC (some (.int M tM)))] ++ ([(L + 3, cellC none)] ++ ([(L + 4, cellC none)] ++ ([(L + 5, cellC none)] ++ ((d, dC prog w row (a1 : Nat)) :: (exL ro1 ++ (own1 ++ (exL fz1 ++ rest))))))))) :
    Wp (model prog w) A z (execs ((defBody rf_law_tree.st).drop 5) (envT L)) (Ret g L (Made' prog w row d b false n rest)) h := by
  have hm : (s1, isObj o1) ∈ exL fz1 := List.mem_map_of_mem (f := fun p : Addr × Obj => (p.1, isObj p.2)) h5
  have okT1 := M1.ok
  have sm := S1.small okT1.2
  have e64 : (2 : Int) ^ 64 = 18446744073709551616 := by decide
  refine W_cons (W_if (W_tcmp (W_name F m3 (W_cint fun t5 => W_eq (W_truthB ⟨fun c => ?_, fun c => W_nil ?_⟩)))))
  · -- boosted
    refine W_cons (W_assignCell (g := g) (c := L + 3) (W_bin (W_cint fun t6 => W_bin (W_nameC (c := L + 1) (v := .int M tM) O (by first | solve_by_elim -exfalso -symm (maxDepth := 30) [List.Mem.head, List.Mem.tail, List.mem_append_left, List.mem_append_right] | simp) (W_cint fun t7 => W_mod (by decide) fun t8 => W_add fun t9 => ⟨_, _, none, F, O.perm (ledPerm [[(L + 2, cellC (some (.ref s1))), (L + 1, cellC (some (.int M tM)))], [(L + 3, cellC none)], [(L + 4, cellC none)] ++ ([(L + 5, cellC none)] ++ ((d, dC prog w row (a1 : Nat)) :: (exL ro1 ++ (own1 ++ (exL fz1 ++ rest)))))] [0, 1, 2] [1, 0, 2]), fun h F O => ?_⟩) rfl))))
    have gb := Int.fmod_nonneg_of_pos M (b := 4) (by decide)
    have gb2 := Int.fmod_lt_of_pos M (b := 4) (by decide)
    generalize hgv : 1 + M.fmod 4 = gv at O
    have gv1 : 1 ≤ gv ∧ gv ≤ 4 := by omega
    have O : Ow g L h ([(L + 3, cellC (some (.int gv t9))), (L + 2, cellC (some (.ref s1))), (L + 1, cellC (some (.int M tM))), (L + 4, cellC none), (L + 5, cellC none)] ++ ((d, dC prog w row (a1 : Nat)) :: (exL ro1 ++ (own1 ++ (exL fz1 ++ rest))))) := O
    refine W_cons (W_ret (W_tuple2 (g := g) (L := L) (W_makeG F G k.g_WrappingMatcher (W_argsC (W_name F m5 (W_argsN (W_kw1 (W_nameC (c := L + 3) (v := .int gv t9) O (by first | solve_by_elim -exfalso -symm (maxDepth := 30) [List.Mem.head, List.Mem.tail, List.mem_append_left, List.mem_append_right] | simp) (W_kwN ⟨G.kin.keeps F.keep, ?_⟩) rfl))))))))
    refine (mk_wrap (j := j) k x1 gv t9).useN (R.le (by omega)) G F O ⟨(fun _ h => nomatch h), Nd.nil⟩ fun v nw h F O ⟨dd, x, e, e2⟩ => ?_
    subst e e2
    have O : Ow g L h (nodeC dd x cWrap (φWrap x1 gv) ++ ([(L + 3, cellC (some (.int gv t9))), (L + 2, cellC (some (.ref s1))), (L + 1, cellC (some (.int M tM))), (L + 4, cellC none), (L + 5, cellC none)] ++ ((d, dC prog w row (a1 : Nat)) :: (exL ro1 ++ (own1 ++ (exL fz1 ++ rest)))))) := O
    have hsT : DTab prog w (nodeC dd x cWrap (φWrap x1 gv) ++ ([(L + 3, cellC (some (.int gv t9))), (L + 2, cellC (some (.ref s1))), (L + 1, cellC (some (.int M tM))), (L + 4, cellC none), (L + 5, cellC none)] ++ ((d, dC prog w row (a1 : Nat)) :: (exL ro1 ++ (own1 ++ (exL fz1 ++ rest)))))) s1 d1 := ⟨o1, by first | solve_by_elim -exfalso -symm (maxDepth := 30) [List.Mem.head, List.Mem.tail, List.mem_append_left, List.mem_append_right, hm] | simp [hm], sm1, To1⟩
    refine W_dictComp (src := d1.map (·.1)) (p := fun _ => true) (f := fun i => (lk i d1).getD 0 * gv) k R.1 G F O sm.nd (by rw [List.length_map]; have := sm.len; omega) (W_nameC (c := L + 2) (v := .ref s1) O (by first | solve_by_elim -exfalso -symm (maxDepth := 30) [List.Mem.head, List.Mem.tail, List.mem_append_left, List.mem_append_right] | simp) ⟨Kp.refl, [s1], iter_tab R.1 O hsT⟩ rfl) (pair_ok (by decide) (fun C h2 m2 k v hk hv hn hx F O => W_noIf ⟨rfl, Kp.refl⟩) fun C h2 m2 k v hk hv _ hn hx F O => ?_) fun s o h sm2 lt T F O => ?_
    · obtain ⟨tv, rfl⟩ := hv
      refine W_bin (W_subscr (W_cc (c := L + 2) (v := .ref s1) O (by first | solve_by_elim -exfalso -symm (maxDepth := 30) [List.Mem.head, List.Mem.tail, List.mem_append_left, List.mem_append_right] | simp) (W_ck hn hx (W_ditem (hsT.tab O) (by rw [has_lk]; exact lk_isSome.mpr hk) fun t => W_cc (c := L + 3) (v := .int gv t9) O (by first | solve_by_elim -exfalso -symm (maxDepth := 30) [List.Mem.head, List.Mem.tail, List.mem_append_left, List.mem_append_right] | simp) (W_mul (fun t2 => ⟨⟨t2, by rw [look_lk]⟩, rfl⟩) (IntMulOk.of_right (intBits_le_64 (by omega) (by omega)))) rfl)) rfl))
    refine ⟨_, _, F, O, fun t h F O => made_ret (drop := [(L + 3, cellC (some (.int gv t9))), (L + 2, cellC (some (.ref s1))), (L + 1, cellC (some (.int M tM))), (L + 4, cellC none), (L + 5, cellC none)] ++ exL fz1) (own := nodeC dd x cWrap (φWrap x1 gv) ++ own1) F O ?_ (show a1 ≤ b by omega) sm2 T A1 (.wrap (fun q => nomatch q) (by omega) (by omega) (by omega) M1) (same_comp S1 _ _ fun i => ?_)⟩
    · exact trPerm [nodeC dd x cWrap (φWrap x1 gv), [(L + 3, cellC (some (.int gv t9))), (L + 2, cellC (some (.ref s1))), (L + 1, cellC (some (.int M tM))), (L + 4, cellC none), (L + 5, cellC none)], [(d, dC prog w row (a1 : Nat))], exL ro1, own1, exL fz1, rest] (.op (.var 0) (.op (.var 1) (.op (.var 2) (.op (.var 3) (.op (.var 4) (.op (.var 5) (.var 6))))))) (.op (.op (.var 1) (.var 5)) (.op (.var 2) (.op (.var 3) (.op (.op (.var 0) (.var 4)) (.var 6)))))
    · rw [lk_mulT, S1.2]
      cases lk i T1 <;> simp
  refine W_cons (W_if (W_tcmp (W_name F m3 (W_cint fun t5 => W_eq (W_truthB ⟨fun c => ?_, fun c => W_nil ?_⟩)))))
  · -- filters
    refine W_cons (W_assignCell (g := g) (c := L + 4) (W_comp ((List.range 12).map Int.ofNat) (bitOf M) (IntFF id) (by decide) F O ?_ (bits_ok (c := L + 1) (t := tM) rfl (by first | solve_by_elim -exfalso -symm (maxDepth := 30) [List.Mem.head, List.Mem.tail, List.mem_append_left, List.mem_append_right] | simp)) fun D nD yD xD h _ F O MD => ?_))
    · exact W_fcall (W_builtin F G (k.blt _ (at_ 4 rfl)) (v := .type "range") (by decide +kernel) (by decide) (W_callT (W_argsC (W_cint fun tk => W_argsN (W_range (n := 12) R.1 (by decide) fun xv h' kp it => ⟨kp, [], it⟩)))))
    obtain ⟨rfl, iD⟩ := made_ints MD
    rw [List.map_id] at iD
    have iD : IntsAre yD.toList (bits12 M) := iD
    have lenD : (bits12 M).length ≤ 12 := by
      have := List.length_filter_le (bitOf M) ((List.range 12).map Int.ofNat)
      simp at this; exact this
    refine ⟨_, _, none, F, O.perm (trPerm [[(D, isObj (listOf yD nD))], [(L + 2, cellC (some (.ref s1))), (L + 1, cellC (some (.int M tM)))], [(L + 3, cellC none)], [(L + 4, cellC none)], [(L + 5, cellC none)], [(d, dC prog w row (a1 : Nat))], exL ro1 ++ (own1 ++ (exL fz1 ++ rest))] (.op (.var 0) (.op (.var 1) (.op (.var 2) (.op (.var 3) (.op (.var 4) (.op (.var 5) (.var 6))))))) (.op (.var 3) (.op (.var 0) (.op (.var 1) (.op (.var 2) (.op (.var 4) (.op (.var 5) (.var 6)))))))), fun h F O => ?_⟩
    have AL : AllL ((D, listOf yD nD) :: ro1) := fun p hp => by
      rcases List.mem_cons.mp hp with rfl | hp
      · rfl
      · exact A1 p hp
    have MC : MRep ((D, listOf yD nD) :: ro1) false n1 own1 x1 T1 := M1.mono fun e he => List.mem_cons_of_mem _ he
    have okL : ListOk ((D, listOf yD nD) :: ro1) D (bits12 M) := ⟨⟨yD.toList, nD, List.mem_cons_self .., iD⟩, by omega⟩
    have O : Ow g L h ((exL ((D, listOf yD nD) :: ro1) ++ own1) ++ ([(L + 4, cellC (some (.ref D))), (L + 2, cellC (some (.ref s1))), (L + 1, cellC (some (.int M tM)))] ++ ([(L + 3, cellC none), (L + 5, cellC none)] ++ ((d, dC prog w row (a1 : Nat)) :: (exL fz1 ++ rest))))) :=
      O.perm (trPerm [[(L + 4, cellC (some (.ref D)))], [(D, isObj (listOf yD nD))], [(L + 2, cellC (some (.ref s1))), (L + 1, cellC (some (.int M tM)))], [(L + 3, cellC none)], [(L + 5, cellC none)], [(d, dC prog w row (a1 : Nat))], exL ro1, own1, exL fz1, rest] (.op (.var 0) (.op (.var 1) (.op (.var 2) (.op (.var 3) (.op (.var 4) (.op (.var 5) (.op (.var 6) (.op (.var 7) (.op (.var 8) (.var 9)))))))))) (.op (.op (.op (.var 1) (.var 6)) (.var 7)) (.op (.op (.var 0) (.var 2)) (.op (.op (.var 3) (.var 4)) (.op (.var 5) (.op (.var 8) (.var 9)))))))
    have ap : ∀ p ∈ ((D, listOf yD nD) :: ro1), p.1 ∉ addrs own1 := apart_of O (fun e he => by simp only [List.mem_append]; exact .inl (.inl he)) (fun e he => by first | solve_by_elim -exfalso -symm (maxDepth := 30) [List.Mem.head, List.Mem.tail, List.mem_append_left, List.mem_append_right, he] | simp [he]) AL MC.noList
    have cells : ∀ X : Led, (L + 4, cellC (some (.ref D))) ∈ ((exL ((D, listOf yD nD) :: ro1) ++ X) ++ ([(L + 4, cellC (some (.ref D))), (L + 2, cellC (some (.ref s1))), (L + 1, cellC (some (.int M tM)))] ++ ([(L + 3, cellC none), (L + 5, cellC none)] ++ ((d, dC prog w row (a1 : Nat)) :: (exL fz1 ++ rest))))) := fun X => by first | solve_by_elim -exfalso -symm (maxDepth := 30) [List.Mem.head, List.Mem.tail, List.mem_append_left, List.mem_append_right] | simp
    have hLst : ∀ X : Led, LLst ((exL ((D, listOf yD nD) :: ro1) ++ X) ++ ([(L + 4, cellC (some (.ref D))), (L + 2, cellC (some (.ref s1))), (L + 1, cellC (some (.int M tM)))] ++ ([(L + 3, cellC none), (L + 5, cellC none)] ++ ((d, dC prog w row (a1 : Nat)) :: (exL fz1 ++ rest))))) D (bits12 M) := fun X => ⟨yD.toList, nD, by simp [exL], iD⟩
    have hTab : ∀ X : Led, DTab prog w ((exL ((D, listOf yD nD) :: ro1) ++ X) ++ ([(L + 4, cellC (some (.ref D))), (L + 2, cellC (some (.ref s1))), (L + 1, cellC (some (.int M tM)))] ++ ([(L + 3, cellC none), (L + 5, cellC none)] ++ ((d, dC prog w row (a1 : Nat)) :: (exL fz1 ++ rest))))) s1 d1 := fun X => ⟨o1, by first | solve_by_elim -exfalso -symm (maxDepth := 30) [List.Mem.head, List.Mem.tail, List.mem_append_left, List.mem_append_right, hm] | simp [hm], sm1, To1⟩
    have out : ∀ X : Led, ((exL ((D, listOf yD nD) :: ro1) ++ X) ++ ([(L + 4, cellC (some (.ref D))), (L + 2, cellC (some (.ref s1))), (L + 1, cellC (some (.int M tM)))] ++ ([(L + 3, cellC none), (L + 5, cellC none)] ++ ((d, dC prog w row (a1 : Nat)) :: (exL fz1 ++ rest))))).Perm
        (([(L + 4, cellC (some (.ref D))), (L + 2, cellC (some (.ref s1))), (L + 1, cellC (some (.int M tM)))] ++ ([(L + 3, cellC none), (L + 5, cellC none)] ++ exL fz1)) ++ ((d, dC prog w row (a1 : Nat)) :: (exL ((D, listOf yD nD) :: ro1) ++ (X ++ rest)))) := fun X =>
      trPerm [exL ((D, listOf yD nD) :: ro1), X, [(L + 4, cellC (some (.ref D))), (L + 2, cellC (some (.ref s1))), (L + 1, cellC (some (.int M tM)))], [(L + 3, cellC none), (L + 5, cellC none)], [(d, dC prog w row (a1 : Nat))], exL fz1, rest] (.op (.op (.var 0) (.var 1)) (.op (.var 2) (.op (.var 3) (.op (.var 4) (.op (.var 5) (.var 6)))))) (.op (.op (.var 2) (.op (.var 3) (.var 5))) (.op (.var 4) (.op (.var 0) (.op (.var 1) (.var 6)))))
    refine W_cons (W_if (W_tcmp (W_bin (W_bin (W_nameC (c := L + 1) (v := .int M tM) O (by first | solve_by_elim -exfalso -symm (maxDepth := 30) [List.Mem.head, List.Mem.tail, List.mem_append_left, List.mem_append_right] | simp) (W_cint fun t6 => W_fdiv (by decide) (by decide) fun t7 => W_cint fun t8 => W_mod (by decide) fun t9 => W_cint fun t10 => W_eq (W_truthB ⟨fun c => W_cons (W_ret ?_), fun c => W_nil (W_cons (W_ret ?_))⟩)) rfl)))))
    · refine W_tuple2 (g := g) (L := L) (W_makeG F G k.g_FilterMatcher (W_argsC (W_name F m5 (W_argsC (W_nameC (c := L + 4) (v := .ref D) O (cells _) (W_argsN (W_kw1 (W_cint fun t11 => W_kwN ⟨G.kin.keeps F.keep, ?_⟩))) rfl)))))
      refine ((mk_filt (n := n1 + 1) (c := 2) (ex := false) P k (ih_all P k _ (n1 + 1)) (Nat.lt_succ_self n1) okL MC t11 (fun _ _ _ _ _ _ _ _ => ⟨_, rfl, rfl⟩)).lift ap).use (R.le (by omega)) G F O (fun v l q => ?_) fun v l h F O q => ?_
      · obtain ⟨l', e, ⟨dd, y, lc', _, e2, q0⟩, _⟩ := q
        refine q0.elim fun Tc' q1 q2 q3 q4 _ => ?_
        rw [e, e2]
        exact Keeps.exL fun p hp f => by first | solve_by_elim -exfalso -symm (maxDepth := 30) [List.Mem.head, List.Mem.tail, List.mem_append_left, List.mem_append_right, q4 p hp f] | simp [q4 p hp f]
      obtain ⟨l', e, ⟨dd, x, lc', e3, e2, q0⟩, _⟩ := q
      refine q0.elim fun Tc' q1 q2 q3 q4 _ => ?_
      subst e3
      rw [e, e2] at O
      have MX : MRep ((D, listOf yD nD) :: ro1) false n (nodeC dd x cFilt (φFilt x1 2 D false) ++ lc') x _ := .filt (by omega) (by omega) (by omega) okL q1 q2
      generalize nodeC dd x cFilt (φFilt x1 2 D false) ++ lc' = X at O MX
      refine W_dictComp (src := d1.map (·.1)) (p := fun i => (bits12 M).contains i) (f := fun i => (lk i d1).getD 0 * 2) k R.1 G F O sm.nd (by rw [List.length_map]; have := sm.len; omega) (W_nameC (c := L + 2) (v := .ref s1) O (by first | solve_by_elim -exfalso -symm (maxDepth := 30) [List.Mem.head, List.Mem.tail, List.mem_append_left, List.mem_append_right] | simp) ⟨Kp.refl, [s1], iter_tab R.1 O (hTab X)⟩ rfl) (pair_ok (by decide) (fun C h2 m2 k v hk hv hn hx F O => ?_) fun C h2 m2 k v hk hv hp hn hx F O => ?_) fun s o h sm2 lt To F O => ?_
      · obtain ⟨tv, rfl⟩ := hv
        exact W_oneIf (W_tcmp (W_ck hn hx (W_cc (c := L + 4) (v := .ref D) O (cells _) (W_lin O (hLst X) (W_truthB ⟨rfl, Kp.refl⟩)) rfl)))
      · obtain ⟨tv, rfl⟩ := hv
        exact W_bin (W_subscr (W_cc (c := L + 2) (v := .ref s1) O (by first | solve_by_elim -exfalso -symm (maxDepth := 30) [List.Mem.head, List.Mem.tail, List.mem_append_left, List.mem_append_right] | simp) (W_ck hn hx (W_ditem ((hTab X).tab O) (by rw [has_lk]; exact lk_isSome.mpr hk) fun t => W_cint fun t2 => W_mul (fun t3 => ⟨⟨t3, by rw [look_lk]⟩, rfl⟩) (IntMulOk.of_right (intBits_le_64 (by decide) (by decide))))) rfl))
      refine ⟨_, _, F, O, fun t h F O => made_ret (own := X) F O (out X) (show a1 ≤ b by omega) sm2 To AL MX (same_comp S1 _ _ fun i => ?_)⟩
      rw [q3, lk_mulT, lk_filtT, S1.2]
      cases lk i T1 <;> cases (bits12 M).contains i <;> simp
    · refine W_tuple2 (g := g) (L := L) (W_fcall (W_global F G k.g_ExcludeMatcher.1 (W_callWithE G k.g_ExcludeMatcher.2 (W_argsC (W_name F m5 (W_argsC (W_nameC (c := L + 4) (v := .ref D) O (cells _) (W_argsN ⟨G.kin.keeps F.keep, Cd.call ?_⟩) rfl)))))))
      refine ((exclude_ (n := n1 + 1) P k (ih_all P k _ (n1 + 1)) (Nat.lt_succ_self n1) okL MC).lift ap).use (R.le (by omega)) G F O (fun v l q => ?_) fun v l h F O q => ?_
      · obtain ⟨l', e, ⟨dd, y, lc', _, e2, q0⟩, _⟩ := q
        refine q0.elim fun Tc' q1 q2 q3 q4 _ => ?_
        rw [e, e2]
        exact Keeps.exL fun p hp f => by first | solve_by_elim -exfalso -symm (maxDepth := 30) [List.Mem.head, List.Mem.tail, List.mem_append_left, List.mem_append_right, q4 p hp f] | simp [q4 p hp f]
      obtain ⟨l', e, ⟨dd, x, lc', e3, e2, q0⟩, _⟩ := q
      refine q0.elim fun Tc' q1 q2 q3 q4 _ => ?_
      subst e3
      rw [e, e2] at O
      have MX : MRep ((D, listOf yD nD) :: ro1) false n (nodeC dd x cFilt (φFilt x1 1 D true) ++ lc') x _ := .filt (by omega) (by omega) (by omega) okL q1 q2
      generalize nodeC dd x cFilt (φFilt x1 1 D true) ++ lc' = X at O MX
      refine W_dictComp (src := d1.map (·.1)) (p := fun i => !(bits12 M).contains i) (f := fun i => (lk i d1).getD 0) k R.1 G F O sm.nd (by rw [List.length_map]; have := sm.len; omega) (W_nameC (c := L + 2) (v := .ref s1) O (by first | solve_by_elim -exfalso -symm (maxDepth := 30) [List.Mem.head, List.Mem.tail, List.mem_append_left, List.mem_append_right] | simp) ⟨Kp.refl, [s1], iter_tab R.1 O (hTab X)⟩ rfl) (pair_ok (by decide) (fun C h2 m2 k v hk hv hn hx F O => ?_) fun C h2 m2 k v hk hv hp hn hx F O => ?_) fun s o h sm2 lt To F O => ?_
      · obtain ⟨tv, rfl⟩ := hv
        exact W_oneIf (W_tcmp (W_ck hn hx (W_cc (c := L + 4) (v := .ref D) O (cells _) (W_lnotin O (hLst X) (W_truthB ⟨rfl, Kp.refl⟩)) rfl)))
      · obtain ⟨tv, rfl⟩ := hv
        exact W_subscr (W_cc (c := L + 2) (v := .ref s1) O (by first | solve_by_elim -exfalso -symm (maxDepth := 30) [List.Mem.head, List.Mem.tail, List.mem_append_left, List.mem_append_right] | simp) (W_ck hn hx (W_ditem ((hTab X).tab O) (by rw [has_lk]; exact lk_isSome.mpr hk) fun t => ⟨⟨t, by rw [look_lk]⟩, rfl⟩)) rfl)
      refine ⟨_, _, F, O, fun t h F O => made_ret (own := X) F O (out X) (show a1 ≤ b by omega) sm2 To AL MX (same_comp S1 _ _ fun i => ?_)⟩
      rw [q3, lk_mulT, lk_filtT, S1.2]
      cases lk i T1 <;> cases (bits12 M).contains i <;> simp
  -- two parts
  have O : Ow g L h (((d, dC prog w row (a1 : Nat)) :: rest) ++ ([(L + 2, cellC (some (.ref s1)))] ++ ([(L + 1, cellC (some (.int M tM))), (L + 3, cellC none), (L + 4, cellC none)] ++ ([(L + 5, cellC none)] ++ (exL ro1 ++ (own1 ++ exL fz1)))))) :=
    O.perm (trPerm [[(L + 2, cellC (some (.ref s1)))], [(L + 1, cellC (some (.int M tM)))], [(L + 3, cellC none), (L + 4, cellC none)], [(L + 5, cellC none)], [(d, dC prog w row (a1 : Nat))], exL ro1, own1, exL fz1, rest] (.op (.var 0) (.op (.var 1) (.op (.var 2) (.op (.var 3) (.op (.var 4) (.op (.var 5) (.op (.var 6) (.op (.var 7) (.var 8))))))))) (.op (.op (.var 4) (.var 8)) (.op (.var 0) (.op (.op (.var 1) (.var 2)) (.op (.var 3) (.op (.var 5) (.op (.var 6) (.var 7))))))))
  have after : ∀ {a2 : Nat} {ro2 fz2 : List (Addr × Obj)} {own2 : Led} {s2 : Addr} {h : Heap}, Ow g L h ((L + 5, cellC (some (.ref s2))) :: (((d, dC prog w row (a2 : Nat)) :: (exL ro2 ++ (own2 ++ (exL fz2 ++ rest)))) ++ ([(L + 2, cellC (some (.ref s1)))] ++ ([(L + 1, cellC (some (.int M tM))), (L + 3, cellC none), (L + 4, cellC none)] ++ (exL ro1 ++ (own1 ++ exL fz1)))))) →
      Ow g L h ([(L + 5, cellC (some (.ref s2))), (L + 2, cellC (some (.ref s1)))] ++ ([(L + 1, cellC (some (.int M tM))), (L + 3, cellC none), (L + 4, cellC none)] ++ ((d, dC prog w row (a2 : Nat)) :: (exL (ro1 ++ ro2) ++ ((own1 ++ own2) ++ (exL (fz1 ++ fz2) ++ rest)))))) := fun {a2 ro2 fz2 own2 s2 h} O =>
    by rw [exL_app, exL_app]; exact O.perm (trPerm [[(L + 5, cellC (some (.ref s2)))], [(d, dC prog w row (a2 : Nat))], exL ro2, own2, exL fz2, rest, [(L + 2, cellC (some (.ref s1)))], [(L + 1, cellC (some (.int M tM))), (L + 3, cellC none), (L + 4, cellC none)], exL ro1, own1, exL fz1] (.op (.var 0) (.op (.op (.var 1) (.op (.var 2) (.op (.var 3) (.op (.var 4) (.var 5))))) (.op (.var 6) (.op (.var 7) (.op (.var 8) (.op (.var 9) (.var 10))))))) (.op (.op (.var 0) (.var 6)) (.op (.var 7) (.op (.var 1) (.op (.op (.var 8) (.var 2)) (.op (.op (.var 9) (.var 3)) (.op (.op (.var 10) (.var 4)) (.var 5))))))))
  have before : ∀ {a2 : Nat} {ro2 fz2 : List (Addr × Obj)} {own2 : Led} {h : Heap}, Ow g L h (((d, dC prog w row (a2 : Nat)) :: (exL ro2 ++ (own2 ++ (exL fz2 ++ rest)))) ++ ([(L + 2, cellC (some (.ref s1)))] ++ ([(L + 1, cellC (some (.int M tM))), (L + 3, cellC none), (L + 4, cellC none)] ++ ([(L + 5, cellC none)] ++ (exL ro1 ++ (own1 ++ exL fz1)))))) →
      Ow g L h ((L + 5, cellC none) :: (((d, dC prog w row (a2 : Nat)) :: (exL ro2 ++ (own2 ++ (exL fz2 ++ rest)))) ++ ([(L + 2, cellC (some (.ref s1)))] ++ ([(L + 1, cellC (some (.int M tM))), (L + 3, cellC none), (L + 4, cellC none)] ++ (exL ro1 ++ (own1 ++ exL fz1)))))) := fun {a2 ro2 fz2 own2 h} O =>
    O.perm (trPerm [(d, dC prog w row (a2 : Nat)) :: (exL ro2 ++ (own2 ++ (exL fz2 ++ rest))), [(L + 2, cellC (some (.ref s1)))], [(L + 1, cellC (some (.int M tM))), (L + 3, cellC none), (L + 4, cellC none)], [(L + 5, cellC none)], exL ro1, own1, exL fz1] (.op (.var 0) (.op (.var 1) (.op (.var 2) (.op (.var 3) (.op (.var 4) (.op (.var 5) (.var 6))))))) (.op (.var 3) (.op (.var 0) (.op (.var 1) (.op (.var 2) (.op (.var 4) (.op (.var 5) (.var 6))))))))
  refine W_cons (W_if (W_tcmp (W_name F m3 (W_cint fun t5 => W_eq (W_truthB ⟨fun c => ?_, fun c => W_nil ?_⟩)))))
  · -- a union
    refine W_cons (W_unpack2 (g := g) (L := L) R.1 (W_fcall (W_global F G k.g_law_tree.1 (W_callWithE G k.g_law_tree.2 (W_argsC (W_name F m1 (W_argsC (W_bin (W_name F m2 (W_cint fun t5 => W_sub fun t6 => W_argsN ⟨G.kin.keeps F.keep, Cd.call ?_⟩))))))))))
    refine (next a1 t6 (by omega)).use R G F O (fun v l q => q.keeps) fun v l h F O q => ?_
    refine q.elim fun a2 ro2 own2 fz2 t2 s2 x2 d2 T2 o2 g1 eL eV g4 g5 sm2 To2 A2 M2 S2 => ?_
    subst eL eV
    have g4' : (t2, isObj (tupO (.ref x2) (.ref s2))) ∈ exL fz2 := List.mem_map_of_mem (f := fun p : Addr × Obj => (p.1, isObj p.2)) g4
    refine ⟨_, _, t2, .ref x2, .ref s2, rfl, by first | solve_by_elim -exfalso -symm (maxDepth := 30) [List.Mem.head, List.Mem.tail, List.mem_append_left, List.mem_append_right, g4'] | simp [g4'], F, O, fun h F O => W_assignName F O fun h F O => ?_⟩
    refine W_assignC (c := L + 5) F (before O) (fun h F O => ?_) rfl
    refine W_cons ((tree_union (j := j) (n := n) (n1 := n1) (n2 := n1) k (R.le (by omega)) G (by omega) (by omega) (show a2 ≤ b by omega) h5 sm1 To1 A1 M1 S1 g5 sm2 To2 A2 M2 S2 F ((upd_ne (by decide)).trans m5) upd_same (after O) _ _ _ _ _ _ _ _ _ _ _).mono fun fl h q => ?_)
    obtain ⟨v, rfl, q⟩ := q
    exact q
  · -- and-maybe, and not
    refine W_cons (W_unpack2 (g := g) (L := L) R.1 (W_fcall (W_global F G k.g_law_plain.1 (W_callWithE G k.g_law_plain.2 (W_argsC (W_name F m1 (W_argsC (W_min2 k R.1 G F (W_bin (W_name F m2 (W_cint fun t5 => W_sub fun t6 => W_cint fun t7 => ⟨_, _, _, _, F, O, ⟨t6, rfl⟩, ⟨t7, rfl⟩, fun v h F O hv => W_argsN ⟨G.kin.keeps F.keep, Cd.call ?_⟩⟩)))))))))))
    obtain ⟨tv, rfl⟩ := hv
    have ep : min ((deep : Int) - 1) 2 = ((min (deep - 1) 2 : Nat) : Int) := by omega
    have hp := hC (min (deep - 1) 2) (Nat.min_le_right _ _) (Nat.min_le_left _ _)
    show Cd _ A z (.call (.ref f_law_plain) ⟨[.ref d, .int (min ((deep : Int) - 1) 2) tv], []⟩) _ h
    rw [ep]
    refine ((law_plain P k hr hns (min (deep - 1) 2) (by omega) a1 tv j (by omega)).le (k' := j + 129) (by omega)).use R G F O (fun v l q => q.keeps) fun v l h F O q => ?_
    refine q.elim fun a2 ro2 own2 fz2 t2 s2 x2 d2 T2 o2 g1 eL eV g4 g5 sm2 To2 A2 M2 S2 => ?_
    subst eL eV
    have g4' : (t2, isObj (tupO (.ref x2) (.ref s2))) ∈ exL fz2 := List.mem_map_of_mem (f := fun p : Addr × Obj => (p.1, isObj p.2)) g4
    refine ⟨_, _, t2, .ref x2, .ref s2, rfl, by first | solve_by_elim -exfalso -symm (maxDepth := 30) [List.Mem.head, List.Mem.tail, List.mem_append_left, List.mem_append_right, g4'] | simp [g4'], F, O, fun h F O => W_assignName F O fun h F O => ?_⟩
    refine W_assignC (c := L + 5) F (before O) (fun h F O => ?_) rfl
    exact tree_two (j := j + 10) (n1 := n1) (n2 := 2 * min (deep - 1) 2) P k R G (by omega) (by omega) (by omega) (by omega) h5 sm1 To1 A1 M1 S1 g5 sm2 To2 A2 M2 S2 F ((upd_ne (by decide)).trans m3) ((upd_ne (by decide)).trans m5) upd_same (after O)
end
end Mine
end
section
set_option maxRecDepth 10000
namespace Mine
variable {prog : Program} {w : World} {K : Frag} {ro : List (Addr × Obj)}
theorem cost_mono : ∀ {p q : Nat}, p ≤ q → cost p ≤ cost q
  | _, 0, h => by cases Nat.le_zero.mp h; exact Nat.le_refl _
  | p, q + 1, h => by
    rcases Nat.lt_or_ge p (q + 1) with h1 | h1
    · have h2 := cost_mono (p := p) (q := q) (by omega)
      have h3 : cost (q + 1) = 1 + 2 * cost q := rfl
      omega
    · have : p = q + 1 := by omega
      rw [this]; exact Nat.le_refl _
theorem law_tree0 (P : PrOk prog) (k : KOk K) {d row : Addr} {a : Nat} {ns : List Int} {j : Nat} {rest : Led} {deep : Nat} {td : Tok} (hdeep : deep ≤ 3) (hr : LLst rest row ns) (hn : ns.length ≤ 48) (ha : a + cost deep ≤ 10000)
    (next : 0 < deep → ∀ a td, a + cost (deep - 1) ≤ 10000 → Does prog w K [] (j + 129) (.ref f_law_tree) [.ref d, .int ((deep : Int) - 1) td] [] ((d, dC prog w row a) :: rest) (Made' prog w row d (a + cost (deep - 1)) false (2 * (deep - 1)) rest)) :
    Does prog w K [] (j + 130) (.ref f_law_tree) [.ref d, .int (deep : Int) td] [] ((d, dC prog w row a) :: rest) (Made' prog w row d (a + cost deep) false (2 * deep) rest) := by
  refine does_enterC k.fn_law_tree [("d", .ref d), ("deep", .int deep td)] (fun s _ _ _ _ _ _ _ => BindsTo.of_eq rfl) (fun n x hx => ?_) (by decide +kernel) ?_
  · simp only [List.mem_cons, List.not_mem_nil, or_false] at hx
    rcases hx with rfl | rfl
    · exact .inl rfl
    · exact .inl rfl
  intro A z g L h R G F O
  have O : Ow g L h ([(L + 5, cellC none), (L + 4, cellC none), (L + 3, cellC none), (L + 2, cellC none)] ++ ([(L + 1, cellC none)] ++ ((d, dC prog w row a) :: rest))) := O
  have hc2 := cost_two deep
  refine W_cons (W_assignCell (g := g) (c := L + 1) (W_fcall (W_global F G k.g_law_cell.1 (W_callWithE G k.g_law_cell.2 (W_argsC (W_name F rfl (W_argsN ⟨G.kin.keeps F.keep, Cd.call ?_⟩)))))))
  refine (law_cell (j := j) k hr hn (by omega)).use (R.le (by omega)) G F (O.perm (ledPerm [[(L + 5, cellC none), (L + 4, cellC none), (L + 3, cellC none), (L + 2, cellC none)], [(L + 1, cellC none)], (d, dC prog w row a) :: rest] [0, 1, 2] [2, 0, 1])) (fun v l q => ?_) fun v l h F O q => ?_
  · rw [q.1]; exact Keeps.refl.dcons
  obtain ⟨rfl, N, ⟨tN, rfl⟩, N0⟩ := q
  refine ⟨_, _, none, F, O.perm (ledPerm [(d, dC prog w row (a + 1 : Nat)) :: rest, [(L + 5, cellC none), (L + 4, cellC none), (L + 3, cellC none), (L + 2, cellC none)], [(L + 1, cellC none)]] [0, 1, 2] [2, 1, 0]), fun h F O => ?_⟩
  have O : Ow g L h ([(L + 1, cellC (some (.int N tN)))] ++ ([(L + 5, cellC none), (L + 4, cellC none), (L + 3, cellC none), (L + 2, cellC none)] ++ ((d, dC prog w row (a + 1 : Nat)) :: rest))) := O
  refine W_cons (W_assign (W_bin (W_nameC (c := L + 1) (v := .int N tN) O (by first | solve_by_elim -exfalso -symm (maxDepth := 30) [List.Mem.head, List.Mem.tail, List.mem_append_left, List.mem_append_right] | simp) (W_cint fun t1 => W_mod (by decide) fun t2 => ⟨_, _, F, O, fun h F O => ?_⟩) rfl)))
  refine W_cons (W_assignCell (g := g) (c := L + 1) (W_bin (W_nameC (c := L + 1) (v := .int N tN) O (by first | solve_by_elim -exfalso -symm (maxDepth := 30) [List.Mem.head, List.Mem.tail, List.mem_append_left, List.mem_append_right] | simp) (W_cint fun t3 => W_fdiv (by decide) (by decide) fun t4 => ⟨_, _, _, F, O, fun h F O => ?_⟩) rfl)))
  have kb := Int.fmod_nonneg_of_pos N (b := 8) (by decide)
  have kb2 := Int.fmod_lt_of_pos N (b := 8) (by decide)
  generalize N.fmod 8 = kind at F kb kb2
  generalize N.fdiv 8 = M at O
  have O : Ow g L h (((d, dC prog w row (a + 1 : Nat)) :: rest) ++ ([(L + 1, cellC (some (.int M t4)))] ++ ([(L + 5, cellC none), (L + 4, cellC none), (L + 3, cellC none)] ++ [(L + 2, cellC none)]))) :=
    O.perm (trPerm [[(L + 1, cellC (some (.int M t4)))], [(L + 5, cellC none), (L + 4, cellC none), (L + 3, cellC none)], [(L + 2, cellC none)], [(d, dC prog w row (a + 1 : Nat))], rest] (.op (.var 0) (.op (.op (.var 1) (.var 2)) (.op (.var 3) (.var 4)))) (.op (.op (.var 3) (.var 4)) (.op (.var 0) (.op (.var 1) (.var 2)))))
  -- a leaf
  have leaf : ∀ p1 p2 p3 pr, Wp (model prog w) A z (exec (.Return (some (.Call (.Name "_law_leaf" p1) [.Name "d" p2] [] p3)) pr) (envT L)) (fun fl h => match fl with | .ret v => Ret g L (Made' prog w row d (a + cost deep) false (2 * deep) rest) (.ret v) h | _ => False) h := by
    intro p1 p2 p3 pr
    refine W_ret (W_fcall (W_global F G k.g_law_leaf.1 (W_callWithE G k.g_law_leaf.2 (W_argsC (W_name F rfl (W_argsN ⟨G.kin.keeps F.keep, Cd.call ?_⟩))))))
    refine (law_leaf (j := j + 50) k hr hn (by omega)).use (R.le (by omega)) G F O (fun v l q => q.keeps) fun v l h F O q => ?_
    obtain ⟨a', ro, own, fz, t, s, x, c, T, o, h1, h2, h3, r⟩ := (q.mono (b' := a + cost deep) (p := false) (n' := 2 * deep) (by omega) (Nat.zero_le _)).is_
    subst h3
    exact ⟨_, l, F, O.left, a', ro, own, fz, t, s, x, c, T, o, h1, h2, rfl, r⟩
  refine W_cons (W_if (Wp.mono (Q := fun b h1 => b = decide ((deep : Int) = 0 ∨ kind = 0) ∧ h1 = h) ?_ fun b h1 q => ?_))
  · refine W_tor (W_tcmp (W_name F rfl (W_cint fun t5 => W_eq (W_truthB ⟨fun c => ⟨?_, rfl⟩, fun c => ?_⟩))))
    · simp only [beq_iff_eq] at c
      exact (decide_eq_true (.inl c)).symm
    refine W_tor (W_tcmp (W_name F rfl (W_cint fun t5 => W_eq (W_truthB ⟨fun c2 => ⟨?_, rfl⟩, fun c2 => W_torN ⟨?_, rfl⟩⟩))))
    · simp only [beq_iff_eq] at c2
      exact (decide_eq_true (.inr c2)).symm
    · simp only [beq_eq_false_iff_ne, ne_eq] at c c2
      exact (decide_eq_false fun q => q.elim c c2).symm
  obtain ⟨e1, e2⟩ := q
  rw [e1, e2]
  clear e1 e2
  refine ⟨fun c => W_cons ((leaf _ _ _ _).mono fun fl h q => ?_), fun c => W_nil ?_⟩
  · cases fl <;> first | exact q.elim | exact q
  simp only [decide_eq_false_iff_not, not_or] at c
  obtain ⟨c1, c2⟩ := c
  have hd : 0 < deep := by omega
  clear leaf
  have hcost : cost deep = 1 + 2 * cost (deep - 1) := by
    have : deep = (deep - 1) + 1 := by omega
    conv => lhs; rw [this]
    rfl
  -- first, scores
  refine W_cons (W_unpack2 (g := g) (L := L) R.1 (W_fcall (W_global F G k.g_law_tree.1 (W_callWithE G k.g_law_tree.2 (W_argsC (W_name F rfl (W_argsC (W_bin (W_name F rfl (W_cint fun t5 => W_sub fun t6 => W_argsN ⟨G.kin.keeps F.keep, Cd.call ?_⟩))))))))))
  refine (next hd (a + 1) t6 (by omega)).use R G F O (fun v l q => q.keeps) fun v l h F O q => ?_
  refine q.elim fun a1 ro1 own1 fz1 t1 s1 x1 d1 T1 o1 h1 eL eV h4 h5 sm1 To1 A1 M1 S1 => ?_
  subst eL eV
  have h4' : (t1, isObj (tupO (.ref x1) (.ref s1))) ∈ exL fz1 := List.mem_map_of_mem (f := fun p : Addr × Obj => (p.1, isObj p.2)) h4
  refine ⟨_, _, t1, .ref x1, .ref s1, rfl, by first | solve_by_elim -exfalso -symm (maxDepth := 30) [List.Mem.head, List.Mem.tail, List.mem_append_left, List.mem_append_right, h4'] | simp [h4'], F, O, fun h F O => W_assignName F O fun h F O => ?_⟩
  have O : Ow g L h (((d, dC prog w row (a1 : Nat)) :: (exL ro1 ++ (own1 ++ (exL fz1 ++ rest)))) ++ ([(L + 1, cellC (some (.int M t4)))] ++ ([(L + 5, cellC none), (L + 4, cellC none), (L + 3, cellC none)] ++ [(L + 2, cellC none)]))) := O
  refine W_assignC (c := L + 2) F (O.perm (trPerm [(d, dC prog w row (a1 : Nat)) :: (exL ro1 ++ (own1 ++ (exL fz1 ++ rest))), [(L + 1, cellC (some (.int M t4)))], [(L + 5, cellC none)], [(L + 4, cellC none)], [(L + 3, cellC none)], [(L + 2, cellC none)]] (.op (.var 0) (.op (.var 1) (.op (.op (.var 2) (.op (.var 3) (.var 4))) (.var 5)))) (.op (.var 5) (.op (.var 1) (.op (.var 4) (.op (.var 3) (.op (.var 2) (.var 0)))))))) (fun h F O => ?_) rfl
  have O : Ow g L h ([(L + 2, cellC (some (.ref s1))), (L + 1, cellC (some (.int M t4)))] ++ ([(L + 3, cellC none)] ++ ([(L + 4, cellC none)] ++ ([(L + 5, cellC none)] ++ ((d, dC prog w row (a1 : Nat)) :: (exL ro1 ++ (own1 ++ (exL fz1 ++ rest)))))))) := O
  refine tree_rest (C2 := 0) (tk := t2) (tM := t4) (td := td) (C := cost (deep - 1)) (n1 := 2 * (deep - 1)) (kind := kind) (deep := deep) (M := M) P k R G hd hdeep rfl rfl (by omega) ha (fun p _ hp => cost_mono hp) hr hn (fun a td ha => next hd a td ha) h5 sm1 To1 A1 M1 S1 (by omega) (by omega) F ?_ ?_ ?_ ?_ O
  · rfl
  · rfl
  · rfl
  · rfl
theorem law_tree (P : PrOk prog) (k : KOk K) {d row : Addr} {ns : List Int} {rest : Led} (hr : LLst rest row ns) (hn : ns.length ≤ 48) : ∀ (deep : Nat), deep ≤ 3 → ∀ (a : Nat) (td : Tok) (j : Nat), a + cost deep ≤ 10000 →
    Does prog w K [] (j + 130 + deep) (.ref f_law_tree) [.ref d, .int (deep : Int) td] [] ((d, dC prog w row a) :: rest) (Made' prog w row d (a + cost deep) false (2 * deep) rest)
  | 0, hd, a, td, j, ha => (law_tree0 (j := j) (deep := 0) P k hd hr hn ha fun h => absurd h (Nat.lt_irrefl _)).le (by omega)
  | deep + 1, hd, a, td, j, ha => by
    refine (law_tree0 (j := j + 1 + deep) (deep := deep + 1) P k hd hr hn ha fun _ a td ha => ?_).le (by omega)
    have e : ((deep + 1 : Nat) : Int) - 1 = (deep : Int) := by omega
    rw [e]
    exact (law_tree P k hr hn deep (by omega) a td j ha).le (by omega)
end Mine
end
section
set_option maxRecDepth 10000
namespace Mine
variable {prog : Program} {w : World} {K : Frag} {ro : List (Addr × Obj)}
section
variable {A : Around} {z : Shared} {g h : Heap} {L : Addr} {m : Str → Option Value} {led : Led} {qual : Str} {scope : Scope} {fa : Addr} {cdv : Value} {cl : List (Str × Addr)}
theorem W_is {a b : Value} {Q : Value → Heap → Prop} (hp : plainIs a b = true) (q : Q (.bool (a == b)) h) : Wp (model prog w) A z (compareOp .Is a b) Q h := fun tk => wpAny_is_plain (s := St z h tk) hp ⟨h, tk, rfl, q⟩
theorem Ow.cut {S B b C : Led} (O : Ow g L h (S ++ (B ++ C))) (s : Sub b B) : Ow g L h (S ++ (b ++ C)) := by
  obtain ⟨n1, n2, n3⟩ := nodup_append.mp O.nd
  obtain ⟨n4, n5, n6⟩ := nodup_append.mp n2
  refine O.sub ⟨fun e he => ?_, nodup_append.mpr ⟨n1, nodup_append.mpr ⟨s.nd, n5, fun p hp q hq => n6 p (s.mem p hp) q hq⟩, fun p hp q hq => ?_⟩⟩
  · rcases List.mem_append.mp he with he | he
    · exact List.mem_append_left _ he
    · rcases List.mem_append.mp he with he | he
      · exact List.mem_append_right _ (List.mem_append_left _ (s.mem e he))
      · exact List.mem_append_right _ (List.mem_append_right _ he)
  · rcases List.mem_append.mp hq with hq | hq
    · exact n3 p hp q (List.mem_append_left _ (s.mem q hq))
    · exact n3 p hp q (List.mem_append_right _ hq)
/-- a list that stands in the heap, cut -/
theorem W_sliceH {value : Expr} {lo hi : Option Expr} {pl pu : Option Int} {p2 pos : Pos} {l : Addr} {ns ms : List Int} {Q : Value → Heap → Prop} (F : Fr g L h m) (O : Ow g L h led) {vs : List Value} (il : h.IsList l (List.toArray vs)) (ia : IntsAre vs ns) (hl : ns.length ≤ 1000)
    (hv : Ev prog w A z (envX qual scope L fa cdv cl) h value (.ref l)) (elo : Wp (model prog w) A z (evalPart lo (envX qual scope L fa cdv cl)) (fun v h1 => IsPart v pl ∧ h1 = h) h) (ehi : Wp (model prog w) A z (evalPart hi (envX qual scope L fa cdv cl)) (fun v h1 => IsPart v pu ∧ h1 = h) h)
    (hm : ∀ vs : List Value, IntsAre vs ns → IntsAre (slicePick vs.toArray pl pu none).toList ms)
    (q : ∀ D ws h', IntsAre ws ms → Fr g L h' m → Ow g L h' ((D, isObj (listOf (List.toArray ws) 0)) :: led) → Q (.ref D) h')
    (hs : ∀ s : Addr, subscripted (.Slice lo hi none p2) false (.ref l) (.ref s) = operate [.ref s, .ref l] (getItem (.ref l) (.ref s)) := by intro _; with_unfolding_all rfl) (ht : ∀ r, letTemporaryGo value (.ref l) r = pure () := by intro _; with_unfolding_all rfl) :
    Wp (model prog w) A z (eval (.Subscript value (.Slice lo hi none p2) pos) (envX qual scope L fa cdv cl)) Q h := fun tk => by
  refine Subscript_ (hv.go (Q := fun v h1 => v = .ref l ∧ h1 = h) ⟨rfl, rfl⟩ |>.go (fun v h1 t1 k => ?_) tk)
  obtain ⟨rfl, rfl⟩ := k
  refine wpAny_Slice (elo.go (fun v h1 t1 k => ?_) t1)
  obtain ⟨plo, rfl⟩ := k
  refine ehi.go (fun v h1 t1 k => ?_) t1
  obtain ⟨phi, rfl⟩ := k
  refine evalPart_none_step ?_
  have hsz : vs.toArray.size ≤ sizeLine := by
    have : (1000 : Nat) ≤ sizeLine := by decide
    have := ia.length
    simp only [List.size_toArray]; omega
  refine kmk_slice_ints (s := St z h1 t1) (c := ms.length) F O.news il plo phi ia (hm vs ia) rfl (fun D ws h' F' N' lt hi' _ _ => ⟨h', t1, rfl, q D ws h' hi' F' ?_⟩) (hs _) ht hsz
  have nD := (N' _ (List.mem_cons_self ..)).2
  have O1 : Ow g L h' led := O.ofNews fun p hp => N' p (List.mem_cons_of_mem _ hp)
  have lt2 : ∀ p ∈ led, p.1 < D := fun p hp => lt _ (List.mem_map_of_mem (f := fun p : Addr × Cell => (p.1, (h1.get? p.1).getD default)) hp)
  refine ⟨⟨⟨fun p hp => ?_⟩, fun p hp => ?_, List.pairwise_cons.mpr ⟨fun q hq e => absurd (lt2 q hq) (by rw [← show D = q.1 from e]; exact Nat.lt_irrefl _), O.nd⟩⟩, fun p hp => ?_⟩
  · rcases List.mem_cons.mp hp with rfl | hp
    · exact ⟨_, (N' _ (List.mem_cons_self ..)).1, rfl⟩
    · exact O1.has.get p hp
  · rcases List.mem_cons.mp hp with rfl | hp
    · exact nD.2
    · exact O.own.off p hp
  · rcases List.mem_cons.mp hp with rfl | hp
    · exact nD.1
    · exact O.ne p hp
theorem W_partN {env : Env} : Wp (model prog w) A z (evalPart none env) (fun v h1 => IsPart v none ∧ h1 = h) h := fun tk => evalPart_none_step ⟨h, tk, rfl, .none, rfl⟩
theorem W_partI {env : Env} {i : Int} {k : Nat} {pos : Pos} : Wp (model prog w) A z (evalPart (some (.Constant (.int i) k pos)) env) (fun v h1 => IsPart v (some i) ∧ h1 = h) h := fun tk => evalPart_some_step (W_cint (z := z) (Q := fun v h1 => IsPart v (some i) ∧ h1 = h) (fun t => ⟨.int i t, rfl⟩) tk)
theorem W_slice' {value : Expr} {lo hi : Option Expr} {pl pu : Option Int} {p2 pos : Pos} {l : Addr} {ns ms : List Int} {Q : Value → Heap → Prop} (F : Fr g L h m) (O : Ow g L h led) (x : LLst led l ns) (hl : ns.length ≤ 1000)
    (hv : Ev prog w A z (envX qual scope L fa cdv cl) h value (.ref l)) (elo : Wp (model prog w) A z (evalPart lo (envX qual scope L fa cdv cl)) (fun v h1 => IsPart v pl ∧ h1 = h) h) (ehi : Wp (model prog w) A z (evalPart hi (envX qual scope L fa cdv cl)) (fun v h1 => IsPart v pu ∧ h1 = h) h)
    (hm : ∀ vs : List Value, IntsAre vs ns → IntsAre (slicePick vs.toArray pl pu none).toList ms)
    (q : ∀ D ws h', IntsAre ws ms → Fr g L h' m → Ow g L h' ((D, isObj (listOf (List.toArray ws) 0)) :: led) → Q (.ref D) h')
    (hs : ∀ s : Addr, subscripted (.Slice lo hi none p2) false (.ref l) (.ref s) = operate [.ref s, .ref l] (getItem (.ref l) (.ref s)) := by intro _; with_unfolding_all rfl) (ht : ∀ r, letTemporaryGo value (.ref l) r = pure () := by intro _; with_unfolding_all rfl) :
    Wp (model prog w) A z (eval (.Subscript value (.Slice lo hi none p2) pos) (envX qual scope L fa cdv cl)) Q h :=
  let ⟨vs, il, ia⟩ := x.isList O; W_sliceH F O il ia hl hv elo ehi hm q hs ht
theorem pick_from {ns : List Int} (x : Nat) : ∀ vs : List Value, IntsAre vs ns → IntsAre (slicePick vs.toArray (some (x : Int)) none none).toList (ns.drop x) := fun vs h => by
  have := kmk_from (x := (x : Int)) h (by omega)
  rwa [Int.toNat_natCast] at this
theorem pick_upto {ns : List Int} (x : Nat) : ∀ vs : List Value, IntsAre vs ns → IntsAre (slicePick vs.toArray none (some (x : Int)) none).toList (ns.take x) := fun vs h => by
  have := kmk_upto (y := (x : Int)) h (by omega)
  rwa [Int.toNat_natCast] at this
end
end Mine
end
section
set_option maxRecDepth 10000
namespace Mine
variable {prog : Program} {w : World} {K : Frag} {ro : List (Addr × Obj)}
noncomputable abbrev envLaw (L : Addr) : Env := envX rf_law.qual (defScope rf_law.st) L f_law rf_law.cdv []
section
variable {A : Around} {z : Shared} {g h : Heap} {L : Addr} {m : Str → Option Value} {led : Led} {env : Env}
theorem W_isNotP {a b : Value} {Q : Value → Heap → Prop} (hp : plainIs a b = true) (q : Q (.bool (!(a == b))) h) : Wp (model prog w) A z (compareOp .IsNot a b) Q h := fun tk => wpAny_isNot_plain (s := St z h tk) hp ⟨h, tk, rfl, q⟩
noncomputable def dict0 : Obj := { cls := .type "dict", data := .dict #[] }
theorem Ow.thawN {D : Addr} {o : Obj} (O : Ow g L h ((D, isObj o) :: led)) (hn : ∀ p ∈ led, p.1 ≠ D) : Ow g L h ((D, dcO o) :: led) := by
  refine ⟨⟨⟨fun p hp => ?_⟩, fun p hp => ?_, List.pairwise_cons.mpr ⟨fun q hq e => absurd e.symm (hn q hq), (List.pairwise_cons.mp O.nd).2⟩⟩, fun p hp => ?_⟩
  · rcases List.mem_cons.mp hp with rfl | hp
    · exact O.has.get (D, isObj o) (List.mem_cons_self ..)
    · exact O.has.get p (List.mem_cons_of_mem _ hp)
  · rcases List.mem_cons.mp hp with rfl | hp
    · exact O.own.off (D, isObj o) (List.mem_cons_self ..)
    · exact O.own.off p (List.mem_cons_of_mem _ hp)
  · rcases List.mem_cons.mp hp with rfl | hp
    · exact O.ne (D, isObj o) (List.mem_cons_self ..)
    · exact O.ne p (List.mem_cons_of_mem _ hp)
/-- {'row': e, 'at': 0} -/
theorem W_dictRow {v1 : Expr} {k1 k2 k3 : Nat} {p1 p2 p3 pos : Pos} {Q : Value → Heap → Prop} (F : Fr g L h m) (O : Ow g L h led)
    (x : ∀ h1 D, Fr g L h1 m → Ow g L h1 ((D, dcO dict0) :: led) → Wp (model prog w) A z (eval v1 env) (fun v h2 => ∃ row led2, v = .ref row ∧ Fr g L h2 m ∧ Ow g L h2 ((D, dcO dict0) :: led2) ∧ ∀ h3, Fr g L h3 m → Ow g L h3 ((D, dC prog w row 0) :: led2) → Q (.ref D) h3) h1) :
    Wp (model prog w) A z (eval (.Dict [some (.Constant (.str "row") k1 p1), some (.Constant (.str "at") k2 p2)] [v1, .Constant (.int 0) k3 p3] pos) env) Q h := fun tk => by
  refine Dict_made_str (s := St z h tk) rfl F rfl rfl (List.cons_ne_nil _ _) (by show 2 ≤ 15; decide) fun F0 => ?_
  obtain ⟨F1, O1⟩ := O.add1 F dict0 rfl
  have O1 := O1.thawN fun p hp e => by
    obtain ⟨x, e1, _⟩ := O.has.get p hp
    have := Heap.lt_size e1
    rw [e] at this; exact Nat.lt_irrefl _ this
  refine pairTrees_cons_walk ((W_cstr (z := z) (Q := fun v h1 => (∃ t, v = .str "row" t) ∧ h1 = h.push dict0) fun t => ⟨⟨t, rfl⟩, rfl⟩).go (fun kv hh t1 q => ?_) tk)
  obtain ⟨⟨ta, rfl⟩, rfl⟩ := q
  refine (x _ _ F1 O1).go (fun v h2 t2 q => ?_) t1
  obtain ⟨row, led2, rfl, F2, O2, q⟩ := q
  refine pairTrees_cons_walk ((W_cstr (z := z) (Q := fun v h1 => (∃ t, v = .str "at" t) ∧ h1 = h2) fun t => ⟨⟨t, rfl⟩, rfl⟩).go (fun kv hh t3 q => ?_) t2)
  obtain ⟨⟨tb, rfl⟩, rfl⟩ := q
  refine (W_cint (z := z) (Q := fun v h1 => (∃ t, v = .int 0 t) ∧ h1 = hh) fun t => ⟨⟨t, rfl⟩, rfl⟩).go (fun kv hh2 t4 q => ?_) t3
  obtain ⟨⟨tc, rfl⟩, rfl⟩ := q
  refine pairTrees_nil_walk ?_
  have hD : hh2.get? h.objs.size = some dict0 := let ⟨o, e, e2⟩ := O2.get (List.mem_cons_self ..); e2 ▸ e
  have nd := List.pairwise_cons.mp O2.nd
  have ne := O2.ne (h.objs.size, dcO dict0) (List.mem_cons_self ..)
  have off := O2.own.off (h.objs.size, dcO dict0) (List.mem_cons_self ..)
  refine display_done_str (vs := [(.str "row" ta, .ref row), (.str "at" tb, .int 0 tc)]) rfl (by show (["row", "at"] : List Str).Nodup; decide +kernel) ⟨_, #[], 0, hD, ⟨rfl, rfl, rfl⟩, rfl, fun _ he => by simp at he, Pairs.nil, List.nodup_nil⟩ fun h' hm hs => ?_
  obtain ⟨o', ho', hd'⟩ := Heap.dictOf_iff.mp hm
  have keep : ∀ b, b ≠ h.objs.size → h'.get? b = hh2.get? b := fun b hb => hs.2 b hb
  -- the end
  refine ⟨h', t4 + 2, rfl, q h' ⟨F2.ns.sameBut hs (Ne.symm ne), fun b ob e => (keep b fun q => by rw [q, off] at e; cases e).trans (F2.keep b ob e), F2.above⟩ ⟨⟨⟨fun p hp => ?_⟩, fun p hp => ?_, List.pairwise_cons.mpr ⟨fun q hq e => (nd.1 q hq e).1.elim, nd.2⟩⟩, fun p hp => ?_⟩⟩
  · rcases List.mem_cons.mp hp with rfl | hp
    · exact ⟨o', ho', tc, hd'⟩
    · obtain ⟨x, e, px⟩ := O2.has.get p (List.mem_cons_of_mem _ hp)
      exact ⟨x, (keep p.1 fun e => (nd.1 p hp e.symm).1.elim).trans e, px⟩
  · rcases List.mem_cons.mp hp with rfl | hp
    · exact off
    · exact O2.own.off p (List.mem_cons_of_mem _ hp)
  · rcases List.mem_cons.mp hp with rfl | hp
    · exact ne
    · exact O2.ne p (List.mem_cons_of_mem _ hp)
end
end Mine
end
section
set_option maxRecDepth 10000
namespace Mine
variable {prog : Program} {w : World} {K : Frag} {ro : List (Addr × Obj)}
section
variable {A : Around} {z : Shared} {g h : Heap} {L : Addr} {m : Str → Option Value} {led : Led} {env : Env}
/-- a matcher of the law, its contracts lifted -/
structure At (prog : Program) (w : World) (K : Frag) (ro : List (Addr × Obj)) (own : Led) (x : Addr) (T : Tb) : Prop where
  rep : MRep ro false 6 own x T
  sp : SpecAt prog w K ro 84 false 6 own x T
  ap : ∀ p ∈ ro, p.1 ∉ addrs own
theorem at_of (P : PrOk prog) (k : KOk K) {S own FZ : Led} {x : Addr} {T : Tb} (hA : AllL ro) (M : MRep ro false 6 own x T) (O : Ow g L h (S ++ ((exL ro ++ own) ++ FZ))) : At prog w K ro own x T :=
  ⟨M, spec_all P k 6 ro false own x T M, apart_of O (fun e he => by first | solve_by_elim -exfalso -symm (maxDepth := 30) [List.Mem.head, List.Mem.tail, List.mem_append_left, List.mem_append_right, he] | simp [he]) (fun e he => by first | solve_by_elim -exfalso -symm (maxDepth := 30) [List.Mem.head, List.Mem.tail, List.mem_append_left, List.mem_append_right, he] | simp [he]) hA M.noList⟩
theorem W_look {S FZ own : Led} {x s ll : Addr} {e : Int × Int} {T c : Tb} {p1 p2 p3 p4 p5 p6 p7 p8 p9 p10 p11 p12 p13 p14 p15 p16 p17 p18 p19 p20 p21 p22 : Pos} {k1 k2 k3 : Nat} {whole : Sem Value} {Q : Bool → Heap → Prop}
    (R : Room A 90) (G : Gd K [] g) (F : Fr g L h m) (O : Ow g L h (S ++ ((exL ro ++ own) ++ FZ))) (hm : m "matcher" = some (.ref x)) (hl : m "left" = some (.ref ll)) (hs : m "scores" = some (.ref s))
    (M : At prog w K ro own x (e :: T)) (ol : LLst FZ ll ((e :: T).map (·.1))) (os : DTab prog w FZ s c) (hc : lk e.1 c = some e.2) (hT : (e :: T).length ≤ 1000)
    (q : ∀ h', Fr g L h' m → Ow g L h' (S ++ ((exL ro ++ own) ++ FZ)) → Q false h')
    (he1 : CallIs (envLaw L) (.Name "matcher" p1) "is_active" p2 p3 [] [] := by rfl) (he2 : CallIs (envLaw L) (.Name "matcher" p6) "id" p7 p8 [] [] := by rfl) (he3 : CallIs (envLaw L) (.Name "matcher" p13) "score" p14 p15 [] [] := by rfl) :
    Wp (model prog w) A z (isTrue (.BoolOp .Or [.Compare (.Call (.Attribute (.Name "matcher" p1) "is_active" p2) [] [] p3) [.IsNot] [.Constant (.bool true) k1 p4] p5,
      .Compare (.Call (.Attribute (.Name "matcher" p6) "id" p7) [] [] p8) [.NotEq] [.Subscript (.Name "left" p9) (.Constant (.int 0) k2 p10) p11] p12,
      .Compare (.Call (.Attribute (.Name "matcher" p13) "score" p14) [] [] p15) [.NotEq] [.Subscript (.Name "scores" p16) (.Subscript (.Name "left" p17) (.Constant (.int 0) k3 p18) p19) p20] p21] p22) (envLaw L) whole) Q h := by
  have lift : ∀ a ∈ FZ, a ∈ S ++ ((exL ro ++ own) ++ FZ) := fun a ha => by simp [ha]
  have ol' := ol.lift lift
  have os' := os.lift lift
  have hl2 : ((e :: T).map (·.1)).length ≤ 1000 := by simpa using hT
  refine W_tor (W_tcmp (W_p0 (M.sp.active.liftP M.ap) (R.le (by omega)) G F O (sA O) (ev_name F hm) (fun v h1 F O q1 => ?_) he1))
  subst q1
  refine W_cbool (W_isNotP (by rfl) (W_truthB ⟨fun c => by simp at c, fun _ => ?_⟩))
  refine W_tor (W_tcmp (W_p0 ((M.sp.id e T rfl).liftP M.ap) (R.le (by omega)) G F O (sA O) (ev_name F hm) (fun v h1 F O q1 => ?_) he2))
  obtain ⟨t1, rfl⟩ := q1
  refine W_subscr (W_name F hl (W_cint fun t2 => W_itemO (i := 0) ol' O hl2 rfl fun t3 => W_ne (W_truthB ⟨fun c => by simp at c, fun _ => ?_⟩)))
  refine W_tor (W_tcmp (W_p0 ((M.sp.score e T rfl).liftP M.ap) (R.le (by omega)) G F O (sA O) (ev_name F hm) (fun v h1 F O q1 => ?_) he3))
  obtain ⟨t4, rfl⟩ := q1
  refine W_subscr (W_name F hs (W_subscr (W_name F hl (W_cint fun t5 => W_itemO (i := 0) ol' O hl2 rfl fun t6 => W_ditem (os'.tab O) (by rw [has_lk, hc]; rfl) fun t7 => W_ne (W_truthB ⟨fun c => ?_, fun _ => W_torN (q _ F O)⟩)))))
  rw [look_lk, hc] at c
  simp at c
end
end Mine
end
section
set_option maxRecDepth 10000
namespace Mine
variable {prog : Program} {w : World} {K : Frag} {ro : List (Addr × Obj)}
section
variable {A : Around} {z : Shared} {g h : Heap} {L : Addr} {m : Str → Option Value} {led : Led} {env : Env}
theorem Ow.cutA {S X B b C : Led} (O : Ow g L h (S ++ ((X ++ B) ++ C))) (s : Sub b B) : Ow g L h (S ++ ((X ++ b) ++ C)) := by
  have e : S ++ ((X ++ B) ++ C) = (S ++ X) ++ (B ++ C) := by first | solve_by_elim -exfalso -symm (maxDepth := 30) [List.Mem.head, List.Mem.tail, List.mem_append_left, List.mem_append_right] | simp
  have e2 : S ++ ((X ++ b) ++ C) = (S ++ X) ++ (b ++ C) := by first | solve_by_elim -exfalso -symm (maxDepth := 30) [List.Mem.head, List.Mem.tail, List.mem_append_left, List.mem_append_right] | simp
  rw [e] at O; rw [e2]; exact O.cut s
theorem Vn.noRef {v : Value} (h : Vn v) : ∀ a, v ≠ .ref a := fun a e => by
  rcases h with rfl | ⟨b, rfl⟩ <;> cases e
theorem law_end (P : PrOk prog) (k : KOk K) {S FZ own : Led} {x s ll : Addr} {T c : Tb} (R : Room A 100) (G : Gd K [] g) (F : Fr g L h m) (O : Ow g L h (S ++ ((exL ro ++ own) ++ FZ))) (hm : m "matcher" = some (.ref x)) (hl : m "left" = some (.ref ll)) (hs : m "scores" = some (.ref s))
    (hA : AllL ro) (M : MRep ro false 6 own x T) (ol : LLst FZ ll (T.map (·.1))) (os : DTab prog w FZ s c) (hc : ∀ e ∈ T, lk e.1 c = some e.2) (hT : T.length ≤ 1000) :
    Wp (model prog w) A z (execs ((defBody rf_law.st).drop 4) (envLaw L)) (Ret g L fun v _ => v = .bool true) h := by
  refine W_cons (W_while (fun n h => ∃ m own FZ ll T, n = T.length ∧ Fr g L h m ∧ Ow g L h (S ++ ((exL ro ++ own) ++ FZ)) ∧ m "matcher" = some (.ref x) ∧ m "left" = some (.ref ll) ∧ m "scores" = some (.ref s) ∧ MRep ro false 6 own x T ∧ LLst FZ ll (T.map (·.1)) ∧ DTab prog w FZ s c ∧ (∀ e ∈ T, lk e.1 c = some e.2) ∧ T.length ≤ 1000) T.length
    ⟨m, own, FZ, ll, T, rfl, F, O, hm, hl, hs, M, ol, os, hc, hT⟩ ?_)
  clear F O hm hl hs M ol os hc hT
  rintro n h ⟨m, own, FZ, ll, T, rfl, F, O, hm, hl, hs, M, ol, os, hc, hT⟩
  have lift : ∀ {l0 : Addr × Cell} {FZ : Led}, ∀ a ∈ FZ, a ∈ l0 :: (S ++ ((exL ro ++ own) ++ FZ)) := fun a ha => by simp [ha]
  refine W_tcmp (W_name F hl (W_list0 F O fun l0 h F O => W_lne R.units O (ol.lift lift) (ms := []) ⟨[], 0, List.mem_cons_self .., IntsAre.nil⟩ (W_truthB ⟨fun ct => ?_, fun cf => ?_⟩)))
  · cases T with
    | nil => simp at ct
    | cons e T =>
    have O := O.right (a := [(l0, isObj (listOf (List.toArray []) 0))])
    have M' := at_of (w := w) P k hA M O
    refine W_cons (W_if (W_look (R.le (by omega)) G F O hm hl hs M' ol os (hc e (List.mem_cons_self ..)) hT (fun h F O => ⟨fun c => (by cases c), fun _ => W_nil ?_⟩)))
    refine W_cons (W_expr (W_tA0 ((M'.sp.next e T rfl).lift M'.ap) (fun v l ⟨l', e1, _, _, kk⟩ => by rw [e1]; exact kk.exL) (R.le (by omega)) G F O (ev_name F hm) fun v a' h F O q => ?_))
    obtain ⟨own', e1, hv, M2, _⟩ := q
    subst e1
    refine ⟨hv.noRef, ?_⟩
    have ol2 : LLst (S ++ ((exL ro ++ own') ++ FZ)) ll ((e :: T).map (·.1)) := ol.lift fun a ha => by simp [ha]
    refine W_cons (W_assign (W_slice' (pl := some 1) (pu := none) (ms := T.map (·.1)) F O ol2 (by simpa using hT) (ev_name F hl) W_partI W_partN (pick_from 1) fun D ws h iw F O => ⟨_, _, F, O, fun h F O => ?_⟩))
    refine W_nil ⟨T.length, Nat.lt_succ_self _, _, own', (D, isObj (listOf (List.toArray ws) 0)) :: FZ, D, T, rfl, F, O.perm (trPerm [[(D, isObj (listOf (List.toArray ws) 0))], S, exL ro ++ own', FZ] (.op (.var 0) (.op (.var 1) (.op (.var 2) (.var 3)))) (.op (.var 1) (.op (.var 2) (.op (.var 0) (.var 3))))), hm, rfl, hs, M2, ⟨ws, 0, List.mem_cons_self .., iw⟩, os.lift fun a ha => List.mem_cons_of_mem _ ha, fun e' he => hc e' (List.mem_cons_of_mem _ he), by simp at hT; omega⟩
  · have O := O.right (a := [(l0, isObj (listOf (List.toArray []) 0))])
    have hT0 : T = [] := by simpa using cf
    subst hT0
    have M' := at_of (w := w) P k hA M O
    refine W_nil (W_cons (W_ret (W_and (W_cmp (W_p0 (M'.sp.active.liftP M'.ap) (R.le (by omega)) G F O (sA O) (ev_name F hm) fun v h1 F O q1 => ?_)))))
    subst q1
    refine W_cbool (W_is (by rfl) (W_truthB ⟨fun _ => ?_, fun c => by cases c⟩))
    refine W_or1 (W_cmp (W_mcall (W_tA0 ((M'.sp.repl [] (.inl rfl)).lift M'.ap) (fun v l q => ?_) (R.le (by omega)) G F O (ev_name F hm) fun v a' h F O q => ?_)))
    · obtain ⟨l', rfl, nw, rfl, _⟩ := q
      exact fun p hp f => (List.mem_append.mp hp).elim (fun h => List.mem_append_left _ h) fun h => List.mem_append_right _ (List.mem_append_right _ h)
    obtain ⟨l', rfl, nw, rfl, y, o1, rfl, sub, M2⟩ := q
    have O := O.cutA sub
    have M3 := at_of (w := w) P k hA M2 O
    obtain ⟨f, Mm, D⟩ := (M3.sp.active.liftP M3.ap).is_
    refine W_getMethod F G O (sA O).mem Mm (W_callWith0 F G Mm.keep (Cd.call (D.useP (R.le (by omega)) G F O (sA O) fun v h F O q => ?_)))
    subst q
    exact W_cbool (W_is (by rfl) ⟨_, _, F, O, rfl⟩)
end
end Mine
end
section
set_option maxRecDepth 10000
namespace Mine
variable {prog : Program} {w : World} {K : Frag} {ro : List (Addr × Obj)}
section
variable {A : Around} {z : Shared} {g h : Heap} {L : Addr} {m : Str → Option Value} {led : Led} {env : Env}
/-- the other one is moved, and lost -/
theorem W_other (P : PrOk prog) (k : KOk K) {S X B FZ : Led} {y : Addr} {e : Int × Int} {T : Tb} {p1 p2 p3 p4 : Pos} {Q : Flow → Heap → Prop} (R : Room A 90) (G : Gd K [] g) (F : Fr g L h m) (O : Ow g L h (S ++ ((exL ro ++ (X ++ B)) ++ FZ))) (hA : AllL ro)
    (hm : m "other" = some (.ref y)) (M : MRep ro false 6 B y (e :: T)) (q : ∀ h', Fr g L h' m → Ow g L h' (S ++ ((exL ro ++ X) ++ FZ)) → Q .next h')
    (he : CallIs (envLaw L) (.Name "other" p1) "next" p2 p3 [] [] := by rfl) (hi : interactive (envLaw L) = false := by rfl) (hs : swapsWith (.Call (.Attribute (.Name "other" p1) "next" p2) [] [] p3) none p4.line (envLaw L) = pure false := by rfl) :
    Wp (model prog w) A z (exec (.Expr (.Call (.Attribute (.Name "other" p1) "next" p2) [] [] p3) p4) (envLaw L)) Q h := by
  have O : Ow g L h ((S ++ X) ++ ((exL ro ++ B) ++ FZ)) := O.perm (trPerm [S, exL ro, X, B, FZ] (.op (.var 0) (.op (.op (.var 1) (.op (.var 2) (.var 3))) (.var 4))) (.op (.op (.var 0) (.var 2)) (.op (.op (.var 1) (.var 3)) (.var 4))))
  have M' := at_of (w := w) P k hA M O
  refine W_expr (W_tA0 ((M'.sp.next e T rfl).lift M'.ap) (fun v l ⟨l', e1, _, _, kk⟩ => by rw [e1]; exact kk.exL) (R.le (by omega)) G F O (ev_name F hm) (fun v a' h F O q1 => ?_) he) hi hs
  obtain ⟨own', e1, hv, M2, _⟩ := q1
  subst e1
  refine ⟨hv.noRef, q _ F ?_⟩
  exact (O.perm (trPerm [S, X, exL ro, own', FZ] (.op (.op (.var 0) (.var 1)) (.op (.op (.var 2) (.var 3)) (.var 4))) (.op (.var 3) (.op (.var 0) (.op (.var 2) (.op (.var 1) (.var 4))))))).right (a := own') |>.perm (trPerm [S, exL ro, X, FZ] (.op (.var 0) (.op (.var 1) (.op (.var 2) (.var 3)))) (.op (.var 0) (.op (.op (.var 1) (.var 2)) (.var 3))))
structure LawS (prog : Program) (w : World) (ro : List (Addr × Obj)) (row d s : Addr) (c : Tb) (ns : List Int) (b : Nat) (x ll : Addr) (a : Nat) (own FZ : Led) (T : Tb) (m : Str → Option Value) : Prop where
  ha : a ≤ b
  hd : m "d" = some (.ref d)
  hm : m "matcher" = some (.ref x)
  hl : m "left" = some (.ref ll)
  hs : m "scores" = some (.ref s)
  M : MRep ro false 6 own x T
  ol : LLst FZ ll (T.map (·.1))
  os : DTab prog w FZ s c
  or : LLst FZ row ns
  hc : ∀ e ∈ T, lk e.1 c = some e.2
  hT : T.length ≤ 1000
noncomputable abbrev rest0 (prog : Program) (w : World) (ro : List (Addr × Obj)) (row d : Addr) (a : Nat) (own FZ : Led) : Led := (d, dC prog w row (a : Nat)) :: ((exL ro ++ own) ++ FZ)
noncomputable def forBody : Stmt → List Stmt
  | .For _ _ b _ _ => b
  | _ => []
theorem law_turn (P : PrOk prog) (k : KOk K) {row d s : Addr} {c : Tb} {ns : List Int} {b : Nat} {x ll : Addr} {a : Nat} {own FZ : Led} {T : Tb} {I : Cell} {aI : Addr} {Q : Flow → Heap → Prop} (R : Room A 100) (G : Gd K [] g) (hA : AllL ro) (hn : ns.length ≤ 48) (hb : b ≤ 1000)
    (J : LawS prog w ro row d s c ns b x ll a own FZ T m) (F : Fr g L h m) (O : Ow g L h ((aI, I) :: rest0 prog w ro row d a own FZ))
    (next : ∀ x ll a own FZ T m h, Fr g L h m → Ow g L h ((aI, I) :: rest0 prog w ro row d a own FZ) → LawS prog w ro row d s c ns (b + 1) x ll a own FZ T m → Q .next h)
    (brk : ∀ h, T = [] → Fr g L h m → Ow g L h ((aI, I) :: rest0 prog w ro row d a own FZ) → Q .brk h) :
    Wp (model prog w) A z (execs (forBody (nth (defBody rf_law.st) 3)) (envLaw L)) Q h := by
  have lift : ∀ {l0 : Addr × Cell}, ∀ e ∈ FZ, e ∈ l0 :: ((aI, I) :: rest0 prog w ro row d a own FZ) := fun e he => by first | solve_by_elim -exfalso -symm (maxDepth := 30) [List.Mem.head, List.Mem.tail, List.mem_append_left, List.mem_append_right, he] | simp [he]
  refine W_cons (W_if (W_tcmp (W_name F J.hl (W_list0 F O fun l0 h F O => W_leq R.units O (J.ol.lift lift) (ms := []) ⟨[], 0, List.mem_cons_self .., IntsAre.nil⟩ (W_truthB ⟨fun ct => ?_, fun cf => W_nil ?_⟩)))))
  · exact W_cons (W_break (brk _ (by simpa using ct) F (O.right (a := [(l0, isObj (listOf (List.toArray []) 0))]))))
  have O := O.right (a := [(l0, isObj (listOf (List.toArray []) 0))])
  obtain ⟨ha, hd, hm, hl, hs, M, ol, os, or, hc, hT⟩ := J
  cases T with
  | nil => simp at cf
  | cons e T =>
  have O : Ow g L h ([(aI, I), (d, dC prog w row (a : Nat))] ++ ((exL ro ++ own) ++ FZ)) := O
  have M' := at_of (w := w) P k hA M O
  refine W_cons (W_if (W_look (R.le (by omega)) G F O hm hl hs M' ol os (hc e (List.mem_cons_self ..)) hT (fun h F O => ⟨fun c => (by cases c), fun _ => W_nil ?_⟩)))
  -- the number
  have or' : LLst ((exL ro ++ own) ++ FZ) row ns := or.lift fun e he => by first | solve_by_elim -exfalso -symm (maxDepth := 30) [List.Mem.head, List.Mem.tail, List.mem_append_left, List.mem_append_right, he] | simp [he]
  refine W_cons (W_assign (g := g) (W_fcall (W_global F G k.g_law_cell.1 (W_callWithE G k.g_law_cell.2 (W_argsC (W_name F hd (W_argsN ⟨G.kin.keeps F.keep, Cd.call ?_⟩)))))))
  refine (law_cell (j := 20) k or' hn (by omega)).use (R.le (by omega)) G F (O.perm (trPerm [[(aI, I)], (d, dC prog w row (a : Nat)) :: ((exL ro ++ own) ++ FZ)] (.op (.var 0) (.var 1)) (.op (.var 1) (.var 0)))) (fun v l q => ?_) fun v l h F O q => ?_
  · rw [q.1]; exact Keeps.refl.dcons
  obtain ⟨rfl, N, ⟨tN, rfl⟩, N0⟩ := q
  refine ⟨_, _, F, O, fun h F O => ?_⟩
  have O : Ow g L h ([(aI, I), (d, dC prog w row ((a + 1 : Nat) : Nat))] ++ ((exL ro ++ own) ++ FZ)) := O.perm (trPerm [(d, dC prog w row (a + 1 : Nat)) :: ((exL ro ++ own) ++ FZ), [(aI, I)]] (.op (.var 0) (.var 1)) (.op (.var 1) (.var 0)))
  refine W_cons (W_if (W_tcmp (W_bin (W_name F rfl (W_cint fun t1 => W_mod (by decide) fun t2 => W_cint fun t3 => W_eq (W_truthB ⟨fun c2 => ?_, fun c2 => ?_⟩)))))) 
  · -- replace
    refine W_cons (W_assign (g := g) (W_tA0 ((M'.sp.repl [] (.inl rfl)).lift M'.ap) (fun v l q => ?_) (R.le (by omega)) G F O (ev_name F hm) fun v a' h F O q => ?_))
    · obtain ⟨l', rfl, nw, rfl, _⟩ := q
      exact fun p hp f => (List.mem_append.mp hp).elim (fun h => List.mem_append_left _ h) fun h => List.mem_append_right _ (List.mem_append_right _ h)
    obtain ⟨l', rfl, nw, rfl, y, o1, rfl, sub, M2⟩ := q
    exact ⟨_, _, F, O.cutA sub, fun h F O => W_nil (W_nil (next y ll (a + 1) o1 FZ (e :: T) _ _ F O ⟨by omega, hd, rfl, hl, hs, M2, ol, os, or, hc, hT⟩))⟩
  refine W_cons (W_if (W_tcmp (W_bin (W_name F rfl (W_cint fun t1 => W_mod (by decide) fun t2 => W_cint fun t3 => W_eq (W_truthB ⟨fun c3 => ?_, fun c3 => ?_⟩))))))
  · -- copy
    refine W_cons (W_assign (g := g) (W_tA0 ((M'.sp.copy).lift M'.ap) (fun v l q => ?_) (R.le (by omega)) G F O (ev_name F hm) fun v a' h F O q => ?_))
    · obtain ⟨l', rfl, nw, rfl, _⟩ := q
      exact fun p hp f => (List.mem_append.mp hp).elim (fun h => List.mem_append_left _ h) fun h => List.mem_append_right _ (List.mem_append_right _ h)
    obtain ⟨l', rfl, nw, rfl, y, rfl, M2⟩ := q
    refine ⟨_, _, F, O, fun h F O => ?_⟩
    refine W_cons (W_if (W_tcmp (W_bin (W_bin (W_name F rfl (W_cint fun t1 => W_fdiv (by decide) (by decide) fun t2 => W_cint fun t3 => W_mod (by decide) fun t4 => W_cint fun t5 => W_eq (W_truthB ⟨fun c4 => ?_, fun c4 => W_nil ?_⟩)))))))
    · refine W_cons (W_swap R.1 F O (ev_name F hm) (ev_name F rfl) (fun h F O => W_nil ?_))
      refine W_cons (W_other P k (R.le (by omega)) G F O hA rfl M fun h F O => W_nil (W_nil (W_nil ?_)))
      exact next y ll (a + 1) nw FZ (e :: T) _ _ F O ⟨by omega, hd, rfl, hl, hs, M2, ol, os, or, hc, hT⟩
    · have O : Ow g L h ([(aI, I), (d, dC prog w row ((a + 1 : Nat) : Nat))] ++ ((exL ro ++ (own ++ nw)) ++ FZ)) := O.perm (trPerm [[(aI, I), (d, dC prog w row ((a + 1 : Nat) : Nat))], exL ro, nw, own, FZ] (.op (.var 0) (.op (.op (.var 1) (.op (.var 2) (.var 3))) (.var 4))) (.op (.var 0) (.op (.op (.var 1) (.op (.var 3) (.var 2))) (.var 4))))
      refine W_cons (W_other P k (R.le (by omega)) G F O hA rfl M2 fun h F O => W_nil (W_nil (W_nil ?_)))
      exact next x ll (a + 1) own FZ (e :: T) _ _ F O ⟨by omega, hd, hm, hl, hs, M, ol, os, or, hc, hT⟩
  · -- next
    refine W_cons (W_expr (W_tA0 ((M'.sp.next e T rfl).lift M'.ap) (fun v l ⟨l', e1, _, _, kk⟩ => by rw [e1]; exact kk.exL) (R.le (by omega)) G F O (ev_name F hm) fun v a' h F O q => ?_))
    obtain ⟨own', e1, hv, M2, _⟩ := q
    subst e1
    refine ⟨hv.noRef, ?_⟩
    have ol2 : LLst ([(aI, I), (d, dC prog w row ((a + 1 : Nat) : Nat))] ++ ((exL ro ++ own') ++ FZ)) ll ((e :: T).map (·.1)) := ol.lift fun a ha => by simp [ha]
    refine W_cons (W_assign (g := g) (W_slice' (pl := some 1) (pu := none) (ms := T.map (·.1)) F O ol2 (by simpa using hT) (ev_name F hl) W_partI W_partN (pick_from 1) fun D ws h iw F O => ⟨_, _, F, O, fun h F O => ?_⟩))
    refine W_nil (W_nil (W_nil (next x D (a + 1) own' ((D, isObj (listOf (List.toArray ws) 0)) :: FZ) T _ _ F ?_ ⟨by omega, hd, hm, rfl, hs, M2, ⟨ws, 0, List.mem_cons_self .., iw⟩, os.lift fun a ha => List.mem_cons_of_mem _ ha, or.lift fun a ha => List.mem_cons_of_mem _ ha, fun e' he => hc e' (List.mem_cons_of_mem _ he), by simp at hT; omega⟩)))
    exact O.perm (trPerm [[(D, isObj (listOf (List.toArray ws) 0))], [(aI, I), (d, dC prog w row ((a + 1 : Nat) : Nat))], exL ro ++ own', FZ] (.op (.var 0) (.op (.var 1) (.op (.var 2) (.var 3)))) (.op (.var 1) (.op (.var 2) (.op (.var 0) (.var 3)))))
theorem Same.perm {c T : Tb} (s : Same c T) (st : Srt T) {ns : List Int} (p : ns.Perm (c.map (·.1))) (h : ns.Pairwise (· ≤ ·)) : ns = T.map (·.1) := by
  have ht : (T.map (·.1)).Pairwise (· < ·) := List.pairwise_map.mpr st
  have hp : (c.map (·.1)).Perm (T.map (·.1)) := (List.perm_ext_iff_of_nodup s.1 (nodup_lt ht)).mpr fun k => s.mem k
  exact lks_uniq (p.trans hp) h (ht.imp fun h => Int.le_of_lt h)
theorem lk_mem : ∀ {T : Tb}, Srt T → ∀ e ∈ T, lk e.1 T = some e.2
  | e' :: T, st, e, he => by
    rw [lk_cons]
    rcases List.mem_cons.mp he with rfl | he
    · rw [if_pos rfl]
    · rw [if_neg (Int.ne_of_gt (st.head e he)), lk_mem st.tail e he]
theorem Same.look {c T : Tb} (s : Same c T) (st : Srt T) : ∀ e ∈ T, lk e.1 c = some e.2 := fun e he => by
  rw [s.2]
  exact lk_mem st e he
theorem law_ (P : PrOk prog) (k : KOk K) (kl : FnIs K f_law rf_law.qual (defArgs rf_law.st) (defBody rf_law.st) (defScope rf_law.st) rf_law.cl rf_law.dV rf_law.cdv) {script : Addr} {lo : Obj} {vs : List Value} {ns : List Int} (hlc : lo.cls = .type "list") (hld : ∃ n, lo.data = .seq (List.toArray vs) n) (ia : IntsAre vs ns) (hn : ns.length ≤ 1000) :
    Does prog w K [(script, lo)] 200 (.ref f_law) [.ref script] [] [] fun v _ => v = .bool true := by
  refine does_enter kl [("script", .ref script)] (fun s _ _ _ _ _ _ _ => BindsTo.of_eq rfl) (locs rfl) ?_
  intro A z g L h R G0 F O
  have G : Gd K [] g := G0.more fun _ h => by cases h
  have hn2 : (ns.take 48).length ≤ 48 := by rw [List.length_take]; omega
  refine W_cons (W_assign (g := g) (W_dictRow F O fun h1 D F1 O1 => ?_))
  refine W_sliceH (pl := none) (pu := some 48) F1 O1 ⟨_, F1.keep _ _ (G0.ro _ (List.mem_singleton.mpr rfl)), hlc, hld⟩ ia hn (ev_name F1 rfl) W_partN W_partI (pick_upto 48) fun D2 ws h2 iw F2 O2 => ?_
  refine ⟨D2, _, rfl, F2, O2.perm (List.Perm.swap ..), fun h3 F3 O3 => ⟨_, _, F3, O3, fun h F O => ?_⟩⟩
  have hr : LLst [(D2, isObj (listOf (List.toArray ws) 0))] D2 (ns.take 48) := ⟨ws, 0, List.mem_cons_self .., iw⟩
  refine W_cons (W_unpack2 (g := g) (L := L) R.1 (W_fcall (W_global F G k.g_law_tree.1 (W_callWithE G k.g_law_tree.2 (W_argsC (W_name F rfl (W_argsC (W_cint fun t5 => W_argsN ⟨G.kin.keeps F.keep, Cd.call ?_⟩))))))))
  refine (law_tree (j := 60) P k hr hn2 3 (by decide) 0 t5 (by decide)).use (rest := []) (R.le (by omega)) G F (by rw [List.append_nil]; exact O) (fun v l q => q.keeps) fun v l h F O q => ?_
  rw [List.append_nil] at O
  refine q.elim fun a1 ro1 own1 fz1 t1 s1 x1 c1 T1 o1 h1 eL eV h4 h5 sm1 To1 A1 M1 S1 => ?_
  subst eL eV
  have h4' : (t1, isObj (tupO (.ref x1) (.ref s1))) ∈ exL fz1 := List.mem_map_of_mem (f := fun p : Addr × Obj => (p.1, isObj p.2)) h4
  have h5' : (s1, isObj o1) ∈ exL fz1 := List.mem_map_of_mem (f := fun p : Addr × Obj => (p.1, isObj p.2)) h5
  refine ⟨_, _, t1, .ref x1, .ref s1, rfl, by first | solve_by_elim -exfalso -symm (maxDepth := 30) [List.Mem.head, List.Mem.tail, List.mem_append_left, List.mem_append_right, h4'] | simp [h4'], F, O, fun h F O => W_assignName F O fun h F O => W_assignName F O fun h F O => ?_⟩
  have dt : ∀ {led : Led}, (∀ e ∈ exL fz1, e ∈ led) → DTab prog w led s1 c1 := fun hh => ⟨o1, hh _ h5', sm1, To1⟩
  have ok := M1.ok
  have sm := S1.small ok.2
  refine W_cons (W_assign (g := g) (W_fcall (W_builtin F G (k.blt _ (at_ 8 rfl)) (v := .builtin "sorted") (by decide +kernel) (by decide) (W_callB (W_argsC (W_name F rfl (W_argsN (W_sorted R.1 F O ((dt fun e he => by first | solve_by_elim -exfalso -symm (maxDepth := 30) [List.Mem.head, List.Mem.tail, List.mem_append_left, List.mem_append_right, he] | simp [he]).tab O) (by have := sm.len; omega) fun l vs n ns' h' iv hp hP F O => ⟨_, _, F, O, fun h F O => ?_⟩))))))))
  have en := S1.perm ok.1 hp hP
  subst en
  have hT : T1.length ≤ 1000 := by
    have h1 := hp.length_eq
    have h2 := sm.len
    rw [List.length_map, List.length_map] at h1
    omega
  have O : Ow g L h (rest0 prog w ro1 D2 D a1 own1 ((l, isObj (listOf (List.toArray vs) n)) :: (exL fz1 ++ [(D2, isObj (listOf (List.toArray ws) 0))]))) :=
    O.perm (trPerm [[(l, isObj (listOf (List.toArray vs) n))], [(D, dC prog w D2 a1)], exL ro1, own1, exL fz1, [(D2, isObj (listOf (List.toArray ws) 0))]] (.op (.var 0) (.op (.var 1) (.op (.var 2) (.op (.var 3) (.op (.var 4) (.var 5)))))) (.op (.var 1) (.op (.op (.var 2) (.var 3)) (.op (.var 0) (.op (.var 4) (.var 5))))))
  refine W_cons (W_for (g := g) (L := L) ((List.range 8).map Int.ofNat) [] (fun i m led => ∃ x ll a own FZ T, led = rest0 prog w ro1 D2 D a own FZ ∧ LawS prog w ro1 D2 D s1 c1 (ns.take 48) (100 + i) x ll a own FZ T m) ?_ (fun a ha => by cases ha) ?_ ?_)
  · refine W_fcall (W_builtin F G (k.blt _ (at_ 4 rfl)) (v := .type "range") (by decide +kernel) (by decide) (W_callT (W_argsC (W_cint fun tk => W_argsN (W_range (n := 8) R.1 (by decide) fun xv h' kp it => ?_)))))
    refine ⟨_, _, F.keeps kp, O.kp kp, ⟨x1, l, a1, own1, _, T1, rfl, ⟨?_, rfl, rfl, rfl, rfl, M1, ⟨vs, n, List.mem_cons_self .., iv⟩, dt fun e he => by first | solve_by_elim -exfalso -symm (maxDepth := 30) [List.Mem.head, List.Mem.tail, List.mem_append_left, List.mem_append_right, he] | simp [he], hr.lift fun e he => by simp at he; simp [he], S1.look ok.1, hT⟩⟩, it⟩
    have : cost 3 = 23 := by decide
    omega
  · intro i kk v m1 led1 I oI h1 ei ik j F O
    obtain ⟨x, ll, a, own, FZ, T, rfl, J⟩ := j
    have hi : i < 8 := by
      have := (List.getElem?_eq_some_iff.mp ei).1
      simpa using this
    have J : LawS prog w ro1 D2 D s1 c1 (ns.take 48) (100 + i) x ll a own FZ T (upd m1 "turn" v) := ⟨J.ha, J.hd, J.hm, J.hl, J.hs, J.M, J.ol, J.os, J.or, J.hc, J.hT⟩
    refine law_turn P k (R.le (by omega)) G A1 hn2 (b := 100 + i) (by omega) J F O (fun x ll a own FZ T m h F O J => ⟨m, _, F, O, x, ll, a, own, FZ, T, rfl, J⟩) fun h hT F O => ?_
    exact law_end P k (S := [(I, dcO oI), (D, dC prog w D2 (a : Nat))]) (R.le (by omega)) G F O J.hm J.hl J.hs A1 J.M J.ol J.os J.hc J.hT
  · intro m2 led2 h2 F O j
    obtain ⟨x, ll, a, own, FZ, T, rfl, J⟩ := j
    exact law_end P k (S := [(D, dC prog w D2 (a : Nat))]) (R.le (by omega)) G F O J.hm J.hl J.hs A1 J.M J.ol J.os J.hc J.hT
end
end Mine
end
section
set_option maxRecDepth 100000
namespace Mine
theorem code_of {K : Frag} {cd : Value} {q : Str} (h : codeOf K cd = some q) : codeIn K cd q = true := by
  unfold codeOf at h
  unfold codeIn
  split at h
  · rename_i c
    dsimp only
    split at h
    · rename_i a b vs d e
      rw [e]
      dsimp only
      generalize vs.toList = l at h
      unfold nameOf at h
      split at h
      · cases h
        exact beq_self_eq_true _
      · cases h
    · cases h
  · cases h
theorem at_of_seen {K : Frag} {r : FnRow} (h : seenFn K r.at_ = wantFn r) : (∃ oc od osl name kV doc pm an ct, K.lookup r.at_ = some ⟨oc, od, .func (fnX name r.qual (defArgs r.st) (defBody r.st) (defScope r.st) r.cl r.dV kV doc pm an r.cdv ct), osl⟩) ∧ codeIn K r.cdv r.qual = true := by
  unfold seenFn wantFn at h
  split at h
  · rename_i oc od fd osl e
    simp only [Option.some.injEq, Prod.mk.injEq] at h
    obtain ⟨name, qualname, params, body, scope, globals, closure, defaults, kV, doc, pm, an, code, ct, builtins⟩ := fd
    obtain ⟨h1, h2, h3, h4, h5, h6, h7, h8, h9, h10⟩ := h
    dsimp only at h1 h2 h3 h4 h5 h6 h7 h8 h9 h10
    subst h1 h2 h3 h4 h5 h6 h7 h8 h9
    exact ⟨⟨_, _, _, _, _, _, _, _, _, e⟩, code_of h10⟩
  · cases h
theorem dvs_of : ∀ {l : List Dv} {vs : List Value}, dvsB l vs = true → DvAre l vs
  | [], [], _ => trivial
  | d :: ds, v :: vs, h => by
    unfold dvsB at h
    obtain ⟨h1, h2⟩ := Bool.and_eq_true_iff.mp h
    refine ⟨?_, dvs_of h2⟩
    cases d <;> cases v <;> first | (exact (Bool.false_ne_true h1).elim) | skip
    · rfl
    · exact ⟨_, by rw [← beq_iff_eq.mp h1]⟩
    · show Value.bool _ = .bool _
      rw [beq_iff_eq.mp h1]
  | [], _ :: _, h => by cases h
  | _ :: _, [], h => by cases h
theorem plain_of {sc : Scope} (h : plainS sc = true) : sc.isCoroutine = false ∧ sc.isGenerator = false ∧ sc.kind = .function ∧ ∀ x ∈ sc.names, x.2 ≠ .cell := by
  unfold plainS at h
  simp only [Bool.and_eq_true, Bool.not_eq_true'] at h
  obtain ⟨⟨⟨h1, h2⟩, h3⟩, h4⟩ := h
  refine ⟨h1, h2, ?_, fun x hx e => ?_⟩
  · revert h3
    cases sc.kind <;> intro h <;> first | rfl | cases h
  · have := List.all_eq_true.mp h4 x hx
    rw [e] at this
    cases this
theorem plains : ((rf_law :: fnTab).all fun r => plainS (defScope r.st)) = true := by decide +kernel
theorem kok_of {K : Frag} (hf : (fnAddrs.map fun a => seenFn K a) = (rf_law :: (fnTab ++ cfnTab)).map wantFn) (hb : factsB PySem.Challenge.pw_iu0060_01.main.file K = true) :
    KOk K ∧ FnIs K f_law rf_law.qual (defArgs rf_law.st) (defBody rf_law.st) (defScope rf_law.st) rf_law.cl rf_law.dV rf_law.cdv ∧ nsIn K mainGlobals "law" = some (some (.ref f_law)) := by
  unfold factsB at hb
  simp only [Bool.and_eq_true, List.all_eq_true] at hb
  obtain ⟨⟨⟨⟨⟨⟨⟨⟨⟨⟨⟨⟨hcls, hmeth⟩, hfield⟩, hinit⟩, hnull⟩, hglob⟩, hblt⟩, huid⟩, hsup⟩, hany⟩, hcini⟩, hdfl⟩, hlaw⟩ := hb
  rw [show fnAddrs = (rf_law :: (fnTab ++ cfnTab)).map fun r => r.at_ from rfl, List.map_map] at hf
  have seen : ∀ r ∈ rf_law :: (fnTab ++ cfnTab), seenFn K r.at_ = wantFn r := List.map_inj_left.mp hf
  have pl := List.all_eq_true.mp plains
  have meth : ∀ {C : Addr} {nm : Str} {f : Addr}, methB K C nm f = true → MethOk K C nm f := fun h => by
    unfold methB at h
    simp only [Bool.and_eq_true, beq_iff_eq] at h
    exact ⟨h.1.1, h.1.2, h.2⟩
  have isF : ∀ r ∈ rf_law :: fnTab, FnIs K r.at_ r.qual (defArgs r.st) (defBody r.st) (defScope r.st) r.cl r.dV r.cdv := fun r hr => by
    have hr2 : r ∈ rf_law :: (fnTab ++ cfnTab) := (List.mem_cons.mp hr).elim (fun h => h ▸ List.mem_cons_self ..) fun h => List.mem_cons_of_mem _ (List.mem_append_left _ h)
    exact ⟨(at_of_seen (seen r hr2)).1, (at_of_seen (seen r hr2)).2, plain_of (pl r hr)⟩
  refine ⟨⟨fun r hr => isF r (List.mem_cons_of_mem _ hr), fun r hr => ?_, fun C hC => ?_, fun e he => meth (hmeth e he), fun e he => ?_, fun e he => ?_, ?_, fun e he => ?_, fun n hn => ?_, ?_, fun e he => ?_, ?_, fun e he => ?_, fun e he => ?_⟩, isF rf_law (List.mem_cons_self ..), beq_iff_eq.mp hlaw⟩
  · have hr2 : r ∈ rf_law :: (fnTab ++ cfnTab) := List.mem_cons_of_mem _ (List.mem_append_right _ hr)
    exact ⟨(at_of_seen (seen r hr2)).1, (at_of_seen (seen r hr2)).2⟩
  · have h := hcls C hC
    unfold clsB at h
    simp only [Bool.and_eq_true, beq_iff_eq] at h
    exact ⟨h.1.1.1, h.1.1.2, h.1.2, h.2⟩
  · have h := hfield e he
    unfold fieldB at h
    split at h
    · rename_i attr ha
      simp only [Bool.and_eq_true, beq_iff_eq] at h
      exact ⟨attr, ha, h.1, h.2⟩
    · cases h
  · have h := hinit e he
    exact ⟨meth h.1, h.2⟩
  · simpa using hnull
  · simpa using hglob e he
  · simpa using hblt n hn
  · simpa using huid
  · have h := hsup e he
    unfold supB at h
    simp only [Bool.and_eq_true, beq_iff_eq] at h
    obtain ⟨⟨⟨⟨⟨⟨h1, h2⟩, h3⟩, h4⟩, h5⟩, h6⟩, h7⟩ := h
    refine ⟨?_, ?_, Option.isSome_iff_exists.mp h3, h4, h5, h6, h7⟩
    · split at h1
      · rename_i ccl cdd vs ccs e1
        unfold fileB at h1
        split at h1
        · rename_i file tf e2
          exact ⟨_, _, _, _, _, _, e1, e2, h1⟩
        · cases h1
      · cases h1
    · split at h2
      · rename_i cl cld D' csl e1
        rw [beq_iff_eq.mp h2] at e1
        exact ⟨_, _, _, e1⟩
      · cases h2
  · simpa using hany
  · have h := hcini e he
    unfold ciniB at h
    simp only [Bool.and_eq_true, beq_iff_eq] at h
    obtain ⟨⟨h1, h2⟩, h3⟩ := h
    refine ⟨h1, ?_, h3⟩
    split at h2
    · rename_i mc e1
      obtain ⟨h2, h4⟩ := Bool.and_eq_true_iff.mp h2
      split at h4
      · rename_i f' e2
        rw [beq_iff_eq.mp h4] at e2
        exact ⟨mc, e1, h2, e2⟩
      · cases h4
    · cases h2
  · have h := hdfl e he
    unfold dflB at h
    split at h
    · rename_i cl cld vs n csl e1
      exact ⟨_, _, _, e1, rfl, dvs_of h⟩
    · cases h
end Mine
end
section
set_option maxRecDepth 100000
namespace Mine
open Hd
/-- what is known behind the top -/
noncomputable def Ready (h : Heap) : Prop := ∃ K : Frag, K.In h ∧ KOk K ∧ FnIs K f_law rf_law.qual (defArgs rf_law.st) (defBody rf_law.st) (defScope rf_law.st) rf_law.cl rf_law.dV rf_law.cdv ∧ nsIn K mainGlobals "law" = some (some (.ref f_law))
theorem Ready.keeps {h h' : Heap} (x : Ready h) (k : ∀ b o, h.get? b = some o → h'.get? b = some o) : Ready h' := let ⟨K, a, r⟩ := x; ⟨K, a.keeps k, r⟩
theorem boot_len (P : Params) : (boot_heap P).objs.toList.length = 11 := rfl
theorem boot_abs (w : World) (os : OsState) : (S0 (boot_heap w.params) os).abs = ⟨boot_heap w.params, Array.mk [], boot_drawn, boot_toks, os⟩ := by
  have e : absHeap (ofL 11 ((boot_heap w.params).objs.toList)) 11 {} = boot_heap w.params := by
    have := abs_ofL ((boot_heap w.params).objs.toList) 11 (Nat.le_of_eq (boot_len _)) {}
    rw [boot_len] at this
    rw [this]
    rfl
  show (Shared.mk (absHeap (ofL 11 ((boot_heap w.params).objs.toList)) 11 {}) #[] boot_drawn boot_toks os) = _
  rw [e]
theorem boot_ns (P : Params) : ((boot_heap P).isNs mainGlobals && (Array.mk ([] : List GenState)).size == 0) = true := by kernel_rfl
theorem boot_ann (P : Params) : (boot_heap P).nsMap mainGlobals "__annotations__" = some (.ref 6) := by kernel_rfl
theorem boot_size (P : Params) : (boot_heap P).objs.size = 11 := by kernel_rfl
theorem left_of {p q : Program} {loose : List Str} {Xt : Shared → Bool} {α : Type} {Yf : Shared → α} {Ya : World → α} {N : Nat} {g0 : Bool} {H₀ : Params → Heap} {gs₀ : Array GenState} {d₀ : Drawn} {k₀ : Nat} {m₀ : Nat} {ann : Option Value}
    (open_ : ∀ w : World, (fencedOpening treeTable p w N).map (fun s => (s.heap, s.gens, s.drawn, s.toks)) = some (H₀ w.params, gs₀, d₀, k₀))
    (z1 : ∀ P : Params, ((H₀ P).isNs mainGlobals && gs₀.size == 0) = true) (z2 : ∀ P : Params, (H₀ P).objs.size = m₀) (z3 : ∀ P : Params, (H₀ P).nsMap mainGlobals "__annotations__" = ann)
    (run : ∀ (w : World) (os : OsState), ∃ s', topRun treeTable p w m₀ ann N ⟨H₀ w.params, gs₀, d₀, k₀, os⟩ (topStub p) = some s' ∧
      (staticsOk (importedModules p.main.body) (H₀ w.params) s'.heap && namesBound p s'.heap && gensDone s' && laidKept (H₀ w.params) s'.heap) = true ∧ openSeen q loose (importedModules p.main.body) Xt g0 s' = openGood q loose ∧ Yf s' = Ya w) : LeftO p q loose Xt Yf Ya N g0 := fun w => by
  obtain ⟨⟨h, gs, d, k, os⟩, e, e'⟩ := Option.map_eq_some_iff.mp (open_ w)
  obtain ⟨rfl, rfl, rfl, rfl⟩ : h = H₀ w.params ∧ gs = gs₀ ∧ d = d₀ ∧ k = k₀ := by simpa using e'
  obtain ⟨s', r, l1, l2, l3⟩ := run w os
  have t : topFrom treeTable p w N ⟨H₀ w.params, gs, d, k, os⟩ = some s' := by
    unfold topFrom
    dsimp only
    rw [z1, z2, z3, r]
    show (match staticsOk (importedModules p.main.body) (H₀ w.params) s'.heap && namesBound p s'.heap && gensDone s' && laidKept (H₀ w.params) s'.heap with | true => _ | false => _) = _
    rw [l1]
  unfold openEnds
  rw [e]
  show (topFrom treeTable p w N _).map _ = _
  rw [t]
  exact congrArg some (Prod.ext l2 l3)
/-- what R says, the run apart -/
theorem seen_of {α β : Type} {o : Option SharedT} {f1 : SharedT → Bool} {f2 : SharedT → α} {f3 : SharedT → β} {a : α} {b : β} (h : o.map (fun s => (f1 s, f2 s, f3 s)) = some (true, a, b)) : ∃ s, o = some s ∧ f1 s = true ∧ f2 s = a ∧ f3 s = b := by
  obtain ⟨s, e, h⟩ := Option.map_eq_some_iff.mp h
  simp only [Prod.mk.injEq] at h
  exact ⟨s, e, h⟩
theorem boot_e : opening PySem.Challenge.pw_iu0060_01 = plainProg PySem.Challenge.pw_iu0060_01.main.scope.names := by kernel_rfl
theorem boot_f (s : Shared) : fenceModules? PySem.Challenge.pw_iu0060_01 s = some s := by kernel_rfl
theorem law_left : LeftO PySem.Challenge.pw_iu0060_01 (q PySem.Challenge.pw_iu0060_01) loose Xt (fun s => Ready s.heap) (fun _ => True) 9400 :=
  left_of (boot_open boot_e rfl boot_f) boot_ns boot_size boot_ann fun w os => by
    obtain ⟨s', hs, g1, g2, g3⟩ := seen_of (R_is w os)
    have hr := topRun_of hs
    rw [boot_abs] at hr
    exact ⟨s'.abs, hr, g1, g2, eq_true ⟨keyed s', keyed_in s', kok_of (congrArg Prod.snd g3) (congrArg Prod.fst g3)⟩⟩
theorem prOk : PrOk PySem.Challenge.pw_iu0060_01 := ⟨rfl, by decide +kernel⟩
end Mine
end
section
set_option maxRecDepth 100000
namespace Mine
open Hd
noncomputable def defPos : Stmt → Pos
  | .FunctionDef _ _ _ _ _ _ _ _ _ p => p
  | _ => ⟨0, 0, 0, 0⟩
noncomputable abbrev lawRec : DefRec := ⟨"law", defArgs rf_law.st, defBody rf_law.st, defScope rf_law.st, defPos rf_law.st⟩
set_option maxHeartbeats 8000000 in
theorem law_row (said : PySem.Challenge.rw_iu0060_01.row.wellSaid = true) (call : WalkO (q PySem.Challenge.pw_iu0060_01) loose (fun _ _ => True) (fun _ h => Ready h) PySem.Challenge.rw_iu0060_01.row.toRowW lawRec [] fun f vs => PySem.call f vs) : PySem.Challenge.rw_iu0060_01.row.Holds := by
  refine holds_open (q := q PySem.Challenge.pw_iu0060_01) (loose := loose) (Xt := Xt) (XP := fun _ _ => True) (Yf := fun s => Ready s.heap) (Ya := fun _ => True) (YP := fun _ h => Ready h) (N := 9400) law_left (fun w s e => of_eq_true e) (fun w h h' x k => x.keeps k) (fun _ _ => trivial) (fun _ _ _ _ _ => trivial)
    ?hdef ?hp ?hk ?hRf ?hwr said ?ok ?hb ?hw call
  case hdef => rfl
  case hp => rfl
  case hk => rfl
  case hRf => exact fun s e => recFacts_nil rfl
  case hwr => rfl
  case ok => decide +kernel
  case hb => exact ⟨rfl, rfl, rfl, rfl, rfl, by decide +kernel⟩
  case hw => w_witness2
end Mine
end
section
set_option maxRecDepth 100000
namespace Mine
open Hd
theorem roomA : Room callerA 200 := ⟨rfl, by decide +kernel, by decide +kernel⟩
set_option maxHeartbeats 8000000 in
theorem law_call : WalkO (q PySem.Challenge.pw_iu0060_01) loose (fun _ _ => True) (fun _ h => Ready h) PySem.Challenge.rw_iu0060_01.row.toRowW lawRec [] fun f vs => PySem.call f vs := by
  intro w s₀ s₁ mg mb G Y fa o pm cd doc dV kV ho hd hcd hD hmg hg args vals as hpre hlay hrd hwl hlo
  wrow_args hpre hlay hrd hwl hlo
  rename_i ns h1 h2 h3 h4 h5 as1 as2 li vs as3 il ra w1 r0 ia hr hc ht
  obtain ⟨lo, e1, e2, n, e3⟩ := il
  obtain ⟨K, kin, kok, kl, knl⟩ := Y
  have e : fa = f_law := by
    have e4 := mg_of kin G.T.g knl
    have e5 : mg "law" = some (.ref fa) := hmg
    rw [e4] at e5
    cases e5
    rfl
  subst e
  have hn : ns.length ≤ 1000 := by omega
  have D := law_ (prog := PySem.Challenge.pw_iu0060_01) (w := w) prOk kok kl (script := li) e2 ⟨n, e3⟩ ia hn
  have C := D callerA s₁ s₁.heap s₁.heap (fun v h' => v = .bool true ∧ ∀ b o, s₁.heap.get? b = some o → h'.get? b = some o) roomA ⟨kin, ⟨_, _, _, _, _, G.T⟩, fun p hp => by rcases List.mem_singleton.mp hp with rfl; exact e1⟩ (fun _ _ e => e) (Nat.le_refl _) ⟨⟨fun _ h => (nomatch h)⟩, fun _ h => (nomatch h), List.Pairwise.nil⟩ fun v own h' st _ hv => ⟨hv, st⟩
  refine (Cd.call C).go (fun v h' tk' q => ?_) s₁.toks
  obtain ⟨rfl, keep⟩ := q
  refine GoodW.toG ?_
  show GoodW _ _ _ _ _ (.ok (.ret (.bool true))) _
  refine ⟨.inl ⟨.bool true, .bool true, [], rfl, raisesW_false ?_, .bool true, ?_, unshared_nil⟩, keep, rfl, hg⟩
  · wrow_none_raised
  · wrow_post
set_option maxHeartbeats 0 in
theorem law_said : PySem.Challenge.rw_iu0060_01.wellSaid = true := by
  rw [PySem.W.Fast.te9446332074065402090]
  kernel_rfl
end Mine
set_option maxHeartbeats 8000000 in
theorem PySem.Challenge.cw_iu0060_01_holds : PySem.Challenge.rw_iu0060_01.Holds := by
  exact holds_law Mine.law_said fun said => Mine.law_row said Mine.law_call
end
