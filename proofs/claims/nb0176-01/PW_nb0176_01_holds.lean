import PyProof.Rows.All
import Wide.All
import OpenK.AllK
import Wide.FinOn
import PySem.Challenge.RW_nb0176_01
set_option Elab.async false
set_option linter.unusedVariables false
set_option linter.unusedSimpArgs false
set_option maxRecDepth 100000
set_option maxHeartbeats 4000000
open PySem PySem.Spec PySem.Calls PyProof.Rows PySem.W PySem.W.X
namespace Mine
abbrev Led := List (Addr × Obj)
structure Tb where
  c : Addr
  P : Addr
  pos : Pos
  qual : Str
  lo : Nat
def CodeO (h : Heap) (c : Addr) : Prop := ∃ o vs, h.get? c = some o ∧ o.cls = .type "code" ∧ o.data = .fields vs
def TbOk (h : Heap) (t : Tb) : Prop :=
  ∃ ps, h.IsCode t.c t.P ps ∧ h.TableAt t.c t.P ps ∧
    (ps = #[] ∨ ∃ c', ps = #[rawInt t.pos.line, rawInt t.pos.col, .ref c'] ∧ h.CodeRec (.ref c') t.qual ∧ CodeO h c' ∧ t.lo ≤ c')
theorem sub_nil {R : Led} : ∀ q ∈ ([] : Led), q ∈ R := fun _ h => nomatch h
theorem sub_cons {a : Addr × Obj} {X R : Led} (h : a ∈ R) (t : ∀ q ∈ X, q ∈ R) : ∀ q ∈ a :: X, q ∈ R := fun q hq => (List.mem_cons.mp hq).elim (fun e => e ▸ h) (t q)
theorem sub_app {X Y R : Led} (h : ∀ q ∈ X, q ∈ R) (t : ∀ q ∈ Y, q ∈ R) : ∀ q ∈ X ++ Y, q ∈ R := fun q hq => (List.mem_append.mp hq).elim (h q) (t q)
theorem sub_skip {a : Addr × Obj} {X R : Led} (h : ∀ q ∈ X, q ∈ R) : ∀ q ∈ X, q ∈ a :: R := fun q hq => List.mem_cons_of_mem _ (h q hq)
theorem sub_left {X Y R : Led} (h : ∀ q ∈ X, q ∈ R) : ∀ q ∈ X, q ∈ R ++ Y := fun q hq => List.mem_append_left _ (h q hq)
theorem sub_right {X Y R : Led} (h : ∀ q ∈ X, q ∈ R) : ∀ q ∈ X, q ∈ Y ++ R := fun q hq => List.mem_append_right _ (h q hq)
theorem lt63 {x : Int} (h : 0 ≤ x ∧ x < 3) : x < 2 ^ 63 := by (first | lia | omega)
/-- an object that is no code and no table of one -/
def Mut (o : Obj) : Prop := ∀ vs, o.data = .fields vs → o.cls ≠ .type "code" ∧ o.cls ≠ .none
theorem Mut.of_cls {o : Obj} (h1 : o.cls ≠ .type "code") (h2 : o.cls ≠ .none) : Mut o := fun _ _ => ⟨h1, h2⟩
structure Gd where
  B : Heap
  ts : List Tb
  os : OsState
structure St (G : Gd) (s : Shared) (R : Led) : Prop where
  keep : ∀ b o, G.B.get? b = some o → s.heap.get? b = some o
  own : ∀ p ∈ R, s.heap.get? p.1 = some p.2 ∧ G.B.get? p.1 = none
  tabs : ∀ t ∈ G.ts, TbOk s.heap t
  gens : AllBare s.gens
  size : G.B.objs.size ≤ s.heap.objs.size
  os : s.os = G.os
  offT : ∀ t ∈ G.ts, ∀ p ∈ R, p.1 ≠ t.P
theorem TbOk.ltP {h : Heap} {t : Tb} (x : TbOk h t) : t.P < h.objs.size := by
  obtain ⟨ps, _, b, _⟩ := x
  exact Heap.lt_size b.2
theorem TbOk.neP {h : Heap} {t : Tb} {a : Addr} {o : Obj} (x : TbOk h t) (ho : h.get? a = some o) (hm : Mut o) : a ≠ t.P := by
  obtain ⟨ps, _, b, _⟩ := x
  intro e
  have h1 := b.2
  rw [← e, ho] at h1
  cases h1
  exact (hm _ rfl).2 rfl
theorem TbOk.keeps {h h' : Heap} {t : Tb} (x : TbOk h t) (k : ∀ b o, h.get? b = some o → h'.get? b = some o) : TbOk h' t := by
  obtain ⟨ps, a, b, c⟩ := x
  refine ⟨ps, a.keeps k, b.keeps k, ?_⟩
  rcases c with c | ⟨c', e, f, g, lo⟩
  · exact .inl c
  · obtain ⟨o, vs, g1, g2⟩ := g
    exact .inr ⟨c', e, f.keeps k, ⟨o, vs, k _ _ g1, g2⟩, lo⟩
theorem TbOk.but {h h' : Heap} {t : Tb} {a : Addr} {o : Obj} (x : TbOk h t) (k : Heap.ExtBut a h h') (ho : h.get? a = some o) (hm : Mut o) : TbOk h' t := by
  obtain ⟨ps, i, b, c⟩ := x
  have nP : ∀ {P : Addr} {qs : Array Value}, h.get? P = some { cls := .none, data := .fields qs } → P ≠ a := fun hP q => by
    subst q
    rw [ho] at hP
    cases hP
    exact (hm _ rfl).2 rfl
  have nC : ∀ {c : Addr} {oc : Obj} {vs : Array Value}, h.get? c = some oc → oc.cls = .type "code" → oc.data = .fields vs → c ≠ a := fun hc h1 h2 q => by
    subst q
    rw [ho] at hc
    cases hc
    exact (hm _ h2).1 h1
  have tb : ∀ {c P : Addr} {qs : Array Value}, h.TableAt c P qs → c ≠ a ∧ P ≠ a := fun ht => by
    obtain ⟨⟨oc, vs, h1, h2, h3, _⟩, h5⟩ := ht
    exact ⟨nC h1 h2 h3, nP h5⟩
  obtain ⟨e1, e2⟩ := tb b
  refine ⟨ps, i.extBut k e1 e2, b.extBut k e1 e2, ?_⟩
  rcases c with c | ⟨c', e, f, g, lo⟩
  · exact .inl c
  · obtain ⟨o, vs, g1, g2, g3⟩ := g
    have e3 := nC g1 g2 g3
    refine .inr ⟨c', e, ?_, ⟨o, vs, k _ _ e3 g1, g2, g3⟩, lo⟩
    obtain ⟨c₂, o₂, vs₂, t₂, q₂, g₂, r₂⟩ := f
    cases q₂
    exact ⟨_, o₂, vs₂, t₂, rfl, k _ _ e3 g₂, r₂⟩
section
variable {G : Gd} {s : Shared} {R R' : Led}
theorem St.sub (S : St G s R) (h : ∀ p ∈ R', p ∈ R) : St G s R' := ⟨S.keep, fun p hp => S.own p (h p hp), S.tabs, S.gens, S.size, S.os, fun t ht p hp => S.offT t ht p (h p hp)⟩
theorem St.get {a : Addr} {o : Obj} (S : St G s R) (h : (a, o) ∈ R) : s.heap.get? a = some o := (S.own _ h).1
theorem St.lt {a : Addr} {o : Obj} (S : St G s R) (h : (a, o) ∈ R) : a < s.heap.objs.size := Heap.lt_size (S.get h)
theorem St.ne {a b : Addr} {o o' : Obj} (S : St G s R) (h : (a, o) ∈ R) (h' : (b, o') ∈ R) (hn : o ≠ o') : a ≠ b := fun e => by
  subst e
  have := S.get h
  rw [S.get h'] at this
  exact hn (Option.some.inj this).symm
theorem St.toks (S : St G s R) (t : Nat) : St G { s with toks := t } R := ⟨S.keep, S.own, S.tabs, S.gens, S.size, S.os, S.offT⟩
theorem St.eq {s' : Shared} (S : St G s R) (h : s'.heap = s.heap) (hg : s'.gens = s.gens) (ho : s'.os = s.os) : St G s' R :=
  ⟨by rw [h]; exact S.keep, by rw [h]; exact S.own, by rw [h]; exact S.tabs, by rw [hg]; exact S.gens, by rw [h]; exact S.size, by rw [ho]; exact S.os, S.offT⟩
/-- everything that was stays -/
theorem St.grow {s' : Shared} (S : St G s R) (k : ∀ b o, s.heap.get? b = some o → s'.heap.get? b = some o) (hs : s.heap.objs.size ≤ s'.heap.objs.size) (hg : AllBare s'.gens) (ho : s'.os = s.os) : St G s' R :=
  ⟨fun b o e => k b o (S.keep b o e), fun p hp => ⟨k _ _ (S.own p hp).1, (S.own p hp).2⟩, fun t ht => (S.tabs t ht).keeps k, hg, Nat.le_trans S.size hs, ho.trans S.os, S.offT⟩
theorem St.fresh (S : St G s R) {a : Addr} (h : s.heap.objs.size ≤ a) : G.B.get? a = none := by
  cases q : G.B.get? a with
  | none => rfl
  | some o => exact absurd (Heap.lt_size (S.keep _ _ q)) (Nat.not_lt.mpr h)
theorem St.cons {a : Addr} {o : Obj} (S : St G s R) (h : s.heap.get? a = some o) (hb : G.B.get? a = none) (hP : ∀ t ∈ G.ts, a ≠ t.P) : St G s ((a, o) :: R) :=
  ⟨S.keep, fun p hp => by
    rcases List.mem_cons.mp hp with rfl | hp
    · exact ⟨h, hb⟩
    · exact S.own p hp, S.tabs, S.gens, S.size, S.os, fun t ht p hp => by
    rcases List.mem_cons.mp hp with rfl | hp
    · exact hP t ht
    · exact S.offT t ht p hp⟩
theorem St.fromP (S : St G s R) {a : Addr} (h : s.heap.objs.size ≤ a) : ∀ t ∈ G.ts, a ≠ t.P := fun t ht => Nat.ne_of_gt (Nat.lt_of_lt_of_le (S.tabs t ht).ltP h)
theorem St.push (S : St G s R) (o : Obj) {t : Nat} (hf : o.isFreed = false := by rfl) : St G { s with heap := s.heap.push o, toks := t } ((s.heap.objs.size, o) :: R) :=
  St.cons (S.grow (s' := { s with heap := s.heap.push o, toks := t }) (fun b o' e => Heap.get?_push_of_some _ e) (by simp only [Heap.size_push]; (first | lia | omega)) S.gens rfl) (Heap.get?_push_size _ hf) (S.fresh (Nat.le_refl _)) (S.fromP (Nat.le_refl _))
/-- one object of the ledger turned -/
theorem St.set {a : Addr} {o o' : Obj} {h' : Heap} {t : Nat} (S : St G s ((a, o) :: R)) (hm : Mut o) (hs : Heap.SameBut a s.heap h') (hg : h'.get? a = some o') (hn : ∀ p ∈ R, p.1 ≠ a) :
    St G { s with heap := h', toks := t } ((a, o') :: R) := by
  have hB := (S.own _ (List.mem_cons_self ..)).2
  have ho := S.get (List.mem_cons_self ..)
  refine ⟨fun b ob e => ?_, fun p hp => ?_, fun t ht => (S.tabs t ht).but hs.extBut ho hm, S.gens, by rw [show ({ s with heap := h', toks := t } : Shared).heap = h' from rfl, hs.1]; exact S.size, S.os, fun t ht p hp => ?_⟩
  · refine (hs.2 b fun q => ?_).trans (S.keep b ob e)
    subst q
    rw [hB] at e; cases e
  · rcases List.mem_cons.mp hp with rfl | hp
    · exact ⟨hg, hB⟩
    · have := S.own p (List.mem_cons_of_mem _ hp)
      exact ⟨(hs.2 _ (hn p hp)).trans this.1, this.2⟩
  · rcases List.mem_cons.mp hp with rfl | hp
    · exact S.offT t ht (a, o) (List.mem_cons_self ..)
    · exact S.offT t ht p (List.mem_cons_of_mem _ hp)
end
/-- a frame on top of the state -/
structure Fm (G : Gd) (s : Shared) (L : Addr) (m : Str → Option Value) (R : Led) : Prop extends St G s R where
  ns : s.heap.Ns L m
  off : ∀ p ∈ R, p.1 ≠ L
  new : G.B.get? L = none
  abv : G.B.objs.size ≤ L
section
variable {G : Gd} {s : Shared} {L : Addr} {m : Str → Option Value} {R R' : Led}
theorem Fm.fr (F : Fm G s L m R) : Fr G.B L s.heap m := ⟨F.ns, F.keep, F.abv⟩
theorem Fm.news (F : Fm G s L m R) : News G.B L s.heap R := fun p hp => ⟨(F.own p hp).1, F.off p hp, (F.own p hp).2⟩
theorem Fm.sub (F : Fm G s L m R) (h : ∀ p ∈ R', p ∈ R) : Fm G s L m R' := ⟨F.toSt.sub h, F.ns, fun p hp => F.off p (h p hp), F.new, F.abv⟩
theorem Fm.toks (F : Fm G s L m R) (t : Nat) : Fm G { s with toks := t } L m R := ⟨F.toSt.toks t, F.ns, F.off, F.new, F.abv⟩
theorem Fm.ltL (F : Fm G s L m R) : L < s.heap.objs.size := F.ns.lt
theorem Fm.st (F : Fm G s L m R) : ∃ o, Mut o ∧ St G s ((L, o) :: R) ∧ ∀ {s' : Shared} {R'' : Led}, St G s' ((L, o) :: R'') → (∀ p ∈ R'', p.1 ≠ L) → Fm G s' L m R'' := by
  obtain ⟨o, es, ep, ho, hd, hk, hf⟩ := F.ns
  have hm : Mut o := fun vs (e : o.data = .fields vs) => by rw [hd] at e; cases e
  refine ⟨o, hm, F.toSt.cons ho F.new (fun t ht => (F.tabs t ht).neP ho hm), fun S hn => ⟨S.sub fun p hp => List.mem_cons_of_mem _ hp, ⟨o, es, ep, S.get (List.mem_cons_self ..), hd, hk, hf⟩, hn, F.new, F.abv⟩⟩
theorem Fm.store {h' : Heap} {m' : Str → Option Value} {t : Nat} (F : Fm G s L m R) (hn : h'.Ns L m') (hs : Heap.SameBut L s.heap h') : Fm G { s with heap := h', toks := t } L m' R := by
  obtain ⟨o, hm, S, _⟩ := F.st
  obtain ⟨o', _, _, ho', _⟩ := id hn
  have S' := St.set (t := t) S hm hs ho' F.off
  exact ⟨S'.sub fun p hp => List.mem_cons_of_mem _ hp, hn, F.off, F.new, F.abv⟩
theorem Fm.push (F : Fm G s L m R) (o : Obj) {t : Nat} (hf : o.isFreed = false := by rfl) : Fm G { s with heap := s.heap.push o, toks := t } L m ((s.heap.objs.size, o) :: R) :=
  ⟨F.toSt.push o hf, F.ns.push o, fun p hp => by
    rcases List.mem_cons.mp hp with rfl | hp
    · exact Nat.ne_of_gt F.ltL
    · exact F.off p hp, F.new, F.abv⟩
theorem Fm.set {a : Addr} {o o' : Obj} {h' : Heap} {t : Nat} (F : Fm G s L m ((a, o) :: R)) (hm : Mut o) (hs : Heap.SameBut a s.heap h') (hg : h'.get? a = some o') (hn : ∀ p ∈ R, p.1 ≠ a) :
    Fm G { s with heap := h', toks := t } L m ((a, o') :: R) :=
  ⟨F.toSt.set hm hs hg hn, F.ns.sameBut hs (Ne.symm (F.off _ (List.mem_cons_self ..))), fun p hp => by
    rcases List.mem_cons.mp hp with rfl | hp
    · exact F.off (a, o) (List.mem_cons_self ..)
    · exact F.off p (List.mem_cons_of_mem _ hp), F.new, F.abv⟩
end
/-- room for k more calls -/
structure Room (A : Around) (k : Nat) : Prop where
  depth : A.depth + k < recursionLimit
  units : A.units + 20 * k < cLine
  frames : ∃ l, A.frames = some l
  handled : A.handled = none
  guards : ∃ g, A.guards = some g
theorem Room.mono {A : Around} {k k' : Nat} (h : Room A k) (hk : k' ≤ k) : Room A k' :=
  ⟨by have := h.depth; (first | lia | omega), by have := h.units; (first | lia | omega), h.frames, h.handled, h.guards⟩
theorem Room.in1 {A : Around} {k : Nat} (h : Room A (k + 1)) : Room A.in1 k :=
  ⟨by have := h.depth; show A.depth + k < _; (first | lia | omega), by have := h.units; show A.units + 1 + 20 * k < _; (first | lia | omega), h.frames, h.handled, h.guards⟩
theorem Room.deeper {A : Around} {k : Nat} (h : Room A (k + 1)) (env : Env) : Room (A.deeper env) k :=
  ⟨by have := h.depth; show A.depth + 1 + k < _; (first | lia | omega), by have := h.units; show A.units + 3 + 20 * k < _; (first | lia | omega),
   by obtain ⟨l, e⟩ := h.frames; exact ⟨env :: l, by show A.frames.map _ = _; rw [e]; rfl⟩, h.handled, h.guards⟩
theorem Room.room {A : Around} {k : Nat} (h : Room A (k + 1)) : A.depth < recursionLimit := by have := h.depth; (first | lia | omega)
theorem Room.unit {A : Around} {k : Nat} (h : Room A k) : A.units < cLine := by have := h.units; (first | lia | omega)
/-- a def that stands in the frozen part -/
def FnAt (B : Heap) (f : Addr) (fd : FuncData) : Prop := (∃ o, B.get? f = some o ∧ o.data = .func fd) ∧ B.CodeRec fd.code fd.qualname
section
variable {prog : Program} {w : World} {A : Around} {E : Value → Shared → Prop} {G : Gd} {s : Shared} {R : Led} {Q : Value → Shared → Prop}
/-- a call of a def without cells of its own -/
theorem enter {f : Addr} {name qual : Str} {params : Arguments} {body : List Stmt} {scope : Scope} {cl : List (Str × Addr)} {dV kV doc pm cdv ct : Value} {an : Option Addr} {vals : List Value} {kw : List (Str × Value)} {binds : List (Str × Value)} {k : Nat}
    (S : St G s R) (hr : Room A (k + 1)) (hlim : G.B.NoLimit) (hf : ∃ o, s.heap.get? f = some o ∧ o.data = .func (fnX name qual params body scope cl dV kV doc pm an cdv ct)) (hcd : s.heap.CodeRec cdv qual)
    (hbind : BindsTo s (fnX name qual params body scope cl dV kV doc pm an cdv ct) ⟨vals, kw⟩ binds)
    (hcell : ∀ x ∈ scope.names, x.2 ≠ .cell) (hloc : ∀ x ∈ binds, scope.names.lookup x.1 = some .local)
    (h : ∀ L s', L = s.heap.objs.size → Fm G s' L (fun x => binds.reverse.lookup x) R → (∀ p ∈ R, p.1 < L) → Room (A.deeper (envX qual scope L f cdv cl)) k →
      wpAny (model prog w) (A.deeper (envX qual scope L f cdv cl)) (execs body (envX qual scope L f cdv cl)) (fun fl s'' => Q (match fl with | .ret v => v | _ => .none) s'') (fun _ _ => False) s')
    (hco : scope.isCoroutine = false) (hgen : scope.isGenerator = false) (hk : scope.kind = .function) :
    wpAny (model prog w) A (call (.ref f) vals kw) Q E s := by
  refine wpAny_call ?_
  obtain ⟨o, ho, hd⟩ := hf
  refine codeAny_call_def (fd := fnX name qual params body scope cl dV kV doc pm an cdv ct) (body := body) (binds := binds) hr.room ho hd (hlim.keeps S.keep) hcd rfl hbind hcell hloc (fun h₁ hns hk₁ => ?_) hco hgen hk
  have hz : s.heap.objs.size ≤ h₁.objs.size := Nat.le_of_lt hns.lt
  refine wpAny_mono (h s.heap.objs.size { s with heap := h₁, toks := s.toks + binds.length } rfl ⟨S.grow (s' := { s with heap := h₁, toks := s.toks + binds.length }) hk₁ hz S.gens rfl, hns, fun p hp => Nat.ne_of_lt (S.lt hp), S.fresh (Nat.le_refl _), S.size⟩ (fun p hp => S.lt hp) (hr.deeper _))
    (fun _ _ x => x) fun _ _ x => x.elim
end
/-! names -/
section
variable {prog : Program} {w : World} {A : Around} {E : Value → Shared → Prop} {G : Gd} {L a : Addr} {cn : Str} {cs : Scope} {ccd : Value} {cl : List (Str × Addr)} {R : Led} {m : Str → Option Value} {s : Shared}
def okL (env : Env) (x : Str) : Bool := (match env.scope.kind with | .function => true | _ => false) && (match env.kindOf x with | some .local => true | _ => false) && !(x == ("__debug__" : Str))
def okG (env : Env) (x : Str) : Bool := (match env.scope.kind with | .function => true | _ => false) && (match env.kindOf x with | some .globalImplicit => true | _ => false) && !(x == ("__debug__" : Str))
theorem okL_of {env : Env} {x : Str} (h : okL env x = true) : env.scope.kind = .function ∧ env.kindOf x = some .local ∧ (x == ("__debug__" : Str)) = false := by
  unfold okL at h
  rw [Bool.and_eq_true, Bool.and_eq_true, Bool.not_eq_true'] at h
  obtain ⟨⟨h1, h2⟩, h3⟩ := h
  refine ⟨?_, ?_, h3⟩
  · split at h1
    · assumption
    · cases h1
  · split at h2
    · assumption
    · cases h2
theorem okG_of {env : Env} {x : Str} (h : okG env x = true) : env.scope.kind = .function ∧ env.kindOf x = some .globalImplicit ∧ (x == ("__debug__" : Str)) = false := by
  unfold okG at h
  rw [Bool.and_eq_true, Bool.and_eq_true, Bool.not_eq_true'] at h
  obtain ⟨⟨h1, h2⟩, h3⟩ := h
  refine ⟨?_, ?_, h3⟩
  · split at h1
    · assumption
    · cases h1
  · split at h2
    · assumption
    · cases h2
/-- a name stored -/
def upd (m : Str → Option Value) (x : Str) (v : Value) : Str → Option Value := fun y => if y = x then some v else m y
theorem nmL {x : Str} {pos : Pos} {v : Value} {Q : Value → Shared → Prop} (F : Fm G s L m R) (hv : m x = some v) (h : Q v s) (ok : okL (envX cn cs L a ccd cl) x = true) :
    wpAny (model prog w) A (eval (.Name x pos) (envX cn cs L a ccd cl)) Q E s := nameX_L F.fr hv h (okL_of ok).1 (okL_of ok).2.1 (okL_of ok).2.2
/-- what the module's globals hold -/
def GlobIs (B : Heap) (x : Str) (v : Value) : Prop := ∃ mg, B.Ns mainGlobals mg ∧ mg x = some v
def BuiltIs (B : Heap) (x : Str) (v : Value) : Prop := ∃ mg mb, B.Ns mainGlobals mg ∧ mg x = none ∧ B.Ns builtinsNs mb ∧ mb x = some v
theorem nmG {x : Str} {pos : Pos} {v : Value} {Q : Value → Shared → Prop} (F : Fm G s L m R) (hv : GlobIs G.B x v) (h : Q v s) (ok : okG (envX cn cs L a ccd cl) x = true) :
    wpAny (model prog w) A (eval (.Name x pos) (envX cn cs L a ccd cl)) Q E s := by
  obtain ⟨mg, hn, he⟩ := hv
  obtain ⟨hk, hx, hd⟩ := okG_of ok
  exact Name_function_global hk hx (loadGlobal_global (env := envX cn cs L a ccd cl) (hn.keeps F.keep) he h) hd
theorem nmB {x : Str} {pos : Pos} {v : Value} {Q : Value → Shared → Prop} (F : Fm G s L m R) (hv : BuiltIs G.B x v) (h : Q v s) (ok : okG (envX cn cs L a ccd cl) x = true) :
    wpAny (model prog w) A (eval (.Name x pos) (envX cn cs L a ccd cl)) Q E s := by
  obtain ⟨mg, mb, hn, he, hb, hv⟩ := hv
  obtain ⟨hk, hx, hd⟩ := okG_of ok
  exact Name_function_global hk hx (loadGlobal_builtin (env := envX cn cs L a ccd cl) (hn.keeps F.keep) he (hb.keeps F.keep) hv h) hd
theorem nmF {x : Str} {pos : Pos} {v : Value} {c : Addr} {o : Obj} {Q : Value → Shared → Prop} (F : Fm G s L m R) (hc : cl.lookup x = some c) (hm : (c, o) ∈ R) (ho : o.data = .cell (some v)) (h : Q v s)
    (hk : cs.kind = .function := by rfl) (hx : (envX cn cs L a ccd cl).kindOf x = some .free := by rfl) (hd : (x == ("__debug__" : Str)) = false := by decide) (hn : (x == ("__classdict__" : Str)) = false := by decide) :
    wpAny (model prog w) A (eval (.Name x pos) (envX cn cs L a ccd cl)) Q E s := nameX_F F.news hc hm ho h hk hx hd hn
theorem nmC {x : Str} {pos : Pos} {v : Value} {c : Addr} {o : Obj} {Q : Value → Shared → Prop} (F : Fm G s L m R) (hc : cl.lookup x = some c) (hm : (c, o) ∈ R) (ho : o.data = .cell (some v)) (h : Q v s)
    (hk : cs.kind = .function := by rfl) (hx : (envX cn cs L a ccd cl).kindOf x = some .cell := by rfl) (hd : (x == ("__debug__" : Str)) = false := by decide) :
    wpAny (model prog w) A (eval (.Name x pos) (envX cn cs L a ccd cl)) Q E s := nameX_C F.news hc hm ho h hk hx hd
theorem stL {x : Str} {v : Value} {Q : Unit → Shared → Prop} (F : Fm G s L m R) (h : ∀ s', Fm G s' L (upd m x v) R → Q () s')
    (hk : cs.kind = .function := by rfl) (hx : (envX cn cs L a ccd cl).kindOf x = some .local := by rfl) : wpAny (model prog w) A (storeName (envX cn cs L a ccd cl) x v) Q E s :=
  wpAny_storeName_local hx F.ns (fun h' hn hs => h _ (F.store (m' := upd m x v) hn hs)) (by show (cs.kind == .class || (cs.kind == .module && L != mainGlobals)) = false; rw [hk]; rfl)
end
/-! values -/
section
variable {prog : Program} {w : World} {A : Around} {E : Value → Shared → Prop} {G : Gd} {L : Addr} {env : Env} {R : Led} {m : Str → Option Value} {s : Shared} {Q : Value → Shared → Prop} {a b : Int} {t u : Tok}
theorem kInt {i : Int} {k pos} (F : Fm G s L m R) (h : ∀ t s', Fm G s' L m R → Q (.int i t) s') : wpAny (model prog w) A (eval (.Constant (.int i) k pos) env) Q E s := wpAny_Constant_int (h _ _ (F.toks _))
theorem kStr {x : Str} {k pos} (F : Fm G s L m R) (h : ∀ t s', Fm G s' L m R → Q (.str x t) s') : wpAny (model prog w) A (eval (.Constant (.str x) k pos) env) Q E s := wpAny_Constant_str (h _ _ (F.toks _))
theorem rAdd (F : Fm G s L m R) (h : ∀ t s', Fm G s' L m R → Q (.int (a + b) t) s') : wpAny (model prog w) A (binaryOp .Add (.int a t) (.int b u)) Q E s := PyProof.Rows.add_int (h _ _ (F.toks _))
theorem rSub (F : Fm G s L m R) (h : ∀ t s', Fm G s' L m R → Q (.int (a - b) t) s') : wpAny (model prog w) A (binaryOp .Sub (.int a t) (.int b u)) Q E s := PyProof.Rows.sub_int (h _ _ (F.toks _))
theorem rMul (F : Fm G s L m R) (h : ∀ t s', Fm G s' L m R → Q (.int (a * b) t) s') (hm : IntMulOk a b) : wpAny (model prog w) A (binaryOp .Mult (.int a t) (.int b u)) Q E s := PyProof.Rows.mul_int (h _ _ (F.toks _)) hm
theorem rMod (F : Fm G s L m R) (hb : b ≠ 0) (h : ∀ t s', Fm G s' L m R → Q (.int (a.fmod b) t) s') : wpAny (model prog w) A (binaryOp .Mod (.int a t) (.int b u)) Q E s := PyProof.Rows.mod_int' hb (h _ _ (F.toks _))
theorem rDiv (F : Fm G s L m R) (hb : b ≠ 0) (hp : Builtin.divisionGoesByPylong a b = false) (h : ∀ t s', Fm G s' L m R → Q (.int (a.fdiv b) t) s') : wpAny (model prog w) A (binaryOp .FloorDiv (.int a t) (.int b u)) Q E s := PyProof.Rows.floordiv_int hb (h _ _ (F.toks _)) (.inl hp)
theorem rShr (F : Fm G s L m R) (hb : 0 ≤ b) (h : ∀ t s', Fm G s' L m R → Q (.int (a.fdiv (2 ^ b.toNat)) t) s') : wpAny (model prog w) A (binaryOp .RShift (.int a t) (.int b u)) Q E s := PyProof.Rows.rshift_int hb (h _ _ (F.toks _))
theorem rShl (F : Fm G s L m R) (hb : 0 ≤ b) (hz : (Builtin.Int.intBits a : Int) + b ≤ 2 ^ 27) (h : ∀ t s', Fm G s' L m R → Q (.int (a * 2 ^ b.toNat) t) s') : wpAny (model prog w) A (binaryOp .LShift (.int a t) (.int b u)) Q E s := PyProof.Rows.lshift_int hb hz (h _ _ (F.toks _))
theorem rXor (F : Fm G s L m R) (h : ∀ t s', Fm G s' L m R → Q (.int (Builtin.bitXor a b) t) s') : wpAny (model prog w) A (binaryOp .BitXor (.int a t) (.int b u)) Q E s := PyProof.Rows.xor_int (h _ _ (F.toks _))
theorem rPow (F : Fm G s L m R) (hn : 0 ≤ b) (hn2 : b ≤ 1000000) (ha : a.natAbs < 2 ^ 64) (h : ∀ t s', Fm G s' L m R → Q (.int (a ^ b.toNat) t) s') : wpAny (model prog w) A (binaryOp .Pow (.int a t) (.int b u)) Q E s := PyProof.Rows.pow_int_small hn hn2 ha (h _ _ (F.toks _))
theorem rNeg (F : Fm G s L m R) (h : ∀ t s', Fm G s' L m R → Q (.int (-a) t) s') : wpAny (model prog w) A (unaryOp .USub (.int a t)) Q E s := PySem.P.neg_int (h _ _ (F.toks _))
theorem rInv (F : Fm G s L m R) (h : ∀ t s', Fm G s' L m R → Q (.int (-a - 1) t) s') : wpAny (model prog w) A (unaryOp .Invert (.int a t)) Q E s := by
  refine PyProof.Rows.invert_int ?_
  have := h s.toks _ (F.toks (s.toks + 1))
  exact this
/-- a tuple or a list made -/
theorem nwTup {vs : List Value} (F : Fm G s L m R) (hz : vs.length ≤ 1000) (h : ∀ a s', (∀ p ∈ R, p.1 < a) → L < a → Fm G s' L m ((a, { cls := .type "tuple", data := .seq vs.toArray }) :: R) → Q (.ref a) s') :
    wpAny (model prog w) A (newTuple vs) Q E s :=
  wpAny_newObj_type (h _ _ (fun p hp => F.lt hp) F.ltL (F.push (t := s.toks) _)) (by show vs.toArray.size ≤ sizeLine; rw [List.size_toArray]; exact Nat.le_trans hz (by decide))
theorem nwList {vs : List Value} (F : Fm G s L m R) (hz : vs.length ≤ 1000) (h : ∀ a s', (∀ p ∈ R, p.1 < a) → L < a → Fm G s' L m ((a, { cls := .type "list", data := .seq vs.toArray }) :: R) → Q (.ref a) s') :
    wpAny (model prog w) A (newList vs) Q E s :=
  wpAny_newObj_type (h _ _ (fun p hp => F.lt hp) F.ltL (F.push (t := s.toks) _)) (by show vs.toArray.size ≤ sizeLine; rw [List.size_toArray]; exact Nat.le_trans hz (by decide))
end
/-- what the class of the accumulators says -/
structure ClsA (K : Frag) (C : Addr) : Prop where
  ga : findIn K (.ref C) "__getattribute__" = some (some (.builtin "list.__getattribute__"))
  gat : findIn K (.ref C) "__getattr__" = some none
  sub : mroIn K C (.type "list") = some true
  hasDict : hasDictIn K C = true
  sa : findIn K (.ref C) "__setattr__" = some (some (.builtin "object.__setattr__"))
  isz : findIn K (.ref C) "_initial_size" = some none
  takes : takerIn K C "_initial_size" = some none
  append : findIn K (.ref C) "append" = some (some (.builtin "list.append"))
  getitem : findIn K (.ref C) "__getitem__" = some (some (.builtin "list.__getitem__"))
  setitem : findIn K (.ref C) "__setitem__" = some (some (.builtin "list.__setitem__"))
  iter : findIn K (.ref C) "__iter__" = some (some (.builtin "list.__iter__"))
  bool : findIn K (.ref C) "__bool__" = some none
  noSeq : noSeq K C = true
abbrev accO (C d : Addr) (vs : List Value) (n : Nat) : Obj := { cls := .ref C, dict := some d, data := .seq vs.toArray n }
abbrev dicO (w : World) (sz : Int) (k t : Tok) : Obj := dictOf [⟨PyData.keyHash w.params "_initial_size", .str "_initial_size" k, .int sz t⟩] 1
abbrev listO (vs : List Value) (n : Nat) : Obj := { cls := .type "list", data := .seq vs.toArray n }
abbrev tupO (vs : List Value) : Obj := { cls := .type "tuple", data := .seq vs.toArray }
/-- an accumulator in the heap -/
structure AccAt (h : Heap) (w : World) (C a d : Addr) (vs : List Value) (n : Nat) (sz : Int) (k t : Tok) : Prop where
  acc : h.get? a = some (accO C d vs n)
  dic : h.get? d = some (dicO w sz k t)
theorem AccAt.inst {h : Heap} {w : World} {C a d : Addr} {vs : List Value} {n : Nat} {sz : Int} {k t : Tok} (x : AccAt h w C a d vs n sz k t) : InstAt h a (accO C d vs n) C (some (dicO w sz k t)) :=
  ⟨x.acc, rfl, rfl, x.dic⟩
section
variable {prog : Program} {w : World} {A : Around} {E : Value → Shared → Prop} {s : Shared} {K : Frag} {C a d : Addr} {vs : List Value} {n : Nat} {sz : Int} {k t : Tok}
theorem isInst_acc {M : Model} {h : Heap} (X : K.In h) (c : ClsA K C) (I : InstAt h a (accO C d vs n) C (some (dicO w sz k t))) : Looks M h (isInstance (.ref a) (.type "list")) true :=
  I.type.andThen (looks_mroIn X c.sub)
theorem acc_meth {name : Str} {f : Value} {tf : Value} {pl : Sem Bool} {Q : Value × List Value → Shared → Prop} (X : K.In s.heap) (c : ClsA K C) (I : AccAt s.heap w C a d vs n sz k t)
    (hf : findIn K (.ref C) name = some (some f)) (ht : typeIn K f = some tf) (htf : (tf != .type "function" && tf != .type "method_descriptor" && tf != .type "wrapper_descriptor") = false)
    (hn : (Value.str ("_initial_size" : Str) k).isStr name = false) (h : Q (f, [.ref a]) s) :
    wpAny (model prog w) A (getMethod (.ref a) name pl) Q E s := by
  have hcan := (show (Manifest.canonical "list.__getattribute__" != "object.__getattribute__") = false by decide +kernel)
  unfold getMethod specialOf
  refine wpAny_bind (wpAny_bind (I.inst.type.here ((looks_findIn X c.ga).here ?_)))
  dsimp only
  rw [hcan, if_neg (by decide)]
  refine wpAny_bind (wpAny_bind (I.inst.type.here ((looks_findIn X c.gat).here ?_)))
  refine wpAny_bind (wpAny_bind (I.inst.type.here ((looks_findIn X hf).here (wpAny_bind ((looks_typeIn X ht).here ?_)))))
  rw [htf]
  simp only [Bool.false_eq_true, if_false]
  refine wpAny_bind (wpAny_loadPart I.acc ?_)
  refine wpAny_bind (wpAny_bind (wpAny_loadPart I.dic ?_))
  have e : lookIn name (dicO w sz k t) = some none := by
    unfold lookIn
    simp only [List.find?_cons, hn, List.find?_nil]
    rfl
  rw [nsLook_of e]
  refine wpAny_pure ?_
  exact wpAny_bind (wpAny_rule (wpAny_pure h))
theorem check_method {M : Model} {i owner n : String} {self : Value} {rest : List Value} {kw : List (Str × Value)} {Q : Unit → Shared → Prop}
    (hk : builtinKind i = some .method) (hs : splitId i = some (owner, n)) (hi : Looks M s.heap (isInstance self (.type owner)) true) (ha : argsOk i ⟨self :: rest, kw⟩) (q : Q () s) :
    wpAny M A (checkBuiltinCall i ⟨self :: rest, kw⟩) Q E s := by
  simp only [checkBuiltinCall, hk, hs]
  refine wpAny_bind (hi.here ?_)
  simp only [Bool.not_true, Bool.false_eq_true, if_false]
  cases hsig : Manifest.signature? i with
  | none => exact wpAny_pure q
  | some sig =>
    simp only [argsOk, hsig] at ha
    have h2 : Bind.checkArgs i sig ⟨self :: rest, kw⟩ = pure () := ha
    show wpAny M A (Bind.checkArgs i sig ⟨self :: rest, kw⟩) Q E s
    rw [h2]; exact wpAny_pure q
/-- a built-in's end -/
def BiEnd (prog : Program) (w : World) (A : Around) (Q : Value → Shared → Prop) (E : Value → Shared → Prop) (fin : Fin) (s' : Shared) : Prop := match fin with
  | .done f => (match f with | .ret v => Q v s' | _ => False)
  | .again c' => c'.quiet = true ∧ codeAny (model prog w) A c' (fun r s' => match r with | .ok (.ret v) => Q v s' | .ok _ => False | .error e => E e s') s'
/-- a call of a built-in whose check passes -/
theorem call_bi {id : String} {pos : List Value} {b : Builtin} {Q : Value → Shared → Prop} (hq : plainId id = true) (hb : entryFor table id = some b)
    (hc : wpAny (model prog w) A.in1 (checkBuiltinCall id ⟨pos, []⟩) (fun _ s₁ => wpAny (model prog w) A.in1 (b ⟨pos, []⟩) (BiEnd prog w A Q E) E s₁) E s) :
    wpAny (model prog w) A (call (.builtin id) pos) Q E s := by
  refine wpAny_call (codeAny_call_builtin hq hb (wpAny_mono hc (fun _ s₁ h₁ => wpAny_mono h₁ (fun fin s' hf => ?_) fun _ _ e => e) fun _ _ e => e))
  cases fin with
  | done f => cases f <;> exact hf
  | again c => exact hf
end
theorem mapSeq_get {h : Heap} {a : Addr} {c : Value} {d : Option Addr} {xs : Array Value} {n : Nat} {sl : Array (Option Value)} {f : Array Value → Array Value} (ho : h.get? a = some ⟨c, d, .seq xs n, sl⟩) :
    (h.update a (Obj.mapSeq f)).get? a = some ⟨c, d, .seq (f xs) (if (f xs).size == xs.size then n else n + 1), sl⟩ := by
  rw [Heap.get?_update_self _ ho rfl]
  rfl
section
variable {M : Model} {A : Around} {E : Value → Shared → Prop} {s : Shared} {a : Addr} {c : Value} {d : Option Addr} {xs : List Value} {n : Nat} {sl : Array (Option Value)}
theorem b_append {x : Value} {Q : Fin → Shared → Prop} (ho : s.heap.get? a = some ⟨c, d, .seq xs.toArray n, sl⟩) (hz : xs.length ≤ 100000)
    (h : ∀ h', Heap.SameBut a s.heap h' → h'.get? a = some ⟨c, d, .seq (xs ++ [x]).toArray (n + 1), sl⟩ → Q (.done (.ret .none)) { s with heap := h' }) :
    wpAny M A (Builtin.«list.append» ⟨[.ref a, x], []⟩) Q E s := by
  unfold Builtin.«list.append»
  show wpAny M A (updateSeq a (·.push x) >>= fun _ => ret .none) Q E s
  refine wpAny_bind (wpAny_updateSeq ho rfl ?_ (by simp [sizeLine]; (first | lia | omega)) (by simp [sizeLine]; (first | lia | omega)))
  refine wpAny_pure (h _ (Heap.SameBut.update ..) ?_)
  rw [mapSeq_get ho]
  simp
end
section
variable {prog : Program} {w : World} {A : Around} {E : Value → Shared → Prop} {s : Shared} {K : Frag} {C a d : Addr} {vs : List Value} {n : Nat} {sz : Int} {k t : Tok}
/-- a method of list's upon an accumulator -/
theorem callA {id nm : String} {rest : List Value} {b : Builtin} {Q : Value → Shared → Prop} (X : K.In s.heap) (c : ClsA K C) (I : AccAt s.heap w C a d vs n sz k t)
    (hk : builtinKind id = some .method ∨ builtinKind id = some .slot) (hs : splitId id = some ("list", nm)) (ha : argsOk id ⟨.ref a :: rest, []⟩) (hq : plainId id = true) (hb : entryFor table id = some b)
    (h : wpAny (model prog w) A.in1 (b ⟨.ref a :: rest, []⟩) (BiEnd prog w A Q E) E s) : wpAny (model prog w) A (call (.builtin id) (.ref a :: rest)) Q E s := by
  refine call_bi hq hb ?_
  rcases hk with hk | hk
  · exact check_method hk hs (isInst_acc X c I.inst) ha h
  · exact check_slot hk hs (isInst_acc X c I.inst) ha h
theorem kind_lga : builtinKind "list.__getattribute__" = some .slot := by decide +kernel
theorem split_lga : splitId "list.__getattribute__" = some ("list", "__getattribute__") := by decide +kernel
theorem plain_lga : plainId "list.__getattribute__" = true := by decide +kernel
theorem oga_value {M : Model} {name : Str} {tk : Tok} {v : Value} {Q : Fin → Shared → Prop} (L0 : Looks M s.heap (typeOf (.ref a)) (.ref C)) (L1 : Looks M s.heap (Builtin.ObjectAttr.find (.ref a) (.ref C) name) (Builtin.ObjectAttr.Found.value v)) (h : Q (.done (.ret v)) s) :
    wpAny M A (Builtin.«object.__getattribute__» ⟨[.ref a, .str name tk], []⟩) Q E s := by
  unfold Builtin.«object.__getattribute__»
  refine wpAny_bind (wpAny_pure (wpAny_bind (wpAny_pure (wpAny_bind (L0.here (wpAny_bind (L1.here ?_)))))))
  exact wpAny_pure h
/-- an attribute of its own -/
theorem getOwnA {name : Str} {expr : Bool} {v : Value} {Q : Value → Shared → Prop} (X : K.In s.heap) (c : ClsA K C) (I : AccAt s.heap w C a d vs n sz k t) (hf : findObj K C (some (dicO w sz k t)) name = some (Builtin.ObjectAttr.Found.value v)) (hh : handedIn v = true)
    (h : Q v { s with toks := s.toks + 1 }) : wpAny (model prog w) A (getAttr (.ref a) name expr) Q E s := by
  obtain ⟨hh', g, dr, tk, os⟩ := s
  have L0 := I.inst.type (M := model prog w)
  have L1 := looks_findIn (M := model prog w) X c.ga
  have L2 := looks_findIn (M := model prog w) X c.gat
  have L3 := looks_find (M := model prog w) X I.inst hf
  have I' : AccAt (⟨hh', g, dr, tk + 1, os⟩ : Shared).heap w C a d vs n sz k t := I
  unfold getAttr getAttrBy
  refine wpAny_bind (wpAny_mkText (wpAny_holding (wpAny_bind (L0.at (wpAny_bind (L1.at ?_))))))
  show wpAny _ _ (getAttrByItsOwn (.ref a) (.str name tk) (.ref C) (.builtin "list.__getattribute__") true expr) _ _ _
  unfold getAttrByItsOwn hookBefore callGetattribute boundAndCalled
  refine wpAny_bind (m := if onTheHeap (.ref C) = true then typeLookup (.ref C) "__getattr__" else pure none) ?_
  rw [if_pos (by rfl)]
  refine L2.at ?_
  refine wpAny_bind (wpAny_attempt (wpAny_holding ?_))
  rw [show (expr && onTheHeap (.builtin "list.__getattribute__")) = false by cases expr <;> rfl]
  simp only [Bool.false_eq_true, if_false]
  refine wpAny_bind (wpAny_of_eq (PySem.F.slot_list_getattribute.bind _) ?_)
  refine callA (rest := [.str name tk]) X c I' (.inr kind_lga) split_lga (PySem.F.args_list_getattribute_2 _ _) plain_lga PySem.F.entry_list_ga ?_
  refine oga_value L0 L3 ?_
  show wpAny _ _ (handedOut v) _ _ _
  rw [handedOut_of hh]
  exact wpAny_pure h
theorem specA {id : String} {name : Str} {args : List Value} {Q : Option Value → Shared → Prop} (X : K.In s.heap) (I : AccAt s.heap w C a d vs n sz k t) (hf : findIn K (.ref C) name = some (some (.builtin id)))
    (hb : ∀ self, bindSpecial (.builtin id) self = pure (.builtin id, [self])) (h : wpAny (model prog w) A (call (.builtin id) (.ref a :: args)) (fun v => Q (some v)) E s) :
    wpAny (model prog w) A (callSpecial? (.ref a) name args) Q E s := by
  unfold callSpecial? specialOf
  refine wpAny_bind (wpAny_bind (I.inst.type.here ((looks_findIn X hf).here ?_)))
  dsimp only
  refine wpAny_holding (wpAny_bind (wpAny_of_eq (hb _) ?_))
  exact wpAny_bind (wpAny_mono h (fun v s' h' => wpAny_pure h') fun _ _ e => e)
theorem seqKeyA {i : Value} {nm : Str} {Q : Value → Shared → Prop} (X : K.In s.heap) (c : ClsA K C) (I : AccAt s.heap w C a d vs n sz k t) (h : Q i s) : wpAny (model prog w) A (sequenceKey (.ref a) i nm) Q E s := by
  unfold sequenceKey
  refine wpAny_bind (I.inst.type.here ?_)
  refine wpAny_bind ((anyM_none X c.noSeq).here ?_)
  rw [if_pos (show (!false) = true from rfl)]
  exact wpAny_pure h
end
section
variable {prog : Program} {w : World} {A : Around} {E : Value → Shared → Prop} {s : Shared} {a sl : Addr} {c : Value} {d : Option Addr} {xs : List Value} {n : Nat} {osl : Array (Option Value)} {vl vu vst : Value} {lo hi : Option Int}
abbrev sliO (l u v : Value) : Obj := { cls := .type "slice", data := .fields #[l, u, v] }
theorem listSub_slice {Q : Option Int → Shared → Prop} (hs : s.heap.get? sl = some (sliO vl vu vst)) (h : Q none s) : wpAny (model prog w) A (Builtin.List.listSubscript? (.ref sl)) Q E s := by
  have hTs : s.TypeIs (.ref sl) "slice" := ⟨_, hs, rfl⟩
  unfold Builtin.List.listSubscript?
  refine wpAny_bind (wpAny_specialOf hTs slice_no_index ?_)
  simp only [Option.isNone_none, if_true]
  exact wpAny_pure h
theorem sliceParts_of {Q : Value × Value × Value → Shared → Prop} (hs : s.heap.get? sl = some (sliO vl vu .none)) (pl : IsPart vl lo) (pu : IsPart vu hi) (h : Q (rawPart lo, rawPart hi, rawPart none) s) :
    wpAny (model prog w) A (Builtin.List.listSliceParts (.ref sl)) Q E s := by
  rw [listSliceParts_eq]
  refine wpAny_bind (wpAny_field hs rfl (x := .none) rfl (wpAny_bind (wpAny_listPart .none ?_)))
  rw [if_neg (by decide)]
  refine wpAny_bind (wpAny_field hs rfl (x := vl) rfl (wpAny_bind (wpAny_listPart pl ?_)))
  exact wpAny_bind (wpAny_field hs rfl (x := vu) rfl (wpAny_bind (wpAny_listPart pu (wpAny_pure h))))
theorem b_getslice {Q : Fin → Shared → Prop} (ho : s.heap.get? a = some ⟨c, d, .seq xs.toArray n, osl⟩) (hs : s.heap.get? sl = some (sliO vl vu .none)) (pl : IsPart vl lo) (pu : IsPart vu hi) (hz : xs.length ≤ 100000)
    (h : Q (.done (.ret (.ref s.heap.objs.size))) { s with heap := s.heap.push { cls := .type "list", data := .seq (slicePick xs.toArray lo hi none) } }) :
    wpAny (model prog w) A (Builtin.«list.__getitem__» ⟨[.ref a, .ref sl], []⟩) Q E s := by
  have hTs : s.TypeIs (.ref sl) "slice" := ⟨_, hs, rfl⟩
  show wpAny _ _ (Builtin.List.listSubscript? (.ref sl) >>= _) _ _ s
  refine wpAny_bind (listSub_slice hs ?_)
  show wpAny _ _ (typeOf (.ref sl) >>= _) _ _ s
  refine wpAny_bind (wpAny_typeOf hTs ?_)
  rw [if_neg (by decide)]
  refine wpAny_bind (sliceParts_of hs pl pu ?_)
  refine wpAny_bind (m := Builtin.List.listItems (.ref a)) ?_
  unfold Builtin.List.listItems
  refine wpAny_bind (wpAny_seqItems ho rfl (wpAny_pure ?_))
  refine wpAny_bind (wpAny_of_eq (sliceIndices_raw lo hi none xs.toArray.size (by simp)) ?_)
  refine wpAny_bind (wpAny_newObj_type (wpAny_pure h) (Nat.le_trans (slicePick_size_le xs.toArray lo hi none) ?_))
  simp [sizeLine]; (first | lia | omega)
end
section
variable {prog : Program} {w : World} {A : Around} {E : Value → Shared → Prop} {s : Shared} {a sl : Addr} {c : Value} {d : Option Addr} {xs : List Value} {n : Nat} {osl : Array (Option Value)} {vl vu vst : Value} {lo hi : Option Int}
theorem letGo_any {M : Model} {vs keep : List Value} {Q : Unit → Shared → Prop} (h : Q () s) : wpAny M A (letGo vs keep) Q E s := by
  induction vs with
  | nil => exact wpAny_pure h
  | cons v r ih => unfold letGo; exact wpAny_bind (wpAny_holding (wpAny_point ih))
theorem items_of {M : Model} {Q : Array Value → Shared → Prop} (ho : s.heap.get? a = some ⟨c, d, .seq xs.toArray n, osl⟩) (h : Q xs.toArray s) : wpAny M A (Builtin.List.listItems (.ref a)) Q E s := by
  unfold Builtin.List.listItems
  exact wpAny_bind (wpAny_seqItems ho rfl (wpAny_pure h))
theorem setslice_size (lo hi : Option Int) (n : Nat) : (sliceBounds lo hi none n).2.2 = 1 := rfl
/-- xs[lo:hi] = the items of a list -/
def putSlice (xs new : List Value) (lo hi : Option Int) : List Value :=
  let b := sliceBounds lo hi none xs.length
  xs.take b.1.toNat ++ new ++ xs.drop (max b.1 b.2.1).toNat
theorem b_setslice {l : Addr} {ys : List Value} {nl : Nat} {Q : Fin → Shared → Prop} (ho : s.heap.get? a = some ⟨c, d, .seq xs.toArray n, osl⟩) (hs : s.heap.get? sl = some (sliO vl vu .none)) (hl : s.heap.get? l = some (listO ys nl)) (hne : a ≠ l)
    (pl : IsPart vl lo) (pu : IsPart vu hi) (hz : xs.length ≤ 100000) (hz2 : ys.length ≤ 100000)
    (h : ∀ h' m, Heap.SameBut a s.heap h' → h'.get? a = some ⟨c, d, .seq (putSlice xs ys lo hi).toArray m, osl⟩ → Q (.done (.ret .none)) { s with heap := h' }) :
    wpAny (model prog w) A (Builtin.«list.__setitem__» ⟨[.ref a, .ref sl, .ref l], []⟩) Q E s := by
  have hTs : s.TypeIs (.ref sl) "slice" := ⟨_, hs, rfl⟩
  have hTl : s.TypeIs (.ref l) "list" := ⟨_, hl, rfl⟩
  show wpAny _ _ (Builtin.List.listSubscript? (.ref sl) >>= _) _ _ s
  refine wpAny_bind (listSub_slice hs ?_)
  show wpAny _ _ (typeOf (.ref sl) >>= _) _ _ s
  refine wpAny_bind (wpAny_typeOf hTs ?_)
  rw [if_neg (by decide)]
  refine wpAny_bind (sliceParts_of hs pl pu ?_)
  dsimp only
  have e1 : Builtin.List.listSameRef (.ref a) (.ref l) = false := by
    show (a == l) = false
    simpa using hne
  rw [e1]
  simp only [Bool.false_eq_true, if_false]
  refine wpAny_bind (m := Builtin.List.listAllItems (.ref l) _) ?_
  unfold Builtin.List.listAllItems
  refine wpAny_bind (wpAny_typeOf hTl ?_)
  rw [if_pos (by decide)]
  first
    | refine items_of hl ?_
    | refine wpAny_bind (items_of hl (wpAny_pure ?_))
  refine wpAny_bind (items_of ho ?_)
  refine wpAny_bind (wpAny_of_eq (sliceIndices_raw lo hi none xs.toArray.size (by simp)) ?_)
  generalize hb : sliceBounds lo hi none xs.toArray.size = b
  obtain ⟨b1, b2, b3⟩ := b
  have hb3 : b3 = 1 := by have := congrArg (fun x => x.2.2) hb; exact this.symm
  subst hb3
  dsimp only
  rw [if_pos (by decide)]
  refine wpAny_bind (wpAny_rule ?_)
  have hsz : Builtin.List.listTooLong (xs.toArray.size + ys.toArray.size) = false := by
    unfold Builtin.List.listTooLong sizeLine; simp; (first | lia | omega)
  rw [hsz]
  simp only [Bool.false_eq_true, if_false]
  have hput : ((xs.toArray.extract 0 b1.toNat ++ ys.toArray ++ xs.toArray.extract (max b1 b2).toNat xs.toArray.size)) = (putSlice xs ys lo hi).toArray := by
    unfold putSlice
    have hb' : sliceBounds lo hi none xs.length = (b1, b2, 1) := by rw [← hb]; simp
    rw [hb']
    apply Array.ext'
    simp
    exact List.take_of_length_le (by simp)
  have hle : (putSlice xs ys lo hi).length ≤ xs.length + ys.length + xs.length := by
    unfold putSlice
    simp only [List.length_append, List.length_take, List.length_drop]
    (first | lia | omega)
  refine wpAny_bind (m := updateSeq a _) (wpAny_updateSeq ho rfl ?_ (by simp [sizeLine]; (first | lia | omega)) (by rw [hput]; simp [sizeLine]; (first | lia | omega)))
  refine wpAny_bind (letGo_any (wpAny_pure (h _ (if (putSlice xs ys lo hi).toArray.size == xs.toArray.size then n else n + 1) (Heap.SameBut.update ..) ?_)))
  rw [mapSeq_get ho, hput]
theorem b_pop {x : Value} {Q : Fin → Shared → Prop} (ho : s.heap.get? a = some ⟨c, d, .seq (xs ++ [x]).toArray n, osl⟩) (hz : xs.length ≤ 100000)
    (h : ∀ h', Heap.SameBut a s.heap h' → h'.get? a = some ⟨c, d, .seq xs.toArray (n + 1), osl⟩ → Q (.done (.ret x)) { s with heap := h' }) :
    wpAny (model prog w) A (Builtin.«list.pop» ⟨[.ref a], []⟩) Q E s := by
  unfold Builtin.«list.pop»
  show wpAny _ _ (Builtin.List.listItems (.ref a) >>= _) _ _ s
  unfold Builtin.List.listItems
  refine wpAny_bind (wpAny_bind (wpAny_seqItems ho rfl (wpAny_pure ?_)))
  have e1 : ((xs ++ [x]).toArray).isEmpty = false := by simp
  have e2 : ((seqIndex? (-1) ((xs ++ [x]).toArray).size).bind fun k => ((xs ++ [x]).toArray)[k]?.map (k, ·)) = some (xs.length, x) := by
    have : seqIndex? (-1) ((xs ++ [x]).toArray).size = some xs.length := by
      unfold seqIndex?
      simp only [List.size_toArray, List.length_append, List.length_singleton]
      have h1 : ((-1 : Int) < 0) := by decide
      simp only [h1, if_true]
      have : (decide (0 ≤ (-1 : Int) + ((xs.length + 1 : Nat) : Int)) && decide ((-1 : Int) + ((xs.length + 1 : Nat) : Int) < ((xs.length + 1 : Nat) : Int))) = true := by
        simp; (first | lia | omega)
      rw [if_pos this]
      congr 1
      (first | lia | omega)
    rw [this]
    simp
  simp only [e1, Bool.false_eq_true, if_false, e2]
  have e3 : (xs ++ [x]).toArray.eraseIdxIfInBounds xs.length = xs.toArray := by
    apply Array.ext'
    simp [Array.eraseIdxIfInBounds, List.eraseIdx_append_of_length_le]
  refine wpAny_bind (m := updateSeq a _) (wpAny_updateSeq ho rfl ?_ (by simp [sizeLine]; (first | lia | omega)) (by rw [e3]; simp [sizeLine]; (first | lia | omega)))
  refine wpAny_pure (h _ (Heap.SameBut.update ..) ?_)
  rw [mapSeq_get ho, e3]
  simp
end
def makesA (K : Frag) (C : Addr) : Bool := match K.lookup C with
  | some ⟨_, _, .cls cd, sl⟩ => !cd.abstract && !cd.hasDel && (sl.toList[4]?).join == some (.builtin "list.__new__") && cd.mro == [.ref C, .type "list", .type "object"] &&
      specialIn K (.ref C) "__call__" == some (some (.builtin "type.__call__")) && instIn K (.ref C) (.type "type") == some true
  | _ => false
structure MakesA (M : Model) (h : Heap) (C : Addr) : Prop where
  obj : ∃ oc od cd sl, h.get? C = some ⟨oc, od, .cls cd, sl⟩ ∧ cd.abstract = false ∧ cd.hasDel = false ∧ cd.mro.isEmpty = false
  made : Looks M h (Bind.madeBy (.ref C)) (some "list.__new__")
  base : Looks M h (Bind.staticBase (.ref C)) (.ref C)
  self : Looks M h (isSubtype (.ref C) (.ref C)) true
  top : Looks M h (isSubtype (.ref C) (.type "list")) true
  call : Looks M h (specialOf (.ref C) "__call__") (some (.builtin "type.__call__"))
  typ : Looks M h (isInstance (.ref C) (.type "type")) true
theorem makesA_of {K : Frag} {M : Model} {h : Heap} (X : K.In h) {C : Addr} (e : makesA K C = true) : MakesA M h C := by
  unfold makesA at e
  split at e
  · rename_i oc od cd sl ho
    simp only [Bool.and_eq_true, Bool.not_eq_true', beq_iff_eq] at e
    obtain ⟨⟨⟨⟨⟨e1, e2⟩, e3⟩, e4⟩, e7⟩, e8⟩ := e
    have hc : clsIn K C = some cd := by unfold clsIn; rw [ho]
    have hm : Looks M h (mroOf (.ref C)) cd.mro := (looks_clsIn X hc).andThen .now
    have made : Looks M h (Bind.madeBy (.ref C)) (some "list.__new__") := by
      intro A Q E s k q
      unfold Bind.madeBy
      refine wpAny_bind (hm A _ E s k ?_)
      rw [e4, List.forIn_cons]
      refine wpAny_bind (wpAny_bind (wpAny_bind (wpAny_bind (wpAny_loadPart (k _ _ (X _ _ ho)) (wpAny_pure ?_)))))
      dsimp only
      rw [← Array.getElem?_toList, e3]
      exact wpAny_pure (wpAny_pure (wpAny_pure q))
    refine ⟨⟨oc, od, cd, sl, X _ _ ho, e1, e2, by rw [e4]; rfl⟩, made, ?_, looks_mroIn X ?_, looks_mroIn X ?_, looks_specialIn X e7, looks_instIn X e8⟩
    · intro A Q E s k q
      unfold Bind.staticBase
      refine wpAny_bind (hm A _ E s k ?_)
      rw [e4, List.forIn_cons]
      exact wpAny_bind (wpAny_bind (wpAny_bind (made A _ E s k (wpAny_pure (wpAny_pure (wpAny_pure q))))))
    · unfold mroIn; rw [hc, Option.bind_some, if_neg (by rw [e4]; simp), e4]; simp
    · unfold mroIn; rw [hc, Option.bind_some, if_neg (by rw [e4]; simp), e4]; simp
  · cases e
section
variable {prog : Program} {w : World} {A : Around} {K : Frag} {C : Addr} {R : Result → Shared → Prop} {h : Heap} {g : Array GenState} {d : Drawn} {t : Nat} {os : OsState}
theorem kind_list_new : builtinKind "list.__new__" = some .builtinFn := by decide +kernel
theorem split_list_new : splitId "list.__new__" = some ("list", "__new__") := by decide +kernel
theorem newA {rest : List Value} (Y : MakesA (model prog w) h C)
    (hargs : ∀ sig, Manifest.signature? "list.__new__" = some sig → Bind.checkArgs "list.__new__" sig ⟨.ref C :: rest, []⟩ = pure ())
    (hq : R (.ok (.ret (.ref (h.objs.size + 1)))) ⟨(h.push emptyDict).push (accO C h.objs.size [] 0), g, d, t, os⟩) :
    codeAny (model prog w) A (.call (.builtin "list.__new__") ⟨.ref C :: rest, []⟩) R ⟨h, g, d, t, os⟩ := by
  obtain ⟨⟨oc, od, cd, sl, hC, e1, e2, e4⟩, made, base, self, top, call, typ⟩ := Y
  have here : Looks (model prog w) h (Bind.madeHere "list.__new__" (.ref C)) () := base.andThen (made.andThen (Looks.of_pure (by simp only [Option.map_some, bne_self_eq_false, Bool.false_eq_true, if_false])))
  refine codeAny_of_tree ?_
  show wpAny _ A.in1 (do checkBuiltinCall "list.__new__" ⟨.ref C :: rest, []⟩; again (.builtin "list.__new__" ⟨.ref C :: rest, []⟩)) _ _ _
  refine wpAny_bind ?_
  simp only [checkBuiltinCall, kind_list_new, split_list_new]
  have hs : ∃ sig, Manifest.signature? "list.__new__" = some sig := by
    cases q : Manifest.signature? "list.__new__" with
    | none => exact absurd q (by decide +kernel)
    | some sig => exact ⟨sig, rfl⟩
  obtain ⟨sig, hs⟩ := hs
  have hck := hargs sig hs
  rw [hs]
  dsimp only
  rw [hck]
  repeat (first | simp only [bne_self_eq_false, Bool.false_eq_true, if_false] | lk)
  refine ⟨plainId_quiet F.plain_list_new _, codeAny_builtin_stack F.entry_list_new rfl fun p st => ?_⟩
  rw [Around.under_plainId F.plain_list_new _]
  simp only [owner_list_new]
  have fin : ∀ A', wpAny (model prog w) A' (do
      let .ref d ← newDict | unsupported "internal:list.__new__"
      ret (← newObj (.ref C) (.seq #[]) (some d))) (fun fin s' => match fin with | .done f => R (.ok f) s' | .again c' => c'.quiet = true ∧ codeAny (model prog w) A c' R s') (fun e s' => R (.error e) s') ⟨h, g, d, t, os⟩ := by
    intro A'
    show wpAny _ _ (newDict >>= _) _ _ _
    unfold newDict
    refine wpAny_bind (wpAny_bind (wpAny_alloc (wpAny_pure ?_)))
    dsimp only
    refine wpAny_bind ?_
    show wpAny _ _ (newObjAsIs _ _ _) _ _ _
    unfold newObjAsIs classHasDel
    refine wpAny_bind (wpAny_alloc (wpAny_bind (wpAny_bind (wpAny_load (Heap.get?_push_of_some _ (Heap.get?_push_of_some _ hC)) (wpAny_pure ?_)))))
    rw [e2]
    refine wpAny_pure (wpAny_pure ?_)
    show R _ _
    rw [Heap.size_push]
    exact hq
  repeat (first | exact fin _ | lk)
theorem makeA {rest : List Value} {fI : Addr} (Y : MakesA (model prog w) h C) (hi : Looks (model prog w) h (typeLookup (.ref C) "__init__") (some (.ref fI)))
    (hb : ∀ self, Looks (model prog w) h (bindSpecial (.ref fI) self) (.ref fI, [self]))
    (hargs : ∀ sig, Manifest.signature? "list.__new__" = some sig → Bind.checkArgs "list.__new__" sig ⟨.ref C :: rest, []⟩ = pure ())
    (hq : codeAny (model prog w) (A.under (.builtin "type.__call__" ⟨.ref C :: rest, []⟩)) (.call (.ref fI) ⟨.ref (h.objs.size + 1) :: rest, []⟩) (InitBack (h.objs.size + 1) R) ⟨(h.push emptyDict).push (accO C h.objs.size [] 0), g, d, t, os⟩) :
    codeAny (model prog w) A (.call (.ref C) ⟨rest, []⟩) R ⟨h, g, d, t, os⟩ := by
  have Y' := Y
  obtain ⟨⟨oc, od, cd, sl, hC, e1, e2, e4⟩, made, base, self, top, call, typ⟩ := Y
  refine codeAny_of_tree ?_
  show wpAny _ _ (callAny (.ref C) _) _ _ _
  refine nd_load hC ?_
  show wpAny _ _ (callAny.viaDunder (.ref C) _) _ _ _
  unfold callAny.viaDunder
  refine wpAny_bind (call.at ?_)
  dsimp only
  rw [tc_bind]
  refine wpAny_bind (wpAny_pure (wpAny_bind (wpAny_pure ?_)))
  refine wpAny_pure (a := Fin.again (.call (.builtin "type.__call__") ⟨.ref C :: rest, []⟩)) (And.intro rfl ?_)
  refine codeAny_call_builtin_at (Code.quiet_builtin _ (by decide +kernel)) entry_typeCall (check_slot tc_kind tc_split typ (tc_args _ _ _) ?_)
  unfold Builtin.«type.__call__»
  have hm : Looks (model prog w) h (mroOf (.ref C)) cd.mro := ((Looks.ld (part := none) hC).andThen .now).andThen .now
  repeat (first | simp only [e4, Bool.false_eq_true, if_false] | with_reducible refine wpAny_call ?_ | lk)
  refine newA Y' hargs ?_
  have k : ∀ b o, h.get? b = some o → ((h.push emptyDict).push (accO C h.objs.size [] 0)).get? b = some o := fun b o e => Heap.get?_push_of_some _ (Heap.get?_push_of_some _ e)
  have hx : ((h.push emptyDict).push (accO C h.objs.size [] 0)).get? (h.objs.size + 1) = some (accO C h.objs.size [] 0) := by heap_get
  have t1 : Looks (model prog w) ((h.push emptyDict).push (accO C h.objs.size [] 0)) (typeOf (.ref (h.objs.size + 1))) (.ref C) := (Looks.ld hx).andThen .now
  have s1 := self.keeps k
  have i1 := hi.keeps k
  have b1 := (hb (.ref (h.objs.size + 1))).keeps k
  unfold isInstance callSpecial? specialOf
  repeat (first | with_reducible refine wpAny_call ?_ | lk)
  refine codeAny_mono hq fun r s' z => ?_
  rcases r with e | (v | _ | _ | _) <;> first | exact z | exact z.elim | skip
  obtain ⟨rfl, z⟩ := z
  exact wpAny_pure (wpAny_pure z)
end
abbrev supO (D x C : Addr) : Obj := ks_superObj D x C
abbrev bndO (t : String) (f : Value) (x : Addr) : Obj := { cls := .type t, data := .fields #[f, .ref x] }
theorem slot_wd_get : Slot "wrapper_descriptor" "__get__" "wrapper_descriptor.__get__" := .of (owner := "wrapper_descriptor") (n := "__get__") (by rw [typeLookup_type, builtinLookup_eq_fast]; kernel_rfl) (by decide +kernel) (by decide +kernel) (by decide +kernel) (.inl (by decide +kernel)) (by rw [isSubtype_type]; kernel_rfl)
theorem slot_md_get : Slot "method_descriptor" "__get__" "method_descriptor.__get__" := .of (owner := "method_descriptor") (n := "__get__") (by rw [typeLookup_type, builtinLookup_eq_fast]; kernel_rfl) (by decide +kernel) (by decide +kernel) (by decide +kernel) (.inl (by decide +kernel)) (by rw [isSubtype_type]; kernel_rfl)
theorem entry_wd_get : entryFor table "wrapper_descriptor.__get__" = some Builtin.«wrapper_descriptor.__get__» := entryFor_of_tree (by kernel_rfl)
theorem entry_md_get : entryFor table "method_descriptor.__get__" = some Builtin.«method_descriptor.__get__» := entryFor_of_tree (by kernel_rfl)
theorem args_wd_get (a b c : Value) : argsOk "wrapper_descriptor.__get__" ⟨[a, b, c], []⟩ := by unfold argsOk; kernel_rfl
theorem args_md_get (a b c : Value) : argsOk "method_descriptor.__get__" ⟨[a, b, c], []⟩ := by unfold argsOk; kernel_rfl
section
variable {prog : Program} {w : World} {A : Around} {E : Value → Shared → Prop} {h : Heap} {g : Array GenState} {d : Drawn} {t : Nat} {os : OsState}
theorem wdGet {id : String} {x C : Addr} {ox : Obj} {Q : Fin → Shared → Prop} (hown : ".".intercalate (id.cutAt '.').dropLast = "list") (hx : h.get? x = some ox) (hc : ox.cls = .ref C) (hs : Looks (model prog w) h (isSubtype (.ref C) (.type "list")) true)
    (hq : Q (.done (.ret (.ref h.objs.size))) ⟨h.push (bndO "method-wrapper" (.builtin id) x), g, d, t, os⟩) :
    wpAny (model prog w) A (Builtin.«wrapper_descriptor.__get__» ⟨[.builtin id, .ref x, .ref C], []⟩) Q E ⟨h, g, d, t, os⟩ := by
  unfold Builtin.«wrapper_descriptor.__get__»
  have hs' : ∀ T : String, T = "list" → Looks (model prog w) h (isSubtype (.ref C) (.type T)) true := fun T e => e ▸ hs
  repeat (first | exact hq | (refine Looks.at (hs' _ (by exact hown)) ?_) | simp only [hc] | lk)
theorem mdGet {id : String} {x C : Addr} {ox : Obj} {Q : Fin → Shared → Prop} (hown : ".".intercalate (id.cutAt '.').dropLast = "list") (htold : Manifest.toldItsClass.contains id = false) (hx : h.get? x = some ox) (hc : ox.cls = .ref C) (hs : Looks (model prog w) h (isSubtype (.ref C) (.type "list")) true)
    (hq : Q (.done (.ret (.ref h.objs.size))) ⟨h.push (bndO "builtin_function_or_method" (.builtin id) x), g, d, t, os⟩) :
    wpAny (model prog w) A (Builtin.«method_descriptor.__get__» ⟨[.builtin id, .ref x, .ref C], []⟩) Q E ⟨h, g, d, t, os⟩ := by
  unfold Builtin.«method_descriptor.__get__»
  have hs' : ∀ T : String, T = "list" → Looks (model prog w) h (isSubtype (.ref C) (.type T)) true := fun T e => e ▸ hs
  repeat (first | exact hq | (refine Looks.at (hs' _ (by exact hown)) ?_) | simp only [hc, htold, Bool.false_eq_true, if_false] | lk)
/-- super().name where name is list's own -/
theorem superGa {id T gid bt : String} {b : Builtin} {so D x C : Addr} {l₀ l : List Value} {K : Frag} {name : Str} {tk : Tok} {Q : Fin → Shared → Prop}
    (hslot : Slot T "__get__" gid) (hent : entryFor table gid = some b) (hargs : ∀ a b c : Value, argsOk gid ⟨[a, b, c], []⟩) (hT : ∀ s : Shared, s.TypeIs (.builtin id) T)
    (hso : h.get? so = some (supO D x C)) (hno : Looks (model prog w) h (opaqueClassAbove (.ref C)) none)
    (hC : Looks (model prog w) h (mroOf (.ref C)) l₀) (hl : (l₀.dropWhile (· != .ref D)).drop 1 = l) (X : K.In h)
    (hf : alongIn K name l = some (some (.builtin id))) (hxC : x ≠ C) (hn : (name == ("__class__" : Str)) = false)
    (hb : ∀ A (Q : Fin → Shared → Prop) E, Q (.done (.ret (.ref h.objs.size))) ⟨h.push (bndO bt (.builtin id) x), g, d, t, os⟩ → wpAny (model prog w) A (b ⟨[.builtin id, .ref x, .ref C], []⟩) Q E ⟨h, g, d, t, os⟩)
    (hq : Q (.done (.ret (.ref h.objs.size))) ⟨h.push (bndO bt (.builtin id) x), g, d, t, os⟩) :
    wpAny (model prog w) A (Builtin.«super.__getattribute__» ⟨[.ref so, .str name tk], []⟩) Q E ⟨h, g, d, t, os⟩ := by
  have hlk := hslot.lookup
  have hne : (Value.ref x == Value.ref C) = false := by simp [hxC]
  have hdt : (supO D x C).data = .fields #[.ref D, .ref x, .ref C] := rfl
  have f0 : (#[.ref D, .ref x, .ref C] : Array Value)[0]? = some (.ref D) := rfl
  have f1 : (#[.ref D, .ref x, .ref C] : Array Value)[1]? = some (.ref x) := rfl
  have f2 : (#[.ref D, .ref x, .ref C] : Array Value)[2]? = some (.ref C) := rfl
  unfold Builtin.«super.__getattribute__»
  repeat (first
    | (with_reducible refine wpAny_field hso hdt f0 ?_) | (with_reducible refine wpAny_field hso hdt f1 ?_) | (with_reducible refine wpAny_field hso hdt f2 ?_)
    | (with_reducible refine ks_wpAny_notOpaque hno ?_)
    | (with_reducible refine Looks.at hC ?_; rw [hl])
    | (refine ks_forIn_along X (fun _ _ => rfl) rfl ?_ hf)
    | (with_reducible refine wpAny_typeOf (hT _) ?_)
    | (with_reducible refine wpAny_call_entry hslot (hT _) hent ?_ (hargs _ _ _); refine hb _ _ _ ?_)
    | (with_reducible refine ⟨_, rfl, ?_⟩)
    | (simp only [hn, hne, Bool.or_false, Bool.false_eq_true, if_false])
    | wp_step
    | dsimp only)
  all_goals exact hq
end
section
variable {prog : Program} {w : World} {A : Around} {E : Value → Shared → Prop} {h : Heap} {g : Array GenState} {d : Drawn} {t : Nat} {os : OsState}
theorem superMeth {id T gid bt : String} {b : Builtin} {so D x C : Addr} {l₀ l : List Value} {K : Frag} {name : Str} {pl : Sem Bool} {Q : Value × List Value → Shared → Prop}
    (hslot : Slot T "__get__" gid) (hent : entryFor table gid = some b) (hargs : ∀ a b c : Value, argsOk gid ⟨[a, b, c], []⟩) (hT : ∀ s : Shared, s.TypeIs (.builtin id) T)
    (hso : h.get? so = some (supO D x C)) (hno : Looks (model prog w) h (opaqueClassAbove (.ref C)) none)
    (hC : Looks (model prog w) h (mroOf (.ref C)) l₀) (hl : (l₀.dropWhile (· != .ref D)).drop 1 = l) (X : K.In h)
    (hf : alongIn K name l = some (some (.builtin id))) (hxC : x ≠ C) (hn : (name == ("__class__" : Str)) = false)
    (hb : ∀ A (Q : Fin → Shared → Prop) E t, Q (.done (.ret (.ref h.objs.size))) ⟨h.push (bndO bt (.builtin id) x), g, d, t, os⟩ → wpAny (model prog w) A (b ⟨[.builtin id, .ref x, .ref C], []⟩) Q E ⟨h, g, d, t, os⟩)
    (hq : Q (.ref h.objs.size, []) ⟨h.push (bndO bt (.builtin id) x), g, d, t + 1, os⟩) :
    wpAny (model prog w) A (getMethod (.ref so) name pl) Q E ⟨h, g, d, t, os⟩ := by
  have hlk := F.ks_slot_super_ga.lookup
  have hcan := F.ks_canon_super_ga
  have hT' : ∀ t', (⟨h, g, d, t', os⟩ : Shared).TypeIs (.ref so) "super" := fun _ => ⟨_, hso, rfl⟩
  unfold getMethod
  refine wpAny_bind (wpAny_specialOf (hT' _) hlk ?_)
  show wpAny _ _ (if (Manifest.canonical "super.__getattribute__" != "object.__getattribute__") = true then _ else _) _ _ _
  rw [if_pos hcan]
  unfold getAttr getAttrBy
  refine wpAny_bind (wpAny_bind (wpAny_mkText (wpAny_holding (wpAny_bind (wpAny_typeOf (hT' _) (wpAny_bind (wpAny_of_eq hlk ?_)))))))
  show wpAny _ _ (getAttrByItsOwn (.ref so) (.str name t) (.type "super") (.builtin "super.__getattribute__") true false) _ _ _
  unfold getAttrByItsOwn hookBefore callGetattribute boundAndCalled
  refine wpAny_bind (wpAny_of_eq (show (if onTheHeap (.type "super") then typeLookup (.type "super") "__getattr__" else pure none) = pure none from rfl) ?_)
  refine wpAny_bind (wpAny_attempt (wpAny_holding ?_))
  show wpAny _ _ (bindSpecial (.builtin "super.__getattribute__") (.ref so) >>= _) _ _ _
  refine wpAny_bind (wpAny_of_eq (F.ks_slot_super_ga.bind _) ?_)
  refine wpAny_mono (Q := fun v s' => v = .ref h.objs.size ∧ s' = ⟨h.push (bndO bt (.builtin id) x), g, d, t + 1, os⟩) (E := fun _ _ => False)
    (wpAny_call_entry F.ks_slot_super_ga (hT' _) F.ks_entry_super_ga (superGa hslot hent hargs hT hso hno hC hl X hf hxC hn (fun A Q E z => hb A Q E (t + 1) z) ⟨_, rfl, rfl, rfl⟩) (F.ks_gaArgs_super _ _)) (fun v s' hv => ?_) fun _ _ z => z.elim
  obtain ⟨rfl, rfl⟩ := hv
  exact wpAny_pure (wpAny_pure hq)
theorem typeIs_bi {id T : String} (h : pureOf (fastBuiltinType id) = some (.type T)) (s : Shared) : s.TypeIs (.builtin id) T := by
  show typeOf (.builtin id) = _
  show builtinType id = _
  rw [builtinType_eq_fast]
  exact of_pureOf h
theorem callBnd {id bt : String} {bi : Builtin} {b x : Addr} {args : List Value} {Q : Value → Shared → Prop} {s : Shared} (hb : s.heap.get? b = some (bndO bt (.builtin id) x)) (hbt : bt = "method-wrapper" ∨ bt = "builtin_function_or_method")
    (hq : plainId id = true) (he : entryFor table id = some bi)
    (h : wpAny (model prog w) A.in1 (checkBoundCall id ⟨.ref x :: args, []⟩) (fun _ s₁ => wpAny (model prog w) A.in1 (bi ⟨.ref x :: args, []⟩) (BiEnd prog w A Q E) E s₁) E s) :
    wpAny (model prog w) A (call (.ref b) args) Q E s := by
  refine wpAny_call (codeAny_of_tree ?_)
  show wpAny _ A.in1 (callAny (.ref b) ⟨args, []⟩) _ _ _
  unfold callAny
  refine wpAny_bind (wpAny_load hb ?_)
  dsimp only
  have e1 : ((Value.type bt == Value.type "method" || Value.type bt == Value.type "builtin_function_or_method" || Value.type bt == Value.type "method-wrapper") = true) := by rcases hbt with rfl | rfl <;> decide
  have e2 : ((Value.type bt != Value.type "method") = true) := by rcases hbt with rfl | rfl <;> decide
  rw [if_pos e1]
  show wpAny _ _ (if (Value.type bt != Value.type "method") = true then _ else _) _ _ _
  rw [if_pos e2]
  refine wpAny_bind (wpAny_mono h (fun _ s₁ h₁ => wpAny_bind (wpAny_pure ?_)) fun _ _ e => e)
  refine wpAny_pure ⟨plainId_quiet hq _, codeAny_builtin he ?_⟩
  rw [Around.under_plainId hq]
  refine wpAny_mono h₁ (fun fin s' hf => ?_) fun _ _ e => e
  cases fin with
  | done f => cases f <;> exact hf
  | again c => exact hf
theorem keep_bnd {M : Model} {id bt : String} {b x : Addr} {h : Heap} (hb : h.get? b = some (bndO bt (.builtin id) x)) (hbt : bt = "method-wrapper" ∨ bt = "builtin_function_or_method") : Looks M h (keeperOf (.ref b)) Keeper.machine := by
  refine (Looks.ld (part := none) hb).andThen ?_
  dsimp only
  rcases hbt with rfl | rfl <;> exact .now
theorem bound_init {x : Addr} {Q : Unit → Shared → Prop} {s : Shared} (h : Q () s) : wpAny (model prog w) A (checkBoundCall "list.__init__" ⟨[.ref x], []⟩) Q E s := by
  have e : checkBoundCall "list.__init__" ⟨[.ref x], []⟩ = pure () := by kernel_rfl
  rw [e]; exact wpAny_pure h
theorem bound_len {x : Addr} {Q : Unit → Shared → Prop} {s : Shared} (h : Q () s) : wpAny (model prog w) A (checkBoundCall "list.__len__" ⟨[.ref x], []⟩) Q E s := by
  have e : checkBoundCall "list.__len__" ⟨[.ref x], []⟩ = pure () := by kernel_rfl
  rw [e]; exact wpAny_pure h
theorem pop_args (v : Value) : (Manifest.signature? "list.pop").map (fun sig => Bind.checkArgs "list.pop" { sig with full := s!"{(Str.ofString "_Accumulator").toString}.{Bind.lastOf "list.pop"}" } ⟨[v], []⟩) = some (pure ()) := by kernel_rfl
theorem bound_pop {K : Frag} {x C : Addr} {ox : Obj} {cd : ClassData} {Q : Unit → Shared → Prop} {s : Shared} (X : K.In s.heap) (hx : s.heap.get? x = some ox) (hc : ox.cls = .ref C) (hnc : ∀ c, ox.data ≠ .cls c) (hcd : clsIn K C = some cd) (hqn : cd.qualname = "_Accumulator")
    (hm : mroIn K C (.type "module") = some false) (ht : typeIn K (.ref C) = some (.type "type")) (h : Q () s) : wpAny (model prog w) A (checkBoundCall "list.pop" ⟨[.ref x], []⟩) Q E s := by
  have k1 : builtinKind "list.pop" = some .method := by decide +kernel
  have tx : Looks (model prog w) s.heap (typeOf (.ref x)) (.ref C) := by
    refine (Looks.ld hx).andThen ?_
    rw [hc]; exact .now
  have k2 : Looks (model prog w) s.heap (isInstance (.ref x) (.type "module")) false := tx.andThen (looks_mroIn X hm)
  have k4 := looks_typeIn (M := model prog w) X ht
  have k5 := looks_clsIn (M := model prog w) X hcd
  unfold checkBoundCall
  have hs : ∃ sig, Manifest.signature? "list.pop" = some sig := by
    cases q : Manifest.signature? "list.pop" with
    | none => exact absurd q (by decide +kernel)
    | some sig => exact ⟨sig, rfl⟩
  obtain ⟨sig, hs⟩ := hs
  have hck := pop_args (.ref x)
  rw [hs] at hck
  have hck := Option.some.inj hck
  simp only [hs, k1]
  rw [if_neg (by decide)]
  refine wpAny_bind (k2.here ?_)
  rw [if_neg (by decide +kernel)]
  refine wpAny_bind (m := isType (.ref x)) ?_
  obtain ⟨hh, g, d, t, os⟩ := s
  refine ks_wpAny_isType_inst hx hnc ?_
  simp only [Bool.false_eq_true, if_false]
  refine wpAny_bind (tx.here ?_)
  dsimp only
  refine wpAny_bind (k5.here (wpAny_bind (k4.here ?_)))
  rw [if_pos (by decide), hqn]
  exact wpAny_of_eq hck h
end
abbrev pw : Program := PySem.Challenge.pw_nb0176_01
def nthS : List Stmt → Nat → Stmt
  | [], _ => .Pass default
  | s :: _, 0 => s
  | _ :: r, n + 1 => nthS r n
def fName : Stmt → Str | .FunctionDef n .. => n | _ => default
def fParams : Stmt → Arguments | .FunctionDef _ p .. => p | _ => default
def fBody : Stmt → List Stmt | .FunctionDef _ _ b .. => b | _ => []
def fScope : Stmt → Scope | .FunctionDef _ _ _ _ _ _ s .. => s | _ => default
def fPos : Stmt → Pos | .FunctionDef _ _ _ _ _ _ _ _ _ p => p | _ => default
def cBody : Stmt → List Stmt | .ClassDef _ _ _ b .. => b | _ => []
def topS (i : Nat) : Stmt := nthS pw.main.body i
/-! the text's places (this law's) -/
def sMeth (i : Nat) : Stmt := nthS (cBody (topS 2)) i
def sLong (i : Nat) : Stmt := topS (5 + i)
abbrev topN : Nat := 206
abbrev aC : Addr := 94
abbrev aCell : Addr := 18
abbrev dInit : Addr := 23
abbrev dPopFrom : Addr := 39
abbrev dReset : Addr := 69
abbrev cInit : Addr := 30
abbrev aInit : Addr := 31
abbrev cPush : Addr := 37
abbrev aPush : Addr := 38
abbrev cPopFrom : Addr := 45
abbrev aPopFrom : Addr := 46
abbrev cPop : Addr := 53
abbrev aPop : Addr := 54
abbrev cLen : Addr := 60
abbrev aLen : Addr := 61
abbrev tLen : Addr := 56
abbrev cStr : Addr := 67
abbrev aStr : Addr := 68
abbrev tStr : Addr := 63
abbrev cReset : Addr := 75
abbrev aReset : Addr := 76
abbrev cWs : Addr := 82
abbrev aWs : Addr := 83
abbrev cCnt : Addr := 90
abbrev aCnt : Addr := 91
abbrev cDiv : Addr := 104
abbrev aDiv : Addr := 105
abbrev cI2d : Addr := 118
abbrev aI2d : Addr := 119
abbrev tI2d : Addr := 114
abbrev cD2i : Addr := 125
abbrev aD2i : Addr := 126
abbrev tD2i : Addr := 121
abbrev cDmp : Addr := 132
abbrev aDmp : Addr := 133
abbrev cIdm : Addr := 139
abbrev aIdm : Addr := 140
def gtab : List (Str × Addr) := [("_Accumulator", 94), ("_div2n1n", 105), ("_int2digits", 119), ("_digits2int", 126), ("_divmod_pos", 133), ("int_divmod", 140),
  ("_law_first", 147), ("_law_deeds", 154), ("_law_piece", 161), ("_law_seen", 168), ("_law_by_pieces", 173), ("_law_behind", 180), ("_law_told", 185), ("_law_by_numbers", 190), ("_law_alike", 197)]
def btab : List (Str × Value) := [("len", .builtin "len"), ("sum", .builtin "sum"), ("super", .type "super"), ("str", .type "str"), ("divmod", .builtin "divmod"), ("reversed", .type "reversed"),
  ("abs", .builtin "abs"), ("max", .builtin "max"), ("range", .type "range"), ("zip", .type "zip")]
abbrev fdOf (st : Stmt) (qual : Str) (cl : List (Str × Addr)) (cd : Addr) (dV pm ct : Value) : FuncData :=
  fnX (fName st) qual (fParams st) (fBody st) (fScope st) cl dV .none .none pm none (.ref cd) ct
def FnIs (B : Heap) (f : Addr) (st : Stmt) (qual : Str) (cl : List (Str × Addr)) (cd : Addr) (dV : Value) : Prop :=
  ∃ pm ct, FnAt B f (fdOf st qual cl cd dV pm ct)
def FileIs (B : Heap) (cd : Addr) : Prop := ∃ oc vs tf file, B.get? cd = some oc ∧ oc.data = .fields vs ∧ vs[2]? = some (.str file tf) ∧ ((pw.main.file : Str) == file) = true
def DefIs (B : Heap) (a : Addr) (vs : List Value) : Prop := B.get? a = some (tupO vs)
abbrev clsCell : List (Str × Addr) := [("__class__", aCell)]
def argsOf : Expr → List Expr | .Call _ as _ _ => as | _ => []
def retOf : Stmt → Expr | .Return (some e) _ => e | _ => default
def posG : Expr → Pos | .GeneratorExp _ _ _ p => p | _ => default
def tbLen : Tb := ⟨cLen, tLen, posG ((argsOf (retOf (nthS (fBody (sMeth 4)) 0))).headD default), "_Accumulator.__len__.<locals>.<genexpr>", topN⟩
def tbStr : Tb := ⟨cStr, tStr, posG ((argsOf (retOf (nthS (fBody (sMeth 5)) 0))).headD default), "_Accumulator.__str__.<locals>.<genexpr>", topN⟩
def tbI2d : Tb := ⟨cI2d, tI2d, fPos (nthS (fBody (sLong 2)) 1), "_int2digits.<locals>.inner", topN⟩
def tbD2i : Tb := ⟨cD2i, tD2i, fPos (nthS (fBody (sLong 3)) 0), "_digits2int.<locals>.inner", topN⟩
/-- what stands at the top -/
structure Tp (G : Gd) (w : World) (K : Frag) : Prop where
  inK : K.In G.B
  lim : G.B.NoLimit
  cls : ClsA K aC
  makes : makesA K aC = true
  cdat : ∃ cd, clsIn K aC = some cd ∧ cd.mro = [.ref aC, .type "list", .type "object"] ∧ cd.qualname = "_Accumulator"
  modNo : mroIn K aC (.type "module") = some false
  typC : typeIn K (.ref aC) = some (.type "type")
  noThird : nsIn K cStatics "thirdparty.any" = some none
  cell : ∃ o, G.B.get? aCell = some o ∧ o.data = .cell (some (.ref aC))
  initF : findIn K (.ref aC) "__init__" = some (some (.ref aInit))
  initT : typeIn K (.ref aInit) = some (.type "function")
  pushF : findIn K (.ref aC) "push" = some (some (.ref aPush))
  popFromF : findIn K (.ref aC) "pop_from" = some (some (.ref aPopFrom))
  popF : findIn K (.ref aC) "pop" = some (some (.ref aPop))
  lenF : findIn K (.ref aC) "__len__" = some (some (.ref aLen))
  strF : findIn K (.ref aC) "__str__" = some (some (.ref aStr))
  resetF : findIn K (.ref aC) "reset" = some (some (.ref aReset))
  wsF : findIn K (.ref aC) "is_onlyws" = some (some (.ref aWs))
  cntF : findIn K (.ref aC) "part_count" = some (some (.ref aCnt))
  fnT : ∀ f ∈ [aPush, aPopFrom, aPop, aLen, aStr, aReset, aWs, aCnt], typeIn K (.ref f) = some (.type "function")
  fInit : FnIs G.B aInit (sMeth 0) "_Accumulator.__init__" clsCell cInit (.ref dInit)
  fPush : FnIs G.B aPush (sMeth 1) "_Accumulator.push" [] cPush .none
  fPopFrom : FnIs G.B aPopFrom (sMeth 2) "_Accumulator.pop_from" [] cPopFrom (.ref dPopFrom)
  fPop : FnIs G.B aPop (sMeth 3) "_Accumulator.pop" clsCell cPop .none
  fLen : FnIs G.B aLen (sMeth 4) "_Accumulator.__len__" [] cLen .none
  fStr : FnIs G.B aStr (sMeth 5) "_Accumulator.__str__" [] cStr .none
  fReset : FnIs G.B aReset (sMeth 6) "_Accumulator.reset" [] cReset (.ref dReset)
  fWs : FnIs G.B aWs (sMeth 7) "_Accumulator.is_onlyws" [] cWs .none
  fCnt : FnIs G.B aCnt (sMeth 8) "_Accumulator.part_count" clsCell cCnt .none
  fileInit : FileIs G.B cInit
  filePop : FileIs G.B cPop
  fileCnt : FileIs G.B cCnt
  dInitIs : ∃ t, DefIs G.B dInit [.int 0 t]
  dPopFromIs : ∃ t, DefIs G.B dPopFrom [.int 0 t]
  dResetIs : DefIs G.B dReset [.none]
  fDiv : FnIs G.B aDiv (sLong 0) "_div2n1n" [] cDiv .none
  fI2d : FnIs G.B aI2d (sLong 2) "_int2digits" [] cI2d .none
  fD2i : FnIs G.B aD2i (sLong 3) "_digits2int" [] cD2i .none
  fDmp : FnIs G.B aDmp (sLong 4) "_divmod_pos" [] cDmp .none
  fIdm : FnIs G.B aIdm (sLong 5) "int_divmod" [] cIdm .none
  bmain : ∃ mg bm ob, G.B.Ns mainGlobals mg ∧ mg "__builtins__" = some (.ref bm) ∧ bm ≠ builtinsNs ∧ G.B.get? bm = some ob ∧ ob.cls = .type "module" ∧ ob.dict = some builtinsNs ∧ ob.data = .plain
  hid : ∀ t ∈ G.ts, G.B.get? t.P = none
  los : ∀ t ∈ G.ts, t.lo = G.B.objs.size
  apart : ∀ t ∈ G.ts, ∀ t' ∈ G.ts, t.P = t'.P → t = t'
  inLen : tbLen ∈ G.ts
  inStr : tbStr ∈ G.ts
  inI2d : tbI2d ∈ G.ts
  inD2i : tbD2i ∈ G.ts
  gLim : ∃ t, GlobIs G.B "_DIV_LIMIT" (.int 4000 t)
  gEmp : ∃ t, GlobIs G.B "EMPTYSTRING" (.str "" t)
  gfnA : ∀ p ∈ gtab, GlobIs G.B p.1 (.ref p.2)
  gbiA : ∀ p ∈ btab, BuiltIs G.B p.1 p.2
theorem lookup_mem {α : Type} : ∀ {l : List (Str × α)} {x : Str} {v : α}, l.lookup x = some v → (x, v) ∈ l
  | [], _, _, h => by cases h
  | (y, u) :: r, x, v, h => by
    rw [List.lookup_cons] at h
    split at h
    · rename_i e
      cases h
      have := beq_iff_eq.mp e
      subst this
      exact List.mem_cons_self ..
    · exact List.mem_cons_of_mem _ (lookup_mem h)
theorem Tp.gfn {G : Gd} {w : World} {K : Frag} (T : Tp G w K) {x : Str} {a : Addr} (h : gtab.lookup x = some a) : GlobIs G.B x (.ref a) := T.gfnA _ (lookup_mem h)
theorem Tp.gbi {G : Gd} {w : World} {K : Frag} (T : Tp G w K) {x : Str} {v : Value} (h : btab.lookup x = some v) : BuiltIs G.B x v := T.gbiA _ (lookup_mem h)
section
variable {w : World} {A : Around} {E : Value → Shared → Prop} {G : Gd} {s : Shared} {R : Led} {Q : Value → Shared → Prop} {K : Frag}
theorem enterF {f : Addr} {st : Stmt} {qual : Str} {cl : List (Str × Addr)} {cd : Addr} {dV : Value} {vals : List Value} (binds : List (Str × Value)) {k : Nat}
    (S : St G s R) (hr : Room A (k + 1)) (hlim : G.B.NoLimit) (T : FnIs G.B f st qual cl cd dV)
    (hbind : ∀ pm ct, BindsTo s (fdOf st qual cl cd dV pm ct) ⟨vals, []⟩ binds)
    (hcell : ((fScope st).names.all fun x => x.2 != .cell) = true) (hloc : (binds.all fun x => decide ((fScope st).names.lookup x.1 = some .local)) = true)
    (hco : (fScope st).isCoroutine = false) (hgen : (fScope st).isGenerator = false) (hk : (fScope st).kind = .function)
    (h : ∀ L s', L = s.heap.objs.size → Fm G s' L (fun x => binds.reverse.lookup x) R → (∀ p ∈ R, p.1 < L) → Room (A.deeper (envX qual (fScope st) L f (.ref cd) cl)) k →
      wpAny (model pw w) (A.deeper (envX qual (fScope st) L f (.ref cd) cl)) (execs (fBody st) (envX qual (fScope st) L f (.ref cd) cl)) (fun fl s'' => Q (match fl with | .ret v => v | _ => .none) s'') (fun _ _ => False) s') :
    wpAny (model pw w) A (call (.ref f) vals) Q E s := by
  obtain ⟨pm, ct, ⟨o, ho, hd⟩, hcd⟩ := T
  exact enter S hr hlim ⟨o, S.keep _ _ ho, hd⟩ (hcd.keeps S.keep) (hbind pm ct) (fun x hx => by simpa using List.all_eq_true.mp hcell x hx) (locs hloc) h hco hgen hk
/-- a call's result -/
def Wn (Q E : Value → Shared → Prop) (r : Result) (s' : Shared) : Prop := match r with
  | .ok (.ret v) => Q v s'
  | .ok _ => False
  | .error e => E e s'
theorem call_of_code {M : Model} {f : Value} {vals : List Value} (h : codeAny M A (.call f ⟨vals, []⟩) (Wn Q E) s) : wpAny M A (call f vals) Q E s :=
  wpAny_call (codeAny_mono h fun r s' x => by rcases r with e | (v | _ | _ | _) <;> exact x)
/-- the same where the body asks the stack (super) -/
theorem enterAtC {f : Addr} {st : Stmt} {qual : Str} {cl : List (Str × Addr)} {cd : Addr} {dV : Value} {vals : List Value} (binds : List (Str × Value)) {k : Nat}
    (S : St G s R) (hr : Room A (k + 1)) (hlim : G.B.NoLimit) (T : FnIs G.B f st qual cl cd dV)
    (hbind : ∀ pm ct, BindsTo s (fdOf st qual cl cd dV pm ct) ⟨vals, []⟩ binds)
    (hcell : ((fScope st).names.all fun x => x.2 != .cell) = true) (hloc : (binds.all fun x => decide ((fScope st).names.lookup x.1 = some .local)) = true)
    (hco : (fScope st).isCoroutine = false) (hgen : (fScope st).isGenerator = false) (hk : (fScope st).kind = .function)
    (h : ∀ L s', L = s.heap.objs.size → Fm G s' L (fun x => binds.reverse.lookup x) R → (∀ p ∈ R, p.1 < L) → Room (A.deeper (envX qual (fScope st) L f (.ref cd) cl)) k →
      _root_.PySem.wpAt (model pw w) (A.deeper (envX qual (fScope st) L f (.ref cd) cl)) (.func (fBody st) (envX qual (fScope st) L f (.ref cd) cl)) (execs (fBody st) (envX qual (fScope st) L f (.ref cd) cl)) (fun fl s'' => Q (match fl with | .ret v => v | _ => .none) s'') (fun _ _ => False) s') :
    codeAny (model pw w) A (.call (.ref f) ⟨vals, []⟩) (Wn Q E) s := by
  obtain ⟨pm, ct, ⟨o, ho, hd⟩, hcd⟩ := T
  refine ks_codeAny_call_defAt (fd := fdOf st qual cl cd dV pm ct) (body := fBody st) (binds := binds) hr.room (S.keep _ _ ho) hd (hlim.keeps S.keep) (hcd.keeps S.keep) rfl (hbind pm ct) (fun x hx => by simpa using List.all_eq_true.mp hcell x hx) (locs hloc) (fun h₁ hns hk₁ => ?_) hco hgen hk
  have hz : s.heap.objs.size ≤ h₁.objs.size := Nat.le_of_lt hns.lt
  refine ks_wpAt_mono (h s.heap.objs.size { s with heap := h₁, toks := s.toks + binds.length } rfl ⟨S.grow (s' := { s with heap := h₁, toks := s.toks + binds.length }) hk₁ hz S.gens rfl, hns, fun p hp => Nat.ne_of_lt (S.lt hp), S.fresh (Nat.le_refl _), S.size⟩ (fun p hp => S.lt hp) (hr.deeper _))
    (fun _ _ x => x) fun _ _ x => x.elim
end
theorem Room.make {A : Around} {k : Nat} {C : Addr} {rest : List Value} {kw : List (Str × Value)} (h : Room A (k + 1)) : Room (A.under (.builtin "type.__call__" ⟨.ref C :: rest, kw⟩)) k := by
  have hw : (Code.builtin "type.__call__" ⟨.ref C :: rest, kw⟩).weight = 1 := by kernel_rfl
  have hu : (Code.builtin "type.__call__" ⟨.ref C :: rest, kw⟩).cUnits ≤ 4 := by
    have : (Code.builtin "type.__call__" ⟨.ref C :: rest, kw⟩).cUnits = 1 := by kernel_rfl
    (first | lia | omega)
  have he : (Code.builtin "type.__call__" ⟨.ref C :: rest, kw⟩).envs = [] := by kernel_rfl
  have hg : (Code.builtin "type.__call__" ⟨.ref C :: rest, kw⟩).guards = [] := by kernel_rfl
  obtain ⟨a, b, c, d, e⟩ := h
  refine ⟨?_, ?_, ?_, d, ?_⟩
  · show A.depth + _ + k < _; rw [hw]; (first | lia | omega)
  · show A.units + _ + 20 * k < _; (first | lia | omega)
  · obtain ⟨l, hl⟩ := c
    exact ⟨l, by simp only [Around.under, he, pushEnvs]; exact hl⟩
  · obtain ⟨l, hl⟩ := e
    exact ⟨l, by simp only [Around.under, hg, pushGuards]; exact hl⟩
/-- a heap without some addresses -/
def hide (h : Heap) (as : List Addr) : Heap := ⟨h.objs.mapIdx fun i o => if as.contains i then { o with data := .freed } else o, h.life⟩
theorem hide_size (h : Heap) (as : List Addr) : (hide h as).objs.size = h.objs.size := by simp [hide]
theorem hide_get (h : Heap) (as : List Addr) (b : Addr) : (hide h as).get? b = if as.contains b then none else h.get? b := by
  unfold Heap.get? hide
  simp only [Array.getElem?_mapIdx]
  cases h.objs[b]? with
  | none => simp
  | some o =>
    simp only [Option.map_some]
    cases as.contains b <;> rfl
theorem hide_some {h : Heap} {as : List Addr} {b : Addr} {o : Obj} : (hide h as).get? b = some o ↔ as.contains b = false ∧ h.get? b = some o := by
  rw [hide_get]
  cases as.contains b <;> simp
def hidA : List Addr := [tLen, tStr, tI2d, tD2i]
def hideK (K : Frag) : Frag := K.filter fun p => !hidA.contains p.1
theorem hideK_lookup {a : Addr} {o : Obj} : ∀ {K : Frag}, (hideK K).lookup a = some o → hidA.contains a = false ∧ K.lookup a = some o
  | [], h => by cases h
  | (b, ob) :: r, h => by
    unfold hideK at h
    rw [List.filter_cons] at h
    rw [List.lookup_cons]
    by_cases e : a = b
    · subst e
      cases q : hidA.contains a with
      | true =>
        rw [q] at h
        exact absurd (hideK_lookup (K := r) h).1 (by rw [q]; simp)
      | false =>
        rw [q] at h
        simp only [Bool.not_false, if_true] at h
        rw [List.lookup_cons] at h
        simp only [beq_self_eq_true] at h ⊢
        exact ⟨trivial, h⟩
    · have e' : (a == b) = false := by simpa using e
      rw [e']
      split at h
      · rw [List.lookup_cons, e'] at h
        exact hideK_lookup (K := r) h
      · exact hideK_lookup (K := r) h
theorem hideK_in {K : Frag} {h : Heap} (X : K.In h) : (hideK K).In (hide h hidA) := fun a o e => by
  have := hideK_lookup e
  exact hide_some.mpr ⟨this.1, X _ _ this.2⟩
def fdIn (K : Frag) (f : Addr) : Option FuncData := match K.lookup f with | some ⟨_, _, .func fd, _⟩ => some fd | _ => none
def pmIn (K : Frag) (f : Addr) : Value := ((fdIn K f).map (·.pyModule)).getD .none
def ctIn (K : Frag) (f : Addr) : Value := ((fdIn K f).map (·.closureTuple)).getD .none
def cvIn (K : Frag) (c : Addr) : Option (Value × Array Value) := match K.lookup c with | some ⟨cl, _, .fields vs, _⟩ => some (cl, vs) | _ => none
def vsIn (K : Frag) (c : Addr) : Array Value := ((cvIn K c).map (·.2)).getD #[]
def tokOf : Option Value → Tok | some (.str _ t) => t | some (.int _ t) => t | _ => 0
structure FnEq (K : Frag) (f : Addr) (st : Stmt) (qual : Str) (cl : List (Str × Addr)) (cd : Addr) (dV : Value) : Prop where
  fd : fdIn K f = some (fdOf st qual cl cd dV (pmIn K f) (ctIn K f))
  cv : cvIn K cd = some (.type "code", vsIn K cd)
  qn : (vsIn K cd)[1]? = some (.str qual (tokOf (vsIn K cd)[1]?))
theorem fdIn_get {K : Frag} {B : Heap} (X : K.In B) {f : Addr} {fd : FuncData} (h : fdIn K f = some fd) : ∃ o, B.get? f = some o ∧ o.data = .func fd := by
  unfold fdIn at h
  split at h
  · rename_i c d fd' sl e
    cases h
    exact ⟨_, X _ _ e, rfl⟩
  · cases h
theorem cvIn_get {K : Frag} {B : Heap} (X : K.In B) {c : Addr} {cl : Value} {vs : Array Value} (h : cvIn K c = some (cl, vs)) : ∃ o, B.get? c = some o ∧ o.cls = cl ∧ o.data = .fields vs := by
  unfold cvIn at h
  split at h
  · rename_i c d vs' sl e
    cases h
    exact ⟨_, X _ _ e, rfl, rfl⟩
  · cases h
theorem fnIs_of {K : Frag} {B : Heap} (X : K.In B) {f : Addr} {st : Stmt} {qual : Str} {cl : List (Str × Addr)} {cd : Addr} {dV : Value} (h : FnEq K f st qual cl cd dV) : FnIs B f st qual cl cd dV := by
  obtain ⟨o, h1, h2, h3⟩ := cvIn_get X h.cv
  exact ⟨_, _, fdIn_get X h.fd, cd, o, _, _, rfl, h1, h3, h.qn⟩
def isS : Value → Bool | .str _ _ => true | _ => false
def isI : Value → Bool | .int _ _ => true | _ => false
def isB' : Value → Bool | .bool _ => true | _ => false
theorem isS_of {v : Value} (h : isS v = true) : ∃ x t, v = .str x t := by cases v <;> first | exact ⟨_, _, rfl⟩ | cases h
theorem isI_of {v : Value} (h : isI v = true) : ∃ x t, v = .int x t := by cases v <;> first | exact ⟨_, _, rfl⟩ | cases h
theorem isB_of {v : Value} (h : isB' v = true) : ∃ x, v = .bool x := by cases v <;> first | exact ⟨_, rfl⟩ | cases h
structure TbEq (K : Frag) (c P : Addr) : Prop where
  cv : cvIn K c = some (.type "code", vsIn K c)
  p1 : (vsIn K c)[11]? = some (.ref P)
  p2 : isS ((vsIn K c).getD 18 .none) = true
  p3 : isI ((vsIn K c).getD 7 .none) = true
  p4 : isB' ((vsIn K c).getD 9 .none) = true
  p5 : isI ((vsIn K c).getD 10 .none) = true
  tb : K.lookup P = some { cls := .none, data := .fields #[] }
theorem tbAt_of {K : Frag} {h : Heap} (X : K.In h) {c P : Addr} (e : TbEq K c P) : h.TableAt c P #[] := by
  obtain ⟨o, h1, h2, h3⟩ := cvIn_get X e.cv
  exact ⟨⟨o, _, h1, h2, h3, e.p1⟩, X _ _ e.tb⟩
theorem tbOk_of {K : Frag} {h : Heap} (X : K.In h) {t : Tb} (e : TbEq K t.c t.P) : TbOk h t := by
  obtain ⟨o, h1, h2, h3⟩ := cvIn_get X e.cv
  obtain ⟨x2, t2, e2⟩ := isS_of e.p2
  obtain ⟨x3, t3, e3⟩ := isI_of e.p3
  obtain ⟨x4, e4⟩ := isB_of e.p4
  obtain ⟨x5, t5, e5⟩ := isI_of e.p5
  refine ⟨#[], ⟨o, _, x2, t2, x3, t3, x4, x5, t5, _, h1, h3, ?_, e2, e3, e4, e5, X _ _ e.tb, rfl, ?_, ?_⟩, tbAt_of X e, .inl rfl⟩
  · rw [Array.getD_eq_getD_getElem?, e.p1]; rfl
  · exact trivial
  · intro q
    have := X _ _ e.tb
    rw [← q, h1] at this
    cases this
    cases h2
theorem ns_some_of {K : Frag} {h : Heap} {N : Addr} {mg : Str → Option Value} {n : Str} {v : Value} (X : K.In h) (G : h.Ns N mg) (e : nsIn K N n = some (some v)) : mg n = some v := by
  obtain ⟨o, es, ep, ho, hd, _, hf⟩ := G
  unfold nsIn at e
  split at e
  · rename_i c d es' n' sl q
    have := X _ _ q
    rw [ho] at this
    cases this
    cases hd
    split at e
    · rename_i en he
      cases e
      rw [← hf]
      unfold nsFind findBy
      rw [← Array.find?_toList, he]
      rfl
    · split at e
      · cases e
      · cases e
  · cases e
def cdIn (K : Frag) : ClassData := (clsIn K aC).getD default
def tk1 (K : Frag) (a : Addr) : Tok := match K.lookup a with | some ⟨_, _, .seq vs _, _⟩ => tokOf vs[0]? | _ => 0
def fileOk (K : Frag) (c : Addr) : Bool := match ((vsIn K c)[2]? : Option Value) with | some (.str f _) => (pw.main.file : Str) == f | _ => false
structure FileEq (K : Frag) (c : Addr) : Prop where
  cv : cvIn K c = some (.type "code", vsIn K c)
  ok : fileOk K c = true
theorem file_of {K : Frag} {B : Heap} (X : K.In B) {c : Addr} (e : FileEq K c) : FileIs B c := by
  obtain ⟨o, h1, h2, h3⟩ := cvIn_get X e.cv
  have := e.ok
  unfold fileOk at this
  split at this
  · rename_i f t q
    exact ⟨o, _, t, f, h1, h3, q, this⟩
  · cases this
/-- what stands at the top, as equations -/
structure TopEqs (K0 K : Frag) : Prop where
  cls : ClsA K aC
  makes : makesA K aC = true
  cd1 : clsIn K aC = some (cdIn K)
  cd2 : (cdIn K).mro = [.ref aC, .type "list", .type "object"]
  cd3 : (cdIn K).qualname = "_Accumulator"
  modNo : mroIn K aC (.type "module") = some false
  typC : typeIn K (.ref aC) = some (.type "type")
  noThird : nsIn K cStatics "thirdparty.any" = some none
  cell : (K.lookup aCell).map (·.data) = some (.cell (some (.ref aC)))
  initF : findIn K (.ref aC) "__init__" = some (some (.ref aInit))
  initT : typeIn K (.ref aInit) = some (.type "function")
  pushF : findIn K (.ref aC) "push" = some (some (.ref aPush))
  popFromF : findIn K (.ref aC) "pop_from" = some (some (.ref aPopFrom))
  popF : findIn K (.ref aC) "pop" = some (some (.ref aPop))
  lenF : findIn K (.ref aC) "__len__" = some (some (.ref aLen))
  strF : findIn K (.ref aC) "__str__" = some (some (.ref aStr))
  resetF : findIn K (.ref aC) "reset" = some (some (.ref aReset))
  wsF : findIn K (.ref aC) "is_onlyws" = some (some (.ref aWs))
  cntF : findIn K (.ref aC) "part_count" = some (some (.ref aCnt))
  fnT : ([aPush, aPopFrom, aPop, aLen, aStr, aReset, aWs, aCnt].all fun f => typeIn K (.ref f) == some (.type "function")) = true
  fInit : FnEq K aInit (sMeth 0) "_Accumulator.__init__" clsCell cInit (.ref dInit)
  fPush : FnEq K aPush (sMeth 1) "_Accumulator.push" [] cPush .none
  fPopFrom : FnEq K aPopFrom (sMeth 2) "_Accumulator.pop_from" [] cPopFrom (.ref dPopFrom)
  fPop : FnEq K aPop (sMeth 3) "_Accumulator.pop" clsCell cPop .none
  fLen : FnEq K aLen (sMeth 4) "_Accumulator.__len__" [] cLen .none
  fStr : FnEq K aStr (sMeth 5) "_Accumulator.__str__" [] cStr .none
  fReset : FnEq K aReset (sMeth 6) "_Accumulator.reset" [] cReset (.ref dReset)
  fWs : FnEq K aWs (sMeth 7) "_Accumulator.is_onlyws" [] cWs .none
  fCnt : FnEq K aCnt (sMeth 8) "_Accumulator.part_count" clsCell cCnt .none
  fileInit : FileEq K cInit
  filePop : FileEq K cPop
  fileCnt : FileEq K cCnt
  dInitE : K.lookup dInit = some (tupO [.int 0 (tk1 K dInit)])
  dPopFromE : K.lookup dPopFrom = some (tupO [.int 0 (tk1 K dPopFrom)])
  dResetE : K.lookup dReset = some (tupO [.none])
  fDiv : FnEq K aDiv (sLong 0) "_div2n1n" [] cDiv .none
  fI2d : FnEq K aI2d (sLong 2) "_int2digits" [] cI2d .none
  fD2i : FnEq K aD2i (sLong 3) "_digits2int" [] cD2i .none
  fDmp : FnEq K aDmp (sLong 4) "_divmod_pos" [] cDmp .none
  fIdm : FnEq K aIdm (sLong 5) "int_divmod" [] cIdm .none
  tLenE : TbEq K0 cLen tLen
  tStrE : TbEq K0 cStr tStr
  tI2dE : TbEq K0 cI2d tI2d
  tD2iE : TbEq K0 cD2i tD2i
  gLim : nsIn K mainGlobals "_DIV_LIMIT" = some (some (.int 4000 (tokOf ((nsIn K mainGlobals "_DIV_LIMIT").getD none))))
  gEmp : nsIn K mainGlobals "EMPTYSTRING" = some (some (.str "" (tokOf ((nsIn K mainGlobals "EMPTYSTRING").getD none))))
  gfn : (gtab.all fun p => nsIn K mainGlobals p.1 == some (some (.ref p.2))) = true
  gbi : (btab.all fun p => nsIn K mainGlobals p.1 == some none && nsIn K builtinsNs p.1 == some (some p.2)) = true
def topG (h : Heap) (os : OsState) : Gd := ⟨hide h hidA, [tbLen, tbStr, tbI2d, tbD2i], os⟩
theorem ns_hide {h : Heap} {a : Addr} {m : Str → Option Value} (n : h.Ns a m) (ha : hidA.contains a = false) : (hide h hidA).Ns a m := by
  obtain ⟨o, es, ep, ho, r⟩ := n
  exact ⟨o, es, ep, hide_some.mpr ⟨ha, ho⟩, r⟩
theorem tp_of {K0 : Frag} {h : Heap} {w : World} {os : OsState} {mg mb : Str → Option Value} (e : TopEqs K0 (hideK K0)) (X0 : K0.In h) (hsz : h.objs.size = topN) (hg : h.Ns mainGlobals mg) (hb : h.Ns builtinsNs mb) (lim : h.NoLimit)
    (bm : ∃ bm ob, mg "__builtins__" = some (.ref bm) ∧ bm ≠ builtinsNs ∧ h.get? bm = some ob ∧ ob.cls = .type "module" ∧ ob.dict = some builtinsNs ∧ ob.data = .plain) : Tp (topG h os) w (hideK K0) := by
  have X := hideK_in X0
  have hg' := ns_hide hg (by decide +kernel)
  have hb' := ns_hide hb (by decide +kernel)
  have offP : ∀ t ∈ (topG h os).ts, (hide h hidA).get? t.P = none := by
    intro t ht
    rw [hide_get]
    simp only [topG, List.mem_cons, List.not_mem_nil, or_false] at ht
    rcases ht with rfl | rfl | rfl | rfl <;> exact if_pos (by decide +kernel)
  refine { inK := X, lim := ?lim, cls := e.cls, makes := e.makes, cdat := ⟨_, e.cd1, e.cd2, e.cd3⟩, modNo := e.modNo, typC := e.typC, noThird := e.noThird, cell := ?cell, initF := e.initF, initT := e.initT, pushF := e.pushF, popFromF := e.popFromF, popF := e.popF, lenF := e.lenF, strF := e.strF, resetF := e.resetF, wsF := e.wsF, cntF := e.cntF, fnT := ?fnT, fInit := fnIs_of X e.fInit, fPush := fnIs_of X e.fPush, fPopFrom := fnIs_of X e.fPopFrom, fPop := fnIs_of X e.fPop, fLen := fnIs_of X e.fLen, fStr := fnIs_of X e.fStr, fReset := fnIs_of X e.fReset, fWs := fnIs_of X e.fWs, fCnt := fnIs_of X e.fCnt, fileInit := file_of X e.fileInit, filePop := file_of X e.filePop, fileCnt := file_of X e.fileCnt, dInitIs := ⟨_, X _ _ e.dInitE⟩, dPopFromIs := ⟨_, X _ _ e.dPopFromE⟩, dResetIs := X _ _ e.dResetE, fDiv := fnIs_of X e.fDiv, fI2d := fnIs_of X e.fI2d, fD2i := fnIs_of X e.fD2i, fDmp := fnIs_of X e.fDmp, fIdm := fnIs_of X e.fIdm, bmain := ?bm, hid := offP, los := ?los, apart := ?apart, inLen := ?i1, inStr := ?i2, inI2d := ?i3, inD2i := ?i4, gLim := ⟨_, mg, hg', ns_some_of X hg' e.gLim⟩, gEmp := ⟨_, mg, hg', ns_some_of X hg' e.gEmp⟩, gfnA := ?gf, gbiA := ?gb }
  case lim =>
    obtain ⟨mc, n, q⟩ := lim
    exact ⟨mc, ns_hide n (by decide +kernel), q⟩
  case cell =>
    have hc := e.cell
    cases q : (hideK K0).lookup aCell with
    | none => rw [q] at hc; cases hc
    | some o =>
      rw [q] at hc
      exact ⟨o, X _ _ q, Option.some.inj hc⟩
  case fnT => exact fun f hf => beq_iff_eq.mp (List.all_eq_true.mp e.fnT f hf)
  case bm =>
    obtain ⟨bm, ob, h1, h2, h3, h4, r⟩ := bm
    refine ⟨mg, bm, ob, hg', h1, h2, hide_some.mpr ⟨?_, h3⟩, h4, r⟩
    cases q : hidA.contains bm with
    | false => rfl
    | true =>
      exfalso
      have hm : bm ∈ hidA := by simpa using q
      have : ∃ P, bm = P ∧ h.get? P = some { cls := .none, data := .fields #[] } := by
        simp only [hidA, List.mem_cons, List.not_mem_nil, or_false] at hm
        rcases hm with rfl | rfl | rfl | rfl
        · exact ⟨_, rfl, X0 _ _ e.tLenE.tb⟩
        · exact ⟨_, rfl, X0 _ _ e.tStrE.tb⟩
        · exact ⟨_, rfl, X0 _ _ e.tI2dE.tb⟩
        · exact ⟨_, rfl, X0 _ _ e.tD2iE.tb⟩
      obtain ⟨P, rfl, hP⟩ := this
      rw [hP] at h3
      cases h3
      cases h4
  case los =>
    intro t ht
    show t.lo = (hide h hidA).objs.size
    rw [hide_size, hsz]
    simp only [topG, List.mem_cons, List.not_mem_nil, or_false] at ht
    rcases ht with rfl | rfl | rfl | rfl <;> rfl
  case apart =>
    intro t ht t' ht' q
    simp only [topG, List.mem_cons, List.not_mem_nil, or_false] at ht ht'
    rcases ht with rfl | rfl | rfl | rfl <;> rcases ht' with rfl | rfl | rfl | rfl <;> first | rfl | exact absurd q (by decide +kernel)
  case i1 => simp [topG]
  case i2 => simp [topG]
  case i3 => simp [topG]
  case i4 => simp [topG]
  case gf => exact fun p hp => ⟨mg, hg', ns_some_of X hg' (beq_iff_eq.mp (List.all_eq_true.mp e.gfn p hp))⟩
  case gb =>
    intro p hp
    have := List.all_eq_true.mp e.gbi p hp
    rw [Bool.and_eq_true] at this
    exact ⟨mg, mb, hg', ns_none_of X hg' (beq_iff_eq.mp this.1), hb', ns_some_of X hb' (beq_iff_eq.mp this.2)⟩
theorem st_top {K0 : Frag} {s : Shared} (e : TopEqs K0 (hideK K0)) (X0 : K0.In s.heap) (hgens : s.gens = #[]) : St (topG s.heap s.os) s [] := by
  refine ⟨fun b o q => (hide_some.mp q).2, by simp, fun t ht => ?_, .of_eq hgens, by show (hide s.heap hidA).objs.size ≤ _; rw [hide_size]; exact Nat.le_refl _, rfl, by simp⟩
  simp only [topG, List.mem_cons, List.not_mem_nil, or_false] at ht
  rcases ht with rfl | rfl | rfl | rfl
  · exact tbOk_of X0 e.tLenE
  · exact tbOk_of X0 e.tStrE
  · exact tbOk_of X0 e.tI2dE
  · exact tbOk_of X0 e.tD2iE
theorem old_top {K0 : Frag} {s s' : Shared} {R : Led} (e : TopEqs K0 (hideK K0)) (X0 : K0.In s.heap) (S : St (topG s.heap s.os) s' R) : OldK s.heap s'.heap := by
  have tab : ∀ t ∈ (topG s.heap s.os).ts, s.heap.TableAt t.c t.P #[] := by
    intro t ht
    simp only [topG, List.mem_cons, List.not_mem_nil, or_false] at ht
    rcases ht with rfl | rfl | rfl | rfl
    · exact tbAt_of X0 e.tLenE
    · exact tbAt_of X0 e.tStrE
    · exact tbAt_of X0 e.tI2dE
    · exact tbAt_of X0 e.tD2iE
  have key : ∀ b o, s.heap.get? b = some o → s'.heap.get? b = some o ∨ ∃ t ∈ (topG s.heap s.os).ts, b = t.P := by
    intro b o q
    cases hb : hidA.contains b with
    | false => exact .inl (S.keep b o (hide_some.mpr ⟨hb, q⟩))
    | true =>
      have hm : b ∈ hidA := by simpa using hb
      simp only [hidA, List.mem_cons, List.not_mem_nil, or_false] at hm
      refine .inr ?_
      rcases hm with rfl | rfl | rfl | rfl
      · exact ⟨tbLen, by simp [topG], rfl⟩
      · exact ⟨tbStr, by simp [topG], rfl⟩
      · exact ⟨tbI2d, by simp [topG], rfl⟩
      · exact ⟨tbD2i, by simp [topG], rfl⟩
  refine ⟨fun b o q => ?_, fun b o q => ?_⟩
  · rcases key b o q with h | ⟨t, ht, rfl⟩
    · exact .inl h
    · have h0 := tab t ht
      obtain ⟨ps, _, h1, _⟩ := S.tabs t ht
      have : o = { cls := .none, data := .fields #[] } := Option.some.inj (q.symm.trans h0.2)
      subst this
      exact .inr (.inl ⟨h0.isCodeTable, rfl, #[], ps, rfl, by rw [h1.2]; simp⟩)
  · rcases key b o q with h | ⟨t, ht, rfl⟩
    · exact ⟨o, h⟩
    · obtain ⟨ps, _, h1, _⟩ := S.tabs t ht
      exact ⟨_, h1.2⟩
theorem room_top (k : Nat) (h : k ≤ 400) : Room callerA k :=
  ⟨by show 1 + claimMargin + k < recursionLimit; unfold claimMargin recursionLimit; (first | lia | omega), by show 4 + 20 * k < cLine; unfold cLine; (first | lia | omega), ⟨[], rfl⟩, rfl, ⟨[], rfl⟩⟩
/-! the head without a written heap: what the top leaves is looked at by one function of the heap, and one check of the kernel runs the top and the looks -/
def bareF (fd : FuncData) : FuncData := { fd with pyModule := .none, closureTuple := .none }
theorem bareF_of {fd c : FuncData} {st : Stmt} {qual : Str} {cl : List (Str × Addr)} {cd : Addr} {dV : Value} (h : bareF fd = fdOf st qual cl cd dV .none .none) : fd = fdOf st qual cl cd dV fd.pyModule fd.closureTuple := by
  cases fd
  simp only [bareF, fnX, FuncData.mk.injEq] at h ⊢
  simpa using h
def fragOf (h : Heap) (as : List Addr) : Frag := as.filterMap fun a => (h.get? a).map fun o => (a, o)
theorem fragOf_in (h : Heap) (as : List Addr) : (fragOf h as).In h := by
  intro a o e
  have m : (a, o) ∈ fragOf h as := by
    revert e
    generalize fragOf h as = K
    induction K with
    | nil => intro e; cases e
    | cons p r ih =>
      intro e
      obtain ⟨b, o'⟩ := p
      rw [List.lookup_cons] at e
      split at e
      · rename_i q
        cases e
        rw [beq_iff_eq.mp q]
        exact List.mem_cons_self ..
      · exact List.mem_cons_of_mem _ (ih e)
  obtain ⟨b, _, hb⟩ := List.mem_filterMap.mp m
  obtain ⟨o', ho, q⟩ := Option.map_eq_some_iff.mp hb
  cases q
  exact ho
theorem in_keeps {K : Frag} {h h' : Heap} (X : K.In h) (k : ∀ b o, h.get? b = some o → h'.get? b = some o) : K.In h' := fun a o e => k _ _ (X a o e)
/-- a def of the top: address, statement, name, cells, code, defaults -/
structure FnR where
  f : Addr
  st : Stmt
  qual : Str
  cl : List (Str × Addr)
  cd : Addr
  dV : Value
def FnR.val (r : FnR) : Option FuncData := some (fdOf r.st r.qual r.cl r.cd r.dV .none .none)
def FnR.obs (K : Frag) (r : FnR) : Option FuncData := (fdIn K r.f).map bareF
def codeCk (K : Frag) (cd : Addr) (qual : Str) : Bool := match cvIn K cd with
  | some (c, vs) => c == .type "code" && (match (vs[1]? : Option Value) with | some (.str q _) => q == qual | _ => false)
  | none => false
theorem fnEq_of {K : Frag} {r : FnR} (h : r.obs K = r.val) (c : codeCk K r.cd r.qual = true) : FnEq K r.f r.st r.qual r.cl r.cd r.dV := by
  unfold FnR.obs FnR.val at h
  obtain ⟨fd, hf, q⟩ := Option.map_eq_some_iff.mp h
  unfold codeCk at c
  refine ⟨?_, ?_, ?_⟩
  · rw [show pmIn K r.f = fd.pyModule by unfold pmIn; rw [hf]; rfl, show ctIn K r.f = fd.closureTuple by unfold ctIn; rw [hf]; rfl, hf]
    exact congrArg some (bareF_of (c := fd) q)
  · split at c
    · rename_i c' vs e
      rw [Bool.and_eq_true] at c
      rw [e, show vsIn K r.cd = vs by unfold vsIn; rw [e]; rfl, beq_iff_eq.mp c.1]
    · cases c
  · split at c
    · rename_i c' vs e
      rw [Bool.and_eq_true] at c
      rw [show vsIn K r.cd = vs by unfold vsIn; rw [e]; rfl]
      have c2 := c.2
      split at c2
      · rename_i q t e'
        rw [← beq_iff_eq.mp c2, e']
        rfl
      · cases c2
    · cases c
/-- the empty object of a code table -/
def tb0 : Obj := { cls := .none, data := .fields #[] }
def tbCk (K : Frag) (c P : Addr) : Bool := (match cvIn K c with | some (x, _) => x == .type "code" | none => false) && (vsIn K c)[11]? == some (.ref P) && isS ((vsIn K c).getD 18 .none) && isI ((vsIn K c).getD 7 .none) && isB' ((vsIn K c).getD 9 .none) && isI ((vsIn K c).getD 10 .none)
theorem tbEq_of {K : Frag} {c P : Addr} (h : tbCk K c P = true) (e : K.lookup P = some tb0) : TbEq K c P := by
  unfold tbCk at h
  simp only [Bool.and_eq_true] at h
  obtain ⟨⟨⟨⟨⟨h1, h2⟩, h3⟩, h4⟩, h5⟩, h6⟩ := h
  refine ⟨?_, beq_iff_eq.mp h2, h3, h4, h5, h6, e⟩
  split at h1
  · rename_i x vs q
    rw [q, show vsIn K c = vs by unfold vsIn; rw [q]; rfl, beq_iff_eq.mp h1]
  · cases h1
def fileCk (K : Frag) (c : Addr) : Bool := (match cvIn K c with | some (x, _) => x == .type "code" | none => false) && fileOk K c
theorem fileEq_of {K : Frag} {c : Addr} (h : fileCk K c = true) : FileEq K c := by
  unfold fileCk at h
  simp only [Bool.and_eq_true] at h
  refine ⟨?_, h.2⟩
  have h1 := h.1
  split at h1
  · rename_i x vs q
    rw [q, show vsIn K c = vs by unfold vsIn; rw [q]; rfl, beq_iff_eq.mp h1]
  · cases h1
def cellCk (K : Frag) : Bool := match K.lookup aCell with | some ⟨_, _, .cell (some (.ref a)), _⟩ => a == aC | _ => false
theorem cell_of {K : Frag} (h : cellCk K = true) : (K.lookup aCell).map (·.data) = some (.cell (some (.ref aC))) := by
  unfold cellCk at h
  split at h
  · rename_i q
    rw [q, beq_iff_eq.mp h]
    rfl
  · cases h
def strCk : Option (Option Value) → Bool | some (some (.str x _)) => x == "" | _ => false
def intCk : Option (Option Value) → Bool | some (some (.int x _)) => x == 4000 | _ => false
theorem str_of {o : Option (Option Value)} (h : strCk o = true) : o = some (some (.str "" (tokOf (o.getD none)))) := by
  unfold strCk at h
  split at h
  · rw [beq_iff_eq.mp h]; rfl
  · cases h
theorem int_of {o : Option (Option Value)} (h : intCk o = true) : o = some (some (.int 4000 (tokOf (o.getD none)))) := by
  unfold intCk at h
  split at h
  · rw [beq_iff_eq.mp h]; rfl
  · cases h
/-- the text's own defs -/
def ownT : List FnR := [⟨aInit, sMeth 0, "_Accumulator.__init__", clsCell, cInit, .ref dInit⟩, ⟨aPush, sMeth 1, "_Accumulator.push", [], cPush, .none⟩, ⟨aPopFrom, sMeth 2, "_Accumulator.pop_from", [], cPopFrom, .ref dPopFrom⟩,
  ⟨aPop, sMeth 3, "_Accumulator.pop", clsCell, cPop, .none⟩, ⟨aLen, sMeth 4, "_Accumulator.__len__", [], cLen, .none⟩, ⟨aStr, sMeth 5, "_Accumulator.__str__", [], cStr, .none⟩, ⟨aReset, sMeth 6, "_Accumulator.reset", [], cReset, .ref dReset⟩,
  ⟨aWs, sMeth 7, "_Accumulator.is_onlyws", [], cWs, .none⟩, ⟨aCnt, sMeth 8, "_Accumulator.part_count", clsCell, cCnt, .none⟩,
  ⟨aDiv, sLong 0, "_div2n1n", [], cDiv, .none⟩, ⟨aI2d, sLong 2, "_int2digits", [], cI2d, .none⟩, ⟨aD2i, sLong 3, "_digits2int", [], cD2i, .none⟩, ⟨aDmp, sLong 4, "_divmod_pos", [], cDmp, .none⟩, ⟨aIdm, sLong 5, "int_divmod", [], cIdm, .none⟩]
def clsCk (K : Frag) (C : Addr) : Bool :=
  findIn K (.ref C) "__getattribute__" == some (some (.builtin "list.__getattribute__")) && (findIn K (.ref C) "__getattr__" == some none && (mroIn K C (.type "list") == some true && (hasDictIn K C &&
  (findIn K (.ref C) "__setattr__" == some (some (.builtin "object.__setattr__")) && (findIn K (.ref C) "_initial_size" == some none && (takerIn K C "_initial_size" == some none &&
  (findIn K (.ref C) "append" == some (some (.builtin "list.append")) && (findIn K (.ref C) "__getitem__" == some (some (.builtin "list.__getitem__")) && (findIn K (.ref C) "__setitem__" == some (some (.builtin "list.__setitem__")) &&
  (findIn K (.ref C) "__iter__" == some (some (.builtin "list.__iter__")) && (findIn K (.ref C) "__bool__" == some none && noSeq K C)))))))))))
theorem cls_of {K : Frag} {C : Addr} (h : clsCk K C = true) : ClsA K C := by
  unfold clsCk at h
  simp only [Bool.and_eq_true, beq_iff_eq] at h
  obtain ⟨h1, h2, h3, h4, h5, h6, h7, h8, h9, h10, h11, h12, h13⟩ := h
  exact ⟨h1, h2, h3, h4, h5, h6, h7, h8, h9, h10, h11, h12, h13⟩
def metT : List (Str × Addr) := [("__init__", aInit), ("push", aPush), ("pop_from", aPopFrom), ("pop", aPop), ("__len__", aLen), ("__str__", aStr), ("reset", aReset), ("is_onlyws", aWs), ("part_count", aCnt)]
def topCk (K0 K : Frag) : Bool :=
  clsCk K aC && (makesA K aC && ((clsIn K aC).isSome && ((cdIn K).mro == [.ref aC, .type "list", .type "object"] && ((cdIn K).qualname == "_Accumulator" && (mroIn K aC (.type "module") == some false && (typeIn K (.ref aC) == some (.type "type") &&
  (nsIn K cStatics "thirdparty.any" == some none && (cellCk K && ((metT.all fun p => findIn K (.ref aC) p.1 == some (some (.ref p.2)) && typeIn K (.ref p.2) == some (.type "function")) &&
  (([cInit, cPop, cCnt].all fun c => fileCk K c) && ((tbCk K0 cLen tLen && (tbCk K0 cStr tStr && (tbCk K0 cI2d tI2d && tbCk K0 cD2i tD2i))) &&
  (intCk (nsIn K mainGlobals "_DIV_LIMIT") && (strCk (nsIn K mainGlobals "EMPTYSTRING") && ((gtab.all fun p => nsIn K mainGlobals p.1 == some (some (.ref p.2))) &&
  (btab.all fun p => nsIn K mainGlobals p.1 == some none && nsIn K builtinsNs p.1 == some (some p.2))))))))))))))))
def objT : List Addr := [tLen, tStr, tI2d, tD2i, dInit, dPopFrom, dReset]
def objV (t1 t2 : Tok) : List (Option Obj) := [some tb0, some tb0, some tb0, some tb0, some (tupO [.int 0 t1]), some (tupO [.int 0 t2]), some (tupO [.none])]
theorem hideK_lookup' {a : Addr} (ha : hidA.contains a = false) : ∀ {K : Frag}, (hideK K).lookup a = K.lookup a
  | [] => rfl
  | (b, ob) :: r => by
    unfold hideK
    rw [List.filter_cons, List.lookup_cons]
    by_cases e : a = b
    · subst e
      rw [ha]
      simp only [Bool.not_false, if_true]
      rw [List.lookup_cons]
      simp only [beq_self_eq_true]
    · have e' : (a == b) = false := by simpa using e
      rw [e']
      split
      · rw [List.lookup_cons, e']
        exact hideK_lookup' ha (K := r)
      · exact hideK_lookup' ha (K := r)
theorem topEqs_of {K0 : Frag} {t1 t2 : Tok} (h1 : ownT.map (FnR.obs (hideK K0)) = ownT.map FnR.val) (h2 : objT.map (fun a => K0.lookup a) = objV t1 t2) (hc : ownT.all (fun r => codeCk (hideK K0) r.cd r.qual) = true) (h : topCk K0 (hideK K0) = true) : TopEqs K0 (hideK K0) := by
  have F : ∀ r ∈ ownT, FnEq (hideK K0) r.f r.st r.qual r.cl r.cd r.dV := fun r hr => fnEq_of (List.map_inj_left.mp h1 r hr) (List.all_eq_true.mp hc r hr)
  unfold topCk at h
  simp only [Bool.and_eq_true, beq_iff_eq] at h
  obtain ⟨a1, a2, a3, a4, a5, a6, a7, a8, a9, a10, a11, ⟨b1, b2, b3, b4⟩, a13, a14, a15, a16⟩ := h
  unfold objT objV at h2
  simp only [List.map_cons, List.map_nil, List.cons.injEq, and_true] at h2
  obtain ⟨o1, o2, o3, o4, o5, o6, o7⟩ := h2
  have M : ∀ p ∈ metT, findIn (hideK K0) (.ref aC) p.1 = some (some (.ref p.2)) ∧ typeIn (hideK K0) (.ref p.2) = some (.type "function") := by
    intro p hp
    have := List.all_eq_true.mp a10 p hp
    simpa only [Bool.and_eq_true, beq_iff_eq] using this
  have D : ∀ {a : Addr} {t : Tok}, hidA.contains a = false → K0.lookup a = some (tupO [.int 0 t]) → (hideK K0).lookup a = some (tupO [.int 0 (tk1 (hideK K0) a)]) := by
    intro a t ha q
    have q' := (hideK_lookup' ha (K := K0)).trans q
    rw [q', show tk1 (hideK K0) a = t by unfold tk1; rw [q']; rfl]
  exact {
    cls := cls_of a1, makes := a2,
    cd1 := by
      obtain ⟨c, q⟩ := Option.isSome_iff_exists.mp a3
      unfold cdIn
      rw [q]; rfl
    cd2 := a4, cd3 := a5, modNo := a6, typC := a7, noThird := a8, cell := cell_of a9,
    initF := (M ("__init__", aInit) (by simp [metT])).1, initT := (M ("__init__", aInit) (by simp [metT])).2,
    pushF := (M ("push", aPush) (by simp [metT])).1, popFromF := (M ("pop_from", aPopFrom) (by simp [metT])).1, popF := (M ("pop", aPop) (by simp [metT])).1,
    lenF := (M ("__len__", aLen) (by simp [metT])).1, strF := (M ("__str__", aStr) (by simp [metT])).1, resetF := (M ("reset", aReset) (by simp [metT])).1,
    wsF := (M ("is_onlyws", aWs) (by simp [metT])).1, cntF := (M ("part_count", aCnt) (by simp [metT])).1,
    fnT := by
      rw [List.all_eq_true]
      intro f hf
      rw [beq_iff_eq]
      simp only [List.mem_cons, List.not_mem_nil, or_false] at hf
      rcases hf with rfl | rfl | rfl | rfl | rfl | rfl | rfl | rfl
      · exact (M ("push", aPush) (by simp [metT])).2
      · exact (M ("pop_from", aPopFrom) (by simp [metT])).2
      · exact (M ("pop", aPop) (by simp [metT])).2
      · exact (M ("__len__", aLen) (by simp [metT])).2
      · exact (M ("__str__", aStr) (by simp [metT])).2
      · exact (M ("reset", aReset) (by simp [metT])).2
      · exact (M ("is_onlyws", aWs) (by simp [metT])).2
      · exact (M ("part_count", aCnt) (by simp [metT])).2
    fInit := F (ownT[0]'(by decide)) (List.getElem_mem _), fPush := F (ownT[1]'(by decide)) (List.getElem_mem _), fPopFrom := F (ownT[2]'(by decide)) (List.getElem_mem _),
    fPop := F (ownT[3]'(by decide)) (List.getElem_mem _), fLen := F (ownT[4]'(by decide)) (List.getElem_mem _), fStr := F (ownT[5]'(by decide)) (List.getElem_mem _),
    fReset := F (ownT[6]'(by decide)) (List.getElem_mem _), fWs := F (ownT[7]'(by decide)) (List.getElem_mem _), fCnt := F (ownT[8]'(by decide)) (List.getElem_mem _),
    fileInit := fileEq_of (List.all_eq_true.mp a11 cInit (by simp)), filePop := fileEq_of (List.all_eq_true.mp a11 cPop (by simp)), fileCnt := fileEq_of (List.all_eq_true.mp a11 cCnt (by simp)),
    dInitE := D (by decide +kernel) o5, dPopFromE := D (by decide +kernel) o6, dResetE := (hideK_lookup' (by decide +kernel)).trans o7,
    fDiv := F (ownT[9]'(by decide)) (List.getElem_mem _), fI2d := F (ownT[10]'(by decide)) (List.getElem_mem _), fD2i := F (ownT[11]'(by decide)) (List.getElem_mem _), fDmp := F (ownT[12]'(by decide)) (List.getElem_mem _), fIdm := F (ownT[13]'(by decide)) (List.getElem_mem _),
    tLenE := tbEq_of b1 o1, tStrE := tbEq_of b2 o2, tI2dE := tbEq_of b3 o3, tD2iE := tbEq_of b4 o4,
    gLim := int_of a13, gEmp := str_of a14, gfn := by rw [List.all_eq_true]; intro p hp; rw [beq_iff_eq]; exact beq_iff_eq.mp (List.all_eq_true.mp a15 p hp), gbi := a16 }
abbrev rwL : OpenLaw := PySem.Challenge.rw_nb0176_01
abbrev aLaw : Addr := 204
abbrev sLaw : Stmt := topS 21
def lawT : List FnR := [⟨147, topS 12, "_law_first", [], 146, .none⟩, ⟨154, topS 13, "_law_deeds", [], 153, .none⟩, ⟨161, topS 14, "_law_piece", [], 160, .none⟩, ⟨168, topS 15, "_law_seen", [], 167, .none⟩, ⟨173, topS 16, "_law_by_pieces", [], 172, .none⟩,
  ⟨180, topS 17, "_law_behind", [], 179, .none⟩, ⟨185, topS 18, "_law_told", [], 184, .none⟩, ⟨190, topS 19, "_law_by_numbers", [], 189, .none⟩, ⟨197, topS 20, "_law_alike", [], 196, .none⟩, ⟨204, topS 21, "law", [], 203, .none⟩]
def vloose : List Str := ["EMPTYSTRING", "_Accumulator", "_DIV_LIMIT", "_div2n1n", "_div3n2n", "_int2digits", "_digits2int", "_divmod_pos", "int_divmod",
  "_law_first", "_law_deeds", "_law_piece", "_law_seen", "_law_by_pieces", "_law_behind", "_law_told", "_law_by_numbers", "_law_alike"]
abbrev aNs : Addr := 93
abbrev tkInit : Tok := 203
abbrev tkPopFrom : Tok := 222
abbrev nTop : Nat := 205
/-! the same for every law -/
def vw : Program := { pw with main := { pw.main with body := [sLaw] } }
def dLaw : DefRec := ⟨"law", fParams sLaw, fBody sLaw, fScope sLaw, fPos sLaw⟩
def needA : List Addr := [cStatics, mainGlobals, builtinsNs, aC, aNs, aCell] ++ objT ++ ownT.map (·.f) ++ ownT.map (·.cd) ++ lawT.map (·.f) ++ lawT.map (·.cd)
def obsK (K0 K : Frag) (n : Nat) : List (Option FuncData) × List (Option FuncData) × List (Option Obj) × Bool × Nat :=
  (ownT.map (FnR.obs K), lawT.map (FnR.obs K), objT.map (fun a => K0.lookup a), topCk K0 K && (ownT.all (fun r => codeCk K r.cd r.qual) && (lawT.all (fun r => codeCk K r.cd r.qual) && nsIn K mainGlobals "law" == some (some (.ref aLaw)))), n)
def obsT (s : Shared) : List (Option FuncData) × List (Option FuncData) × List (Option Obj) × Bool × Nat := obsK (fragOf s.heap needA) (hideK (fragOf s.heap needA)) s.heap.objs.size
def valT (_ : World) : List (Option FuncData) × List (Option FuncData) × List (Option Obj) × Bool × Nat := (ownT.map FnR.val, lawT.map FnR.val, objV tkInit tkPopFrom, true, nTop)
abbrev xT (s : Shared) : Bool := xlAt vw [] s && recOk (RowW.records rwL.row.toRowW) s
theorem oA {s : Shared} {w : World} (y : obsT s = valT w) : (ownT.map (FnR.obs (hideK (fragOf s.heap needA))) = ownT.map FnR.val) ∧ (lawT.map (FnR.obs (hideK (fragOf s.heap needA))) = lawT.map FnR.val) ∧ (objT.map (fun a => (fragOf s.heap needA).lookup a) = objV tkInit tkPopFrom) ∧ ((topCk (fragOf s.heap needA) (hideK (fragOf s.heap needA)) && (ownT.all (fun r => codeCk (hideK (fragOf s.heap needA)) r.cd r.qual) && (lawT.all (fun r => codeCk (hideK (fragOf s.heap needA)) r.cd r.qual) && nsIn (hideK (fragOf s.heap needA)) mainGlobals "law" == some (some (.ref aLaw))))) = true) ∧ s.heap.objs.size = nTop := by
  unfold obsT obsK valT at y
  rw [Prod.mk.injEq, Prod.mk.injEq, Prod.mk.injEq, Prod.mk.injEq] at y
  exact y
theorem oB {K0 : Frag} (y3 : objT.map (fun a => K0.lookup a) = objV tkInit tkPopFrom) (y1 : ownT.map (FnR.obs (hideK K0)) = ownT.map FnR.val) (h4 : topCk K0 (hideK K0) = true) (h5 : ownT.all (fun r => codeCk (hideK K0) r.cd r.qual) = true) : TopEqs K0 (hideK K0) := topEqs_of y1 y3 h5 h4
theorem oC {K0 : Frag} (y2 : lawT.map (FnR.obs (hideK K0)) = lawT.map FnR.val) (h : lawT.all (fun r => codeCk (hideK K0) r.cd r.qual) = true) : ∀ r ∈ lawT, FnEq (hideK K0) r.f r.st r.qual r.cl r.cd r.dV := fun r hr => fnEq_of (List.map_inj_left.mp y2 r hr) (List.all_eq_true.mp h r hr)
theorem oD {K0 : Frag} (y4 : (topCk K0 (hideK K0) && (ownT.all (fun r => codeCk (hideK K0) r.cd r.qual) && (lawT.all (fun r => codeCk (hideK K0) r.cd r.qual) && nsIn (hideK K0) mainGlobals "law" == some (some (.ref aLaw))))) = true) : topCk K0 (hideK K0) = true ∧ ownT.all (fun r => codeCk (hideK K0) r.cd r.qual) = true ∧ lawT.all (fun r => codeCk (hideK K0) r.cd r.qual) = true ∧ nsIn (hideK K0) mainGlobals "law" = some (some (.ref aLaw)) := by
  rw [Bool.and_eq_true, Bool.and_eq_true, Bool.and_eq_true] at y4
  exact ⟨y4.1, y4.2.1, y4.2.2.1, beq_iff_eq.mp y4.2.2.2⟩
theorem obs_facts {s : Shared} {w : World} (y : obsT s = valT w) : TopEqs (fragOf s.heap needA) (hideK (fragOf s.heap needA)) ∧ (∀ r ∈ lawT, FnEq (hideK (fragOf s.heap needA)) r.f r.st r.qual r.cl r.cd r.dV) ∧ nsIn (hideK (fragOf s.heap needA)) mainGlobals "law" = some (some (.ref aLaw)) ∧ s.heap.objs.size = nTop := by
  obtain ⟨a1, a2, a3, a4, a5⟩ := oA y
  obtain ⟨d1, d2, d3, d4⟩ := oD a4
  exact ⟨oB a3 a1 d1 d2, oC a2 d3, d4, a5⟩
theorem leftL : LeftO rwL.row.prog vw vloose xT obsT valT 2300 := by
  intro w
  kernel_rfl
theorem headL (ok : rwL.row.wellSaid = true) (hw : rwL.row.toRowW.promised) (hc : WalkX vw vloose (XL vw []) obsT valT rwL.row.toRowW dLaw [] fun f vs => PySem.call f vs) : rwL.row.Holds :=
  holds_openX (q := vw) (loose := vloose) (Xt := xT) (XP := XL vw []) (Yf := obsT) (Ya := valT) (d := dLaw) (kwd := []) (N := 2300) leftL (fun s e => xl_of s (Bool.and_eq_true_iff.mp e).1) XL.keeps
    (by kernel_rfl!) (by kernel_rfl!) (by kernel_rfl!) (fun s e => recFacts_of (Bool.and_eq_true_iff.mp e).2) (by rfl) ok (by decide +kernel) ⟨rfl, rfl, rfl, rfl, rfl, by decide +kernel⟩ hw hc
theorem holdsOf (h : rwL.row.wellSaid = true → rwL.row.Holds) : rwL.Holds := by
  o_law
  rename_i said
  exact h said
section
variable {M : Model} {A : Around} {E : Value → Shared → Prop} {s : Shared} {env : Env}
/-- o.name(args) -/
theorem rMeth {o : Expr} {name : Str} {apos pos : Pos} {args : List Expr} {Q : Value → Shared → Prop}
    (h : wpAny M A (eval o env) (fun ov s₁ => wpAny M A (getMethod ov name (do return (← importBound o env).getD true)) (fun fx s₂ => wpAny M A (callWith pos fx.1 fx.2 (backTo pos (starEach args env)) []) Q E s₂) E s₁) E s)
    (he : eval (.Call (.Attribute o name apos) args [] pos) env = (do
      let ov ← eval o env
      standAt apos.atName
      let (f, first) ← holding [ov] (getMethod ov name (do return (← importBound o env).getD true))
      callWith pos f first (backTo pos (starEach args env)) [])) :
    wpAny M A (eval (.Call (.Attribute o name apos) args [] pos) env) Q E s := by
  rw [he]
  exact wpAny_bind (wpAny_mono h (fun ov s₁ h₁ => wpAny_bind (wpAny_standAt (wpAny_bind (wpAny_holding (wpAny_mono h₁ (fun fx s₂ h₂ => h₂) fun _ _ x => x))))) fun _ _ x => x)
theorem evArgs_nil {f : Value} {Q : Args → Shared → Prop} (h : wpAny M A (spliced []) (fun vs s' => Q ⟨vs, []⟩ s') E s) : wpAny M A (evalArgs f true [] []) Q E s := by
  unfold evalArgs
  show wpAny M A (spliced [] >>= _) Q E s
  refine wpAny_bind (wpAny_mono h (fun vs s' h' => ?_) fun _ _ x => x)
  refine wpAny_holding ?_
  exact wpAny_bind (wpAny_pure (wpAny_bind (wpAny_pure (wpAny_pure h'))))
/-- a call's arguments, all plain -/
theorem cw {pos : Pos} {f : Value} {first : List Value} {args : List Expr} {Q : Value → Shared → Prop} (P : Heap → Prop)
    (hk : ∀ h, P h → ∃ k, (k = Keeper.frame ∨ k = Keeper.machine ∨ k = Keeper.boundFrame) ∧ Looks M h (keeperOf f) k)
    (h : wpAny M A (spliced (backTo pos (starEach args env))) (fun vs s₁ => P s₁.heap ∧ wpAny M A (call f (first ++ vs)) Q E s₁) E s)
    (hp : ((backTo pos (starEach args env)).any (·.1)) = false) :
    wpAny M A (callWith pos f first (backTo pos (starEach args env)) []) Q E s := by
  refine callWith_of (P := P) (by rw [hp]; rfl) hk ?_
  cases hb : backTo pos (starEach args env) with
  | nil => rw [hb] at h; exact evArgs_nil h
  | cons x r =>
    obtain ⟨b, t⟩ := x
    rw [hb] at hp h
    have : b = false := by
      cases b with
      | false => rfl
      | true => simp at hp
    subst this
    exact evalArgs_plain h
/-- a call of a built-in -/
theorem cwB {pos : Pos} {id : String} {first : List Value} {args : List Expr} {Q : Value → Shared → Prop}
    (h : wpAny M A (spliced (backTo pos (starEach args env))) (fun vs s₁ => wpAny M A (call (.builtin id) (first ++ vs)) Q E s₁) E s)
    (hp : ((backTo pos (starEach args env)).any (·.1)) = false) :
    wpAny M A (callWith pos (.builtin id) first (backTo pos (starEach args env)) []) Q E s :=
  cw (fun _ => True) (fun h _ => ⟨.machine, .inr (.inl rfl), Looks.of_pure rfl⟩) (wpAny_mono h (fun vs s₁ h₁ => ⟨trivial, h₁⟩) fun _ _ x => x) hp
theorem cwT {pos : Pos} {T : String} {first : List Value} {args : List Expr} {Q : Value → Shared → Prop}
    (h : wpAny M A (spliced (backTo pos (starEach args env))) (fun vs s₁ => wpAny M A (call (.type T) (first ++ vs)) Q E s₁) E s)
    (hp : ((backTo pos (starEach args env)).any (·.1)) = false) :
    wpAny M A (callWith pos (.type T) first (backTo pos (starEach args env)) []) Q E s :=
  cw (fun _ => True) (fun h _ => ⟨.machine, .inr (.inl rfl), Looks.of_pure rfl⟩) (wpAny_mono h (fun vs s₁ h₁ => ⟨trivial, h₁⟩) fun _ _ x => x) hp
/-- a call of a def -/
theorem cwF {G : Gd} {pos : Pos} {f : Addr} {st : Stmt} {qual : Str} {cl : List (Str × Addr)} {cd : Addr} {dV : Value} {first : List Value} {args : List Expr} {Q : Value → Shared → Prop}
    (T : FnIs G.B f st qual cl cd dV)
    (h : wpAny M A (spliced (backTo pos (starEach args env))) (fun vs s₁ => (∀ b o, G.B.get? b = some o → s₁.heap.get? b = some o) ∧ wpAny M A (call (.ref f) (first ++ vs)) Q E s₁) E s)
    (hp : ((backTo pos (starEach args env)).any (·.1)) = false) :
    wpAny M A (callWith pos (.ref f) first (backTo pos (starEach args env)) []) Q E s := by
  obtain ⟨pm, ct, ⟨o, ho, hd⟩, _⟩ := T
  refine cw (fun h => ∀ b o, G.B.get? b = some o → h.get? b = some o) (fun h hk => ⟨.frame, .inl rfl, (Looks.ld (part := none) (hk _ _ ho)).andThen ?_⟩) h hp
  rw [hd]
  exact .now
end
section
variable {M : Model} {A : Around} {E : Value → Shared → Prop} {s : Shared} {env : Env}
/-- f(args) -/
theorem rCall {f : Expr} {pos : Pos} {args : List Expr} {Q : Value → Shared → Prop}
    (h : wpAny M A (eval f env) (fun fv s₁ => wpAny M A (callWith pos fv [] (backTo pos (starEach args env)) []) Q E s₁) E s)
    (he : eval (.Call f args [] pos) env = (do callWith pos (← eval f env) [] (backTo pos (starEach args env)) [])) :
    wpAny M A (eval (.Call f args [] pos) env) Q E s := by
  rw [he]; exact wpAny_bind h
end
section
variable {w : World} {A : Around} {E : Value → Shared → Prop} {G : Gd} {s : Shared} {R : Led} {L : Addr} {m : Str → Option Value} {K : Frag} {a d : Addr} {vs : List Value} {n : Nat} {sz : Int} {k t : Tok}
theorem Fm.accAt (F : Fm G s L m R) (ha : (a, accO aC d vs n) ∈ R) (hd : (d, dicO w sz k t) ∈ R) : AccAt s.heap w aC a d vs n sz k t := ⟨F.get ha, F.get hd⟩
/-- a method of an accumulator -/
theorem gmA {name : Str} {f tf : Value} {pl : Sem Bool} {Q : Value × List Value → Shared → Prop} (T : Tp G w K) (F : Fm G s L m R) (ha : (a, accO aC d vs n) ∈ R) (hd : (d, dicO w sz k t) ∈ R)
    (hf : findIn K (.ref aC) name = some (some f)) (ht : typeIn K f = some tf) (htf : (tf != .type "function" && tf != .type "method_descriptor" && tf != .type "wrapper_descriptor") = false)
    (hn : (Value.str ("_initial_size" : Str) k).isStr name = false) (h : Q (f, [.ref a]) s) : wpAny (model pw w) A (getMethod (.ref a) name pl) Q E s :=
  acc_meth (T.inK.keeps F.keep) T.cls (F.accAt ha hd) hf ht htf hn h
theorem kind_append : builtinKind "list.append" = some .method := by decide +kernel
theorem split_append : splitId "list.append" = some ("list", "append") := by decide +kernel
theorem plain_append : plainId "list.append" = true := by decide +kernel
theorem args_append (a b : Value) : argsOk "list.append" ⟨[a, b], []⟩ := by unfold argsOk; kernel_rfl
theorem typ_append (K : Frag) : typeIn K (.builtin "list.append") = some (.type "method_descriptor") := by kernel_rfl
theorem appA {x : Value} {Q : Value → Shared → Prop} (T : Tp G w K) (F : Fm G s L m ((a, accO aC d vs n) :: R)) (hd : (d, dicO w sz k t) ∈ R) (off : ∀ p ∈ R, p.1 ≠ a) (hz : vs.length ≤ 1000)
    (h : ∀ s', Fm G s' L m ((a, accO aC d (vs ++ [x]) (n + 1)) :: R) → Q .none s') : wpAny (model pw w) A (call (.builtin "list.append") [.ref a, x]) Q E s := by
  have I := F.accAt (a := a) (d := d) (List.mem_cons_self ..) (List.mem_cons_of_mem _ hd)
  refine callA (T.inK.keeps F.keep) T.cls I (.inl kind_append) split_append (args_append _ _) plain_append PySem.entry_list_append ?_
  refine b_append I.acc (by (first | lia | omega)) fun h' hs hg => ?_
  exact h _ (F.set (t := s.toks) (Mut.of_cls (by simp) (by simp)) hs hg off)
end
section
variable {w : World} {A : Around} {E : Value → Shared → Prop} {G : Gd} {s : Shared} {R : Led} {L : Addr} {m : Str → Option Value} {K : Frag} {a d l : Addr} {vs xs : List Value} {n : Nat} {sz : Int} {k t : Tok} {Q : Value → Shared → Prop} {env : Env}
theorem isL {h : Heap} {c : Nat} (ho : h.get? l = some (listO xs c)) : h.IsList l xs.toArray := ⟨_, ho, rfl, c, rfl⟩
theorem isT {h : Heap} (ho : h.get? l = some (tupO xs)) : IsTup h l xs.toArray := ⟨_, ho, rfl, 0, rfl⟩
/-- lo:hi -/
theorem mkSl {lower upper : Option Expr} {p : Pos}
    (h : wpAny (model pw w) A (evalPart lower env) (fun lv s₁ => wpAny (model pw w) A (evalPart upper env) (fun uv s₂ => wpAny (model pw w) A (newFields "slice" [lv, uv, .none]) Q E s₂) E s₁) E s) :
    wpAny (model pw w) A (eval (.Slice lower upper none p) env) Q E s := by
  rw [arm_eval_Slice]
  refine wpAny_bind (wpAny_mono h (fun l s₁ h₁ => wpAny_bind (wpAny_holding (wpAny_mono h₁ (fun u s₂ h₂ => wpAny_bind (wpAny_holding (wpAny_pure h₂))) fun _ _ x => x))) fun _ _ x => x)
theorem nwSl {lv uv : Value} (F : Fm G s L m R) (h : ∀ a s', (∀ p ∈ R, p.1 < a) → L < a → Fm G s' L m ((a, sliO lv uv .none) :: R) → Q (.ref a) s') :
    wpAny (model pw w) A (newFields "slice" [lv, uv, .none]) Q E s :=
  wpAny_newObj_type (h _ _ (fun p hp => F.lt hp) F.ltL (F.push (t := s.toks) _)) (by size_fits)
/-- xs[k] -/
theorem itL {value slice : Expr} {i : Int} {u : Tok} {v : Value} {c : Nat} (F : Fm G s L m R) (hl : (l, listO xs c) ∈ R) (h0 : 0 ≤ i) (h1 : i < 2 ^ 63) (hv : xs[i.toNat]? = some v) (h : Q v s)
    (hs : subscripted slice false (.ref l) (.int i u) = operate [.ref l, .int i u] (getItem (.ref l) (.int i u))) :
    wpAny (model pw w) A (subscriptTail value slice (.ref l) (.int i u)) Q E s :=
  tail_any (isL (F.get hl)).typeIs slot_list_getitem.lookup (wpAny_getItem_list (isL (F.get hl)) h0 h1 (by simpa using hv) h) hs
theorem itT {value slice : Expr} {i : Int} {u : Tok} {v : Value} (F : Fm G s L m R) (hl : (l, tupO xs) ∈ R) (h0 : 0 ≤ i) (h1 : i < 2 ^ 63) (hv : xs[i.toNat]? = some v) (h : Q v s)
    (hs : subscripted slice false (.ref l) (.int i u) = operate [.ref l, .int i u] (getItem (.ref l) (.int i u))) :
    wpAny (model pw w) A (subscriptTail value slice (.ref l) (.int i u)) Q E s := by
  have hlt : i.toNat < xs.length := by
    rcases Nat.lt_or_ge i.toNat xs.length with h | h
    · exact h
    · rw [List.getElem?_eq_none h] at hv; cases hv
  refine item_tupleT (j := i.toNat) (isT (F.get hl)) (by (first | lia | omega)) h1 ?_ hv h hs
  have hneg : ¬ i < 0 := by (first | lia | omega)
  have hb : (decide (0 ≤ i) && decide (i < (xs.length : Int))) = true := by
    have : i < (xs.length : Int) := by (first | lia | omega)
    simp [h0, this]
  simp only [seqIndex?, if_neg hneg, hb, if_true]
/-- xs[lo:hi], a list -/
theorem slL {value slice : Expr} {sl : Addr} {lv uv : Value} {lo hi : Option Int} {c : Nat} (F : Fm G s L m R) (hl : (l, listO xs c) ∈ R) (hsl : (sl, sliO lv uv .none) ∈ R) (pl : IsPart lv lo) (pu : IsPart uv hi) (hz : xs.length ≤ 1000)
    (h : ∀ a s', (∀ p ∈ R, p.1 < a) → L < a → Fm G s' L m ((a, listO (slicePick xs.toArray lo hi none).toList 0) :: R) → Q (.ref a) s')
    (hs : subscripted slice false (.ref l) (.ref sl) = operate [.ref sl, .ref l] (getItem (.ref l) (.ref sl))) :
    wpAny (model pw w) A (subscriptTail value slice (.ref l) (.ref sl)) Q E s := by
  refine tail_any (isL (F.get hl)).typeIs slot_list_getitem.lookup (wpAny_getItem_list_slice (isL (F.get hl)) ⟨_, F.get hsl, rfl, rfl⟩ pl pu .none (by simp) ?_ ?_) hs
  · have := h _ _ (fun p hp => F.lt hp) F.ltL (F.push (t := s.toks) (listO (slicePick xs.toArray lo hi none).toList 0))
    simpa using this
  · simp [sizeLine]; (first | lia | omega)
/-- xs[i] = v -/
theorem stIt {i : Int} {u : Tok} {v : Value} {c : Nat} {Q : Unit → Shared → Prop} (F : Fm G s L m ((l, listO xs c) :: R)) (off : ∀ p ∈ R, p.1 ≠ l) (h0 : 0 ≤ i) (h1 : i < 2 ^ 63) (hn : i.toNat < xs.length)
    (h : ∀ s', Fm G s' L m ((l, listO (xs.set i.toNat v) c) :: R) → Q () s') : wpAny (model pw w) A (setItem (.ref l) (.int i u) v) Q E s := by
  have hl := F.get (List.mem_cons_self ..)
  have hL := isL hl
  unfold setItem
  try with_reducible refine wpAny_holding ?_
  first | refine wpAny_bind (wpAny_pure ?_) | skip
  refine wpAny_bind (wpAny_sequenceKey hL.typeIs (by decide) ?_)
  refine wpAny_bind (wpAny_callSpecial?_slot (name := Str.ofString "__setitem__") hL.typeIs slot_list_setitem
    (wpAny_call_entry slot_list_setitem hL.typeIs entry_list_setitem ?_ (args_list_setitem _ _ _)))
  show wpAny _ _ (Builtin.List.listSubscript? (.int i u) >>= _) _ _ s
  refine wpAny_bind (wpAny_listSubscript_int (fitsIndex_of h0 h1) ?_)
  clear h1
  obtain ⟨j, rfl⟩ := Int.eq_ofNat_of_zero_le h0
  have hj : j < xs.toArray.size := by simpa using hn
  have hx' : xs.toArray[j]? = some xs.toArray[j] := Array.getElem?_eq_getElem hj
  show wpAny _ _ ((seqItemAt l j >>= fun r => pure (r.map (j, ·))) >>= _) _ _ s
  refine wpAny_bind (wpAny_bind (wpAny_seqItemAt hl rfl (wpAny_pure ?_)))
  rw [hx']
  show wpAny _ _ (setSeqItemAt l j v >>= _) _ _ s
  refine wpAny_bind (wpAny_setSeqItemAt hl rfl ?_)
  have hg : (s.heap.update l (Obj.mapSeq (·.setIfInBounds j v))).get? l = some (listO (xs.set j v) c) := by
    rw [mapSeq_get hl]
    have e : xs.toArray.setIfInBounds j v = (xs.set j v).toArray := by simp
    rw [e]
    simp
  have hfin := h _ (F.set (t := s.toks) (Mut.of_cls (by simp) (by simp)) (Heap.SameBut.update ..) hg off)
  first
    | exact wpAny_bind (wpAny_pure (wpAny_pure ⟨.none, rfl, wpAny_pure hfin⟩))
    | exact wpAny_pure ⟨.none, rfl, wpAny_pure hfin⟩
/-! an accumulator's slices -/
theorem kind_gi : builtinKind "list.__getitem__" = some .method := by decide +kernel
theorem split_gi : splitId "list.__getitem__" = some ("list", "__getitem__") := by decide +kernel
theorem plain_gi : plainId "list.__getitem__" = true := by decide +kernel
theorem args_gi (a b : Value) : argsOk "list.__getitem__" ⟨[a, b], []⟩ := by unfold argsOk; kernel_rfl
theorem kind_si : builtinKind "list.__setitem__" = some .slot := by decide +kernel
theorem split_si : splitId "list.__setitem__" = some ("list", "__setitem__") := by decide +kernel
theorem plain_si : plainId "list.__setitem__" = true := by decide +kernel
theorem slA {value slice : Expr} {sl : Addr} {lv uv : Value} {lo hi : Option Int} (T : Tp G w K) (F : Fm G s L m R) (ha : (a, accO aC d vs n) ∈ R) (hd : (d, dicO w sz k t) ∈ R) (hsl : (sl, sliO lv uv .none) ∈ R) (pl : IsPart lv lo) (pu : IsPart uv hi) (hz : vs.length ≤ 1000)
    (h : ∀ b s', (∀ p ∈ R, p.1 < b) → L < b → Fm G s' L m ((b, listO (slicePick vs.toArray lo hi none).toList 0) :: R) → Q (.ref b) s')
    (hs : subscripted slice false (.ref a) (.ref sl) = operate [.ref sl, .ref a] (getItem (.ref a) (.ref sl))) :
    wpAny (model pw w) A (subscriptTail value slice (.ref a) (.ref sl)) Q E s := by
  have X := T.inK.keeps F.keep
  have I := F.accAt ha hd
  unfold subscriptTail getitemInPython specialOf
  refine wpAny_bind (wpAny_bind (wpAny_bind (I.inst.type.here ((looks_findIn X T.cls.getitem).here ?_))))
  dsimp only
  refine wpAny_pure ?_
  rw [hs]
  refine wpAny_bind (PyProof.Rows.wpAny_operate' ?_)
  unfold getItem
  refine wpAny_holding (wpAny_bind (seqKeyA X T.cls I (wpAny_bind (specA X I T.cls.getitem (fun self => slot_list_getitem.bind self) ?_))))
  refine callA X T.cls I (.inl kind_gi) split_gi (args_gi _ _) plain_gi entry_list_getitem ?_
  refine b_getslice I.acc (F.get hsl) pl pu (by (first | lia | omega)) ?_
  have fin := h _ _ (fun p hp => F.lt hp) F.ltL (F.push (t := s.toks) (listO (slicePick vs.toArray lo hi none).toList 0))
  refine wpAny_pure (wpAny_bind (wpAny_letTemporaryGo (wpAny_pure ?_)))
  simpa using fin
theorem stSlA {sl : Addr} {lv uv : Value} {lo hi : Option Int} {ys : List Value} {c : Nat} {Q : Unit → Shared → Prop} (T : Tp G w K) (F : Fm G s L m ((a, accO aC d vs n) :: R)) (hd : (d, dicO w sz k t) ∈ R) (off : ∀ p ∈ R, p.1 ≠ a) (hsl : (sl, sliO lv uv .none) ∈ R) (hl : (l, listO ys c) ∈ R)
    (pl : IsPart lv lo) (pu : IsPart uv hi) (hz : vs.length ≤ 1000) (hz2 : ys.length ≤ 1000)
    (h : ∀ s' n', Fm G s' L m ((a, accO aC d (putSlice vs ys lo hi) n') :: R) → Q () s') :
    wpAny (model pw w) A (setItem (.ref a) (.ref sl) (.ref l)) Q E s := by
  have X := T.inK.keeps F.keep
  have I := F.accAt (a := a) (List.mem_cons_self ..) (List.mem_cons_of_mem _ hd)
  unfold setItem
  refine wpAny_holding (wpAny_bind (seqKeyA X T.cls I (wpAny_bind (specA X I T.cls.setitem (fun self => slot_list_setitem.bind self) ?_))))
  refine callA X T.cls I (.inr kind_si) split_si (args_list_setitem _ _ _) plain_si entry_list_setitem ?_
  refine b_setslice I.acc (F.get (List.mem_cons_of_mem _ hsl)) (F.get (List.mem_cons_of_mem _ hl)) (Ne.symm (off _ hl)) pl pu (by (first | lia | omega)) (by (first | lia | omega)) fun h' n' hs hg => ?_
  exact wpAny_pure (h _ n' (F.set (t := s.toks) (Mut.of_cls (by simp) (by simp)) hs hg off))
end
section
open PySem PySem.Spec PySem.Calls PyProof.Rows PySem.W PySem.W.X Builtin Builtin.ObjectAttr
theorem refuse_list (self : Value) : refuseLoop self "__setattr__" [.type "list", .type "object"] = pure () := by kernel_rfl
theorem refuse_acc (self : Value) (C : Addr) : refuseLoop self "__setattr__" [.ref C, .type "list", .type "object"] = pure () := by rw [refuseLoop_ref]; exact refuse_list self
section
variable {prog : Program} {w : World} {A : Around} {s : Shared} {K : Frag} {C x dx : Addr} {Rr : Result → Shared → Prop}
theorem osaA {ox od od' : Obj} {cd : ClassData} {name : Str} {tk : Tok} {v : Value} {es : List DictEntry} {n : Nat} (X : K.In s.heap) (I : InstAt s.heap x ox C (some od)) (hd : ox.dict = some dx)
    (hc : clsIn K C = some cd) (hmro : cd.mro = [.ref C, .type "list", .type "object"]) (hdict : cd.hasDict = true) (ht : takerIn K C name = some none) (hl : (lookIn name od).isSome = true)
    (e : Obj.putName name (PyData.keyHash w.params name) (.str name s.toks) v od = od') (e' : od'.data = .dict es.toArray n) (hz : es.length ≤ 1000)
    (h : ∀ h', Heap.SameBut dx s.heap h' → h'.get? dx = some od' → Rr (.ok (.ret .none)) { s with heap := h', toks := s.toks + 1 }) :
    codeAny (model prog w) A (.call (.builtin "object.__setattr__") ⟨[.ref x, .str name tk, v], []⟩) Rr s := by
  have SF := PySem.F.store_object
  have sub : Looks (model prog w) s.heap (isInstance (.ref x) (.type "object")) true := I.type.andThen (looks_mroIn X (by unfold mroIn; rw [hc, Option.bind_some, if_neg (by rw [hmro]; simp), hmro]; simp))
  refine codeAny_call_builtin SF.slot.plain SF.entry (@check_slot (model prog w) _ _ s "object.__setattr__" "object" "__setattr__" (.ref x) [.str name tk, v] [] _ SF.kind SF.split sub (SF.args (.ref x) (.str name tk) v) ?_)
  obtain ⟨attr, ha, hr⟩ := Option.bind_eq_some_iff.mp ht
  have hm : Looks (model prog w) s.heap (mroOf (.ref C)) cd.mro := (looks_clsIn X hc).andThen .now
  have L3 : Looks (model prog w) s.heap (storeTaker? attr) none := by
    cases attr with
    | none => exact .now
    | some a =>
      obtain ⟨b, hb, e9⟩ := Option.map_eq_some_iff.mp hr
      refine (looks_takesIn X hb).andThen ?_
      cases b <;> first | exact .now | cases e9
  rw [osa_eq, refuse_eq]
  refine wpAny_bind (wpAny_bind (I.type.here (wpAny_bind (hm.here ?_))))
  rw [hmro, refuse_acc]
  refine wpAny_pure (wpAny_bind (I.type.here (wpAny_bind ((looks_findIn X ha).here (wpAny_bind (L3.here ?_))))))
  dsimp only
  have D : s.heap.get? dx = some od := by have := I.dict; rw [hd] at this; exact this
  obtain ⟨hx, hcl, hn, -⟩ := I
  obtain ⟨oc, odi, oda, osl⟩ := ox
  dsimp only at hcl hd
  subst hcl hd
  refine wpAny_bind (wpAny_pure (wpAny_bind (wpAny_bind (wpAny_loadPart hx (wpAny_bind ((looks_clsIn X hc).here ?_))))))
  rw [hdict]
  refine wpAny_pure (a := some dx) (wpAny_bind (wpAny_pure (wpAny_bind ?_)))
  unfold nsSet
  refine wpAny_bind (wpAny_bind (wpAny_askSetting (wpAny_pure (wpAny_bind (wpAny_mkText (wpAny_bind (wpAny_loadPart D ?_)))))))
  have D' : (s.heap.update dx (Obj.putName name (PyData.keyHash w.params name) (.str name s.toks) v)).get? dx = some od' := by
    rw [Heap.get?_update_self _ D (by rw [e]; obtain ⟨_, _, dd, _⟩ := od'; cases e'; rfl), e]
  unfold lookIn at hl
  split at hl
  · rename_i es₀ n₀ q
    rw [q]
    dsimp only
    have c : (!es₀.any (·.key.isStr name) && es₀.any (·.refKey)) = false := by
      rw [← Array.any_toList, ← Array.any_toList]
      split at hl
      · rename_i en he
        rw [List.any_eq_true.mpr ⟨en, List.mem_of_find?_eq_some he, List.find?_some he⟩]; rfl
      · split at hl
        · cases hl
        · rename_i z; rw [Bool.not_eq_true] at z; rw [z, Bool.and_false]
    rw [aRefKeyMayBeTheName_at, c]
    refine wpAny_updatePart D ?_
    refine wpAny_bind (wpAny_lookBehind D' (by rw [e']; exact pastItsLine_dict (by rw [List.size_toArray, sizeLine_eq]; (first | lia | omega))) ?_)
    exact wpAny_pure (h _ (Heap.SameBut.update ..) D')
  · cases hl
end
section
variable {w : World} {A : Around} {E : Value → Shared → Prop} {G : Gd} {s : Shared} {R : Led} {L : Addr} {m : Str → Option Value} {K : Frag} {a d l : Addr} {vs xs : List Value} {n : Nat} {sz : Int} {k t : Tok} {env : Env}
/-- self._initial_size = an int, on a fresh object or an old one -/
theorem setA0 {i : Int} {u : Tok} {Q : Unit → Shared → Prop} (T : Tp G w K) (F : Fm G s L m ((d, emptyDict) :: R)) (ha : (a, accO aC d vs n) ∈ R) (off : ∀ p ∈ R, p.1 ≠ d)
    (h : ∀ s' k, Fm G s' L m ((d, dicO w i k u) :: R) → Q () s') : wpAny (model pw w) A (setAttr (.ref a) "_initial_size" (.int i u)) Q E s := by
  have X := T.inK.keeps F.keep
  obtain ⟨cd, hcd, hmro, _⟩ := T.cdat
  have hdict : cd.hasDict = true := by
    have := T.cls.hasDict
    unfold hasDictIn at this
    rw [hcd] at this
    exact this
  have I : InstAt s.heap a (accO aC d vs n) aC (some emptyDict) := ⟨F.get (List.mem_cons_of_mem _ ha), rfl, rfl, F.get (List.mem_cons_self ..)⟩
  refine set_plain X I T.cls.sa ?_
  refine osaA (s := { s with toks := s.toks + 1 }) (dx := d) X I rfl hcd hmro hdict T.cls.takes rfl (od' := dicO w i (s.toks + 1) u) ?_ rfl (by simp) fun h' hs hg => ?_
  · rw [show emptyDict = dictOf [] 0 from rfl, putName_dict]
    rfl
  · exact h _ _ (F.set (t := s.toks + 1 + 1) (Mut.of_cls (by simp) (by simp)) hs hg off)
theorem setA {i : Int} {u : Tok} {Q : Unit → Shared → Prop} (T : Tp G w K) (F : Fm G s L m ((d, dicO w sz k t) :: R)) (ha : (a, accO aC d vs n) ∈ R) (off : ∀ p ∈ R, p.1 ≠ d)
    (h : ∀ s' k, Fm G s' L m ((d, dicO w i k u) :: R) → Q () s') : wpAny (model pw w) A (setAttr (.ref a) "_initial_size" (.int i u)) Q E s := by
  have X := T.inK.keeps F.keep
  obtain ⟨cd, hcd, hmro, _⟩ := T.cdat
  have hdict : cd.hasDict = true := by
    have := T.cls.hasDict
    unfold hasDictIn at this
    rw [hcd] at this
    exact this
  have I : InstAt s.heap a (accO aC d vs n) aC (some (dicO w sz k t)) := ⟨F.get (List.mem_cons_of_mem _ ha), rfl, rfl, F.get (List.mem_cons_self ..)⟩
  refine set_plain X I T.cls.sa ?_
  refine osaA (s := { s with toks := s.toks + 1 }) (dx := d) X I rfl hcd hmro hdict T.cls.takes ?_ (od' := dicO w i k u) ?_ rfl (by simp) fun h' hs hg => ?_
  · have e : lookIn "_initial_size" (dicO w sz k t) = some (some (.int sz t)) := by kernel_rfl
    rw [e]; rfl
  · rw [putName_dict]
    have e1 : putL "_initial_size" (PyData.keyHash w.params "_initial_size") (.str "_initial_size" (s.toks + 1)) (.int i u) [⟨PyData.keyHash w.params "_initial_size", .str "_initial_size" k, .int sz t⟩] = [⟨PyData.keyHash w.params "_initial_size", .str "_initial_size" k, .int i u⟩] := by kernel_rfl
    have e2 : putN "_initial_size" [⟨PyData.keyHash w.params "_initial_size", .str "_initial_size" k, .int sz t⟩] 1 = 1 := by kernel_rfl
    rw [e1, e2]
  · exact h _ _ (F.set (t := s.toks + 1 + 1) (Mut.of_cls (by simp) (by simp)) hs hg off)
theorem getA {Q : Value → Shared → Prop} (T : Tp G w K) (F : Fm G s L m R) (ha : (a, accO aC d vs n) ∈ R) (hd : (d, dicO w sz k t) ∈ R) (h : ∀ s', Fm G s' L m R → Q (.int sz t) s') : wpAny (model pw w) A (getAttr (.ref a) "_initial_size" true) Q E s := by
  refine getOwnA (T.inK.keeps F.keep) T.cls (F.accAt ha hd) (findObj_own T.cls.hasDict T.cls.isz rfl ?_) rfl (h _ (F.toks _))
  have e : getL "_initial_size" [⟨PyData.keyHash w.params "_initial_size", .str "_initial_size" k, .int sz t⟩] = some (some (.int sz t)) := by kernel_rfl
  exact e
end
section
variable {M : Model} {A : Around} {E : Value → Shared → Prop} {s : Shared} {env : Env}
/-- o.attr, o a name -/
theorem rAttr {x : Str} {p pos : Pos} {attr : Str} {Q : Value → Shared → Prop} (h : wpAny M A (eval (.Name x p) env) (fun o s₁ => wpAny M A (getAttr o attr true) Q E s₁) E s) :
    wpAny M A (eval (.Attribute (.Name x p) attr pos) env) Q E s := by
  show wpAny M A (do
    let o ← eval (.Name x p) env
    standAt pos.atName
    let r ← holding [o] (getAttr o attr true)
    letTemporaryGo (.Name x p) o r
    pure r) Q E s
  refine wpAny_bind (wpAny_mono h (fun o s₁ h₁ => wpAny_bind (wpAny_standAt (wpAny_bind (wpAny_holding (wpAny_mono h₁ (fun r s₂ h₂ => ?_) fun _ _ x => x))))) fun _ _ x => x)
  exact wpAny_bind (wpAny_pure (wpAny_pure h₂))
end
end
section
variable {w : World} {A : Around} {E : Value → Shared → Prop} {G : Gd} {s : Shared} {R : Led} {L : Addr} {m : Str → Option Value} {K : Frag} {a d l : Addr} {vs xs : List Value} {n : Nat} {sz : Int} {k t : Tok} {env : Env}
theorem superB {f cd : Addr} {st : Stmt} {qual : Str} {dV : Value} {body : List Stmt} {p0 p1 : Pos} {attr : Str} {whole : Sem Value} {ar : Arg} {Q : Value → Shared → Prop}
    (T : Tp G w K) (F : Fm G s L m R) (fn : FnIs G.B f st qual clsCell cd dV) (file : FileIs G.B cd) (hp : ((fParams st).posonlyargs ++ (fParams st).args).head? = some ar) (hself : m ar.arg = some (.ref a)) (ha : (a, accO aC d vs n) ∈ R)
    (hat : (attr == ("__class__" : Str)) = false) (hks : (fScope st).names.lookup ("super" : Str) = some .globalImplicit) (hkc : (fScope st).names.lookup ("__class__" : Str) = some .free) (hka : (fScope st).names.lookup ar.arg = some .local) (hk : (fScope st).kind = .function)
    (htop : (pw.main.scope.names.lookup ("super" : Str)).isSome = false)
    (h : ∀ so s', (∀ p ∈ R, p.1 < so) → L < so → Fm G s' L m ((so, supO aC a aC) :: R) → Q (.ref so) s') :
    _root_.PySem.wpAt (model pw w) A (.func body (envX qual (fScope st) L f (.ref cd) clsCell)) (attributeBase (.Call (.Name "super" p0) [] [] p1) attr (envX qual (fScope st) L f (.ref cd) clsCell) whole) Q E s := by
  have X : K.In s.heap := T.inK.keeps F.keep
  obtain ⟨pm, ct, ⟨o, ho, hd⟩, hcd⟩ := fn
  obtain ⟨oc, cvs, tf, file, hoc, hvs, hv2, hfile⟩ := file
  obtain ⟨cdat, hcl, hmro, _⟩ := T.cdat
  obtain ⟨oD, hD1, hD2⟩ : ∃ oD, s.heap.get? aC = some oD ∧ oD.data = .cls cdat := by
    have hD := hcl
    unfold clsIn at hD
    split at hD
    · rename_i c d cd' sl ho
      cases hD
      exact ⟨_, X _ _ ho, rfl⟩
    · cases hD
  obtain ⟨mg, mb, hn, he, hb, hv⟩ := T.gbi (x := "super") (v := .type "super") (by kernel_rfl)
  obtain ⟨ocell, hcell, hcelld⟩ := T.cell
  obtain ⟨hh, g, dr, tk, os⟩ := s
  refine ks_wpAt_super_base (env := envX qual (fScope st) L f (.ref cd) clsCell) hks hkc hat rfl (F.keep _ _ ho) hd hp rfl (F.keep _ _ hoc) hvs hv2 hfile htop ?_
  refine ks_loadName_global hk hks (loadGlobal_builtin (env := envX qual (fScope st) L f (.ref cd) clsCell) (hn.keeps F.keep) he (hb.keeps F.keep) hv ⟨rfl, ?_⟩)
  refine wpAny_loadName_free hk hkc rfl ⟨_, F.keep _ _ hcell, hcelld⟩ ?_
  refine wpAny_loadName_local hk hka F.ns hself ?_
  refine ks_wpAny_isType_cls hD1 hD2 ⟨rfl, ?_⟩
  refine ks_wpAny_call_super (C := aC) hD1 hD2 (F.get ha) rfl (fun c e => by cases e) (looks_mroIn X ?_) (fun h' e kp => ?_)
  · unfold mroIn; rw [hcl, Option.bind_some, if_neg (by rw [hmro]; simp), hmro]; rfl
  · have hz : hh.objs.size < h'.objs.size := Heap.lt_size e
    refine h _ _ (fun p hp => F.lt hp) F.ltL ⟨(F.toSt.grow (s' := ⟨h', g, dr, tk, os⟩) kp (Nat.le_of_lt hz) F.gens rfl).cons e (F.fresh (Nat.le_refl _)) (F.fromP (Nat.le_refl _)), F.ns.keeps kp, fun p hp => ?_, F.new, F.abv⟩
    rcases List.mem_cons.mp hp with rfl | hp
    · exact Nat.ne_of_gt F.ltL
    · exact F.off p hp
/-- list's own method through super -/
theorem superM {id T gid bt : String} {b : Builtin} {so : Addr} {name : Str} {pl : Sem Bool} {Q : Value × List Value → Shared → Prop}
    (Tt : Tp G w K) (F : Fm G s L m R) (ha : (a, accO aC d vs n) ∈ R) (hso : (so, supO aC a aC) ∈ R)
    (hslot : Slot T "__get__" gid) (hent : entryFor table gid = some b) (hargs : ∀ a b c : Value, argsOk gid ⟨[a, b, c], []⟩) (hT : ∀ s : Shared, s.TypeIs (.builtin id) T)
    (hf : alongIn K name [.type "list", .type "object"] = some (some (.builtin id))) (hn : (name == ("__class__" : Str)) = false)
    (hb : ∀ (h : Heap) g dr os A (Q : Fin → Shared → Prop) E t, h.get? a = some (accO aC d vs n) → Looks (model pw w) h (isSubtype (.ref aC) (.type "list")) true → Q (.done (.ret (.ref h.objs.size))) ⟨h.push (bndO bt (.builtin id) a), g, dr, t, os⟩ → wpAny (model pw w) A (b ⟨[.builtin id, .ref a, .ref aC], []⟩) Q E ⟨h, g, dr, t, os⟩)
    (h : ∀ bo s', (∀ p ∈ R, p.1 < bo) → L < bo → Fm G s' L m ((bo, bndO bt (.builtin id) a) :: R) → Q (.ref bo, []) s') :
    wpAny (model pw w) A (getMethod (.ref so) name pl) Q E s := by
  have X : K.In s.heap := Tt.inK.keeps F.keep
  obtain ⟨cdat, hcl, hmro, _⟩ := Tt.cdat
  have hC : Looks (model pw w) s.heap (mroOf (.ref aC)) cdat.mro := (looks_clsIn X hcl).andThen .now
  have hsub : Looks (model pw w) s.heap (isSubtype (.ref aC) (.type "list")) true := looks_mroIn X Tt.cls.sub
  have hne : a ≠ aC := by
    intro e
    have h1 := F.get ha
    rw [e] at h1
    have hD := hcl
    unfold clsIn at hD
    split at hD
    · rename_i c d cd' sl ho
      rw [X _ _ ho] at h1
      cases h1
    · cases hD
  obtain ⟨hh, g, dr, tk, os⟩ := s
  refine superMeth hslot hent hargs hT (F.get hso) (looks_opaque X Tt.noThird) hC (by rw [hmro]; rfl) X hf hne hn (fun A Q E t z => hb hh g dr os A Q E t (F.get ha) hsub z) ?_
  exact h _ _ (fun p hp => F.lt hp) F.ltL (F.push (t := tk + 1) _)
theorem own_init : ".".intercalate ("list.__init__".cutAt '.').dropLast = "list" := by decide +kernel
theorem own_len : ".".intercalate ("list.__len__".cutAt '.').dropLast = "list" := by decide +kernel
theorem own_pop : ".".intercalate ("list.pop".cutAt '.').dropLast = "list" := by decide +kernel
theorem told_pop : Manifest.toldItsClass.contains "list.pop" = false := by decide +kernel
theorem superM_init {so : Addr} {pl : Sem Bool} {Q : Value × List Value → Shared → Prop} (Tt : Tp G w K) (F : Fm G s L m R) (ha : (a, accO aC d vs n) ∈ R) (hso : (so, supO aC a aC) ∈ R)
    (h : ∀ bo s', (∀ p ∈ R, p.1 < bo) → L < bo → Fm G s' L m ((bo, bndO "method-wrapper" (.builtin "list.__init__") a) :: R) → Q (.ref bo, []) s') : wpAny (model pw w) A (getMethod (.ref so) "__init__" pl) Q E s :=
  superM Tt F ha hso slot_wd_get entry_wd_get args_wd_get (typeIs_bi (by kernel_rfl)) (by kernel_rfl) (by decide) (fun hh g dr os A Q E t hx hs hq => wdGet own_init hx rfl hs hq) h
theorem superM_len {so : Addr} {pl : Sem Bool} {Q : Value × List Value → Shared → Prop} (Tt : Tp G w K) (F : Fm G s L m R) (ha : (a, accO aC d vs n) ∈ R) (hso : (so, supO aC a aC) ∈ R)
    (h : ∀ bo s', (∀ p ∈ R, p.1 < bo) → L < bo → Fm G s' L m ((bo, bndO "method-wrapper" (.builtin "list.__len__") a) :: R) → Q (.ref bo, []) s') : wpAny (model pw w) A (getMethod (.ref so) "__len__" pl) Q E s :=
  superM Tt F ha hso slot_wd_get entry_wd_get args_wd_get (typeIs_bi (by kernel_rfl)) (by kernel_rfl) (by decide) (fun hh g dr os A Q E t hx hs hq => wdGet own_len hx rfl hs hq) h
theorem superM_pop {so : Addr} {pl : Sem Bool} {Q : Value × List Value → Shared → Prop} (Tt : Tp G w K) (F : Fm G s L m R) (ha : (a, accO aC d vs n) ∈ R) (hso : (so, supO aC a aC) ∈ R)
    (h : ∀ bo s', (∀ p ∈ R, p.1 < bo) → L < bo → Fm G s' L m ((bo, bndO "builtin_function_or_method" (.builtin "list.pop") a) :: R) → Q (.ref bo, []) s') : wpAny (model pw w) A (getMethod (.ref so) "pop" pl) Q E s :=
  superM Tt F ha hso slot_md_get entry_md_get args_md_get (typeIs_bi (by kernel_rfl)) (by kernel_rfl) (by decide) (fun hh g dr os A Q E t hx hs hq => mdGet own_pop told_pop hx rfl hs hq) h
/-- the bound method called -/
theorem cwBnd {M : Model} {pos : Pos} {b x : Addr} {id bt : String} {Q : Value → Shared → Prop} (hb : s.heap.get? b = some (bndO bt (.builtin id) x)) (hbt : bt = "method-wrapper" ∨ bt = "builtin_function_or_method")
    (h : wpAny M A (call (.ref b) []) Q E s) : wpAny M A (callWith pos (.ref b) [] (backTo pos (starEach [] env)) []) Q E s :=
  cw (fun h => h.get? b = some (bndO bt (.builtin id) x)) (fun h hk => ⟨.machine, .inr (.inl rfl), keep_bnd hk hbt⟩) (wpAny_items_nil ⟨hb, h⟩) rfl
theorem plain_init : plainId "list.__init__" = true := by decide +kernel
theorem plain_len : plainId "list.__len__" = true := by decide +kernel
theorem plain_pop : plainId "list.pop" = true := by decide +kernel
theorem ent_init : entryFor table "list.__init__" = some Builtin.«list.__init__» := entryFor_of_tree (by kernel_rfl)
theorem ent_len : entryFor table "list.__len__" = some Builtin.«list.__len__» := entryFor_of_tree (by kernel_rfl)
theorem ent_pop : entryFor table "list.pop" = some Builtin.«list.pop» := entryFor_of_tree (by kernel_rfl)
theorem callInit {b : Addr} {Q : Value → Shared → Prop} (F : Fm G s L m ((a, accO aC d vs n) :: R)) (hb : (b, bndO "method-wrapper" (.builtin "list.__init__") a) ∈ R) (off : ∀ p ∈ R, p.1 ≠ a) (hz : vs.length ≤ 1000)
    (h : ∀ s' n', Fm G s' L m ((a, accO aC d [] n') :: R) → Q .none s') : wpAny (model pw w) A (call (.ref b) []) Q E s := by
  refine callBnd (F.get (List.mem_cons_of_mem _ hb)) (.inl rfl) plain_init ent_init (bound_init ?_)
  have ho := F.get (List.mem_cons_self ..)
  show wpAny _ _ (Builtin.List.listItems (.ref a) >>= _) _ _ _
  refine wpAny_bind (items_of ho ?_)
  refine wpAny_bind (m := updateSeq a _) (wpAny_updateSeq ho rfl ?_ (by simp [sizeLine]; (first | lia | omega)) (by simp [sizeLine]))
  refine wpAny_bind (letGo_any ?_)
  refine wpAny_pure (h _ (if (#[] : Array Value).size == vs.toArray.size then n else n + 1) (F.set (t := s.toks) (Mut.of_cls (by simp) (by simp)) (Heap.SameBut.update ..) ?_ off))
  rw [mapSeq_get ho]
theorem callLen {b : Addr} {Q : Value → Shared → Prop} (F : Fm G s L m R) (ha : (a, accO aC d vs n) ∈ R) (hb : (b, bndO "method-wrapper" (.builtin "list.__len__") a) ∈ R)
    (h : ∀ t s', Fm G s' L m R → Q (.int vs.length t) s') : wpAny (model pw w) A (call (.ref b) []) Q E s := by
  refine callBnd (F.get hb) (.inl rfl) plain_len ent_len (bound_len ?_)
  have ho := F.get ha
  show wpAny _ _ (seqSize a >>= fun z => retInt z) _ _ _
  unfold seqSize
  refine wpAny_bind (wpAny_bind (wpAny_loadPart ho (wpAny_pure ?_)))
  refine wpAny_bind (wpAny_bind (wpAny_fresh (wpAny_pure (wpAny_pure ?_))))
  have := h s.toks _ (F.toks (s.toks + 1))
  simpa [BiEnd] using this
theorem callPop {b : Addr} {x : Value} {Q : Value → Shared → Prop} (Tt : Tp G w K) (F : Fm G s L m ((a, accO aC d (vs ++ [x]) n) :: R)) (hb : (b, bndO "builtin_function_or_method" (.builtin "list.pop") a) ∈ R) (off : ∀ p ∈ R, p.1 ≠ a) (hz : vs.length ≤ 1000)
    (h : ∀ s', Fm G s' L m ((a, accO aC d vs (n + 1)) :: R) → Q x s') : wpAny (model pw w) A (call (.ref b) []) Q E s := by
  have X : K.In s.heap := Tt.inK.keeps F.keep
  obtain ⟨cdat, hcl, hmro, hqn⟩ := Tt.cdat
  have ho := F.get (List.mem_cons_self ..)
  refine callBnd (F.get (List.mem_cons_of_mem _ hb)) (.inr rfl) plain_pop ent_pop (bound_pop X ho rfl (fun c e => by cases e) hcl hqn Tt.modNo Tt.typC ?_)
  refine b_pop ho (by (first | lia | omega)) fun h' hs hg => ?_
  exact h _ (F.set (t := s.toks) (Mut.of_cls (by simp) (by simp)) hs hg off)
end
local macro_rules | `(tactic| walk_at "tail") => `(tactic| first | with_reducible exact fun _ h => h | with_reducible assumption | (with_reducible refine sub_skip ?_; walk_at "tail") | (with_reducible refine sub_left ?_; walk_at "tail") | (with_reducible refine sub_right ?_; walk_at "tail"))
local macro_rules | `(tactic| walk_at "sub") => `(tactic| first | with_reducible exact fun _ h => h | with_reducible exact sub_nil | (with_reducible refine sub_cons ?_ ?_; (· walk_at "mem"); walk_at "sub") | (with_reducible refine sub_app ?_ ?_ <;> walk_at "sub") | walk_at "tail" | (intro q hq; simp only [List.mem_cons, List.mem_append, List.not_mem_nil, or_false, false_or] at hq ⊢; first | grind | ((repeat' (refine Or.elim hq ?_ ?_ <;> clear hq <;> intro hq)) <;> simp only [hq, true_or, or_true])))
local macro_rules | `(tactic| walk_at "o") => `(tactic| first | with_reducible assumption | with_reducible decide | with_reducible exact lt63 (by assumption) | with_reducible exact Nat.le_trans (by assumption) (by decide) | lia | omega)
local macro_rules | `(tactic| walk_at "mem") => `(tactic| first | with_reducible assumption | with_reducible exact List.mem_cons_self .. | (with_reducible refine List.mem_cons_of_mem _ ?_; walk_at "mem") | (with_reducible refine List.mem_append_left _ ?_; walk_at "mem") | (with_reducible refine List.mem_append_right _ ?_; walk_at "mem"))

section
variable {prog : Program} {w : World} {A : Around} {I : Addr} {fp wr : List Addr} {G : Array GenState → Array GenState → Prop} {n : Nat} {P : Nat → Value → Prop} {St : Nat → Shared → Prop}
/-- the same walk, one place further on -/
theorem walkShift (W : WalksS prog w A I fp wr G n P St) : WalksS prog w A I fp wr G (n + 1) (fun j v => match j with | 0 => False | j + 1 => P j v) (fun j s => match j with | 0 => False | j + 1 => St j s) where
  sub := W.sub
  grefl := W.grefl
  gtrans := W.gtrans
  frame := fun i s h' tk hs ht hk => match i, hs with | j + 1, hs => W.frame j s h' tk hs ht hk
  item := fun i s Q E hi hs h => match i, hi, hs with | j + 1, hi, hs => W.item j s Q E (Nat.lt_of_succ_lt_succ hi) hs fun v s' hP hS hM => h v s' hP hS hM
  done := fun s Q E hs h => W.done s Q E hs h
  self := fun i s Q E hs h => match i, hs with | j + 1, hs => W.self j s Q E hs h
def shiftV (z : Int) (val : Nat → Int) : Nat → Int
  | 0 => z
  | j + 1 => val j
theorem preSum_shift (z : Int) (val : Nat → Int) : ∀ n, preSum (shiftV z val) (n + 1) = z + preSum val n
  | 0 => by simp [preSum, shiftV]
  | n + 1 => by
    have ih := preSum_shift z val n
    show preSum (shiftV z val) (n + 1) + val n = z + (preSum val n + val n)
    rw [ih]; (first | lia | omega)
end
section
variable {prog : Program} {w : World} {A : Around} {E : Value → Shared → Prop} {s : Shared}
theorem args_sum2 (a b : Value) : argsOk "sum" ⟨[a, b], []⟩ := by unfold argsOk; kernel_rfl
theorem sum2 {x : Value} {z : Int} {tz : Tok} {Q : Value → Shared → Prop} (hz : (decide (-(2 ^ 63) ≤ z) && decide (z < 2 ^ 63)) = true)
    (h : wpAny (model prog w) A.in1 (pyIter x) (fun it s₂ => ∃ I fp wr G n P St val, it = .ref I ∧ WalksS prog w A.in1 I fp wr G n P St ∧ St 0 s₂ ∧ (∀ b ∈ fp, b < s₂.heap.objs.size) ∧
      (∀ i v, P i v → ∃ t, v = .int (val i) t) ∧
      ∀ s' t', Moved wr G s₂ s' → Q (.int (z + preSum val n) t') s') E s) :
    wpAny (model prog w) A (call (.builtin "sum") [x, .int z tz]) Q E s := by
  refine call_function_tree F.kind_sum F.plain_sum F.entry_sum (args_sum2 _ _) ?_
  unfold Builtin.«sum»
  simp only [List.length_cons, List.length_nil]
  rw [if_neg (by decide)]
  refine wpAny_bind (wpAny_of_eq (show Builtin.Builtins.bindParams "sum" ["start"] 0 ⟨[.int z tz], []⟩ = pure [some (.int z tz)] from rfl) ?_)
  refine wpAny_bind (wpAny_mono h (fun it s₂ h₂ => ?_) fun _ _ e => e)
  obtain ⟨I, fp, wr, G, n, P, St, val, rfl, W, hst, hfp, hval, hQ⟩ := h₂
  dsimp only
  split
  rotate_left
  · rename_i hn
    exact absurd hz hn
  refine wpAny_bind (wpAny_rule ?_)
  refine wpAny_bind (wpAny_mkInt ?_)
  refine wpAny_bind (wpAny_pure ?_)
  simp only [List.forIn_cons, List.forIn_nil]
  refine wpAny_bind (wpAny_bind (wpAny_bind (wpAny_isInstance (T := "int") (b := false) (typeIs_int _ _ _) PySem.sub_int_str ?_)))
  simp only [Bool.false_eq_true, if_false]
  refine wpAny_pure (wpAny_bind (wpAny_bind (wpAny_isInstance (T := "int") (b := false) (typeIs_int _ _ _) PySem.sub_int_bytes ?_)))
  simp only [Bool.false_eq_true, if_false]
  refine wpAny_pure (wpAny_bind (wpAny_bind (wpAny_isInstance (T := "int") (b := false) (typeIs_int _ _ _) PySem.sub_int_bytearray ?_)))
  simp only [Bool.false_eq_true, if_false]
  refine wpAny_pure (wpAny_pure ?_)
  refine wpAny_bind (wpAny_newObj_type ?_)
  have hSf : s₂.heap.objs.size ∉ fp := fun hm => Nat.lt_irrefl _ (hfp _ hm)
  refine wpAny_pure ⟨plainId_quiet F.plain_sum_loop _, codeAny_sum_loopAnyS (walkShift W) (shiftV z val) (fun i v hp => match i, hp with | j + 1, hp => hval j v hp) s₂.heap.objs.size hSf n 1 _ s₂.toks 0 0 (.inl rfl) (by (first | lia | omega)) (by (first | lia | omega))
    (W.frame 0 s₂ _ _ hst (by first | exact Nat.le_refl _ | exact Nat.le_succ _ | omega) fun b _ o e => Heap.get?_push_of_some _ e) ?_ fun s' t' hm => ?_⟩
  · rw [show preSum (shiftV z val) 1 = z from by simp [preSum, shiftV]]
    exact Heap.get?_push_size _ rfl
  · rw [preSum_shift]
    exact hQ s' t' (hm.drop_new (by first | exact Nat.le_refl _ | exact Nat.le_succ _ | omega))
end
section
variable {prog : Program} {w : World} {A : Around} {E : Value → Shared → Prop} {s : Shared} {a it : Addr} {c : Value} {d : Option Addr} {xs : List Value} {n i : Nat} {sl : Array (Option Value)}
/-- a list's iterator over any object that holds a list's items -/
theorem next_item {x : Value} {Q : Option Value → Shared → Prop} (hit : s.heap.IsListIter it a i) (ho : s.heap.get? a = some ⟨c, d, .seq xs.toArray n, sl⟩) (hx : xs[i]? = some x)
    (hQ : ∀ h', h'.IsListIter it a (i + 1) → Heap.SameBut it s.heap h' → Q (some x) { s with heap := h' }) : wpAny (model prog w) A (pyNext (.ref it)) Q E s := by
  obtain ⟨o, hoi, hc, hd⟩ := id hit
  unfold pyNext
  refine wpAny_bind (wpAny_attempt (wpAny_callSpecial?_slot (name := Str.ofString "__next__") hit.typeIs slot_listiter_next
    (wpAny_call_entry slot_listiter_next hit.typeIs entry_listiter_next ?_ (args_listiter_next _))))
  show wpAny _ _ (field (.ref it) 0 >>= _) _ _ s
  refine wpAny_bind (wpAny_field hoi hd (x := .ref a) rfl ?_)
  show wpAny _ _ (if (Value.ref a == Value.none) = true then _ else _) _ _ s
  rw [if_neg (show ¬ ((Value.ref a == Value.none) = true) from Bool.false_ne_true)]
  show wpAny _ _ (field (.ref it) 1 >>= _) _ _ s
  refine wpAny_bind (wpAny_field hoi hd (x := .int i 0) rfl ?_)
  show wpAny _ _ (seqItems? (.ref a) >>= _) _ _ s
  refine wpAny_bind (wpAny_seqItems ho rfl ?_)
  have hx' : xs.toArray[i]? = some x := by simpa using hx
  simp only [Int.toNat_natCast, hx']
  refine wpAny_bind (wpAny_setField hoi hd (by simp) (wpAny_pure ⟨x, rfl, wpAny_pure (hQ _ ?_ (Heap.SameBut.update ..))⟩))
  exact ⟨_, Heap.get?_update_self _ hoi (Obj.isFreed_of_fields (Obj.data_mapFields hd _)), (Obj.cls_mapFields ..).trans hc, by
    rw [Obj.data_mapFields hd]; simp [rawInt]⟩
theorem next_end {Q : Option Value → Shared → Prop} (hh : A.handled = none) (hit : s.heap.IsListIter it a i) (ho : s.heap.get? a = some ⟨c, d, .seq xs.toArray n, sl⟩) (hx : xs[i]? = none)
    (hQ : ∀ h', Heap.ExtBut it s.heap h' → Q none { s with heap := h' }) : wpAny (model prog w) A (pyNext (.ref it)) Q E s := by
  obtain ⟨o, hoi, hc, hd⟩ := id hit
  unfold pyNext
  refine wpAny_bind (wpAny_attempt (wpAny_callSpecial?_slot (name := Str.ofString "__next__") hit.typeIs slot_listiter_next
    (wpAny_call_entry slot_listiter_next hit.typeIs entry_listiter_next ?_ (args_listiter_next _))))
  show wpAny _ _ (field (.ref it) 0 >>= _) _ _ s
  refine wpAny_bind (wpAny_field hoi hd (x := .ref a) rfl ?_)
  show wpAny _ _ (if (Value.ref a == Value.none) = true then _ else _) _ _ s
  rw [if_neg (show ¬ ((Value.ref a == Value.none) = true) from Bool.false_ne_true)]
  show wpAny _ _ (field (.ref it) 1 >>= _) _ _ s
  refine wpAny_bind (wpAny_field hoi hd (x := .int i 0) rfl ?_)
  show wpAny _ _ (seqItems? (.ref a) >>= _) _ _ s
  refine wpAny_bind (wpAny_seqItems ho rfl ?_)
  have hx' : xs.toArray[i]? = none := by simpa using hx
  simp only [Int.toNat_natCast, hx']
  refine wpAny_bind (wpAny_rule (wpAny_bind (wpAny_setField hoi hd (by simp) ?_)))
  show wpAny _ _ (newExc (.type "StopIteration") [] >>= _) _ _ _
  refine wpAny_bind ?_
  simp only [newExc, newTuple]
  refine wpAny_bind (wpAny_newObj_type ?_ (by size_fits))
  refine wpAny_bind (m := firstArgMember _ _) (wpAny_of_eq (a := Value.none) (by first | rfl | (simp only [firstArgMember]; rfl)) ?_)
  refine wpAny_newObj_type ?_ (by size_fits)
  simp only [raiseNew]
  refine wpAny_bind (wpAny_handled ?_)
  rw [show A.in1.handled = none from hh]
  refine wpAny_bind (wpAny_pure (wpAny_throw ?_))
  refine wpAny_bind (wpAny_isInstance (T := "StopIteration") (b := true) ⟨_, Heap.get?_push_size _ rfl, rfl⟩ isSubtype_stop ?_)
  exact wpAny_pure (hQ _ (((Heap.SameBut.update ..).extBut.push _).push _))
/-- the walk over an accumulator's pairs -/
theorem walksA (hh : A.handled = none) (I : Addr) (hne : a ≠ I) (Ts : Nat → Addr) (vals : Nat → Array Value) (hi : ∀ j, j < xs.length → xs[j]? = some (.ref (Ts j))) (hTI : ∀ j, j < xs.length → Ts j ≠ I) :
    WalksU prog w A I (I :: a :: (List.range xs.length).map Ts) [I] xs.length (fun j v => v = vals j)
      (fun j h => h.IsListIter I a j ∧ h.get? a = some ⟨c, d, .seq xs.toArray n, sl⟩ ∧ ∀ k, k < xs.length → h.IsTuple (Ts k) (vals k))
      (fun j T h => (j < xs.length ∧ T = Ts j) ∧ h.IsListIter I a (j + 1) ∧ h.get? a = some ⟨c, d, .seq xs.toArray n, sl⟩ ∧ ∀ k, k < xs.length → h.IsTuple (Ts k) (vals k)) where
  sub := fun b hb => by simp at hb; simp [hb]
  frame := fun _ _ _ st hk => ⟨st.1.at fun o e => hk I (by simp) o e, hk a (by simp) _ st.2.1,
    fun k hk' => (st.2.2 k hk').at fun o e => hk (Ts k) (List.mem_cons_of_mem _ (List.mem_cons_of_mem _ (List.mem_map.mpr ⟨k, List.mem_range.mpr hk', rfl⟩))) o e⟩
  item := fun i s Q E hlt st hQ => by
    refine next_item st.1 st.2.1 (x := .ref (Ts i)) (hi i hlt) fun h' hit' hs' => ?_
    have tup : ∀ k, k < xs.length → h'.IsTuple (Ts k) (vals k) := fun k hk' => (st.2.2 k hk').extBut hs'.extBut (hTI k hk')
    exact hQ (Ts i) (vals i) h' s.toks rfl (tup i hlt) ⟨⟨hlt, rfl⟩, hit', hs'.extBut _ _ hne st.2.1, tup⟩ fun b o hb e => hs'.extBut b o (fun h => hb (by simp [h])) e
  go := fun _ _ _ _ _ s Q _ hm hQ => wpAny_letOwnedTupleGo_listiter hm.2.1 (hQ s.heap hm.2 fun _ _ _ e => e)
  apart := fun j T _ hm hmem => by
    rcases List.mem_cons.mp hmem with e | e
    · exact hTI j hm.1.1 (hm.1.2 ▸ e)
    · cases e
  done := fun s Q E st hQ => next_end hh st.1 st.2.1 (by simp) fun h' he' => hQ h' s.toks fun b o hb e => he' b o (fun h => hb (by simp [h])) e
  self := fun _ _ _ _ st hQ => wpAny_pyIter_listiter st.1 hQ
end
section
variable {w : World} {A : Around} {E : Value → Shared → Prop} {G : Gd} {s : Shared} {R : Led} {L : Addr} {m : Str → Option Value} {K : Frag} {a d l : Addr} {vs xs : List Value} {n : Nat} {sz : Int} {k t : Tok} {env : Env}
theorem kind_li : builtinKind "list.__iter__" = some .slot := by decide +kernel
theorem split_li : splitId "list.__iter__" = some ("list", "__iter__") := by decide +kernel
theorem plain_li : plainId "list.__iter__" = true := by decide +kernel
theorem iterA {Q : Value → Shared → Prop} (T : Tp G w K) (F : Fm G s L m R) (ha : (a, accO aC d vs n) ∈ R) (hd : (d, dicO w sz k t) ∈ R)
    (h : Q (.ref s.heap.objs.size) { s with heap := s.heap.push { cls := .type "list_iterator", data := .fields #[.ref a, .int 0 0] } }) : wpAny (model pw w) A (pyIter (.ref a)) Q E s := by
  have X := T.inK.keeps F.keep
  have I := F.accAt ha hd
  unfold pyIter specialOf
  refine wpAny_bind (wpAny_bind (I.inst.type.here ((looks_findIn X T.cls.iter).here ?_)))
  dsimp only
  refine wpAny_bind ?_
  unfold callSpecialIfBoundUnlessNone? bindSpecialIfBound? specialOf
  refine wpAny_holding (wpAny_bind (wpAny_bind (wpAny_bind (I.inst.type.here ((looks_findIn X T.cls.iter).here ?_)))))
  dsimp only
  refine wpAny_bind (wpAny_askSetting ?_)
  refine wpAny_ite ?_
  have hit : (s.heap.push { cls := .type "list_iterator", data := .fields #[.ref a, .int 0 0] }).get? s.heap.objs.size = some { cls := .type "list_iterator", data := .fields #[.ref a, .int 0 0] } := Heap.get?_push_size _ rfl
  split
  · refine wpAny_bind (wpAny_of_eq (slot_list_iter.bind _) (wpAny_pure ?_))
    show wpAny _ _ (if (Value.builtin "list.__iter__" == Value.none) = true then _ else _) _ _ _
    rw [if_neg (by decide)]
    refine wpAny_bind (callA X T.cls I (.inr kind_li) split_li (args_list_iter _) plain_li entry_list_iter ?_)
    show wpAny _ _ (do ret (← newFields "list_iterator" [.ref a, rawInt 0])) _ _ s
    refine wpAny_bind (wpAny_newObj_type (wpAny_pure ?_))
    refine wpAny_pure ?_
    dsimp only
    exact wpAny_bind (wpAny_bind (wpAny_typeOf (T := "list_iterator") ⟨_, hit, rfl⟩ (wpAny_of_eq slot_listiter_next.lookup (wpAny_pure h))))
  · refine wpAny_tryCatch ?_
    refine wpAny_bind (wpAny_of_eq (slot_list_iter.bind _) (wpAny_pure ?_))
    show wpAny _ _ (if (Value.builtin "list.__iter__" == Value.none) = true then _ else _) _ _ _
    rw [if_neg (by decide)]
    refine wpAny_bind (callA X T.cls I (.inr kind_li) split_li (args_list_iter _) plain_li entry_list_iter ?_)
    show wpAny _ _ (do ret (← newFields "list_iterator" [.ref a, rawInt 0])) _ _ s
    refine wpAny_bind (wpAny_newObj_type (wpAny_pure ?_))
    refine wpAny_pure ?_
    dsimp only
    exact wpAny_bind (wpAny_bind (wpAny_typeOf (T := "list_iterator") ⟨_, hit, rfl⟩ (wpAny_of_eq slot_listiter_next.lookup (wpAny_pure h))))
end
theorem TbOk.moved {h h' : Heap} {t : Tb} {wr : List Addr} (x : TbOk h t) (k : ∀ b o, b ∉ wr → h.get? b = some o → h'.get? b = some o) (hw : ∀ b ∈ wr, ∃ o, h.get? b = some o ∧ Mut o) : TbOk h' t := by
  obtain ⟨ps, i, b, c⟩ := x
  have tb : ∀ {c P : Addr} {qs : Array Value}, h.TableAt c P qs → c ∉ wr ∧ P ∉ wr := fun ht => by
    obtain ⟨⟨oc, vs, h1, h2, h3, _⟩, h5⟩ := ht
    refine ⟨fun hm => ?_, fun hm => ?_⟩
    · obtain ⟨o, ho, hmu⟩ := hw _ hm
      rw [h1] at ho
      cases ho
      exact (hmu _ h3).1 h2
    · obtain ⟨o, ho, hmu⟩ := hw _ hm
      rw [h5] at ho
      cases ho
      exact (hmu _ rfl).2 rfl
  obtain ⟨e1, e2⟩ := tb b
  obtain ⟨o, vs, file, tf, flags, tg, inF, text, tt, op, ho, hd, h11, h2, h7, h9, h10, hop, hpd, htr, hne⟩ := i
  refine ⟨ps, ⟨o, vs, file, tf, flags, tg, inF, text, tt, op, k _ _ e1 ho, hd, h11, h2, h7, h9, h10, k _ _ e2 hop, hpd, htr, hne⟩, ?_, ?_⟩
  · obtain ⟨⟨oc, vs, h1, h2, h3, h4⟩, h5⟩ := b
    exact ⟨⟨oc, vs, k _ _ e1 h1, h2, h3, h4⟩, k _ _ e2 h5⟩
  · rcases c with c | ⟨c', e, f, g, lo⟩
    · exact .inl c
    · obtain ⟨og, vsg, g1, g2, g3⟩ := g
      have e3 : c' ∉ wr := fun hm => by
        obtain ⟨o, ho, hmu⟩ := hw _ hm
        rw [g1] at ho
        cases ho
        exact (hmu _ g3).1 g2
      refine .inr ⟨c', e, ?_, ⟨og, vsg, k _ _ e3 g1, g2, g3⟩, lo⟩
      obtain ⟨c₂, o₂, vs₂, t₂, q₂, g₂, r₂⟩ := f
      cases q₂
      exact ⟨_, o₂, vs₂, t₂, rfl, k _ _ e3 g₂, r₂⟩
section
variable {w : World} {A : Around} {E : Value → Shared → Prop} {G : Gd} {s s' : Shared} {R : Led} {L : Addr} {m : Str → Option Value} {K : Frag} {a d l : Addr} {vs xs : List Value} {n : Nat} {sz : Int} {k t : Tok} {env : Env}
/-- behind a walk that turns its own things alone -/
theorem Fm.moved {wr : List Addr} {g : Nat} (F : Fm G s L m R) (M : Moved wr (GenOnlyQ g) s s') (hw : ∀ b ∈ wr, ∃ o, s.heap.get? b = some o ∧ Mut o) (hB : ∀ b ∈ wr, G.B.get? b = none) (hL : L ∉ wr) (hR : ∀ p ∈ R, p.1 ∉ wr) : Fm G s' L m R := by
  have hns : s'.heap.Ns L m := by
    obtain ⟨o, es, ep, ho, r⟩ := F.ns
    exact ⟨o, es, ep, M.heap _ _ hL ho, r⟩
  refine ⟨⟨fun b o e => M.heap b o (fun hb => ?_) (F.keep b o e), fun p hp => ⟨M.heap _ _ (hR p hp) (F.own p hp).1, (F.own p hp).2⟩, fun t ht => (F.tabs t ht).moved M.heap hw, M.gens.bare F.gens, ?_, M.os.trans F.os, F.offT⟩, hns, F.off, F.new, F.abv⟩
  · rw [hB b hb] at e; cases e
  · exact Nat.le_trans F.abv (Nat.le_of_lt hns.lt)
/-- a nested def's or generator's code, found or made -/
theorem codeT {tb : Tb} {pos : Pos} {make : CodeContext → Sem Value} {Q : Value → Shared → Prop} (T : Tp G w K) (F : Fm G s L m R) (ht : tb ∈ G.ts) (hc : env.code = .ref tb.c) (hp : pos = tb.pos)
    (hmake : ∀ ps, s.heap.IsCode tb.c tb.P ps → s.heap.TableAt tb.c tb.P ps → codeAmong tb.pos ps.toList = none → ∀ Q' : Value → Shared → Prop,
      (∀ c' h' tk, Heap.ExtBut tb.P s.heap h' → s.heap.objs.size ≤ c' → c' < h'.objs.size → h'.IsCode tb.c tb.P (ps ++ #[rawInt tb.pos.line, rawInt tb.pos.col, .ref c']) → h'.CodeRec (.ref c') tb.qual →
        h'.TableAt tb.c tb.P (ps ++ #[rawInt tb.pos.line, rawInt tb.pos.col, .ref c']) → (∃ P', s.heap.objs.size ≤ P' ∧ h'.IsCode c' P' #[] ∧ h'.TableAt c' P' #[]) → Q' (.ref c') { s with heap := h', toks := tk }) →
      wpAny (model pw w) A (codeAt env pos make) Q' E s)
    (h : ∀ c' s', Fm G s' L m R → s'.heap.CodeRec (.ref c') tb.qual → (CodeO s'.heap c' ∧ G.B.objs.size ≤ c') → (∀ b o, b ≠ tb.P → s.heap.get? b = some o → s'.heap.get? b = some o) → s'.gens = s.gens → s'.drawn = s.drawn → s.heap.objs.size ≤ s'.heap.objs.size → Q (.ref c') s') :
    wpAny (model pw w) A (codeAt env pos make) Q E s := by
  obtain ⟨ps, i, b, c⟩ := F.tabs tb ht
  rcases c with rfl | ⟨c', rfl, f, g, lo⟩
  · refine hmake #[] i b rfl _ fun c' h' tk hx h1 h2 h3 h4 h5 h6 => ?_
    have hk : ∀ b o, b ≠ tb.P → s.heap.get? b = some o → h'.get? b = some o := fun b o hb e => hx b o hb e
    have hz : s.heap.objs.size ≤ h'.objs.size := Nat.le_of_lt (Nat.lt_of_le_of_lt h1 h2)
    obtain ⟨oL, esL, epL, hoL, hdL, rL⟩ := F.ns
    have hmL : Mut oL := fun vs (e : oL.data = .fields vs) => by rw [hdL] at e; cases e
    have hLP : L ≠ tb.P := (F.tabs tb ht).neP hoL hmL
    refine h c' { s with heap := h', toks := tk } ⟨⟨fun b o e => hk b o (fun q => ?_) (F.keep b o e), fun p hp => ⟨hk _ _ (F.offT tb ht p hp) (F.own p hp).1, (F.own p hp).2⟩, fun t' ht' => ?_, F.gens, Nat.le_trans F.size hz, F.os, F.offT⟩, ⟨oL, esL, epL, hk _ _ hLP hoL, hdL, rL⟩, F.off, F.new, F.abv⟩ h4 ⟨by obtain ⟨P', _, _, ⟨⟨oc, vc, q1, q2, q3, _⟩, _⟩⟩ := h6; exact ⟨oc, vc, q1, q2, q3⟩, Nat.le_trans F.size h1⟩ hk rfl rfl hz
    · rw [q, T.hid tb ht] at e; cases e
    · by_cases hP : t'.P = tb.P
      · have := T.apart t' ht' tb ht hP
        subst this
        obtain ⟨P', _, _, ⟨⟨oc, vc, q1, q2, q3, _⟩, _⟩⟩ := h6
        exact ⟨_, h3, h5, .inr ⟨c', by simp, h4, ⟨oc, vc, q1, q2, q3⟩, by rw [T.los t' ht']; exact Nat.le_trans F.size h1⟩⟩
      · have hcd : ∀ {c : Addr} {oc : Obj} {vs : Array Value}, s.heap.get? c = some oc → oc.cls = .type "code" → c ≠ tb.P := fun hc h1 q => by
          have h2 := b.2
          rw [← q, hc] at h2
          cases h2
          cases h1
        obtain ⟨ps2, i2, b2, c2⟩ := F.tabs t' ht'
        obtain ⟨⟨oc, vc, q1, q2, q3, q4⟩, q5⟩ := id b2
        have e1 := hcd q1 (vs := vc) q2
        refine ⟨ps2, i2.extBut hx e1 hP, b2.extBut hx e1 hP, ?_⟩
        rcases c2 with c2 | ⟨c2, e, f, ⟨og, vg, g1, g2, g3⟩, lo⟩
        · exact .inl c2
        · have e3 := hcd g1 (vs := vg) g2
          refine .inr ⟨c2, e, ?_, ⟨og, vg, hx _ _ e3 g1, g2, g3⟩, lo⟩
          obtain ⟨c₂, o₂, vs₂, t₂, q₂, g₂, r₂⟩ := f
          cases q₂
          exact ⟨_, o₂, vs₂, t₂, rfl, hx _ _ e3 g₂, r₂⟩
  · refine wpAny_codeAt_hit hc i (c' := .ref c') ?_ (h c' s F f ⟨g, T.los tb ht ▸ lo⟩ (fun b o _ e => e) rfl rfl (Nat.le_refl _))
    rw [hp]
    simp [codeAmong, rawInt]
end
/-- a generator that stands at its start -/
def GenV (w : World) (A : Around) (a : Addr) (n : Nat) (Fy : Nat → Value → Prop) (Done : Shared → Prop) (s : Shared) : Prop :=
  ∃ (fp wr : List Addr) (g : Nat) (P : Nat → Value → Prop) (Stt : Nat → Shared → Prop), WalksS pw w A.in4 a fp wr (GenOnlyQ g) n P Stt ∧ Stt 0 s ∧ (∀ b ∈ fp, b < s.heap.objs.size) ∧ a ∈ fp ∧ (∀ j y, P j y → j < n ∧ Fy j y) ∧
    (∀ i s, Stt i s → s.TypeIs (.ref a) "generator") ∧ ∀ s', Moved wr (GenOnlyQ g) s s' → Done s'
theorem GenV.toks {w : World} {A : Around} {a : Addr} {n : Nat} {Fy : Nat → Value → Prop} {Done : Shared → Prop} {s : Shared} (x : GenV w A a n Fy Done s) {t : Nat} (ht : s.toks ≤ t) : GenV w A a n Fy Done { s with toks := t } := by
  obtain ⟨fp, wr, g, P, Stt, W, h0, h1, h2, h3, h4, h5⟩ := x
  exact ⟨fp, wr, g, P, Stt, W, W.frame 0 s s.heap t h0 ht fun _ _ _ e => e, h1, h2, h3, h4, fun s' M => h5 s' ⟨M.heap, M.gens, M.drawn, M.os, Nat.le_trans ht M.toks⟩⟩
theorem passing_all (n : Nat) : passing (fun _ => true) n 0 = List.range n := by simp [passing]
section
variable {w : World} {A : Around} {E : Value → Shared → Prop} {G : Gd} {s s' : Shared} {R : Led} {L : Addr} {m : Str → Option Value} {K : Frag} {a d l f cd : Addr} {vs xs : List Value} {n : Nat} {sz : Int} {k t : Tok} {cn : Str} {cs : Scope}
theorem genA {tb : Tb} {elt : Expr} {xa xb xs : Str} {pa pb pt ps : Pos} {kt : Nat} {scope : Scope} {pos : Pos} {Q : Value → Shared → Prop} {j : Nat} {Ts : Nat → Addr} {X Y : Nat → Value} {Fy : Nat → Value → Prop}
    (T : Tp G w K) (F : Fm G s L m R) (hr : Room A (j + 2)) (ha : (a, accO aC d vs n) ∈ R) (hd : (d, dicO w sz k t) ∈ R) (hp : ∀ j, j < vs.length → vs[j]? = some (.ref (Ts j)) ∧ (Ts j, tupO [X j, Y j]) ∈ R)
    (htb : tb ∈ G.ts) (hcd : tb.c = cd) (hpos : pos = tb.pos) (hq : cn ++ ".<locals>." ++ "<genexpr>" = tb.qual)
    (hself : wpAny (model pw w) A (eval (.Name xs ps) (envX cn cs L f (.ref cd) [])) (fun v s₁ => v = .ref a ∧ s₁ = s) E s)
    (hco : scope.isCoroutine = false) (hclos : closureFor scope (envX cn cs L f (.ref cd) []) = pure []) (hcell : ∀ y ∈ scope.names, y.2 ≠ .cell) (h0 : scope.names.lookup (".0" : Str) = some NameKind.local)
    (hxa : scope.names.lookup xa = some .local) (hxb : scope.names.lookup xb = some .local) (hab : xa ≠ xb) (hkind : scope.kind = .function)
    (helt : ∀ (A' : Around) (E' : Value → Shared → Prop) i C code (s₂ : Shared) m₂, A'.handled = none → A'.depth ≤ A.depth + 1 → A'.units ≤ A.units + 8 → i < vs.length → s₂.heap.Ns C m₂ → m₂ xa = some (X i) → m₂ xb = some (Y i) →
      (∀ b o, G.B.get? b = some o → s₂.heap.get? b = some o) → wpAny (model pw w) A' (eval elt (genEnv scope [] C code builtinsNs (envX cn cs L f (.ref cd) []))) (fun y s₃ => Fy i y ∧ Keeps s₂ s₃) E' s₂)
    (h : ∀ g s', Fm G s' L m R → GenV w A g vs.length Fy (fun s'' => Fm G s'' L m R) s' → Q (.ref g) s') :
    wpAny (model pw w) A (eval (.GeneratorExp elt [⟨.Tuple [.Name xa pa, .Name xb pb] kt pt, .Name xs ps, [], 0⟩] scope pos) (envX cn cs L f (.ref cd) [])) Q E s := by
  refine wpAny_GeneratorExp_walksQTD hr.handled hco hclos hcell h0 hxa hxb hab hkind hr.room (wpAny_mono hself (fun xv s₁ h₁ => ?_) fun _ _ e => e) (fun x => rfl)
  obtain ⟨rfl, rfl⟩ := h₁
  refine iterA T F ha hd ?_
  have F1 := F.push (t := s₁.toks) { cls := .type "list_iterator", data := .fields #[.ref a, .int 0 0] }
  refine ⟨T.lim.keeps F1.keep, ?_⟩
  generalize hI : s₁.heap.objs.size = I at F1 ⊢
  refine codeT (env := envX cn cs L f (.ref cd) []) T F1 htb (by rw [hcd]) hpos ?_ ?_
  · intro ps i b hn Q' hQ'
    rw [hpos]
    have := wpAny_genexprCodeX (M := model pw w) (A := A) (E := E) (env := envX cn cs L f (.ref cd) []) (qualname := cn ++ ".<locals>." ++ "<genexpr>") (scope := scope) (pos := tb.pos) (Q := Q') (by rw [← hcd]) i b hn (by rw [hq]; exact hQ')
    exact this
  intro c' s₃ F3 hrec _ hk3 hg3 hdr3 hz3
  obtain ⟨mg, bm, ob, hmg, hbm, hne, hob, hcls, hdict, hdata⟩ := T.bmain
  refine wpAny_builtinsFor (hmg.keeps F3.keep) hbm hne (F3.keep _ _ hob) hcls hdict hdata ?_
  have hIter : s₃.heap.IsListIter I a 0 := ⟨_, F3.get (List.mem_cons_self ..), rfl, rfl⟩
  have hacc : s₃.heap.get? a = some (accO aC d vs n) := F3.get (List.mem_cons_of_mem _ ha)
  have hIR : ∀ p ∈ R, p.1 < I := fun p hp => hI ▸ F.lt hp
  have haI : a ≠ I := Nat.ne_of_lt (hIR _ ha)
  have hTI : ∀ j, j < vs.length → Ts j ≠ I := fun j hj => Nat.ne_of_lt (hIR _ (hp j hj).2)
  have htup : ∀ j, j < vs.length → s₃.heap.IsTuple (Ts j) #[X j, Y j] := fun j hj => ⟨_, F3.get (List.mem_cons_of_mem _ (hp j hj).2), rfl, 0, rfl⟩
  have hBI : G.B.get? I = none := (F3.own _ (List.mem_cons_self ..)).2
  have hlim : s₃.heap.NoLimit := T.lim.keeps F3.keep
  have hcs : cStatics ∉ [I] := by
    intro hm
    simp only [List.mem_singleton] at hm
    obtain ⟨mc, hn, _⟩ := T.lim
    obtain ⟨o, _, _, ho, _⟩ := hn
    rw [hm, hBI] at ho
    cases ho
  refine ⟨I, I :: a :: (List.range vs.length).map Ts, [I], vs.length, fun j v => v = #[X j, Y j] ∧ j < vs.length, fun j h => h.IsListIter I a j ∧ h.get? a = some (accO aC d vs n) ∧ ∀ k, k < vs.length → h.IsTuple (Ts k) #[X k, Y k], fun j Tt h => (j < vs.length ∧ Tt = Ts j) ∧ h.IsListIter I a (j + 1) ∧ h.get? a = some (accO aC d vs n) ∧ ∀ k, k < vs.length → h.IsTuple (Ts k) #[X k, Y k], fun _ => true, Fy, rfl, ?_, ?_, ⟨hIter, hacc, htup⟩, ?_, hlim, hcs, ?_, ?_⟩
  · intro A' hA'
    have W := walksA (prog := pw) (w := w) (A := A') (a := a) (c := .ref aC) (d := some d) (xs := vs) (n := n) (sl := #[]) hA' I haI Ts (fun j => #[X j, Y j]) (fun j hj => (hp j hj).1) hTI
    refine { W with item := fun i s Q E hi st hQ => W.item i s Q E hi st fun Tt vals h' tk hP => hQ Tt vals h' tk ⟨hP, hi⟩ }
  · rintro i vals ⟨rfl, _⟩
    exact ⟨_, _, rfl⟩
  · intro b hb
    simp only [List.mem_cons, List.mem_map, List.mem_range] at hb
    rcases hb with rfl | rfl | ⟨j, hj, rfl⟩
    · exact F3.lt (List.mem_cons_self ..)
    · exact F3.lt (List.mem_cons_of_mem _ ha)
    · exact F3.lt (List.mem_cons_of_mem _ (hp j hj).2)
  · intro href hkeep
    refine ⟨fun A' E' i va vb s₂ m₂ hA' _ _ hP hns h1 h2 hk => ?_, fun A' E' i va vb s₂ m₂ hA' hD hU hP _ hns h1 h2 hk => ?_⟩
    · exact wpAny_pure ⟨rfl, s₂.heap, s₂.toks, rfl, fun _ _ e => e⟩
    · obtain ⟨e, hi⟩ := hP
      simp only [Array.mk.injEq, List.cons.injEq, and_true] at e
      obtain ⟨rfl, rfl⟩ := e
      refine helt A' E' i _ _ s₂ m₂ hA' hD hU hi hns h1 h2 fun b o e => ?_
      have h3 := F3.keep b o e
      refine hk b (List.mem_range.mpr (Heap.lt_size h3)) (fun hm => ?_) o (hkeep b o h3)
      simp only [List.mem_singleton] at hm
      rw [hm, hBI] at e; cases e
  · intro ga h₅ tk gs hgs hlt hz5 hk5 W hG
    rw [passing_all, List.length_range] at W
    have F5 : Fm G { s₃ with gens := s₃.gens.push gs, toks := tk, heap := h₅ } L m ((I, { cls := .type "list_iterator", data := .fields #[.ref a, .int 0 0] }) :: R) :=
      ⟨F3.toSt.grow (s' := { s₃ with gens := s₃.gens.push gs, toks := tk, heap := h₅ }) hk5 (by show _ ≤ h₅.objs.size; (first | lia | omega)) (AllBare.push F3.gens hgs) rfl, F3.ns.keeps hk5, F3.off, F3.new, F3.abv⟩
    refine h ga _ (F5.sub fun p hp => List.mem_cons_of_mem _ hp) ⟨_, _, _, _, _, W, hG, ?_, List.mem_cons_self .., ?_, fun i s hs => hs.1.typeIs, fun s'' M => ?_⟩
    · intro b hb
      simp only [List.mem_cons, List.mem_range] at hb
      show b < h₅.objs.size
      have hz6 : s₃.heap.objs.size < h₅.objs.size := by have := hz5; clear hb; (first | lia | omega)
      rcases hb with rfl | rfl | hb
      · exact hz5 ▸ Nat.lt_succ_self _
      · exact hz6
      · exact Nat.lt_trans hb hz6
    · rintro j y ⟨i, hi, hy⟩
      have := List.getElem?_eq_some_iff.mp hi
      obtain ⟨hl, e⟩ := this
      simp only [List.length_range] at hl
      simp only [List.getElem_range] at e
      subst e
      exact ⟨hl, hy⟩
    · have hkk : ∀ b o, b ∉ [I] → s₃.heap.get? b = some o → s''.heap.get? b = some o := fun b o hb e => by
        refine M.heap b o (fun hm => ?_) (hk5 b o e)
        simp only [List.mem_cons, List.not_mem_nil, or_false] at hm
        rcases hm with rfl | hm
        · exact absurd (Heap.lt_size e) (Nat.lt_irrefl _)
        · exact hb (by simp [hm])
      have hLI : L ∉ [I] := by
        have := Nat.ne_of_lt F.ltL
        simp only [List.mem_singleton, ← hI]
        exact this
      have hns : s''.heap.Ns L m := by
        obtain ⟨o, es, ep, ho, r⟩ := F3.ns
        exact ⟨o, es, ep, hkk _ _ hLI ho, r⟩
      refine ⟨⟨fun b o e => hkk b o (fun hb => ?_) (F3.keep b o e), fun p hp => ⟨hkk _ _ ?_ (F3.own p (List.mem_cons_of_mem _ hp)).1, (F3.own p (List.mem_cons_of_mem _ hp)).2⟩, fun t ht => (F3.tabs t ht).moved hkk ?_, M.gens.bare F5.gens, ?_, M.os.trans F5.os, F.offT⟩, hns, F.off, F.new, F.abv⟩
      · simp only [List.mem_singleton] at hb
        rw [hb, hBI] at e; cases e
      · simp only [List.mem_singleton]
        exact Nat.ne_of_lt (hIR p hp)
      · intro b hb
        simp only [List.mem_singleton] at hb
        subst hb
        exact ⟨_, F3.get (List.mem_cons_self ..), Mut.of_cls (by simp) (by simp)⟩
      · exact Nat.le_trans F.abv (Nat.le_of_lt hns.lt)
end
section
variable {w : World} {A : Around} {E : Value → Shared → Prop} {G : Gd} {s : Shared} {R : Led} {K : Frag}
/-- a call of a def with cells of its own -/
theorem enterC {f : Addr} {st : Stmt} {qual : Str} {cd : Addr} {dV : Value} {vals : List Value} {Q : Value → Shared → Prop} (binds : List (Str × Value)) {k : Nat}
    (S : St G s R) (hr : Room A (k + 1)) (hlim : G.B.NoLimit) (T : FnIs G.B f st qual [] cd dV)
    (hbind : ∀ pm ct, BindsTo s (fdOf st qual [] cd dV pm ct) ⟨vals, []⟩ binds)
    (hkind : ∀ n, KindsOk (fScope st) n binds)
    (hnd : ((cellsFrom 0 (fScope st).names []).map (·.1)).Nodup)
    (hco : (fScope st).isCoroutine = false) (hgen : (fScope st).isGenerator = false) (hk : (fScope st).kind = .function)
    (h : ∀ L s' cells, L = s.heap.objs.size → Fm G s' L (bindL (envOfC qual (fScope st) L f (.ref cd)).kindOf binds fun _ => none) (cells ++ R) →
      CellsAre (bindC (envOfC qual (fScope st) L f (.ref cd)).kindOf binds fun _ => none) (cellsFrom (L + 1) (fScope st).names []) cells → (∀ p ∈ R, p.1 < L) →
      Room (A.deeper (envX qual (fScope st) L f (.ref cd) (cellsFrom (L + 1) (fScope st).names []))) k →
      wpAny (model pw w) (A.deeper (envX qual (fScope st) L f (.ref cd) (cellsFrom (L + 1) (fScope st).names []))) (execs (fBody st) (envX qual (fScope st) L f (.ref cd) (cellsFrom (L + 1) (fScope st).names []))) (fun fl s'' => Q (match fl with | .ret v => v | _ => .none) s'') (fun _ _ => False) s') :
    wpAny (model pw w) A (call (.ref f) vals) Q E s := by
  obtain ⟨pm, ct, ⟨o, ho, hd⟩, hcd⟩ := T
  refine call_of_code ?_
  refine codeAny_call_function hr.room (S.keep _ _ ho) hd hco hgen rfl (hcd.keeps S.keep) (hbind pm ct _ _ _ _ ?_)
  refine wpAny_newFunctionEnv_cells hk (kinds_of (hkind _)) fun env' he s' x => ?_
  subst he
  refine ⟨(hlim.keeps S.keep).keeps x.toInCall.keep, codeAny_func ?_⟩
  obtain ⟨h₁, tk, rfl, _⟩ := x.done
  have hk₁ := x.toInCall.keep
  obtain ⟨cells, NC, Y⟩ := Cl.news (h₀ := s.heap) (Nat.le_refl _) fun n c hm => ⟨x.cell n c (lookup_of_mem_nodup (cellsFrom_names (fScope st).names 0 (s.heap.objs.size + 1) [] [] rfl ▸ hnd) hm), x.above n c hm⟩
  have hz : s.heap.objs.size ≤ h₁.objs.size := Nat.le_of_lt x.toInCall.ns.lt
  have S1 : St G { s with heap := h₁, toks := tk } R := S.grow (s' := { s with heap := h₁, toks := tk }) hk₁ hz S.gens rfl
  have hge : ∀ p ∈ cells, s.heap.objs.size ≤ p.1 := fun p hp => by
    cases q : s.heap.get? p.1 with
    | some o => have := (NC p hp).2.2; rw [q] at this; cases this
    | none =>
      rcases Nat.lt_or_ge p.1 s.heap.objs.size with hlt | hge
      · exfalso
        obtain ⟨n, hn⟩ : ∃ n, (n, p.1) ∈ cellsFrom (s.heap.objs.size + 1) (fScope st).names [] := by
          clear hbind hkind h x S1
          have : ∀ {cm : Str → Option Value} {cs : List (Str × Addr)} {cells : List (Addr × Obj)}, CellsAre cm cs cells → ∀ p ∈ cells, ∃ n, (n, p.1) ∈ cs := by
            intro cm cs cells Y
            induction Y with
            | nil => intro p hp; cases hp
            | cons _ _ ih =>
              intro p hp
              rcases List.mem_cons.mp hp with rfl | hp
              · exact ⟨_, List.mem_cons_self ..⟩
              · obtain ⟨n, hn⟩ := ih p hp
                exact ⟨n, List.mem_cons_of_mem _ hn⟩
          exact this Y p hp
        exact absurd (x.above _ _ hn) (Nat.not_lt.mpr (Nat.le_of_lt hlt))
      · exact hge
  have S2 : St G { s with heap := h₁, toks := tk } (cells ++ R) := ⟨S1.keep, fun p hp => by
    rcases List.mem_append.mp hp with hp | hp
    · exact ⟨(NC p hp).1, S.fresh (hge p hp)⟩
    · exact S1.own p hp, S1.tabs, S1.gens, S1.size, S1.os, fun t ht p hp => by
    rcases List.mem_append.mp hp with hp | hp
    · exact S.fromP (hge p hp) t ht
    · exact S1.offT t ht p hp⟩
  refine wpAny_mono (h s.heap.objs.size _ cells rfl ⟨S2, x.toInCall.ns, fun p hp => ?_, S.fresh (Nat.le_refl _), S.size⟩ Y (fun p hp => S.lt hp) (hr.deeper _)) (fun fl s' hl => hl) fun _ _ y => y.elim
  rcases List.mem_append.mp hp with hp | hp
  · exact (NC p hp).2.1
  · exact Nat.ne_of_lt (S.lt hp)
end
section
variable {w : World} {A : Around} {E : Value → Shared → Prop} {G : Gd} {s : Shared} {R : Led} {K : Frag} {L a cd : Addr} {m : Str → Option Value} {cn : Str} {cs : Scope} {cl : List (Str × Addr)}
/-- a cell's store -/
theorem stC {x : Str} {c : Addr} {o : Obj} {v : Value} {v₀ : Option Value} {Q : Unit → Shared → Prop} (F : Fm G s L m ((c, o) :: R)) (hc : cl.lookup x = some c) (hd : o.data = .cell v₀) (off : ∀ p ∈ R, p.1 ≠ c)
    (h : ∀ s' o', o'.data = .cell (some v) → Fm G s' L m ((c, o') :: R) → Q () s')
    (hk : cs.kind = .function := by rfl) (hx : (envX cn cs L a (.ref cd) cl).kindOf x = some .cell := by rfl) : wpAny (model pw w) A (storeName (envX cn cs L a (.ref cd) cl) x v) Q E s := by
  refine wpAny_storeName_cell hk hx hc ⟨o, F.get (List.mem_cons_self ..), hd⟩ fun h' hv hs => ?_
  obtain ⟨o', ho', hd'⟩ := hv
  exact h _ o' hd' (F.set (t := s.toks) (fun vs e => by rw [hd] at e; cases e) hs ho' off)
/-- a nested def -/
theorem nestT {tb : Tb} {name qual : Str} {params : Arguments} {body : List Stmt} {scope : Scope} {pos : Pos} {firstLine : Nat} {clos : List (Str × Addr)} {Q : Value → Shared → Prop} (T : Tp G w K) (F : Fm G s L m R) (ht : tb ∈ G.ts) (hcd : tb.c = cd) (hp : pos = tb.pos) (hq : qual = tb.qual)
    (hcl : closureFor scope (envX cn cs L a (.ref cd) cl) = pure clos)
    (h : ∀ f c' oc s' doc pm ctv vs t fo, fo = fnMade name qual params body scope clos doc pm c' ctv → Fm G s' L m ((f, fo) :: (c', oc) :: R) → oc.data = .fields vs → vs[1]? = some (.str qual t) → oc.cls = .type "code" → (∀ p ∈ (c', oc) :: R, p.1 < f) → L < f → Q (.ref f) s') :
    wpAny (model pw w) A (makeFunction name qual params (.stmts body) scope (envX cn cs L a (.ref cd) cl) [] [] [] pos firstLine) Q E s := by
  rw [makeFunction_eq]
  simp only [List.zip_nil_right, List.filterMap_nil, List.isEmpty_nil, if_true, pure_bind]
  unfold makeTail
  rw [hcl]
  refine wpAny_bind (wpAny_pure ?_)
  have key : ∀ (ctv : Value) (s₁ : Shared), Fm G s₁ L m R → wpAny (model pw w) A (do
      let code ← functionCode (envX cn cs L a (.ref cd) cl) pos firstLine name qual params scope (.stmts body)
      let builtins ← builtinsFor mainGlobals builtinsNs
      let pm ← nsGet mainGlobals "__name__"
      let doc ← (match docOf body with | some s => mkText s | none => pure .none)
      newObj (.type "function") (.func { name, qualname := qual, params, body := .stmts body, scope, globals := mainGlobals, closure := clos, closureTuple := ctv, code, builtins, defaults := .none, kwdefaults := .none, annotations := none, pyModule := pm.getD .none, doc })) Q E s₁ := by
    intro ctv s₁ F1
    refine wpAny_bind ?_
    unfold functionCode
    refine codeT (env := envX cn cs L a (.ref cd) cl) T F1 ht (by rw [hcd]) hp ?_ ?_
    · intro ps i b hn Q' hQ'
      rw [hp]
      exact wpAny_functionCodeX (M := model pw w) (A := A) (E := E) (env := envX cn cs L a (.ref cd) cl) (pos := tb.pos) (qualname := qual) (Q := Q') (by rw [← hcd]) i b hn (by rw [hq]; exact hQ')
    intro c' s₂ F2 hrec hco hk2 hg2 hdr2 hz2
    obtain ⟨mg, bm, ob, hmg, hbm, hne, hob, hcls, hdict, hdata⟩ := T.bmain
    refine wpAny_bind (wpAny_builtinsFor (hmg.keeps F2.keep) hbm hne (F2.keep _ _ hob) hcls hdict hdata ?_)
    refine wpAny_bind (wpAny_nsGet (hmg.keeps F2.keep) ?_)
    obtain ⟨⟨oc, vc, q1, q2, q3⟩, hlo⟩ := hco
    obtain ⟨c₂, o₂, vs₂, t₂, e₂, g₂, g₃, g₄⟩ := hrec
    cases e₂
    rw [q1] at g₂
    cases g₂
    rw [q3] at g₃
    cases g₃
    have hcB : G.B.get? c' = none := Heap.get?_none_of_le hlo
    have hcP : ∀ t ∈ G.ts, c' ≠ t.P := fun t ht' e => by
      obtain ⟨ps, _, b, _⟩ := F2.tabs t ht'
      have h5 := b.2
      rw [← e, q1] at h5
      cases h5
      cases q2
    have hcL : c' ≠ L := fun e => by
      obtain ⟨o, es, ep, ho, hdd, _⟩ := F2.ns
      rw [← e, q1] at ho
      cases ho
      rw [q3] at hdd; cases hdd
    have F3 : Fm G s₂ L m ((c', oc) :: R) := ⟨F2.toSt.cons q1 hcB hcP, F2.ns, fun p hp => by
      rcases List.mem_cons.mp hp with rfl | hp
      · exact hcL
      · exact F2.off p hp, F2.new, F2.abv⟩
    have fin : ∀ (doc : Value) (tk : Nat), wpAny (model pw w) A (newObj (.type "function") (.func { name, qualname := qual, params, body := .stmts body, scope, globals := mainGlobals, closure := clos, closureTuple := ctv, code := .ref c', builtins := builtinsNs, defaults := .none, kwdefaults := .none, annotations := none, pyModule := (mg "__name__").getD .none, doc })) Q E { s₂ with toks := tk } := fun doc tk => by
      refine wpAny_newObj_type ?_ (by size_fits)
      have F4 := (F3.toks tk).push (t := tk) (fnMade name qual params body scope clos doc ((mg "__name__").getD .none) c' ctv)
      exact h _ c' oc _ doc _ ctv vc t₂ _ rfl F4 q3 (by rw [hq]; exact g₄) q2 (fun p hp => F3.lt hp) F3.ltL
    cases hdoc : docOf body with
    | none => exact wpAny_bind (wpAny_pure (fin _ s₂.toks))
    | some t => exact wpAny_bind (wpAny_mkText (fin _ _))
  cases clos with
  | nil =>
    simp only [List.isEmpty_nil, if_true]
    refine wpAny_bind (wpAny_pure ?_)
    exact key _ s F
  | cons q r =>
    simp only [List.isEmpty_cons, Bool.false_eq_true, if_false]
    refine wpAny_bind (wpAny_newTextTuple ?_)
    exact key _ _ ((F.push (t := s.toks) _).sub fun p hp => List.mem_cons_of_mem _ hp)
/-- a call of a nested def -/
theorem callN {f c' : Addr} {name qual : Str} {params : Arguments} {body : List Stmt} {scope : Scope} {doc pm ctv : Value} {oc : Obj} {vs : Array Value} {t : Tok} {vals : List Value} {Q : Value → Shared → Prop} (binds : List (Str × Value)) {k : Nat}
    (T : Tp G w K) (S : St G s R) (hr : Room A (k + 1)) (hf : (f, fnMade name qual params body scope cl doc pm c' ctv) ∈ R) (hc : (c', oc) ∈ R) (hd : oc.data = .fields vs) (hv : vs[1]? = some (.str qual t))
    (hbind : BindsTo s (fnX name qual params body scope cl .none .none doc pm none (.ref c') ctv) ⟨vals, []⟩ binds)
    (hcell : (scope.names.all fun x => x.2 != .cell) = true) (hloc : (binds.all fun x => decide (scope.names.lookup x.1 = some .local)) = true)
    (hco : scope.isCoroutine = false) (hgen : scope.isGenerator = false) (hk : scope.kind = .function)
    (h : ∀ L s', L = s.heap.objs.size → Fm G s' L (fun x => binds.reverse.lookup x) R → (∀ p ∈ R, p.1 < L) → Room (A.deeper (envX qual scope L f (.ref c') cl)) k →
      wpAny (model pw w) (A.deeper (envX qual scope L f (.ref c') cl)) (execs body (envX qual scope L f (.ref c') cl)) (fun fl s'' => Q (match fl with | .ret v => v | _ => .none) s'') (fun _ _ => False) s') :
    wpAny (model pw w) A (call (.ref f) vals) Q E s :=
  enter S hr T.lim ⟨_, S.get hf, rfl⟩ ⟨c', oc, vs, t, rfl, S.get hc, hd, hv⟩ hbind (fun x hx => by simpa using List.all_eq_true.mp hcell x hx) (locs hloc) h hco hgen hk
theorem cwN {env : Env} {pos : Pos} {f : Addr} {first : List Value} {args : List Expr} {Q : Value → Shared → Prop} {M : Model}
    (h : wpAny M A (spliced (backTo pos (starEach args env))) (fun vs s₁ => (∃ o fd, s₁.heap.get? f = some o ∧ o.data = .func fd) ∧ wpAny M A (call (.ref f) (first ++ vs)) Q E s₁) E s)
    (hp : ((backTo pos (starEach args env)).any (·.1)) = false) :
    wpAny M A (callWith pos (.ref f) first (backTo pos (starEach args env)) []) Q E s := by
  refine cw (fun h => ∃ o fd, h.get? f = some o ∧ o.data = .func fd) (fun h hk => ?_) h hp
  obtain ⟨o, fd, ho, hd⟩ := hk
  refine ⟨.frame, .inl rfl, (Looks.ld (part := none) ho).andThen ?_⟩
  rw [hd]
  exact .now
end
abbrev litO (l : Addr) (i : Nat) : Obj := { cls := .type "list_iterator", data := .fields #[.ref l, .int i 0] }
abbrev revO (l : Addr) (i : Int) : Obj := revObj l i
section
variable {w : World} {A : Around} {E : Value → Shared → Prop} {G : Gd} {s s' : Shared} {R : Led} {K : Frag} {L a cd f l it : Addr} {m : Str → Option Value} {cn : Str} {cs : Scope} {cl : List (Str × Addr)} {vs : List Value} {c : Nat} {env : Env}
theorem Fm.ext (F : Fm G s L m R) (k : ∀ b o, s.heap.get? b = some o → s'.heap.get? b = some o) (hg : s'.gens = s.gens) (ho : s'.os = s.os) : Fm G s' L m R := by
  have hns := F.ns.keeps k
  exact ⟨⟨fun b o e => k b o (F.keep b o e), fun p hp => ⟨k _ _ (F.own p hp).1, (F.own p hp).2⟩, fun t ht => (F.tabs t ht).keeps k, by rw [hg]; exact F.gens, Nat.le_trans F.abv (Nat.le_of_lt hns.lt), ho.trans F.os, F.offT⟩, hns, F.off, F.new, F.abv⟩
theorem Fm.extN (F : Fm G s L m R) {h' : Heap} (he : Heap.ExtBut s.heap.objs.size s.heap h') : Fm G { s with heap := h' } L m R :=
  F.ext (s' := { s with heap := h' }) (fun b o e => he b o (Nat.ne_of_lt (Heap.lt_size e)) e) rfl rfl
/-- one object of the ledger turned, and perhaps more made -/
theorem Fm.but {o : Obj} {h' : Heap} (F : Fm G s L m ((a, o) :: R)) (hm : Mut o) (hs : Heap.ExtBut a s.heap h') (hn : ∀ p ∈ R, p.1 ≠ a) : Fm G { s with heap := h' } L m R := by
  have hB := (F.own _ (List.mem_cons_self ..)).2
  have ho := F.get (List.mem_cons_self ..)
  have hLa : L ≠ a := Ne.symm (F.off _ (List.mem_cons_self ..))
  have hns : h'.Ns L m := F.ns.extBut hs hLa
  refine ⟨⟨fun b ob e => hs b ob (fun q => ?_) (F.keep b ob e), fun p hp => ⟨hs _ _ (hn p hp) (F.own p (List.mem_cons_of_mem _ hp)).1, (F.own p (List.mem_cons_of_mem _ hp)).2⟩, fun t ht => (F.tabs t ht).but hs ho hm, F.gens, Nat.le_trans F.abv (Nat.le_of_lt hns.lt), F.os, fun t ht p hp => F.offT t ht p (List.mem_cons_of_mem _ hp)⟩, hns, fun p hp => F.off p (List.mem_cons_of_mem _ hp), F.new, F.abv⟩
  subst q
  rw [hB] at e; cases e
/-! tuples unpacked -/
theorem uT {elts : List Expr} {k} {pos : Pos} {t : Addr} {xs : List Value} {Q : Unit → Shared → Prop} (F : Fm G s L m R) (ht : (t, tupO xs) ∈ R) (hh : A.handled = none) (hn : (assignEach elts env).length = xs.length) (hstar : (assignEach elts env).findIdx? (·.1) = none)
    (h : ∀ s', Fm G s' L m R → wpAny (model pw w) A (assignInOrder ((assignEach elts env).map (·.2)) xs) Q E s') : wpAny (model pw w) A (assign (.Tuple elts k pos) env (.ref t)) Q E s :=
  assign_Tuple_tuple hh (isT (F.get ht)) (by rw [hn]; simp) hstar fun h' he => h _ (F.extN he)
theorem aoC {M : Model} {fs ts : List (Value → Sem Unit)} {t : Value → Sem Unit} {x : Value} {xs : List Value} {Q : Unit → Shared → Prop} (h : wpAny M A (t x) (fun _ s₁ => wpAny M A (assignInOrder ts xs) Q E s₁) E s) (he : fs = t :: ts) : wpAny M A (assignInOrder fs (x :: xs)) Q E s := by
  subst he; exact assignInOrder_cons h
theorem aoN {M : Model} {fs : List (Value → Sem Unit)} {Q : Unit → Shared → Prop} (h : Q () s) (he : fs = []) : wpAny M A (assignInOrder fs []) Q E s := by
  subst he; exact assignInOrder_nil h
/-! loops over a list -/
theorem iterL {Q : Value → Shared → Prop} (F : Fm G s L m R) (hl : (l, listO vs c) ∈ R) (h : ∀ it s', (∀ p ∈ R, p.1 < it) → L < it → Fm G s' L m ((it, litO l 0) :: R) → Q (.ref it) s') : wpAny (model pw w) A (pyIter (.ref l)) Q E s :=
  wpAny_pyIter_list (isL (F.get hl)) (h _ _ (fun p hp => F.lt hp) F.ltL (F.push (t := s.toks) _))
theorem litMut (l : Addr) (i : Nat) : Mut (litO l i) := Mut.of_cls (by simp) (by simp)
/-- what a turn leaves -/
def Turn (G : Gd) (L it : Addr) (o : Obj) (I : (Str → Option Value) → Led → Prop) (Q : Flow → Shared → Prop) (f : Flow) (s : Shared) : Prop := match f with
  | .next | .cont => ∃ m R, I m R ∧ Fm G s L m ((it, o) :: R) ∧ ∀ p ∈ R, p.1 ≠ it
  | .brk => Q .next s
  | .ret v => Q (.ret v) s
theorem loopG {target : Expr} {body : List Stmt} {n : Nat} {o : Obj} {X : Value → Shared → Prop} {Q : Flow → Shared → Prop} (IO : Nat → Obj → Prop) (val : Nat → Value) (I : Nat → (Str → Option Value) → Led → Prop)
    (F : Fm G s L m ((it, o) :: R)) (ho : IO 0 o) (off : ∀ p ∈ R, p.1 ≠ it) (h0 : I 0 m R)
    (hnext : ∀ i o m R s (Q : Option Value → Shared → Prop) (E : Value → Shared → Prop), i < n → IO i o → Fm G s L m ((it, o) :: R) → (∀ p ∈ R, p.1 ≠ it) → I i m R → (∀ s' o', IO (i + 1) o' → Fm G s' L m ((it, o') :: R) → Q (some (val i)) s') → wpAny (model pw w) A (pyNext (.ref it)) Q E s)
    (hend : ∀ o m R s (Q : Option Value → Shared → Prop) (E : Value → Shared → Prop), IO n o → Fm G s L m ((it, o) :: R) → (∀ p ∈ R, p.1 ≠ it) → I n m R → (∀ s', Fm G s' L m R → Q none s') → wpAny (model pw w) A (pyNext (.ref it)) Q E s)
    (hgo : ∀ i o m R s (Q : Unit → Shared → Prop) (E : Value → Shared → Prop), i < n → IO (i + 1) o → Fm G s L m ((it, o) :: R) → Q () s → wpAny (model pw w) A (letOwnedTupleGo target (.ref it) (val i)) Q E s)
    (turn : ∀ i o m R s, i < n → IO (i + 1) o → I i m R → Fm G s L m ((it, o) :: R) → (∀ p ∈ R, p.1 ≠ it) →
      wpAny (model pw w) A (assign target env (val i)) (fun _ s₂ => wpAny (model pw w) A (execs body env) (Turn G L it o (I (i + 1)) Q) (fun _ _ => False) s₂) (fun _ _ => False) s)
    (fin : ∀ m R s, I n m R → Fm G s L m R → Q .next s) :
    codeAny (model pw w) A (.forLoop target (.ref it) body [] env) (fun r s' => match r with | .ok f => Q f s' | .error e => X e s') s := by
  refine codeAny_forLoop_any (fun k s' => ∃ i o m R, I i m R ∧ IO i o ∧ Fm G s' L m ((it, o) :: R) ∧ (∀ p ∈ R, p.1 ≠ it) ∧ i ≤ n ∧ k = n - i) ?_ n ⟨0, o, m, R, h0, ho, F, off, Nat.zero_le _, by simp⟩
  rintro k s' ⟨i, o', m', R', hI, ho', F', off', hi, rfl⟩
  rcases Nat.lt_or_ge i n with hlt | hge
  · refine hnext i o' m' R' s' _ _ hlt ho' F' off' hI fun s₁ o₁ ho₁ F₁ => ?_
    refine hgo i o₁ m' R' s₁ _ _ hlt ho₁ F₁ ?_
    refine wpAny_mono (turn i o₁ m' R' s₁ hlt ho₁ hI F₁ off') (fun _ s₂ h₂ => wpAny_mono h₂ (fun fl s₃ h₃ => ?_) fun _ _ x => x.elim) fun _ _ x => x.elim
    cases fl with
    | next => obtain ⟨m₃, R₃, a, b, c⟩ := h₃; exact ⟨n - (i + 1), by (first | lia | omega), i + 1, o₁, m₃, R₃, a, ho₁, b, c, by (first | lia | omega), rfl⟩
    | cont => obtain ⟨m₃, R₃, a, b, c⟩ := h₃; exact ⟨n - (i + 1), by (first | lia | omega), i + 1, o₁, m₃, R₃, a, ho₁, b, c, by (first | lia | omega), rfl⟩
    | brk => exact h₃
    | ret v => exact h₃
  · have : i = n := by (first | lia | omega)
    subst this
    refine hend o' m' R' s' _ _ ho' F' off' hI fun s₁ F₁ => ?_
    refine wpAny_execs_nil ?_
    exact fin m' R' s₁ hI F₁
theorem goName {x : Str} {p : Pos} {v : Value} {Q : Unit → Shared → Prop} (h : Q () s) : wpAny (model pw w) A (letOwnedTupleGo (.Name x p) (.ref it) v) Q E s := wpAny_pure h
/-- a list's iterator -/
def LI (l : Addr) (i : Nat) (o : Obj) : Prop := o.cls = .type "list_iterator" ∧ o.data = .fields #[.ref l, .int i 0]
theorem LI.mut {i : Nat} {o : Obj} (x : LI l i o) : Mut o := Mut.of_cls (by rw [x.1]; simp) (by rw [x.1]; simp)
/-- for target in a list -/
theorem forL {target : Expr} {body : List Stmt} {X : Value → Shared → Prop} {Q : Flow → Shared → Prop} (hh : A.handled = none) (I : Nat → (Str → Option Value) → Led → Prop)
    (F : Fm G s L m ((it, litO l 0) :: R)) (off : ∀ p ∈ R, p.1 ≠ it) (h0 : I 0 m R) (hl : ∀ i m R, I i m R → ∃ c, (l, listO vs c) ∈ R)
    (ht : (∃ x p, target = .Name x p) ∨ (∃ elts k p, target = .Tuple elts k p) ∧ ∀ v ∈ vs, ∃ T, v = .ref T)
    (turn : ∀ i v o m R s, vs[i]? = some v → I i m R → Fm G s L m ((it, o) :: R) → (∀ p ∈ R, p.1 ≠ it) →
      wpAny (model pw w) A (assign target env v) (fun _ s₂ => wpAny (model pw w) A (execs body env) (Turn G L it o (I (i + 1)) Q) (fun _ _ => False) s₂) (fun _ _ => False) s)
    (fin : ∀ m R s, I vs.length m R → Fm G s L m R → Q .next s) :
    codeAny (model pw w) A (.forLoop target (.ref it) body [] env) (fun r s' => match r with | .ok f => Q f s' | .error e => X e s') s := by
  refine loopG (n := vs.length) (LI l) (fun i => vs.getD i .none) I F ⟨rfl, rfl⟩ off h0 ?_ ?_ ?_ ?_ fin
  · intro i o m R s Q E hi ho F off hI h
    obtain ⟨c, hl⟩ := hl i m R hI
    have hv : vs[i]? = some (vs.getD i .none) := by rw [List.getD, List.getElem?_eq_getElem hi]; rfl
    refine wpAny_pyNext_list_item (i := i) ⟨o, F.get (List.mem_cons_self ..), ho.1, ho.2⟩ (isL (F.get (List.mem_cons_of_mem _ hl))) (by simpa using hv) fun h' hi hs => ?_
    obtain ⟨o', ho', hc, hd⟩ := hi
    exact h _ o' ⟨hc, hd⟩ (F.set (t := s.toks) ho.mut hs ho' off)
  · intro o m R s Q E ho F off hI h
    obtain ⟨c, hl⟩ := hl _ m R hI
    exact wpAny_pyNext_list_end hh (i := vs.length) ⟨o, F.get (List.mem_cons_self ..), ho.1, ho.2⟩ (isL (F.get (List.mem_cons_of_mem _ hl))) (by simp) fun h' he => h _ (F.but ho.mut he off)
  · intro i o m R s Q E hi ho F h
    rcases ht with ⟨x, p, rfl⟩ | ⟨⟨elts, k, p, rfl⟩, hr⟩
    · exact goName h
    · obtain ⟨T, e⟩ := hr (vs.getD i .none) (by rw [List.getD, List.getElem?_eq_getElem hi]; exact List.getElem_mem hi)
      rw [e]
      exact wpAny_letOwnedTupleGo_listiter (i := i + 1) ⟨o, F.get (List.mem_cons_self ..), ho.1, ho.2⟩ h
  · intro i o m R s hi ho hI F off
    exact turn i _ o m R s (by rw [List.getD, List.getElem?_eq_getElem hi]; rfl) hI F off
/-- a list's iterator from behind -/
def RI (l : Addr) (i : Int) (o : Obj) : Prop := o.cls = .type "list_reverseiterator" ∧ o.data = .fields #[.ref l, rawInt i]
theorem RI.mut {i : Int} {o : Obj} (x : RI l i o) : Mut o := Mut.of_cls (by rw [x.1]; simp) (by rw [x.1]; simp)
theorem revL {Q : Value → Shared → Prop} (F : Fm G s L m R) (hl : (l, listO vs c) ∈ R) (h : ∀ it s', (∀ p ∈ R, p.1 < it) → L < it → Fm G s' L m ((it, revObj l ((vs.length : Int) - 1)) :: R) → Q (.ref it) s') : wpAny (model pw w) A (call (.type "reversed") [.ref l]) Q E s := by
  refine call_reversed_list (isL (F.get hl)) ?_
  simp only [List.size_toArray]
  exact h _ _ (fun p hp => F.lt hp) F.ltL (F.push (t := s.toks) _)
theorem iterR {i : Int} {Q : Value → Shared → Prop} (F : Fm G s L m R) (hl : (it, revObj l i) ∈ R) (h : Q (.ref it) s) : wpAny (model pw w) A (pyIter (.ref it)) Q E s :=
  wpAny_pyIter_revIter ⟨_, F.get hl, rfl, rfl⟩ h
/-- for x in reversed(a list) -/
theorem forR {x : Str} {px : Pos} {body : List Stmt} {X : Value → Shared → Prop} {Q : Flow → Shared → Prop} (hh : A.handled = none) (I : Nat → (Str → Option Value) → Led → Prop)
    (F : Fm G s L m ((it, revObj l ((vs.length : Int) - 1)) :: R)) (off : ∀ p ∈ R, p.1 ≠ it) (h0 : I 0 m R) (hl : ∀ i m R, I i m R → ∃ c, (l, listO vs c) ∈ R)
    (turn : ∀ i v o m R s, i < vs.length → vs[vs.length - 1 - i]? = some v → I i m R → Fm G s L m ((it, o) :: R) → (∀ p ∈ R, p.1 ≠ it) →
      wpAny (model pw w) A (assign (.Name x px) env v) (fun _ s₂ => wpAny (model pw w) A (execs body env) (Turn G L it o (I (i + 1)) Q) (fun _ _ => False) s₂) (fun _ _ => False) s)
    (fin : ∀ m R s, I vs.length m R → Fm G s L m R → Q .next s) :
    codeAny (model pw w) A (.forLoop (.Name x px) (.ref it) body [] env) (fun r s' => match r with | .ok f => Q f s' | .error e => X e s') s := by
  refine loopG (n := vs.length) (fun i => RI l ((vs.length : Int) - 1 - i)) (fun i => vs.getD (vs.length - 1 - i) .none) I F ⟨rfl, by simp [revObj]⟩ off h0 ?_ ?_ ?_ ?_ fin
  · intro i o m R s Q E hi ho F off hI h
    obtain ⟨c, hl⟩ := hl i m R hI
    have hj : vs.length - 1 - i < vs.length := by (first | lia | omega)
    have hv : vs[vs.length - 1 - i]? = some (vs.getD (vs.length - 1 - i) .none) := by rw [List.getD, List.getElem?_eq_getElem hj]; rfl
    have ei : ((vs.length : Int) - 1 - i) = ((vs.length - 1 - i : Nat) : Int) := by (first | lia | omega)
    have ho' := ho
    rw [ei] at ho'
    refine wpAny_pyNext_rev_item (i := vs.length - 1 - i) ⟨o, F.get (List.mem_cons_self ..), ho'.1, ho'.2⟩ (isL (F.get (List.mem_cons_of_mem _ hl))) (by simpa using hv) fun h' hi hs => ?_
    obtain ⟨o', ho', hc, hd⟩ := hi
    refine h _ o' ⟨hc, ?_⟩ (F.set (t := s.toks) ho.mut hs ho' off)
    rw [hd]
    have : ((vs.length - 1 - i : Nat) : Int) - 1 = (vs.length : Int) - 1 - ((i + 1 : Nat) : Int) := by (first | lia | omega)
    rw [this]
  · intro o m R s Q E ho F off hI h
    obtain ⟨c, hl⟩ := hl _ m R hI
    have ho' := ho
    have : (vs.length : Int) - 1 - (vs.length : Nat) = -1 := by (first | lia | omega)
    rw [this] at ho'
    exact wpAny_pyNext_rev_end hh ⟨o, F.get (List.mem_cons_self ..), ho'.1, ho'.2⟩ fun h' he => h _ (F.but ho.mut he off)
  · intro i o m R s Q E hi ho F h
    exact goName h
  · intro i o m R s hi ho hI F off
    exact turn i _ o m R s hi (by rw [List.getD, List.getElem?_eq_getElem (by (first | lia | omega))]; rfl) hI F off
end
section
variable {w : World} {A : Around} {E : Value → Shared → Prop} {G : Gd} {s s' : Shared} {R : Led} {K : Frag} {L l it : Addr} {m : Str → Option Value} {vs : List Value} {c : Nat} {env : Env} {a b : Int} {t u : Tok}
theorem rBits {Q : Value → Shared → Prop} (F : Fm G s L m R) (h : ∀ t s', Fm G s' L m R → Q (.int (Builtin.Int.intBits a) t) s') : wpAny (model pw w) A (call (.builtin "int.bit_length") [.int a t]) Q E s :=
  call_int_bit_length (h _ _ (F.toks _))
theorem gmBits {pl : Sem Bool} {Q : Value × List Value → Shared → Prop} (h : Q (.builtin "int.bit_length", [.int a t]) s) :
    wpAny (model pw w) A (getMethod (.int a t) (Str.ofString "bit_length") pl) Q E s := getMethod_int_bit_length h
/-- a // b, b positive and not large -/
theorem rDivP {Q : Value → Shared → Prop} (F : Fm G s L m R) (hb : 0 < b) (hp : b.natAbs.log2 < 9000) (h : ∀ t s', Fm G s' L m R → Q (.int (a / b) t) s') : wpAny (model pw w) A (binaryOp .FloorDiv (.int a t) (.int b u)) Q E s := by
  refine rDiv F (by (first | lia | omega)) (PyProof.noPylong_of_log2 hp) ?_
  rw [Int.fdiv_eq_ediv_of_nonneg _ (by (first | lia | omega))]
  exact h
/-- a % b, b positive -/
theorem rModP {Q : Value → Shared → Prop} (F : Fm G s L m R) (hb : 0 < b) (h : ∀ t s', Fm G s' L m R → Q (.int (a % b) t) s') : wpAny (model pw w) A (binaryOp .Mod (.int a t) (.int b u)) Q E s := by
  refine rMod F (by (first | lia | omega)) ?_
  rw [Int.fmod_eq_emod_of_nonneg _ (by (first | lia | omega))]
  exact h
theorem rDivmod {Q : Value → Shared → Prop} (F : Fm G s L m R) (hb : 0 < b) (hp : b.natAbs.log2 < 9000) (h : ∀ p s' t1 t2, (∀ q ∈ R, q.1 < p) → L < p → Fm G s' L m ((p, tupO [.int (a / b) t1, .int (a % b) t2]) :: R) → Q (.ref p) s') :
    wpAny (model pw w) A (call (.builtin "divmod") [.int a t, .int b u]) Q E s := by
  refine divmod_int (by (first | lia | omega)) ?_ (.inl (PyProof.noPylong_of_log2 hp))
  rw [Int.fdiv_eq_ediv_of_nonneg _ (by (first | lia | omega)), Int.fmod_eq_emod_of_nonneg _ (by (first | lia | omega))]
  exact h _ _ _ _ (fun q hq => F.lt hq) F.ltL ((F.toks (s.toks + 1 + 1)).push (t := s.toks + 1 + 1) _)
theorem tInt {Q : Bool → Shared → Prop} (h : Q (a != 0) s) : wpAny (model pw w) A (truthy (.int a t)) Q E s := PyProof.Rows.truthy_int h
/-! lists -/
theorem lenL {Q : Value → Shared → Prop} (F : Fm G s L m R) (hl : (l, listO vs c) ∈ R) (hz : vs.length ≤ 100000) (h : ∀ t s', Fm G s' L m R → Q (.int vs.length t) s') : wpAny (model pw w) A (call (.builtin "len") [.ref l]) Q E s := by
  refine Calls.call_len_list (isL (F.get hl)) (by simp; (first | lia | omega)) ?_
  simp only [List.size_toArray]
  exact h _ _ (F.toks _)
theorem tList {Q : Bool → Shared → Prop} (F : Fm G s L m R) (hl : (l, listO vs c) ∈ R) (hz : vs.length ≤ 100000) (h : ∀ s', Fm G s' L m R → Q (!vs.isEmpty) s') : wpAny (model pw w) A (truthy (.ref l)) Q E s :=
  kgr_truthy F.news hl rfl rfl (by (first | lia | omega)) (h _ (F.toks _))
theorem gmApp {pl : Sem Bool} {Q : Value × List Value → Shared → Prop} (F : Fm G s L m R) (hl : (l, listO vs c) ∈ R) (h : Q (.builtin "list.append", [.ref l]) s) : wpAny (model pw w) A (getMethod (.ref l) "append" pl) Q E s :=
  getMethod_list_append (F.get hl) rfl rfl h
theorem appL {x : Value} {Q : Value → Shared → Prop} (F : Fm G s L m ((l, listO vs c) :: R)) (off : ∀ p ∈ R, p.1 ≠ l) (hz : vs.length ≤ 100000) (h : ∀ s', Fm G s' L m ((l, listO (vs ++ [x]) (c + 1)) :: R) → Q .none s') :
    wpAny (model pw w) A (call (.builtin "list.append") [.ref l, x]) Q E s := by
  have ho := F.get (List.mem_cons_self ..)
  refine wpAny_call_entry slot_list_append ⟨_, ho, rfl⟩ entry_list_append ?_ (args_list_append _ _)
  show wpAny _ _ (updateSeq l (·.push x) >>= fun _ => ret .none) _ _ s
  refine wpAny_bind (wpAny_updateSeq ho rfl (wpAny_pure ⟨.none, rfl, ?_⟩) (hz := Nat.le_trans (by simpa using hz) (by decide)) (_hz' := ?_))
  · refine h _ (F.set (t := s.toks) (Mut.of_cls (by simp) (by simp)) (Heap.SameBut.update ..) ?_ off)
    rw [Heap.get?_update_self _ ho (by rw [Obj.mapSeq_push_plain]; rfl), Obj.mapSeq_push_plain]
    simp
  · simp
    exact Nat.le_trans hz (by decide)
theorem gmRev {pl : Sem Bool} {Q : Value × List Value → Shared → Prop} (F : Fm G s L m R) (hl : (l, listO vs c) ∈ R) (h : Q (.builtin "list.reverse", [.ref l]) s) : wpAny (model pw w) A (getMethod (.ref l) "reverse" pl) Q E s := by
  refine getMethod_builtin (T := "list") (s := s) (name := "reverse") (isL (F.get hl)).typeIs PySem.F.plainAttrs_list PySem.F.slot_list_reverse PySem.F.type_list_reverse ?_ h
  intro a e
  cases e
  exact ⟨_, F.get hl, rfl⟩
theorem reverseL {Q : Value → Shared → Prop} (F : Fm G s L m ((l, listO vs c) :: R)) (off : ∀ p ∈ R, p.1 ≠ l) (hz : vs.length ≤ 100000) (h : ∀ s' c', Fm G s' L m ((l, listO vs.reverse c') :: R) → Q .none s') :
    wpAny (model pw w) A (call (.builtin "list.reverse") [.ref l]) Q E s := by
  have ho := F.get (List.mem_cons_self ..)
  refine call_meets PySem.F.slot_list_reverse ⟨_, ho, rfl⟩ PySem.F.entry_list_reverse (PySem.F.args_list_reverse_1 _) (PySem.AutoListH.list_reverse_list_0 l vs.toArray c (by simpa using Nat.le_trans hz (by decide))) ⟨ho, ?_⟩
  obtain ⟨c', hc⟩ : ∃ c', Obj.mapSeq (fun x => x.reverse) (listO vs c) = listO vs.reverse c' := by
    unfold Obj.mapSeq
    dsimp only
    first
      | (refine ⟨c, ?_⟩; simp; done)
      | (split <;> exact ⟨_, by simp; rfl⟩)
      | exact ⟨_, by simp; rfl⟩
  refine h _ c' (F.set (t := s.toks) (Mut.of_cls (by simp) (by simp)) (Heap.SameBut.update ..) ?_ off)
  rw [Heap.get?_update_self _ ho (by rw [hc]; rfl), hc]
theorem mulL {x : Int} {ns : List Int} {Q : Value → Shared → Prop} (F : Fm G s L m R) (hl : (l, listO vs c) ∈ R) (hi : IntsAre vs ns) (hlo : 0 ≤ x) (hhi : x ≤ 10000) (hz : vs.length ≤ 100)
    (h : ∀ p s', (∀ q ∈ R, q.1 < p) → L < p → Fm G s' L m ((p, listO (List.replicate x.toNat vs).flatten 0) :: R) → Q (.ref p) s') : wpAny (model pw w) A (binaryOp .Mult (.ref l) (.int x u)) Q E s := by
  obtain ⟨ho⟩ : Nonempty (s.heap.get? l = some (listO vs c)) := ⟨F.get hl⟩
  have hsz : vs.length * x.toNat ≤ 2 ^ 24 := Nat.le_trans (Nat.mul_le_mul hz (show x.toNat ≤ 10000 by (first | lia | omega))) (by decide)
  have hsz' : vs.toArray.size * x.toNat ≤ 2 ^ 24 := by simpa using hsz
  refine wpAny_binaryOp_repeat_ref (T := "list") (U := "int") (by decide) ⟨_, ho, rfl⟩ (fun s' => typeIs_int s' x u) noFill_list_mul PySem.F.fills_int_mul PySem.F.slot_int_rmul repeat_list PySem.F.slot_int_index.lookup
    (call_meets PySem.F.slot_int_rmul (typeIs_int s x u) PySem.F.entry_int_rmul (PySem.F.args_int_rmul_2 _ _) (lm_int_rmul_list_any x u l vs.toArray c none #[])
      ⟨ho, rfl, ⟨_, ho, rfl⟩, call_meets PySem.F.slot_list_mul ⟨_, ho, rfl⟩ PySem.F.entry_list_mul (PySem.F.args_list_mul_2 _ _)
        (lm_list_mul_any l vs.toArray c none #[] x u (by simp [Builtin.List.listFitsIndex]; (first | lia | omega)) (by (first | lia | omega)) (by simp [Builtin.List.listTooLong, sizeLine]; (first | lia | omega)))
        ⟨ho, ?_⟩⟩)
  rw [listMul_foldl_if]
  exact h _ _ (fun q hq => F.lt hq) F.ltL (F.push (t := s.toks) _)
end
/-! digits -/
def dig (n x i : Nat) : Nat := x / 2 ^ (n * i) % 2 ^ n
def digL (n x k : Nat) : List Nat := (List.range k).map (dig n x)
theorem digL_length (n x k : Nat) : (digL n x k).length = k := by simp [digL]
theorem digL_get {n x k i : Nat} (h : i < k) : (digL n x k)[i]? = some (dig n x i) := by simp [digL, h]
theorem digL_one {n x : Nat} (h : x < 2 ^ n) : digL n x 1 = [x] := by simp [digL, dig, List.range_succ, Nat.mod_eq_of_lt h]
theorem dig_low {n x a i : Nat} (h : i < a) : dig n (x % 2 ^ (n * a)) i = dig n x i := by
  unfold dig
  have e : n * a = n * i + (n + n * (a - i - 1)) := by
    have : a = i + (1 + (a - i - 1)) := by (first | lia | omega)
    rw [this, Nat.mul_add, Nat.mul_add, Nat.mul_one]
    congr 2
    congr 1
    (first | lia | omega)
  rw [e, Nat.pow_add, Nat.mod_mul_right_div_self, Nat.pow_add, Nat.mod_mul_right_mod]
theorem dig_high (n x a i : Nat) : dig n (x / 2 ^ (n * a)) i = dig n x (a + i) := by
  unfold dig
  rw [Nat.div_div_eq_div_mul, ← Nat.pow_add, ← Nat.mul_add]
theorem digL_split (n x a b : Nat) : digL n x (a + b) = digL n (x % 2 ^ (n * a)) a ++ digL n (x / 2 ^ (n * a)) b := by
  apply List.ext_getElem?
  intro i
  by_cases h : i < a
  · rw [List.getElem?_append_left (by rw [digL_length]; exact h), digL_get (by (first | lia | omega)), digL_get h, dig_low h]
  · rw [List.getElem?_append_right (by rw [digL_length]; (first | lia | omega)), digL_length]
    by_cases h2 : i < a + b
    · rw [digL_get h2, digL_get (by (first | lia | omega)), dig_high]
      congr 2
      (first | lia | omega)
    · rw [List.getElem?_eq_none (by rw [digL_length]; (first | lia | omega)), List.getElem?_eq_none (by rw [digL_length]; (first | lia | omega))]
/-- the number whose digits these are -/
def num (n : Nat) : List Nat → Nat
  | [] => 0
  | x :: r => x + 2 ^ n * num n r
theorem num_append (n : Nat) : ∀ a b : List Nat, num n (a ++ b) = num n a + 2 ^ (n * a.length) * num n b
  | [], b => by simp [num]
  | x :: r, b => by
    simp only [List.cons_append, num, num_append n r b, List.length_cons, Nat.mul_add, Nat.mul_one, Nat.pow_add]
    rw [Nat.add_assoc, ← Nat.mul_assoc, Nat.mul_comm (2 ^ n) (2 ^ (n * r.length))]
theorem num_lt (n : Nat) : ∀ l : List Nat, (∀ x ∈ l, x < 2 ^ n) → num n l < 2 ^ (n * l.length)
  | [], _ => by simp [num]
  | x :: r, h => by
    have h1 := h x (List.mem_cons_self ..)
    have h2 := num_lt n r fun y hy => h y (List.mem_cons_of_mem _ hy)
    simp only [num, List.length_cons, Nat.mul_add, Nat.mul_one, Nat.pow_add]
    have : 2 ^ n * (num n r + 1) ≤ 2 ^ n * 2 ^ (n * r.length) := Nat.mul_le_mul_left _ h2
    rw [Nat.mul_add, Nat.mul_one] at this
    rw [Nat.mul_comm (2 ^ (n * r.length))]
    (first | lia | omega)
theorem num_mod (n : Nat) : ∀ (l : List Nat) (k : Nat), (∀ x ∈ l, x < 2 ^ n) → num n l % 2 ^ (n * k) = num n (l.take k) := by
  intro l k h
  rcases Nat.lt_or_ge k l.length with hk | hk
  · have e := num_append n (l.take k) (l.drop k)
    rw [List.take_append_drop, List.length_take, Nat.min_eq_left (by (first | lia | omega))] at e
    rw [e, Nat.add_mul_mod_self_left]
    refine Nat.mod_eq_of_lt ?_
    have := num_lt n (l.take k) fun x hx => h x (List.mem_of_mem_take hx)
    rwa [List.length_take, Nat.min_eq_left (by (first | lia | omega))] at this
  · rw [List.take_of_length_le hk]
    refine Nat.mod_eq_of_lt (Nat.lt_of_lt_of_le (num_lt n l h) (Nat.pow_le_pow_right (by decide) (Nat.mul_le_mul_left _ hk)))
theorem num_div (n : Nat) : ∀ (l : List Nat) (k : Nat), (∀ x ∈ l, x < 2 ^ n) → num n l / 2 ^ (n * k) = num n (l.drop k) := by
  intro l k h
  rcases Nat.lt_or_ge k l.length with hk | hk
  · have e := num_append n (l.take k) (l.drop k)
    rw [List.take_append_drop, List.length_take, Nat.min_eq_left (by (first | lia | omega))] at e
    rw [e, Nat.add_mul_div_left _ _ (Nat.pow_pos (by decide))]
    have := num_lt n (l.take k) fun x hx => h x (List.mem_of_mem_take hx)
    rw [List.length_take, Nat.min_eq_left (by (first | lia | omega))] at this
    rw [Nat.div_eq_of_lt this, Nat.zero_add]
  · rw [List.drop_of_length_le hk]
    refine Nat.div_eq_of_lt (Nat.lt_of_lt_of_le (num_lt n l h) (Nat.pow_le_pow_right (by decide) (Nat.mul_le_mul_left _ hk)))
theorem digL_num (n : Nat) (l : List Nat) (h : ∀ x ∈ l, x < 2 ^ n) : digL n (num n l) l.length = l := by
  apply List.ext_getElem?
  intro i
  by_cases hi : i < l.length
  · rw [digL_get hi, List.getElem?_eq_getElem hi]
    unfold dig
    rw [num_div n l i h]
    rw [List.drop_eq_getElem_cons hi]
    simp only [num]
    rw [Nat.add_mul_mod_self_left, Nat.mod_eq_of_lt (h _ (List.getElem_mem hi))]
  · rw [List.getElem?_eq_none (by rw [digL_length]; (first | lia | omega)), List.getElem?_eq_none (by (first | lia | omega))]
/-! the bits -/
theorem bitAnd_self' : ∀ (k x : Nat), x < 2 ^ k → Builtin.bitAnd (x : Int) (x : Int) = x := by
  intro k
  induction k with
  | zero => intro x h; have : x = 0 := by simpa using h
            subst this; rfl
  | succ k ih =>
    intro x h
    rw [kbt_halves]
    have e : ((x : Int) / 2) = ((x / 2 : Nat) : Int) := by (first | lia | omega)
    rw [e, ih (x / 2) (by rw [Nat.pow_succ] at h; (first | lia | omega))]
    split <;> (first | lia | omega)
theorem bitAnd_high : ∀ (k x : Nat), Builtin.bitAnd (x : Int) ((x / 2 ^ k * 2 ^ k : Nat) : Int) = ((x / 2 ^ k * 2 ^ k : Nat) : Int) := by
  intro k
  induction k with
  | zero => intro x; simp only [Nat.pow_zero, Nat.div_one, Nat.mul_one]; exact bitAnd_self' x x Nat.lt_two_pow_self
  | succ k ih =>
    intro x
    rw [kbt_halves]
    have e : ((x : Int) / 2) = ((x / 2 : Nat) : Int) := by (first | lia | omega)
    have hy : x / 2 ^ (k + 1) * 2 ^ (k + 1) = 2 * (x / 2 / 2 ^ k * 2 ^ k) := by
      rw [Nat.div_div_eq_div_mul, Nat.pow_succ, Nat.mul_comm 2 (2 ^ k), ← Nat.mul_assoc, Nat.mul_comm 2]
    rw [hy]
    generalize hz : x / 2 / 2 ^ k * 2 ^ k = z
    have e2 : (((2 * z : Nat) : Int) / 2) = (z : Int) := by (first | lia | omega)
    rw [e, e2, ← hz, ih (x / 2), hz]
    split <;> (first | lia | omega)
theorem xor_low (k x : Nat) : Builtin.bitXor (x : Int) ((x / 2 ^ k * 2 ^ k : Nat) : Int) = ((x % 2 ^ k : Nat) : Int) := by
  rw [bitXor_and, bitAnd_high]
  have := Nat.div_add_mod x (2 ^ k)
  rw [Nat.mul_comm] at this
  (first | lia | omega)
def bits (x : Nat) : Nat := if x = 0 then 0 else x.log2 + 1
theorem intBits_nat (x : Nat) : Builtin.Int.intBits (x : Int) = bits x := by
  unfold Builtin.Int.intBits bits
  by_cases h : x = 0
  · simp [h]
  · simp [h]
theorem lt_bits (x : Nat) : x < 2 ^ bits x := by
  unfold bits
  split
  · rename_i h; subst h; decide
  · exact Nat.lt_log2_self
theorem bits_le {x k : Nat} (h : x < 2 ^ k) : bits x ≤ k := by
  unfold bits
  split
  · (first | lia | omega)
  · rename_i h0
    have := (Nat.log2_lt h0).mpr h
    (first | lia | omega)
theorem bits_gt {x k : Nat} (h : 2 ^ k ≤ x) : k < bits x := by
  have h0 : x ≠ 0 := by have := Nat.pow_pos (n := k) (show 0 < 2 by decide); (first | lia | omega)
  unfold bits
  rw [if_neg h0]
  have := (Nat.le_log2 h0).mpr h
  (first | lia | omega)
/-- the digits' count -/
def cnt (n x : Nat) : Nat := (bits x + n - 1) / n
theorem cnt_lt {n x : Nat} (hn : 0 < n) : x < 2 ^ (n * cnt n x) := by
  refine Nat.lt_of_lt_of_le (lt_bits x) (Nat.pow_le_pow_right (by decide) ?_)
  unfold cnt
  have := Nat.div_add_mod (bits x + n - 1) n
  have h2 := Nat.mod_lt (bits x + n - 1) hn
  (first | lia | omega)
theorem cnt_zero (n : Nat) (hn : 0 < n) : cnt n 0 = 0 := by
  unfold cnt bits
  simp
  (first | lia | omega)
theorem cnt_num {n : Nat} (hn : 0 < n) (l : List Nat) (h : ∀ x ∈ l, x < 2 ^ n) (hl : ∀ x, l.getLast? = some x → x ≠ 0) : cnt n (num n l) = l.length := by
  rcases List.eq_nil_or_concat l with rfl | ⟨r, x, rfl⟩
  · simp [num, cnt_zero n hn]
  · simp only [List.concat_eq_append, List.getLast?_append, List.getLast?_singleton, Option.some_or, Option.some.injEq, forall_eq'] at hl
    have h0 := hl
    have hlt := num_lt n (r ++ [x]) (by simpa using h)
    rw [List.concat_eq_append]
    have hge : 2 ^ (n * r.length) ≤ num n (r ++ [x]) := by
      rw [num_append]
      simp only [num, Nat.mul_zero, Nat.add_zero]
      have : 2 ^ (n * r.length) * 1 ≤ 2 ^ (n * r.length) * x := Nat.mul_le_mul_left _ (by (first | lia | omega))
      (first | lia | omega)
    have b1 := bits_le hlt
    have b2 := bits_gt hge
    simp only [List.length_append, List.length_singleton] at b1 ⊢
    unfold cnt
    have e : n * (r.length + 1) = n * r.length + n := by rw [Nat.mul_add, Nat.mul_one]
    rw [e] at b1
    refine Nat.div_eq_of_lt_le ?_ ?_
    · rw [Nat.mul_comm, e]; (first | lia | omega)
    · rw [Nat.mul_comm, Nat.mul_add, e]; (first | lia | omega)
/-! values that are numbers -/
def NA (vs : List Value) (l : List Nat) : Prop := vs.length = l.length ∧ ∀ (i x : Nat), l[i]? = some x → ∃ t, vs[i]? = some (Value.int (x : Int) t)
theorem NA.nil : NA [] [] := ⟨rfl, fun i x h => by simp at h⟩
theorem NA.set {vs : List Value} {l : List Nat} (h : NA vs l) (i x : Nat) (t : Tok) : NA (vs.set i (.int (x : Int) t)) (l.set i x) := by
  refine ⟨by simp [h.1], fun j y hy => ?_⟩
  by_cases e : i = j
  · subst e
    rw [List.getElem?_set] at hy ⊢
    simp only [if_true] at hy ⊢
    split at hy
    · rename_i hlt
      cases hy
      rw [if_pos (by rw [h.1]; exact hlt)]
      exact ⟨t, rfl⟩
    · cases hy
  · rw [List.getElem?_set_ne e] at hy ⊢
    exact h.2 j y hy
theorem NA.append {vs ws : List Value} {l r : List Nat} (h : NA vs l) (h2 : NA ws r) : NA (vs ++ ws) (l ++ r) := by
  refine ⟨by simp [h.1, h2.1], fun j y hy => ?_⟩
  by_cases e : j < l.length
  · rw [List.getElem?_append_left e] at hy
    rw [List.getElem?_append_left (by rw [h.1]; exact e)]
    exact h.2 j y hy
  · rw [List.getElem?_append_right (by (first | lia | omega))] at hy
    rw [List.getElem?_append_right (by rw [h.1]; (first | lia | omega)), h.1]
    exact h2.2 _ y hy
theorem NA.one (x : Nat) (t : Tok) : NA [.int (x : Int) t] [x] := ⟨rfl, fun i y h => by
  cases i with
  | zero => simp at h; subst h; exact ⟨t, rfl⟩
  | succ i => simp at h⟩
theorem NA.reverse {vs : List Value} {l : List Nat} (h : NA vs l) : NA vs.reverse l.reverse := by
  refine ⟨by simp [h.1], fun j y hy => ?_⟩
  by_cases e : j < l.length
  · rw [List.getElem?_reverse e] at hy
    rw [List.getElem?_reverse (by rw [h.1]; exact e), h.1]
    exact h.2 _ y hy
  · rw [List.getElem?_eq_none (by simp; (first | lia | omega))] at hy
    cases hy
theorem NA.zeros (k : Nat) (t : Tok) : NA (List.replicate k [Value.int (0 : Int) t]).flatten (List.replicate k 0) := by
  induction k with
  | zero => exact NA.nil
  | succ k ih =>
    rw [List.replicate_succ, List.flatten_cons, List.replicate_succ]
    exact NA.append (NA.one 0 t) ih
section
variable {w : World} {A : Around} {E : Value → Shared → Prop} {G : Gd} {s : Shared} {R : Led} {K : Frag} {a d : Addr} {vs : List Value} {n : Nat} {sz : Int} {k t : Tok} {Q : Value → Shared → Prop} {j : Nat} {env : Env} {m : Str → Option Value}
theorem gnmL {x : Str} {pos : Pos} {v : Value} (hn : s.heap.Ns env.locals m) (hv : m x = some v) (h : Q v s) (hk : env.scope.kind = .function) (hx : env.kindOf x = some .local) (hd : (x == ("__debug__" : Str)) = false) :
    wpAny (model pw w) A (eval (.Name x pos) env) Q E s := wpAny_Name (wpAny_loadName_local hk hx hn hv h) hd
theorem gnmB {x : Str} {pos : Pos} {v : Value} (hk' : ∀ b o, G.B.get? b = some o → s.heap.get? b = some o) (hv : BuiltIs G.B x v) (h : Q v s) (hg : env.globals = mainGlobals) (hb : env.builtins = builtinsNs) (hk : env.scope.kind = .function) (hx : env.kindOf x = some .globalImplicit) (hd : (x == ("__debug__" : Str)) = false) :
    wpAny (model pw w) A (eval (.Name x pos) env) Q E s := by
  obtain ⟨mg, mb, hn, he, hb', hv⟩ := hv
  exact Name_function_global hk hx (loadGlobal_builtin (by rw [hg]; exact hn.keeps hk') he (by rw [hb]; exact hb'.keeps hk') hv h) hd
theorem gnmG {x : Str} {pos : Pos} {v : Value} (hk' : ∀ b o, G.B.get? b = some o → s.heap.get? b = some o) (hv : GlobIs G.B x v) (h : Q v s) (hg : env.globals = mainGlobals) (hk : env.scope.kind = .function) (hx : env.kindOf x = some .globalImplicit) (hd : (x == ("__debug__" : Str)) = false) :
    wpAny (model pw w) A (eval (.Name x pos) env) Q E s := by
  obtain ⟨mg, hn, he⟩ := hv
  exact Name_function_global hk hx (loadGlobal_global (by rw [hg]; exact hn.keeps hk') he h) hd
end
section
variable {w : World} {A : Around} {E : Value → Shared → Prop} {G : Gd} {s s' : Shared} {R : Led} {K : Frag} {L a cd f l it : Addr} {m : Str → Option Value} {vs : List Value} {c : Nat} {env : Env}
theorem St.butN {o : Obj} {h' : Heap} (S : St G s ((a, o) :: R)) (hm : Mut o) (hs : Heap.SameBut a s.heap h') (hn : ∀ p ∈ R, p.1 ≠ a) : St G { s with heap := h' } R := by
  have hB := (S.own _ (List.mem_cons_self ..)).2
  have ho := S.get (List.mem_cons_self ..)
  refine ⟨fun b ob e => hs.extBut b ob (fun q => ?_) (S.keep b ob e), fun p hp => ⟨hs.extBut _ _ (hn p hp) (S.own p (List.mem_cons_of_mem _ hp)).1, (S.own p (List.mem_cons_of_mem _ hp)).2⟩, fun t ht => (S.tabs t ht).but hs.extBut ho hm, S.gens, ?_, S.os, fun t ht p hp => S.offT t ht p (List.mem_cons_of_mem _ hp)⟩
  · subst q
    rw [hB] at e; cases e
  · show G.B.objs.size ≤ h'.objs.size
    rw [hs.1]; exact S.size
/-- old below, new above -/
def Gap (it C : Addr) (R : Led) : Prop := ∀ p ∈ R, p.1 < it ∨ C < p.1
theorem compCore {elt target iter : Expr} {scope : Scope} {pos : Pos} {RR : Value → Addr → Result → Shared → Prop} (hh : A.handled = none) (hcell : ∀ y ∈ scope.names, y.2 ≠ .cell) (hkind : scope.kind = .function)
    (ht : (∃ x p, target = .Name x p) ∨ (∃ elts k p, target = .Tuple elts k p) ∧ ∀ v ∈ vs, ∃ T, v = .ref T)
    (F : Fm G s L m ((it, litO l 0) :: R)) (off : ∀ p ∈ R, p.1 < it) (hLit : L < it) (hlen : vs.length ≤ 1000)
    (I : Nat → List Value → Led → Prop) (h0 : I 0 [] R) (hl : ∀ i ys R, I i ys R → ∃ c, (l, listO vs c) ∈ R)
    (turn : ∀ i v ys cy o oL C D m R s, vs[i]? = some v → I i ys R → it < D → D < C → Gap it C R → (∀ p ∈ R, p.1 ≠ L) → Fm G s C m ((D, listO ys cy) :: (it, o) :: (L, oL) :: R) →
      wpAny (model pw w) A (assign target (compEnvC scope [] C env) v) (fun _ s₁ => wpAny (model pw w) A (eval elt (compEnvC scope [] C env)) (fun y s₂ => ∃ Rn m₂, (∀ q ∈ Rn, C < q.1) ∧ I (i + 1) (ys ++ [y]) (Rn ++ R) ∧
        Fm G s₂ C m₂ ((D, listO ys cy) :: (it, o) :: (L, oL) :: (Rn ++ R))) (fun _ _ => False) s₁) (fun _ _ => False) s)
    (fin : ∀ D C ys cy oL m₂ R s, it < D → D < C → Gap it C R → (∀ p ∈ R, p.1 ≠ L) → I vs.length ys R → (∀ {s' : Shared} {R'' : Led}, St G s' ((L, oL) :: R'') → (∀ p ∈ R'', p.1 ≠ L) → Fm G s' L m R'') →
      Fm G s C m₂ ((D, listO ys cy) :: (L, oL) :: R) → RR (.ref D) C (.ok .next) s) :
    wpAny (model pw w) A (newList []) (fun acc s₃ => wpAny (model pw w) A (newFunctionEnv scope env.globals [] [] env.qual none .none (some env)) (fun cenv s₄ =>
      codeAny (model pw w) A (.compStart (.ListComp elt [⟨target, iter, [], 0⟩] scope pos) 0 (.ref it) acc { cenv with scope := relabel scope env }) (RR acc cenv.locals) s₄) E s₃) E s := by
  obtain ⟨oL, hmL, SL, back⟩ := F.st
  refine wpAny_newObj_type ?_ (by show (0 : Nat) ≤ sizeLine; exact Nat.zero_le _)
  have SD := SL.push (t := s.toks) (listO [] 0)
  generalize hD : s.heap.objs.size = D at SD ⊢
  have hitD : it < D := hD ▸ F.lt (List.mem_cons_self ..)
  have hRD : ∀ p ∈ R, p.1 < D := fun p hp => hD ▸ F.lt (List.mem_cons_of_mem _ hp)
  generalize hs3 : ({ s with heap := s.heap.push { cls := Value.type "list", data := Data.seq ([] : List Value).toArray } } : Shared) = s3
  have SD3 : St G s3 ((D, listO [] 0) :: (L, oL) :: (it, litO l 0) :: R) := by rw [← hs3]; exact SD
  refine wpAny_newFunctionEnv hcell (by intro y hy; simp at hy) (fun h₁ hns₁ hsb₁ => ?_) hkind
  have hDC : D < s3.heap.objs.size := SD3.lt (List.mem_cons_self ..)
  have old : ∀ b o, s3.heap.get? b = some o → h₁.get? b = some o := fun b o e => hsb₁.extBut b o (Nat.ne_of_lt (Heap.lt_size e)) (Heap.get?_push_of_some _ e)
  have hz : s3.heap.objs.size ≤ h₁.objs.size := Nat.le_of_lt hns₁.lt
  generalize hC : s3.heap.objs.size = C at hns₁ hDC hz ⊢
  have FC : Fm G { s3 with heap := h₁, toks := s3.toks + ([] : List (Str × Value)).length } C (fun x => ([] : List (Str × Value)).reverse.lookup x) ((D, listO [] 0) :: (it, litO l 0) :: (L, oL) :: R) := by
    refine ⟨(SD3.grow (s' := { s3 with heap := h₁, toks := s3.toks + ([] : List (Str × Value)).length }) old (by rw [hC]; exact hz) SD3.gens rfl).sub (by walk_at "sub"), hns₁, fun p hp => ?_, SD3.fresh (by rw [hC]; exact Nat.le_refl _), by rw [← hC]; exact SD3.size⟩
    have : p ∈ (D, listO [] 0) :: (L, oL) :: (it, litO l 0) :: R := by revert p; walk_at "sub"
    exact Nat.ne_of_lt (hC ▸ SD3.lt this)
  have gap0 : Gap it C R := fun p hp => .inl (off p hp)
  have loop : ∀ s4 : Shared, s4 = { s3 with heap := h₁, toks := s3.toks + ([] : List (Str × Value)).length } →
      codeAny (model pw w) A (.compLoop (.ListComp elt [⟨target, iter, [], 0⟩] scope pos) 0 (.ref it) (.ref D) (compEnvC scope [] C env)) (RR (.ref D) C) s4 := by
    rintro s4 rfl
    refine codeAny_loop rfl (fun k s' => ∃ i ys cy o m' R', I i ys R' ∧ LI l i o ∧ Fm G s' C m' ((D, listO ys cy) :: (it, o) :: (L, oL) :: R') ∧ Gap it C R' ∧ (∀ p ∈ R', p.1 ≠ L) ∧ i ≤ vs.length ∧ ys.length = i ∧ k = vs.length - i) ?_ vs.length ⟨0, [], 0, _, _, R, h0, ⟨rfl, rfl⟩, FC, gap0, fun p hp => F.off p (List.mem_cons_of_mem _ hp), Nat.zero_le _, rfl, rfl⟩
    rintro k s' ⟨i, ys, cy, o, m', R', hI, ho, F', gap, offL, hi, hys, rfl⟩
    show wpAny _ _ ((compTurn (.ListComp elt [⟨target, iter, [], 0⟩] scope pos) 0 (.ref it) (.ref D) (compEnvC scope [] C env)).onRaise (fun x => do noteFrame x (compEnvC scope [] C env); theTreesLotGoes x)) _ _ s'
    refine wpAny_noted ?_
    rw [compTurn_list1]
    obtain ⟨c, hlm⟩ := hl i ys R' hI
    have hitC : it < C := Nat.lt_trans hitD hDC
    have offit : ∀ p ∈ (D, listO ys cy) :: (L, oL) :: R', p.1 ≠ it := fun p hp => by
      simp only [List.mem_cons] at hp
      rcases hp with rfl | rfl | hp
      · exact Nat.ne_of_gt hitD
      · exact Nat.ne_of_lt hLit
      · rcases gap p hp with h | h
        · exact Nat.ne_of_lt h
        · exact Nat.ne_of_gt (Nat.lt_trans hitC h)
    have F1 : Fm G s' C m' ((it, o) :: (D, listO ys cy) :: (L, oL) :: R') := F'.sub (by walk_at "sub")
    refine wpAny_bind (wpAny_standAt (wpAny_bind ?_))
    rcases Nat.lt_or_ge i vs.length with hlt | hge
    · have hv : vs[i]? = some vs[i] := List.getElem?_eq_getElem hlt
      refine wpAny_pyNext_list_item (i := i) (x := vs[i]) ⟨o, F1.get (List.mem_cons_self ..), ho.1, ho.2⟩ (isL (F1.get (a := l) (o := listO vs c) (by simp [hlm]))) (by rw [List.getElem?_toArray]; exact hv) fun h' hi' hs => ?_
      obtain ⟨o', ho', hc', hd'⟩ := hi'
      have F2 := F1.set (t := s'.toks) ho.mut hs ho' offit
      have hgo : ∀ (Q : Unit → Shared → Prop) (E : Value → Shared → Prop) , Q () { s' with heap := h' } → wpAny (model pw w) A (letOwnedTupleGo target (.ref it) vs[i]) Q E { s' with heap := h' } := fun Q E h => by
        rcases ht with ⟨x, p, rfl⟩ | ⟨⟨elts, k, p, rfl⟩, hr⟩
        · exact goName h
        · obtain ⟨T, e⟩ := hr vs[i] (List.getElem_mem hlt)
          rw [e]
          exact wpAny_letOwnedTupleGo_listiter (i := i + 1) ⟨o', ho', hc', hd'⟩ h
      refine wpAny_bind (hgo _ _ ?_)
      refine wpAny_bind (wpAny_mono (turn i vs[i] ys cy o' oL C D m' R' _ hv hI hitD hDC gap offL (F2.sub (by walk_at "sub"))) (fun _ s₁ h₁ => ?_) fun _ _ x => x.elim)
      refine wpAny_bind (wpAny_bind (wpAny_mono h₁ (fun y s₂ h₂ => ?_) fun _ _ x => x.elim))
      obtain ⟨Rn, m₂, hRn, hI2, F3⟩ := h₂
      have gap2 : Gap it C (Rn ++ R') := fun p hp => by
        rcases List.mem_append.mp hp with hp | hp
        · exact .inr (hRn p hp)
        · exact gap p hp
      have offL2 : ∀ p ∈ Rn ++ R', p.1 ≠ L := fun p hp => by
        rcases List.mem_append.mp hp with hp | hp
        · exact Nat.ne_of_gt (Nat.lt_trans (Nat.lt_trans hLit hitC) (hRn p hp))
        · exact offL p hp
      refine wpAny_bind (appL F3 ?_ (by walk_at "o") fun s₃ F4 => ?_)
      · intro p hp
        simp only [List.mem_cons] at hp
        rcases hp with rfl | rfl | hp
        · exact Nat.ne_of_lt hitD
        · exact Nat.ne_of_lt (Nat.lt_trans hLit hitD)
        · rcases gap2 p hp with h | h
          · exact Nat.ne_of_lt (Nat.lt_trans h hitD)
          · exact Nat.ne_of_gt (Nat.lt_trans hDC h)
      refine wpAny_pure (wpAny_pure ⟨rfl, vs.length - (i + 1), by (first | lia | omega), i + 1, ys ++ [y], _, o', m₂, Rn ++ R', hI2, ⟨hc', hd'⟩, F4, gap2, offL2, hlt, by simp [hys], rfl⟩)
    · have hin : i = vs.length := by (first | lia | omega)
      subst hin
      refine wpAny_pyNext_list_end hh (i := vs.length) ⟨o, F1.get (List.mem_cons_self ..), ho.1, ho.2⟩ (isL (F1.get (a := l) (o := listO vs c) (by simp [hlm]))) (by simp) fun h' he => ?_
      refine wpAny_pure ?_
      exact fin D C ys cy oL m' R' _ hitD hDC gap offL hI back (F1.but ho.mut he offit)
  exact codeAny_compStart_list (loop _ rfl) (wpAny_pyIter_listiter ⟨_, FC.get (a := it) (o := litO l 0) (by simp), rfl, rfl⟩ (loop _ rfl))
/-- what a comprehension over a list asks -/
def CompK (w : World) (A : Around) (G : Gd) (L : Addr) (m : Str → Option Value) (scope : Scope) (env : Env) (target elt : Expr) (Fin : Addr → List Value → Nat → Led → Prop) (xv : Value) (s₁ : Shared) : Prop :=
  ∃ l vs R, ∃ I : Nat → List Value → Led → Prop, xv = .ref l ∧ Fm G s₁ L m R ∧ (∃ c, (l, listO vs c) ∈ R) ∧ vs.length ≤ 1000 ∧ ((∃ x p, target = .Name x p) ∨ (∃ elts k p, target = .Tuple elts k p) ∧ ∀ v ∈ vs, ∃ T, v = .ref T) ∧ I 0 [] R ∧ (∀ i ys R, I i ys R → ∃ c, (l, listO vs c) ∈ R) ∧
    (∀ it, (∀ p ∈ R, p.1 < it) → L < it → ∀ i v ys cy o oL C D m R s, vs[i]? = some v → I i ys R → it < D → D < C → Gap it C R → (∀ p ∈ R, p.1 ≠ L) → Fm G s C m ((D, listO ys cy) :: (it, o) :: (L, oL) :: R) →
      wpAny (model pw w) A (assign target (compEnvC scope [] C env) v) (fun _ s₁ => wpAny (model pw w) A (eval elt (compEnvC scope [] C env)) (fun y s₂ => ∃ Rn m₂, (∀ q ∈ Rn, C < q.1) ∧ I (i + 1) (ys ++ [y]) (Rn ++ R) ∧
        Fm G s₂ C m₂ ((D, listO ys cy) :: (it, o) :: (L, oL) :: (Rn ++ R))) (fun _ _ => False) s₁) (fun _ _ => False) s) ∧
    ∀ D ys cy R', (∀ p ∈ R, p.1 < D) → L < D → (∀ p ∈ R', p.1 ≠ D) → I vs.length ys R' → Fin D ys cy R'
variable {cn : Str} {cs : Scope} {cl : List (Str × Addr)}
theorem lcV {elt target iter : Expr} {scope : Scope} {pos : Pos} {Q : Value → Shared → Prop} (hh : A.handled = none) (hclos : closureFor scope (envX cn cs L f (.ref cd) cl) = pure []) (hcell : ∀ y ∈ scope.names, y.2 ≠ .cell) (hkind : scope.kind = .function)
    (hnames : ∀ y ∈ scope.names, y.2 = .local → scope.names.lookup y.1 = some .local) (hs : ∀ x, foldedSetIterable iter (envX cn cs L f (.ref cd) cl) x = pure x)
    (h : wpAny (model pw w) A (eval iter (envX cn cs L f (.ref cd) cl)) (CompK w A G L m scope (envX cn cs L f (.ref cd) cl) target elt (fun D ys cy R' => ∀ s', Fm G s' L m ((D, listO ys cy) :: R') → Q (.ref D) s')) E s) :
    wpAny (model pw w) A (eval (.ListComp elt [⟨target, iter, [], 0⟩] scope pos) (envX cn cs L f (.ref cd) cl)) Q E s := by
  rw [eval_ListComp]
  refine wpAny_comprehension_free (use := none) rfl hs hclos hkind hnames (wpAny_mono h (fun xv s₁ h₁ => ?_) fun _ _ e => e)
  obtain ⟨l, vs, R, I, rfl, F, ⟨c, hlm⟩, hlen, ht, h0, hl, turn, fin⟩ := h₁
  refine iterL F hlm ?_
  intro it s₂ hit hLit F2
  refine compCore (RR := fun acc C => compPost (model pw w) A E none Q acc C) hh hcell hkind ht F2 hit hLit hlen I h0 hl (turn it hit hLit) ?_
  intro D C ys cy oL m₂ R' s₃ h1 h2 gap offL hI back F3
  refine ⟨m₂, F3.ns, fun h' hsb => ?_⟩
  obtain ⟨oC, hmC, SC, _⟩ := F3.st
  have hoffD : ∀ p ∈ R', p.1 ≠ D := fun p hp => by
    rcases gap p hp with h | h
    · exact Nat.ne_of_lt (Nat.lt_trans h h1)
    · exact Nat.ne_of_gt (Nat.lt_trans h2 h)
  have S4 := (SC.butN hmC hsb F3.off).sub (R' := (L, oL) :: (D, listO ys cy) :: R') (by walk_at "sub")
  refine fin D ys cy R' (fun p hp => Nat.lt_trans (hit p hp) h1) (Nat.lt_trans hLit h1) hoffD hI _ (back S4 ?_)
  intro p hp
  rcases List.mem_cons.mp hp with rfl | hp
  · exact Nat.ne_of_gt (Nat.lt_trans hLit h1)
  · exact offL p hp
theorem lcS {elt target iter : Expr} {scope : Scope} {pos spos py : Pos} {y : Str} {Q : Flow → Shared → Prop} (hh : A.handled = none)
    (hsw : swapsWith (.ListComp elt [⟨target, iter, [], 0⟩] scope pos) (some (.Name y py)) spos.line (envX cn cs L f (.ref cd) cl) = pure true) (hk : cs.kind = .function) (hy : (envX cn cs L f (.ref cd) cl).kindOf y = some .local)
    (hclos : closureFor scope (envX cn cs L f (.ref cd) cl) = pure []) (hcell : ∀ y ∈ scope.names, y.2 ≠ .cell) (hkind : scope.kind = .function)
    (hnames : ∀ y ∈ scope.names, y.2 = .local → scope.names.lookup y.1 = some .local) (hs : ∀ x, foldedSetIterable iter (envX cn cs L f (.ref cd) cl) x = pure x)
    (h : wpAny (model pw w) A (eval iter (envX cn cs L f (.ref cd) cl)) (CompK w A G L m scope (envX cn cs L f (.ref cd) cl) target elt (fun D ys cy R' => ∀ s', Fm G s' L (upd m y (.ref D)) ((D, listO ys cy) :: R') → Q .next s')) E s) :
    wpAny (model pw w) A (exec (.Assign [.Name y py] (.ListComp elt [⟨target, iter, [], 0⟩] scope pos) spos) (envX cn cs L f (.ref cd) cl)) Q E s := by
  rw [exec_Assign_Name_used _ _ _ _ hsw]
  refine wpAny_bind (wpAny_standAt (wpAny_bind ?_))
  show wpAny _ A (do let _ ← comprehension (.ListComp elt [⟨target, iter, [], 0⟩] scope pos) scope (envX cn cs L f (.ref cd) cl) _ (newList []) false (eval iter (envX cn cs L f (.ref cd) cl)) (some (assign (.Name y py) (envX cn cs L f (.ref cd) cl)))) _ _ s
  refine wpAny_bind (wpAny_mono (wpAny_comprehension_free (use := some (assign (.Name y py) (envX cn cs L f (.ref cd) cl))) (Q := fun _ s' => Q .next s') rfl hs hclos hkind hnames
    (wpAny_mono h (fun xv s₁ h₁ => ?_) fun _ _ e => e)) (fun _ s' hq => wpAny_pure (wpAny_pure hq)) fun _ _ e => e)
  obtain ⟨l, vs, R, I, rfl, F, ⟨c, hlm⟩, hlen, ht, h0, hl, turn, fin⟩ := h₁
  refine iterL F hlm ?_
  intro it s₂ hit hLit F2
  refine compCore (RR := fun acc C => compPost (model pw w) A E (some (assign (.Name y py) (envX cn cs L f (.ref cd) cl))) (fun _ s' => Q .next s') acc C) hh hcell hkind ht F2 hit hLit hlen I h0 hl (turn it hit hLit) ?_
  intro D C ys cy oL m₂ R' s₃ h1 h2 gap offL hI back F3
  show wpAny _ A (assign (.Name y py) (envX cn cs L f (.ref cd) cl) (.ref D)) _ _ _
  have hoffD : ∀ p ∈ R', p.1 ≠ D := fun p hp => by
    rcases gap p hp with h | h
    · exact Nat.ne_of_lt (Nat.lt_trans h h1)
    · exact Nat.ne_of_gt (Nat.lt_trans h2 h)
  have hLC : L ≠ C := Nat.ne_of_lt (Nat.lt_trans hLit (Nat.lt_trans h1 h2))
  obtain ⟨oC, hmC, SC, backC⟩ := F3.st
  have FL : Fm G s₃ L m ((C, oC) :: (D, listO ys cy) :: R') := back (SC.sub (R' := (L, oL) :: (C, oC) :: (D, listO ys cy) :: R') (by walk_at "sub")) (by
    intro p hp
    simp only [List.mem_cons] at hp
    rcases hp with rfl | rfl | hp
    · exact hLC.symm
    · exact Nat.ne_of_gt (Nat.lt_trans hLit h1)
    · exact offL p hp)
  refine assign_Name (stL FL ?_ hk hy)
  intro s₄ F4
  obtain ⟨oC4, es4, ep4, ho4, hd4, hk4, hf4⟩ := F3.ns
  have hCget := F4.get (List.mem_cons_self ..)
  have hCs := F3.toSt
  have hnsC : s₄.heap.Ns C m₂ := by
    have : oC = oC4 := by
      have := SC.get (List.mem_cons_self ..)
      rw [ho4] at this
      exact (Option.some.inj this).symm
    subst this
    exact ⟨oC, es4, ep4, hCget, hd4, hk4, hf4⟩
  refine ⟨m₂, hnsC, fun h' hsb => ?_⟩
  have hoffC : ∀ p ∈ (D, listO ys cy) :: R', p.1 ≠ C := fun p hp => F3.off p (by revert p; walk_at "sub")
  exact fin D ys cy R' (fun p hp => Nat.lt_trans (hit p hp) h1) (Nat.lt_trans hLit h1) hoffD hI _ (F4.but hmC hsb.extBut hoffC)
end
def rep (ch n : Nat) : Str := ⟨(List.replicate n ch).toArray⟩
theorem rep_length (ch n : Nat) : (rep ch n).length = n := by simp [rep, Str.length]
theorem rep_fold (ch : Nat) : ∀ (k : Nat) (acc : Array Nat), (List.replicate k (#[ch] : Array Nat)).foldl (· ++ ·) acc = acc ++ (List.replicate k ch).toArray
  | 0, acc => by simp
  | k + 1, acc => by
    rw [List.replicate_succ, List.foldl_cons, rep_fold ch k, List.replicate_succ]
    apply Array.toList_inj.mp
    simp
theorem mul_rep {x : Str} {ch : Nat} (hx : x.cps = #[ch]) (n : Nat) : Txt.mul x (n : Int) = rep ch n := by
  have hl : x.length = 1 := by show x.cps.size = 1; rw [hx]; rfl
  unfold Txt.mul rep
  by_cases h0 : n = 0
  · subst h0; rfl
  · rw [if_neg (by (first | lia | omega))]
    by_cases h1 : n = 1
    · subst h1
      rw [if_pos (by simp)]
      cases x
      simp at hx
      simp [hx]
    · rw [if_neg (by simp [hl]; (first | lia | omega)), hx, rep_fold]
      simp
section
variable {w : World} {A : Around} {E : Value → Shared → Prop} {G : Gd} {s s' : Shared} {R : Led} {K : Frag} {L l l2 it : Addr} {m : Str → Option Value} {vs xs : List Value} {c c2 : Nat} {env : Env} {a b : Int} {t u : Tok} {Q : Value → Shared → Prop}
theorem rAbs (F : Fm G s L m R) (h : ∀ t s', Fm G s' L m R → Q (.int (if a < 0 then -a else a) t) s') : wpAny (model pw w) A (call (.builtin "abs") [.int a t]) Q E s :=
  call_abs_int fun u tk => h u _ (F.toks tk)
theorem rMax (hh : A.handled = none) (F : Fm G s L m R) (h : ∀ t s', Fm G s' L m R → Q (.int (if b > a then b else a) t) s') : wpAny (model pw w) A (call (.builtin "max") [.int a t, .int b u]) Q E s := by
  refine max_two_ints hh fun h' tk hk => ?_
  have F' := F.ext (s' := { s with heap := h', toks := tk }) hk rfl rfl
  split
  · rename_i hc; have := h u _ F'; rw [if_pos hc] at this; exact this
  · rename_i hc; have := h t _ F'; rw [if_neg hc] at this; exact this
theorem rAddL (F : Fm G s L m R) (hl : (l, listO vs c) ∈ R) (hl2 : (l2, listO xs c2) ∈ R) (hz : vs.length + xs.length ≤ 100000)
    (h : ∀ p s', (∀ q ∈ R, q.1 < p) → L < p → Fm G s' L m ((p, listO (vs ++ xs) 0) :: R) → Q (.ref p) s') : wpAny (model pw w) A (binaryOp .Add (.ref l) (.ref l2)) Q E s := by
  refine PySem.P.add_list (items := vs.toArray) (items2 := xs.toArray) (F.get hl) (F.get hl2) ?_ (by simp; exact Nat.le_trans hz (by decide))
  rw [List.append_toArray]
  exact h _ _ (fun q hq => F.lt hq) F.ltL (F.push (t := s.toks) _)
theorem rMulS {x : Str} {ch n : Nat} (hx : x.cps = #[ch]) (hn : n ≤ 100000) (hb : b = n) (F : Fm G s L m R) (h : ∀ t s', Fm G s' L m R → Q (.str (rep ch n) t) s') : wpAny (model pw w) A (binaryOp .Mult (.str x t) (.int b u)) Q E s := by
  subst hb
  have hl : x.length = 1 := by show x.cps.size = 1; rw [hx]; rfl
  refine SB.mul ⟨by simp; (first | lia | omega), fun _ _ => ?_, fun _ _ => ?_⟩ fun t' k => ?_
  · rw [hl]
    have : (1 : Int) ≤ (2 ^ 63 - 1) / n := by
      rw [Int.le_ediv_iff_mul_le (by (first | lia | omega))]
      (first | lia | omega)
    (first | lia | omega)
  · rw [hl]
    simp [Builtin.Str.tooLong, sizeLine]
    (first | lia | omega)
  · rw [mul_rep hx]
    exact h t' _ (F.toks k)
theorem rAddS {x y : Str} (hz : x.length + y.length ≤ 100000) (F : Fm G s L m R) (h : ∀ t s', Fm G s' L m R → Q (.str (x ++ y) t) s') : wpAny (model pw w) A (binaryOp .Add (.str x t) (.str y u)) Q E s :=
  SB.add (fun t' k => h t' _ (F.toks k)) (Nat.le_trans hz (by decide))
/-! a list of the frozen part -/
theorem isB (F : Fm G s L m R) (hl : G.B.IsList l vs.toArray) : s.heap.IsList l vs.toArray := by
  obtain ⟨o, ho, r⟩ := hl
  exact ⟨o, F.keep _ _ ho, r⟩
theorem tListB {Q : Bool → Shared → Prop} (F : Fm G s L m R) (hl : G.B.IsList l vs.toArray) (hz : vs.length ≤ 100000) (h : ∀ s', Fm G s' L m R → Q (!vs.isEmpty) s') : wpAny (model pw w) A (truthy (.ref l)) Q E s := by
  refine wpAny_truthy_list (items := vs.toArray) (isB F hl) (by simp; (first | lia | omega)) ?_
  rw [List.isEmpty_toArray]
  exact h _ (F.toks _)
theorem itB {value slice : Expr} {i : Int} {v : Value} (F : Fm G s L m R) (hl : G.B.IsList l vs.toArray) (h0 : 0 ≤ i) (h1 : i < 2 ^ 63) (hv : vs[i.toNat]? = some v) (h : Q v s)
    (hs : subscripted slice false (.ref l) (.int i u) = operate [.ref l, .int i u] (getItem (.ref l) (.int i u))) :
    wpAny (model pw w) A (subscriptTail value slice (.ref l) (.int i u)) Q E s :=
  tail_any (isB F hl).typeIs slot_list_getitem.lookup (wpAny_getItem_list (isB F hl) h0 h1 (by simpa using hv) h) hs
theorem slB {value slice : Expr} {sl : Addr} {lv uv : Value} {lo hi : Option Int} (F : Fm G s L m R) (hl : G.B.IsList l vs.toArray) (hsl : (sl, sliO lv uv .none) ∈ R) (pl : IsPart lv lo) (pu : IsPart uv hi) (hz : vs.length ≤ 1000)
    (h : ∀ a s', (∀ p ∈ R, p.1 < a) → L < a → Fm G s' L m ((a, listO (slicePick vs.toArray lo hi none).toList 0) :: R) → Q (.ref a) s')
    (hs : subscripted slice false (.ref l) (.ref sl) = operate [.ref sl, .ref l] (getItem (.ref l) (.ref sl))) :
    wpAny (model pw w) A (subscriptTail value slice (.ref l) (.ref sl)) Q E s := by
  refine tail_any (isB F hl).typeIs slot_list_getitem.lookup (wpAny_getItem_list_slice (isB F hl) ⟨_, F.get hsl, rfl, rfl⟩ pl pu .none (by simp) ?_ ?_) hs
  · have := h _ _ (fun p hp => F.lt hp) F.ltL (F.push (t := s.toks) (listO (slicePick vs.toArray lo hi none).toList 0))
    simpa using this
  · simp [sizeLine]; (first | lia | omega)
end
section
variable {w : World} {A : Around} {E : Value → Shared → Prop} {G : Gd} {s s' : Shared} {R : Led} {K : Frag} {L C a cd f l it : Addr} {m : Str → Option Value} {vs : List Value} {c : Nat} {env : Env} {x : Str} {pos : Pos} {v : Value}
/-! names in any frame -/
theorem gL {Q : Value → Shared → Prop} (F : Fm G s C m R) (hv : m x = some v) (h : Q v s) (hC : env.locals = C) (ok : okL env x = true) :
    wpAny (model pw w) A (eval (.Name x pos) env) Q E s := gnmL (by rw [hC]; exact F.ns) hv h (okL_of ok).1 (okL_of ok).2.1 (okL_of ok).2.2
theorem gG {Q : Value → Shared → Prop} (F : Fm G s C m R) (hv : GlobIs G.B x v) (h : Q v s) (hg : env.globals = mainGlobals) (ok : okG env x = true) :
    wpAny (model pw w) A (eval (.Name x pos) env) Q E s := gnmG F.keep hv h hg (okG_of ok).1 (okG_of ok).2.1 (okG_of ok).2.2
theorem gB {Q : Value → Shared → Prop} (F : Fm G s C m R) (hv : BuiltIs G.B x v) (h : Q v s) (hg : env.globals = mainGlobals) (hb : env.builtins = builtinsNs) (ok : okG env x = true) :
    wpAny (model pw w) A (eval (.Name x pos) env) Q E s := gnmB F.keep hv h hg hb (okG_of ok).1 (okG_of ok).2.1 (okG_of ok).2.2
theorem gst {Q : Unit → Shared → Prop} (F : Fm G s C m R) (h : ∀ s', Fm G s' C (upd m x v) R → Q () s') (hC : env.locals = C) (hk : env.scope.kind = .function) (hx : env.kindOf x = some .local) :
    wpAny (model pw w) A (storeName env x v) Q E s := by
  subst hC
  exact wpAny_storeName_local hx F.ns (fun h' hn hs => h _ (F.store (m' := upd m x v) hn hs)) (by rw [hk]; rfl)
theorem compCoreI {elt iter cond : Expr} {x : Str} {px : Pos} {scope : Scope} {pos : Pos} {RR : Value → Addr → Result → Shared → Prop} (hh : A.handled = none) (hcell : ∀ y ∈ scope.names, y.2 ≠ .cell) (hkind : scope.kind = .function)
    (F : Fm G s L m ((it, litO l 0) :: R)) (off : ∀ p ∈ R, p.1 < it) (hLit : L < it) (hlen : vs.length ≤ 1000)
    (I : Nat → List Value → Led → Prop) (h0 : I 0 [] R) (hl : ∀ i ys R, I i ys R → ∃ c, (l, listO vs c) ∈ R)
    (turn : ∀ i v ys cy o oL C D m R s, vs[i]? = some v → I i ys R → it < D → D < C → Gap it C R → (∀ p ∈ R, p.1 ≠ L) → Fm G s C m ((D, listO ys cy) :: (it, o) :: (L, oL) :: R) →
      wpAny (model pw w) A (assign (.Name x px) (compEnvC scope [] C env) v) (fun _ s₁ => wpAny (model pw w) A (isTrue cond (compEnvC scope [] C env) (eval cond (compEnvC scope [] C env))) (fun ok s₁ => if ok = true then wpAny (model pw w) A (eval elt (compEnvC scope [] C env)) (fun y s₂ => ∃ Rn m₂, (∀ q ∈ Rn, C < q.1) ∧ I (i + 1) (ys ++ [y]) (Rn ++ R) ∧
        Fm G s₂ C m₂ ((D, listO ys cy) :: (it, o) :: (L, oL) :: (Rn ++ R))) (fun _ _ => False) s₁ else I (i + 1) ys R ∧ ∃ m₂, Fm G s₁ C m₂ ((D, listO ys cy) :: (it, o) :: (L, oL) :: R)) (fun _ _ => False) s₁) (fun _ _ => False) s)
    (fin : ∀ D C ys cy oL m₂ R s, it < D → D < C → Gap it C R → (∀ p ∈ R, p.1 ≠ L) → I vs.length ys R → (∀ {s' : Shared} {R'' : Led}, St G s' ((L, oL) :: R'') → (∀ p ∈ R'', p.1 ≠ L) → Fm G s' L m R'') →
      Fm G s C m₂ ((D, listO ys cy) :: (L, oL) :: R) → RR (.ref D) C (.ok .next) s) :
    wpAny (model pw w) A (newList []) (fun acc s₃ => wpAny (model pw w) A (newFunctionEnv scope env.globals [] [] env.qual none .none (some env)) (fun cenv s₄ =>
      codeAny (model pw w) A (.compStart (.ListComp elt [⟨.Name x px, iter, [cond], 0⟩] scope pos) 0 (.ref it) acc { cenv with scope := relabel scope env }) (RR acc cenv.locals) s₄) E s₃) E s := by
  obtain ⟨oL, hmL, SL, back⟩ := F.st
  refine wpAny_newObj_type ?_ (by show (0 : Nat) ≤ sizeLine; exact Nat.zero_le _)
  have SD := SL.push (t := s.toks) (listO [] 0)
  generalize hD : s.heap.objs.size = D at SD ⊢
  have hitD : it < D := hD ▸ F.lt (List.mem_cons_self ..)
  have hRD : ∀ p ∈ R, p.1 < D := fun p hp => hD ▸ F.lt (List.mem_cons_of_mem _ hp)
  generalize hs3 : ({ s with heap := s.heap.push { cls := Value.type "list", data := Data.seq ([] : List Value).toArray } } : Shared) = s3
  have SD3 : St G s3 ((D, listO [] 0) :: (L, oL) :: (it, litO l 0) :: R) := by rw [← hs3]; exact SD
  refine wpAny_newFunctionEnv hcell (by intro y hy; simp at hy) (fun h₁ hns₁ hsb₁ => ?_) hkind
  have hDC : D < s3.heap.objs.size := SD3.lt (List.mem_cons_self ..)
  have old : ∀ b o, s3.heap.get? b = some o → h₁.get? b = some o := fun b o e => hsb₁.extBut b o (Nat.ne_of_lt (Heap.lt_size e)) (Heap.get?_push_of_some _ e)
  have hz : s3.heap.objs.size ≤ h₁.objs.size := Nat.le_of_lt hns₁.lt
  generalize hC : s3.heap.objs.size = C at hns₁ hDC hz ⊢
  have FC : Fm G { s3 with heap := h₁, toks := s3.toks + ([] : List (Str × Value)).length } C (fun x => ([] : List (Str × Value)).reverse.lookup x) ((D, listO [] 0) :: (it, litO l 0) :: (L, oL) :: R) := by
    refine ⟨(SD3.grow (s' := { s3 with heap := h₁, toks := s3.toks + ([] : List (Str × Value)).length }) old (by rw [hC]; exact hz) SD3.gens rfl).sub (by walk_at "sub"), hns₁, fun p hp => ?_, SD3.fresh (by rw [hC]; exact Nat.le_refl _), by rw [← hC]; exact SD3.size⟩
    have : p ∈ (D, listO [] 0) :: (L, oL) :: (it, litO l 0) :: R := by revert p; walk_at "sub"
    exact Nat.ne_of_lt (hC ▸ SD3.lt this)
  have gap0 : Gap it C R := fun p hp => .inl (off p hp)
  have loop : ∀ s4 : Shared, s4 = { s3 with heap := h₁, toks := s3.toks + ([] : List (Str × Value)).length } →
      codeAny (model pw w) A (.compLoop (.ListComp elt [⟨.Name x px, iter, [cond], 0⟩] scope pos) 0 (.ref it) (.ref D) (compEnvC scope [] C env)) (RR (.ref D) C) s4 := by
    rintro s4 rfl
    refine codeAny_loop rfl (fun k s' => ∃ i ys cy o m' R', I i ys R' ∧ LI l i o ∧ Fm G s' C m' ((D, listO ys cy) :: (it, o) :: (L, oL) :: R') ∧ Gap it C R' ∧ (∀ p ∈ R', p.1 ≠ L) ∧ i ≤ vs.length ∧ ys.length ≤ i ∧ k = vs.length - i) ?_ vs.length ⟨0, [], 0, _, _, R, h0, ⟨rfl, rfl⟩, FC, gap0, fun p hp => F.off p (List.mem_cons_of_mem _ hp), Nat.zero_le _, Nat.le_refl _, rfl⟩
    rintro k s' ⟨i, ys, cy, o, m', R', hI, ho, F', gap, offL, hi, hys, rfl⟩
    show wpAny _ _ ((compTurn (.ListComp elt [⟨.Name x px, iter, [cond], 0⟩] scope pos) 0 (.ref it) (.ref D) (compEnvC scope [] C env)).onRaise (fun x => do noteFrame x (compEnvC scope [] C env); theTreesLotGoes x)) _ _ s'
    refine wpAny_noted ?_
    rw [compTurn_list]
    obtain ⟨c, hlm⟩ := hl i ys R' hI
    have hitC : it < C := Nat.lt_trans hitD hDC
    have offit : ∀ p ∈ (D, listO ys cy) :: (L, oL) :: R', p.1 ≠ it := fun p hp => by
      simp only [List.mem_cons] at hp
      rcases hp with rfl | rfl | hp
      · exact Nat.ne_of_gt hitD
      · exact Nat.ne_of_lt hLit
      · rcases gap p hp with h | h
        · exact Nat.ne_of_lt h
        · exact Nat.ne_of_gt (Nat.lt_trans hitC h)
    have F1 : Fm G s' C m' ((it, o) :: (D, listO ys cy) :: (L, oL) :: R') := F'.sub (by walk_at "sub")
    refine wpAny_bind (wpAny_standAt (wpAny_bind ?_))
    rcases Nat.lt_or_ge i vs.length with hlt | hge
    · have hv : vs[i]? = some vs[i] := List.getElem?_eq_getElem hlt
      refine wpAny_pyNext_list_item (i := i) (x := vs[i]) ⟨o, F1.get (List.mem_cons_self ..), ho.1, ho.2⟩ (isL (F1.get (a := l) (o := listO vs c) (by simp [hlm]))) (by rw [List.getElem?_toArray]; exact hv) fun h' hi' hs => ?_
      obtain ⟨o', ho', hc', hd'⟩ := hi'
      have F2 := F1.set (t := s'.toks) ho.mut hs ho' offit
      refine wpAny_bind (goName ?_)
      refine wpAny_bind (wpAny_mono (turn i vs[i] ys cy o' oL C D m' R' _ hv hI hitD hDC gap offL (F2.sub (by walk_at "sub"))) (fun _ s₁ h₁ => ?_) fun _ _ x => x.elim)
      have htest : ∀ (Q : Bool → Shared → Prop) (E : Value → Shared → Prop) (s₁ : Shared), wpAny (model pw w) A (isTrue cond (compEnvC scope [] C env) (eval cond (compEnvC scope [] C env))) Q E s₁ →
          wpAny (model pw w) A (forIn [cond] true fun c r => if r = true then do let ok ← isTrue c (compEnvC scope [] C env) (eval c (compEnvC scope [] C env)); pure (ForInStep.yield ok) else pure (ForInStep.yield r)) Q E s₁ := fun Q E s₁ h => by
        rw [List.forIn_cons]
        simp only [if_true]
        refine wpAny_bind (wpAny_bind (wpAny_mono h (fun ok s₂ hq => wpAny_pure ?_) fun _ _ e => e))
        dsimp only
        rw [List.forIn_nil]
        exact wpAny_pure hq
      refine wpAny_bind (htest _ _ _ (wpAny_mono h₁ (fun ok s₁ h₁ => ?_) fun _ _ x => x.elim))
      cases ok with
      | false =>
        obtain ⟨hI2, m₂, F3⟩ := h₁
        exact wpAny_pure ⟨rfl, vs.length - (i + 1), by (first | lia | omega), i + 1, ys, _, o', m₂, R', hI2, ⟨hc', hd'⟩, F3, gap, offL, hlt, by (first | lia | omega), rfl⟩
      | true =>
      have h₁ : wpAny (model pw w) A (eval elt (compEnvC scope [] C env)) _ _ s₁ := h₁
      refine wpAny_bind (wpAny_bind (wpAny_mono h₁ (fun y s₂ h₂ => ?_) fun _ _ x => x.elim))
      obtain ⟨Rn, m₂, hRn, hI2, F3⟩ := h₂
      have gap2 : Gap it C (Rn ++ R') := fun p hp => by
        rcases List.mem_append.mp hp with hp | hp
        · exact .inr (hRn p hp)
        · exact gap p hp
      have offL2 : ∀ p ∈ Rn ++ R', p.1 ≠ L := fun p hp => by
        rcases List.mem_append.mp hp with hp | hp
        · exact Nat.ne_of_gt (Nat.lt_trans (Nat.lt_trans hLit hitC) (hRn p hp))
        · exact offL p hp
      refine wpAny_bind (appL F3 ?_ (by walk_at "o") fun s₃ F4 => ?_)
      · intro p hp
        simp only [List.mem_cons] at hp
        rcases hp with rfl | rfl | hp
        · exact Nat.ne_of_lt hitD
        · exact Nat.ne_of_lt (Nat.lt_trans hLit hitD)
        · rcases gap2 p hp with h | h
          · exact Nat.ne_of_lt (Nat.lt_trans h hitD)
          · exact Nat.ne_of_gt (Nat.lt_trans hDC h)
      refine wpAny_pure (wpAny_pure ⟨rfl, vs.length - (i + 1), by (first | lia | omega), i + 1, ys ++ [y], _, o', m₂, Rn ++ R', hI2, ⟨hc', hd'⟩, F4, gap2, offL2, hlt, by simp; (first | lia | omega), rfl⟩)
    · have hin : i = vs.length := by (first | lia | omega)
      subst hin
      refine wpAny_pyNext_list_end hh (i := vs.length) ⟨o, F1.get (List.mem_cons_self ..), ho.1, ho.2⟩ (isL (F1.get (a := l) (o := listO vs c) (by simp [hlm]))) (by simp) fun h' he => ?_
      refine wpAny_pure ?_
      exact fin D C ys cy oL m' R' _ hitD hDC gap offL hI back (F1.but ho.mut he offit)
  exact codeAny_compStart_list (loop _ rfl) (wpAny_pyIter_listiter ⟨_, FC.get (a := it) (o := litO l 0) (by simp), rfl, rfl⟩ (loop _ rfl))
variable {cn : Str} {cs : Scope} {cl : List (Str × Addr)}
/-- a comprehension with a test, that makes nothing else -/
theorem lcVI {elt iter cond : Expr} {x : Str} {px : Pos} {scope : Scope} {pos : Pos} {Q : Value → Shared → Prop} (hh : A.handled = none) (hclos : closureFor scope (envX cn cs L f (.ref cd) cl) = pure []) (hcell : ∀ y ∈ scope.names, y.2 ≠ .cell) (hkind : scope.kind = .function)
    (hnames : ∀ y ∈ scope.names, y.2 = .local → scope.names.lookup y.1 = some .local) (hs : ∀ x, foldedSetIterable iter (envX cn cs L f (.ref cd) cl) x = pure x)
    (hiter : ∀ Q' : Value → Shared → Prop, Q' (.ref l) s → wpAny (model pw w) A (eval iter (envX cn cs L f (.ref cd) cl)) Q' E s)
    (F : Fm G s L m R) (hl : (l, listO vs c) ∈ R) (hlen : vs.length ≤ 1000) (I : Nat → List Value → Prop) (h0 : I 0 [])
    (turn : ∀ i v ys C m' s R'', vs[i]? = some v → I i ys → Fm G s C m' R'' →
      wpAny (model pw w) A (assign (.Name x px) (compEnvC scope [] C (envX cn cs L f (.ref cd) cl)) v) (fun _ s₁ => wpAny (model pw w) A (isTrue cond (compEnvC scope [] C (envX cn cs L f (.ref cd) cl)) (eval cond (compEnvC scope [] C (envX cn cs L f (.ref cd) cl)))) (fun ok s₁ =>
        if ok = true then wpAny (model pw w) A (eval elt (compEnvC scope [] C (envX cn cs L f (.ref cd) cl))) (fun y s₂ => I (i + 1) (ys ++ [y]) ∧ ∃ m₂, Fm G s₂ C m₂ R'') (fun _ _ => False) s₁ else I (i + 1) ys ∧ ∃ m₂, Fm G s₁ C m₂ R'') (fun _ _ => False) s₁) (fun _ _ => False) s)
    (fin : ∀ D ys cy s', (∀ p ∈ R, p.1 < D) → L < D → I vs.length ys → Fm G s' L m ((D, listO ys cy) :: R) → Q (.ref D) s') :
    wpAny (model pw w) A (eval (.ListComp elt [⟨.Name x px, iter, [cond], 0⟩] scope pos) (envX cn cs L f (.ref cd) cl)) Q E s := by
  rw [eval_ListComp]
  refine wpAny_comprehension_free (use := none) rfl hs hclos hkind hnames (hiter _ ?_)
  refine iterL F hl ?_
  intro it s₂ hit hLit F2
  refine compCoreI (RR := fun acc C => compPost (model pw w) A E none Q acc C) hh hcell hkind F2 hit hLit hlen (fun i ys R' => I i ys ∧ R' = R) ⟨h0, rfl⟩ ?_ ?_ ?_
  · rintro i ys R' ⟨_, rfl⟩
    exact ⟨c, hl⟩
  · rintro i v ys cy o oL C D m' R' s₃ hv ⟨hI, rfl⟩ h1 h2 gap offL F3
    refine wpAny_mono (turn i v ys C m' s₃ _ hv hI F3) (fun _ s₁ h₁ => wpAny_mono h₁ (fun ok s₁ h₁ => ?_) fun _ _ e => e) fun _ _ e => e
    cases ok with
    | false => obtain ⟨hI2, m₂, F4⟩ := h₁; exact ⟨⟨hI2, rfl⟩, m₂, F4⟩
    | true =>
      refine wpAny_mono h₁ (fun y s₂ h₂ => ?_) fun _ _ e => e
      obtain ⟨hI2, m₂, F4⟩ := h₂
      exact ⟨[], m₂, by simp, ⟨hI2, rfl⟩, F4⟩
  · rintro D C ys cy oL m₂ R' s₃ h1 h2 gap offL ⟨hI, rfl⟩ back F3
    refine ⟨m₂, F3.ns, fun h' hsb => ?_⟩
    obtain ⟨oC, hmC, SC, _⟩ := F3.st
    have S4 := (SC.butN hmC hsb F3.off).sub (R' := (L, oL) :: (D, listO ys cy) :: R') (by walk_at "sub")
    refine fin D ys cy _ (fun p hp => Nat.lt_trans (hit p hp) h1) (Nat.lt_trans hLit h1) hI (back S4 ?_)
    intro p hp
    rcases List.mem_cons.mp hp with rfl | hp
    · exact Nat.ne_of_gt (Nat.lt_trans hLit h1)
    · exact offL p hp
/-! texts -/
theorem lenS {y : Str} {t : Tok} {Q : Value → Shared → Prop} (F : Fm G s L m R) (hz : y.length ≤ 1000000) (h : ∀ t s', Fm G s' L m R → Q (.int y.length t) s') : wpAny (model pw w) A (call (.builtin "len") [.str y t]) Q E s :=
  PySem.P.len_str (by walk_at "o") (h _ _ (F.toks _))
theorem joinL {y : Str} {t : Tok} {ys : List Str} {Q : Value → Shared → Prop} (F : Fm G s L m R) (hl : (l, listO vs c) ∈ R) (hi : StrsAre vs ys) (hy : y.length ≤ 16) (hw : (ys.map (·.length)).sum + ys.length ≤ 1000000)
    (h : ∀ t s', Fm G s' L m R → Q (.str (Txt.join y ys) t) s') : wpAny (model pw w) A (call (.builtin "str.join") [.str y t, .ref l]) Q E s :=
  join_listW (items := vs.toArray) (isL (F.get hl)) (by simpa using hi) hy (by walk_at "o") fun t' k => h t' _ (F.toks k)
end
/-- all of the one above all of the other -/
def Above (Rn R : Led) : Prop := ∀ q ∈ Rn, ∀ r ∈ R, r.1 < q.1
theorem Above.nil {R : Led} : Above [] R := fun q hq => by simp at hq
theorem Above.append {Rn Rm R : Led} (h : Above Rn R) (h2 : Above Rm R) : Above (Rn ++ Rm) R := fun q hq r hr => by
  rcases List.mem_append.mp hq with hq | hq
  · exact h q hq r hr
  · exact h2 q hq r hr
theorem Above.cons {a : Addr} {o : Obj} {Rm R : Led} (h : ∀ r ∈ R, r.1 < a) (h2 : Above Rm R) : Above ((a, o) :: Rm) R := fun q hq r hr => by
  rcases List.mem_cons.mp hq with rfl | hq
  · exact h r hr
  · exact h2 q hq r hr
theorem Above.sub {Rn R R' : Led} (h : Above Rn R) (hs : ∀ q ∈ R', q ∈ R) : Above Rn R' := fun q hq r hr => h q hq r (hs r hr)
section
variable {w : World} {A : Around} {E : Value → Shared → Prop} {G : Gd} {s s' : Shared} {R : Led} {K : Frag} {L a cd f l it : Addr} {m : Str → Option Value} {vs : List Value} {c : Nat} {cn : Str} {cs : Scope} {cl : List (Str × Addr)}
theorem compK_of {scope : Scope} {env : Env} {target elt : Expr} {Fin : Addr → List Value → Nat → Led → Prop} (F : Fm G s L m R) (hl : (l, listO vs c) ∈ R) (hlen : vs.length ≤ 1000) (I : Nat → List Value → Led → Prop) (h0 : I 0 [] [])
    (ht : (∃ x p, target = .Name x p) ∨ (∃ elts k p, target = .Tuple elts k p) ∧ ∀ v ∈ vs, ∃ T, v = .ref T)
    (turn : ∀ i v ys C m' s' Rn R'', vs[i]? = some v → I i ys Rn → (∀ q ∈ Rn, q ∈ R'') → (∀ q ∈ R, q ∈ R'') → Fm G s' C m' R'' →
      wpAny (model pw w) A (assign target (compEnvC scope [] C env) v) (fun _ s₁ => wpAny (model pw w) A (eval elt (compEnvC scope [] C env)) (fun y s₂ => ∃ Rm m₂, (∀ q ∈ Rm, C < q.1) ∧ I (i + 1) (ys ++ [y]) (Rm ++ Rn) ∧
        Fm G s₂ C m₂ (Rm ++ R'')) (fun _ _ => False) s₁) (fun _ _ => False) s')
    (fin : ∀ D ys cy Rn, (∀ p ∈ R, p.1 < D) → L < D → Above Rn R → (∀ p ∈ Rn, p.1 ≠ D) → I vs.length ys Rn → Fin D ys cy (Rn ++ R)) :
    CompK w A G L m scope env target elt Fin (.ref l) s := by
  refine ⟨l, vs, R, fun i ys R' => ∃ Rn, R' = Rn ++ R ∧ Above Rn R ∧ I i ys Rn, rfl, F, ⟨c, hl⟩, hlen, ht, ⟨[], rfl, Above.nil, h0⟩, ?_, ?_, ?_⟩
  · rintro i ys R' ⟨Rn, rfl, _⟩
    exact ⟨c, List.mem_append_right _ hl⟩
  · rintro it hit hLit i v ys cy o oL C D m' R' s' hv ⟨Rn, rfl, hab, hI⟩ h1 h2 gap offL F'
    refine wpAny_mono (turn i v ys C m' s' Rn _ hv hI (fun q hq => ?_) (fun q hq => ?_) F') (fun _ s₁ h₁ => wpAny_mono h₁ (fun y s₂ h₂ => ?_) fun _ _ e => e) fun _ _ e => e
    · exact List.mem_cons_of_mem _ (List.mem_cons_of_mem _ (List.mem_cons_of_mem _ (List.mem_append_left _ hq)))
    · exact List.mem_cons_of_mem _ (List.mem_cons_of_mem _ (List.mem_cons_of_mem _ (List.mem_append_right _ hq)))
    · obtain ⟨Rm, m₂, hRm, hI2, F2⟩ := h₂
      refine ⟨Rm, m₂, hRm, ⟨Rm ++ Rn, by simp, ?_, hI2⟩, F2.sub (by walk_at "sub")⟩
      refine Above.append (fun q hq r hr => ?_) hab
      exact Nat.lt_trans (hit r hr) (Nat.lt_trans h1 (Nat.lt_trans h2 (hRm q hq)))
  · rintro D ys cy R' hD hLD hoff ⟨Rn, rfl, hab, hI⟩
    exact fin D ys cy Rn hD hLD hab (fun p hp => hoff p (List.mem_append_left _ hp)) hI
theorem lcV2 {elt target iter : Expr} {scope : Scope} {pos : Pos} {Q : Value → Shared → Prop} (F : Fm G s L m R) (hl : (l, listO vs c) ∈ R) (hlen : vs.length ≤ 1000) (hh : A.handled = none) (hclos : closureFor scope (envX cn cs L f (.ref cd) cl) = pure []) (hcell : (scope.names.all fun x => x.2 != .cell) = true) (hkind : scope.kind = .function)
    (hnames : (scope.names.all fun y => y.2 != .local || (scope.names.lookup y.1 == some .local)) = true) (hs : ∀ x, foldedSetIterable iter (envX cn cs L f (.ref cd) cl) x = pure x)
    (hiter : ∀ Q' : Value → Shared → Prop, Q' (.ref l) s → wpAny (model pw w) A (eval iter (envX cn cs L f (.ref cd) cl)) Q' E s)
    (ht : (∃ x p, target = .Name x p) ∨ (∃ elts k p, target = .Tuple elts k p) ∧ ∀ v ∈ vs, ∃ T, v = .ref T)
    (I : Nat → List Value → Led → Prop) (h0 : I 0 [] [])
    (turn : ∀ i v ys C m' s' Rn R'', vs[i]? = some v → I i ys Rn → (∀ q ∈ Rn, q ∈ R'') → (∀ q ∈ R, q ∈ R'') → Fm G s' C m' R'' →
      wpAny (model pw w) A (assign target (compEnvC scope [] C (envX cn cs L f (.ref cd) cl)) v) (fun _ s₁ => wpAny (model pw w) A (eval elt (compEnvC scope [] C (envX cn cs L f (.ref cd) cl))) (fun y s₂ => ∃ Rm m₂, (∀ q ∈ Rm, C < q.1) ∧ I (i + 1) (ys ++ [y]) (Rm ++ Rn) ∧
        Fm G s₂ C m₂ (Rm ++ R'')) (fun _ _ => False) s₁) (fun _ _ => False) s')
    (fin : ∀ D ys cy Rn s', (∀ p ∈ R, p.1 < D) → L < D → Above Rn R → (∀ p ∈ Rn, p.1 ≠ D) → I vs.length ys Rn → Fm G s' L m ((D, listO ys cy) :: (Rn ++ R)) → Q (.ref D) s') :
    wpAny (model pw w) A (eval (.ListComp elt [⟨target, iter, [], 0⟩] scope pos) (envX cn cs L f (.ref cd) cl)) Q E s := by
  refine lcV (G := G) (m := m) hh hclos (fun y hy => by simpa using List.all_eq_true.mp hcell y hy) hkind (fun y hy e => ?_) hs (hiter _ ?_)
  · have := List.all_eq_true.mp hnames y hy
    rw [e] at this
    simpa using this
  · exact compK_of F hl hlen I h0 ht turn fun D ys cy Rn h1 h2 h3 h4 h5 s' F' => fin D ys cy Rn s' h1 h2 h3 h4 h5 F'
theorem lcS2 {elt target iter : Expr} {scope : Scope} {pos spos py : Pos} {y : Str} {Q : Flow → Shared → Prop} (F : Fm G s L m R) (hl : (l, listO vs c) ∈ R) (hlen : vs.length ≤ 1000) (hh : A.handled = none)
    (hsw : swapsWith (.ListComp elt [⟨target, iter, [], 0⟩] scope pos) (some (.Name y py)) spos.line (envX cn cs L f (.ref cd) cl) = pure true) (hk : cs.kind = .function) (hy : (envX cn cs L f (.ref cd) cl).kindOf y = some .local)
    (hclos : closureFor scope (envX cn cs L f (.ref cd) cl) = pure []) (hcell : (scope.names.all fun x => x.2 != .cell) = true) (hkind : scope.kind = .function)
    (hnames : (scope.names.all fun y => y.2 != .local || (scope.names.lookup y.1 == some .local)) = true) (hs : ∀ x, foldedSetIterable iter (envX cn cs L f (.ref cd) cl) x = pure x)
    (hiter : ∀ Q' : Value → Shared → Prop, Q' (.ref l) s → wpAny (model pw w) A (eval iter (envX cn cs L f (.ref cd) cl)) Q' E s)
    (ht : (∃ x p, target = .Name x p) ∨ (∃ elts k p, target = .Tuple elts k p) ∧ ∀ v ∈ vs, ∃ T, v = .ref T)
    (I : Nat → List Value → Led → Prop) (h0 : I 0 [] [])
    (turn : ∀ i v ys C m' s' Rn R'', vs[i]? = some v → I i ys Rn → (∀ q ∈ Rn, q ∈ R'') → (∀ q ∈ R, q ∈ R'') → Fm G s' C m' R'' →
      wpAny (model pw w) A (assign target (compEnvC scope [] C (envX cn cs L f (.ref cd) cl)) v) (fun _ s₁ => wpAny (model pw w) A (eval elt (compEnvC scope [] C (envX cn cs L f (.ref cd) cl))) (fun y s₂ => ∃ Rm m₂, (∀ q ∈ Rm, C < q.1) ∧ I (i + 1) (ys ++ [y]) (Rm ++ Rn) ∧
        Fm G s₂ C m₂ (Rm ++ R'')) (fun _ _ => False) s₁) (fun _ _ => False) s')
    (fin : ∀ D ys cy Rn s', (∀ p ∈ R, p.1 < D) → L < D → Above Rn R → (∀ p ∈ Rn, p.1 ≠ D) → I vs.length ys Rn → Fm G s' L (upd m y (.ref D)) ((D, listO ys cy) :: (Rn ++ R)) → Q .next s') :
    wpAny (model pw w) A (exec (.Assign [.Name y py] (.ListComp elt [⟨target, iter, [], 0⟩] scope pos) spos) (envX cn cs L f (.ref cd) cl)) Q E s := by
  refine lcS (G := G) (m := m) hh hsw hk hy hclos (fun y hy => by simpa using List.all_eq_true.mp hcell y hy) hkind (fun y hy e => ?_) hs (hiter _ ?_)
  · have := List.all_eq_true.mp hnames y hy
    rw [e] at this
    simpa using this
  · exact compK_of F hl hlen I h0 ht turn fun D ys cy Rn h1 h2 h3 h4 h5 s' F' => fin D ys cy Rn s' h1 h2 h3 h4 h5 F'
end
local macro_rules | `(tactic| walk_at "w1") => `(tactic| first
  | with_reducible refine wpAny_execs_cons ?_
  | with_reducible refine wpAny_execs_nil ?_
  | with_reducible refine wpAny_items_cons ?_ (by with_unfolding_all rfl)
  | with_reducible refine wpAny_items_nil ?_
  | with_reducible refine nmL (by assumption) (by first | with_unfolding_all rfl | with_unfolding_all assumption) ?_ (by with_unfolding_all rfl)
  | with_reducible refine nmG (by assumption) (Tp.gfn (by assumption) (by with_unfolding_all rfl)) ?_ (by with_unfolding_all rfl)
  | with_reducible refine nmB (by assumption) (Tp.gbi (by assumption) (by with_unfolding_all rfl)) ?_ (by with_unfolding_all rfl)
  | with_reducible refine nmC (by assumption) (by with_unfolding_all rfl) (by walk_at "mem") (by assumption) ?_ (by with_unfolding_all rfl) (by with_unfolding_all rfl) (by with_unfolding_all decide)
  | with_reducible refine nmF (by assumption) (by first | assumption | with_unfolding_all rfl) (by walk_at "mem") (by assumption) ?_ (by with_unfolding_all rfl) (by with_unfolding_all rfl) (by with_unfolding_all decide) (by with_unfolding_all decide)
  | (with_reducible refine kInt (by assumption) ?_; intro _ _ _)
  | with_reducible refine gL (by assumption) (by first | with_unfolding_all rfl | with_unfolding_all assumption) ?_ (by with_unfolding_all rfl) (by with_unfolding_all rfl)
  | with_reducible refine gG (by assumption) (Tp.gfn (by assumption) (by with_unfolding_all rfl)) ?_ (by with_unfolding_all rfl) (by with_unfolding_all rfl)
  | with_reducible refine gB (by assumption) (Tp.gbi (by assumption) (by with_unfolding_all rfl)) ?_ (by with_unfolding_all rfl) (by with_unfolding_all rfl) (by with_unfolding_all rfl)
  | (with_reducible refine gst (by assumption) ?_ (by with_unfolding_all rfl) (by with_unfolding_all rfl) (by with_unfolding_all rfl); intro _ _)
  | (with_reducible refine kStr (by assumption) ?_; intro _ _ _)
  | with_reducible refine wpAny_Constant_none ?_
  | with_reducible refine wpAny_Constant_bool ?_
  | with_reducible refine wpAny_BinOp ?_
  | with_reducible refine wpAny_UnaryOp ?_
  | with_reducible refine wpAny_Compare1 ?_ (by with_unfolding_all rfl)
  | with_reducible refine wpAny_isTrue_Compare1 ?_ (by with_unfolding_all rfl)
  | with_reducible refine wpAny_truthy_bool ?_
  | (with_reducible refine rAdd (by assumption) ?_; intro _ _ _)
  | (with_reducible refine rSub (by assumption) ?_; intro _ _ _)
  | (with_reducible refine rModP (by assumption) (by decide) ?_; intro _ _ _)
  | (with_reducible refine rDivP (by assumption) (by decide) (by decide +kernel) ?_; intro _ _ _)
  | with_reducible refine gmBits ?_
  | (with_reducible refine rBits (by assumption) ?_; intro _ _ _)
  | with_reducible refine tInt ?_
  | with_reducible refine aoC ?_ (by with_unfolding_all rfl)
  | with_reducible refine aoN ?_ (by with_unfolding_all rfl)
  | with_reducible refine PyProof.Rows.assign_Name ?_
  | with_reducible refine Assign_Tuple ?_ (by with_unfolding_all rfl) (by with_unfolding_all rfl)
  | (with_reducible refine rNeg (by assumption) ?_; intro _ _ _)
  | (with_reducible refine rInv (by assumption) ?_; intro _ _ _)
  | with_reducible refine PyProof.Rows.lt_int ?_
  | with_reducible refine PyProof.Rows.gt_int ?_
  | with_reducible refine PyProof.Rows.eq_int ?_
  | with_reducible refine PyProof.Rows.ne_int ?_
  | with_reducible refine PyProof.Rows.le_int ?_
  | with_reducible refine PyProof.Rows.ge_int ?_
  | with_reducible refine PySem.is_none ?_
  | with_reducible refine PyProof.Rows.is_bool ?_
  | with_reducible refine wpAny_Return_some ?_
  | with_reducible refine wpAny_Return_none ?_
  | with_reducible refine wpAny_Assign_Name ?_ (by with_unfolding_all rfl)
  | (with_reducible refine stL (by assumption) ?_ (by with_unfolding_all rfl) (by with_unfolding_all rfl); intro _ _)
  | with_reducible refine Tuple_ ?_
  | with_reducible refine List_ ?_
  | (with_reducible refine nwTup (by assumption) (by with_unfolding_all exact Nat.le_of_ble_eq_true rfl) ?_; intro _ _ _ _ _)
  | (with_reducible refine nwList (by assumption) (by with_unfolding_all exact Nat.le_of_ble_eq_true rfl) ?_; intro _ _ _ _ _)
  | with_reducible refine rMeth ?_ (by with_unfolding_all rfl)
  | with_reducible refine rCall ?_ (by with_unfolding_all rfl)
  | with_reducible refine cwB ?_ (by kernel_rfl)
  | with_reducible refine cwT ?_ (by kernel_rfl)
  | with_reducible refine Subscript_ ?_
  | with_reducible refine mkSl ?_
  | with_reducible refine evalPart_some_step ?_
  | with_reducible refine evalPart_none_step ?_
  | (with_reducible refine nwSl (by assumption) ?_; intro _ _ _ _ _)
  | with_reducible refine rAttr ?_
  | with_reducible refine wpAny_Assign_Subscript ?_ (by with_unfolding_all rfl)
  | with_reducible refine plainObj_wpAny_Assign_Attribute ?_ (by with_unfolding_all rfl)
  | with_reducible refine BoolOp_and ?_
  | with_reducible refine BoolOp_or ?_
  | with_reducible refine BoolOp_one ?_
  | with_reducible refine not_of ?_
  | with_reducible refine isTrue_not ?_
  | with_reducible refine isTrue_and ?_
  | with_reducible refine isTrue_or ?_
  | with_reducible refine isTrue_and_nil ?_
  | with_reducible refine isTrue_or_nil ?_
  | with_reducible refine GM.join ?_
  | with_reducible refine GM.isspace ?_
  | with_reducible refine wpAny_IfExp ?_
  | with_reducible refine wpAny_If ?_
  | with_reducible refine wpAny_Expr ?_ (by with_unfolding_all rfl) (by with_unfolding_all rfl)
  | with_reducible refine isTrue_plain ?_ (by with_unfolding_all rfl))
local macro_rules | `(tactic| walk_at "w") => `(tactic| repeat (walk_at "w1"; (try dsimp only [List.cons_append, List.nil_append])))

section
variable {w : World} {A : Around} {E : Value → Shared → Prop} {G : Gd} {s : Shared} {R : Led} {K : Frag} {a d : Addr} {vs : List Value} {n : Nat} {sz : Int} {k t : Tok} {Q : Value → Shared → Prop} {j : Nat}
theorem push_spec {x y : Value} (T : Tp G w K) (S : St G s ((a, accO aC d vs n) :: R)) (hd : (d, dicO w sz k t) ∈ R) (off : ∀ p ∈ R, p.1 ≠ a) (hz : vs.length ≤ 1000) (hr : Room A (j + 3))
    (h : ∀ p s', (∀ q ∈ (a, accO aC d vs n) :: R, q.1 < p) → St G s' ((a, accO aC d (vs ++ [.ref p]) (n + 1)) :: (p, tupO [x, y]) :: R) → Q .none s') :
    wpAny (model pw w) A (call (.ref aPush) [.ref a, x, y]) Q E s := by
  refine enterF [("self", .ref a), ("fws", x), ("string", y)] S hr T.lim T.fPush (fun pm ct => BindsTo.of_eq (by kernel_rfl)) (by decide +kernel) (by kernel_rfl) (by rfl) (by rfl) (by rfl) ?_
  intro L s' hL F hlt hr'
  refine wpAny_execs_cons ?_
  walk_at "w"
  refine gmA T F (List.mem_cons_self ..) (List.mem_cons_of_mem _ hd) T.cls.append (typ_append K) (by decide) (by kernel_rfl) ?_
  dsimp only
  walk_at "w"
  rename_i p s2 hp hLp F2
  refine appA (R := (p, tupO [x, y]) :: R) (n := n) T (F2.sub (by walk_at "sub")) (List.mem_cons_of_mem _ hd) ?_ hz ?_
  · intro q hq
    rcases List.mem_cons.mp hq with rfl | hq
    · exact Nat.ne_of_gt (hp _ (List.mem_cons_self ..))
    · exact off q hq
  intro s3 F3
  walk_at "w"
  refine h p _ hp F3.toSt
end
section
variable {w : World} {A : Around} {E : Value → Shared → Prop} {G : Gd} {s : Shared} {R : Led} {K : Frag} {a d : Addr} {vs : List Value} {n : Nat} {sz : Int} {k t : Tok} {Q : Value → Shared → Prop} {j : Nat}
theorem ex_super {env : Env} {c : Code} {st : Stmt} {rest : List Stmt} {Q : Flow → Shared → Prop} {s : Shared} (h : wpAny (model pw w) A (exec st env) (fun f s' => match f with | .next => _root_.PySem.wpAt (model pw w) A c (execs rest env) Q E s' | f => Q f s') E s) :
    _root_.PySem.wpAt (model pw w) A c (execs (st :: rest) env) Q E s := ks_wpAt_execs_cons (wpAt_of_wpAny h)
theorem init_spec {i : Int} {u : Tok} {vals : List Value} (hb : ∀ pm ct, BindsTo s (fdOf (sMeth 0) "_Accumulator.__init__" clsCell cInit (.ref dInit) pm ct) ⟨vals, []⟩ [("self", .ref a), ("initial_size", .int i u)])
    (T : Tp G w K) (S : St G s ((a, accO aC d [] n) :: (d, emptyDict) :: R)) (offa : ∀ p ∈ R, p.1 ≠ a) (offd : ∀ p ∈ R, p.1 ≠ d) (hr : Room A (j + 4))
    (h : ∀ s' n' k', St G s' ((a, accO aC d [] n') :: (d, dicO w i k' u) :: R) → Q .none s') :
    codeAny (model pw w) A (.call (.ref aInit) ⟨vals, []⟩) (Wn Q E) s := by
  have hne : a ≠ d := S.ne (List.mem_cons_self ..) (List.mem_cons_of_mem _ (List.mem_cons_self ..)) (by intro e; cases e)
  refine enterAtC [("self", .ref a), ("initial_size", .int i u)] S hr T.lim T.fInit hb (by decide +kernel) (by kernel_rfl) (by rfl) (by rfl) (by rfl) ?_
  intro L s' hL F hlt hr'
  refine ex_super ?_
  with_reducible refine plainObj_wpAny_Assign_Attribute ?_ (by with_unfolding_all rfl)
  walk_at "w"
  refine setA0 (R := (a, accO aC d [] n) :: R) (n := n) T (F.sub (by walk_at "sub")) (List.mem_cons_self ..) ?_ ?_
  · intro p hp
    rcases List.mem_cons.mp hp with rfl | hp
    · exact hne
    · exact offd p hp
  intro s2 k2 F2
  (try dsimp only)
  refine ks_wpAt_execs_cons (ks_wpAt_Expr_any ?_)
  refine ks_wpAt_MethodCall ?_ (by with_unfolding_all rfl)
  refine superB (ar := ⟨"self", none, _⟩) T F2 T.fInit T.fileInit (by with_unfolding_all rfl) (by with_unfolding_all rfl) (List.mem_cons_of_mem _ (List.mem_cons_self ..)) (by decide) (by kernel_rfl) (by kernel_rfl) (by kernel_rfl) (by rfl) (by kernel_rfl) ?_
  intro so s3 hso hLso F3
  refine superM_init T F3 (a := a) (d := d) (vs := []) (n := n) (by simp) (List.mem_cons_self ..) ?_
  intro bo s4 hbo hLbo F4
  (try dsimp only)
  refine cwBnd (F4.get (List.mem_cons_self ..)) (.inl rfl) ?_
  refine callInit (a := a) (d := d) (vs := []) (n := n) (R := (bo, bndO "method-wrapper" (.builtin "list.__init__") a) :: (d, dicO w i k2 u) :: R) (F4.sub (by walk_at "sub")) (List.mem_cons_self ..) ?_ (by simp) ?_
  · intro p hp
    rcases List.mem_cons.mp hp with rfl | hp
    · exact Nat.ne_of_gt (hbo (a, accO aC d [] n) (by simp))
    · rcases List.mem_cons.mp hp with rfl | hp
      · exact hne.symm
      · exact offa p hp
  intro s5 n5 F5
  (try dsimp only)
  refine wpAt_of_wpAny ?_
  walk_at "w"
  exact h _ n5 k2 (F5.toSt.sub (by walk_at "sub"))
theorem cnt_spec (T : Tp G w K) (S : St G s R) (ha : (a, accO aC d vs n) ∈ R) (hr : Room A (j + 3))
    (h : ∀ s' t', St G s' R → Q (.int vs.length t') s') : wpAny (model pw w) A (call (.ref aCnt) [.ref a]) Q E s := by
  refine call_of_code (enterAtC [("self", .ref a)] S hr T.lim T.fCnt (fun pm ct => BindsTo.of_eq (by kernel_rfl)) (by decide +kernel) (by kernel_rfl) (by rfl) (by rfl) (by rfl) ?_)
  intro L s' hL F hlt hr'
  refine ks_wpAt_execs_cons (ks_wpAt_Return_some ?_)
  refine ks_wpAt_MethodCall ?_ (by with_unfolding_all rfl)
  refine superB (ar := ⟨"self", none, _⟩) T F T.fCnt T.fileCnt (by with_unfolding_all rfl) (by with_unfolding_all rfl) ha (by decide) (by kernel_rfl) (by kernel_rfl) (by kernel_rfl) (by rfl) (by kernel_rfl) ?_
  intro so s3 hso hLso F3
  refine superM_len T F3 (List.mem_cons_of_mem _ ha) (List.mem_cons_self ..) ?_
  intro bo s4 hbo hLbo F4
  (try dsimp only)
  refine cwBnd (F4.get (List.mem_cons_self ..)) (.inl rfl) ?_
  refine callLen F4 (List.mem_cons_of_mem _ (List.mem_cons_of_mem _ ha)) (List.mem_cons_self ..) ?_
  intro t5 s5 F5
  (try dsimp only)
  exact h _ _ (F5.toSt.sub (by walk_at "sub"))
theorem cnt_F {L : Addr} {m : Str → Option Value} (T : Tp G w K) (F : Fm G s L m R) (ha : (a, accO aC d vs n) ∈ R) (hr : Room A (j + 3))
    (h : ∀ s' t', Fm G s' L m R → Q (.int vs.length t') s') : wpAny (model pw w) A (call (.ref aCnt) [.ref a]) Q E s := by
  obtain ⟨oL, hm, SL, back⟩ := F.st
  exact cnt_spec T SL (List.mem_cons_of_mem _ ha) hr fun s' t' S' => h s' t' (back S' F.off)
/-- a method of the class itself upon an accumulator -/
theorem gmF {name : Str} {f L : Addr} {m : Str → Option Value} {pl : Sem Bool} {Q : Value × List Value → Shared → Prop} (T : Tp G w K) (F : Fm G s L m R) (ha : (a, accO aC d vs n) ∈ R) (hd : (d, dicO w sz k t) ∈ R)
    (hf : findIn K (.ref aC) name = some (some (.ref f))) (hm : f ∈ [aPush, aPopFrom, aPop, aLen, aStr, aReset, aWs, aCnt]) (hn : (Value.str ("_initial_size" : Str) k).isStr name = false) (h : Q (.ref f, [.ref a]) s) : wpAny (model pw w) A (getMethod (.ref a) name pl) Q E s :=
  gmA T F ha hd hf (T.fnT f hm) (by decide) hn h
theorem pop_spec (T : Tp G w K) (S : St G s ((a, accO aC d vs n) :: R)) (hd : (d, dicO w sz k t) ∈ R) (off : ∀ p ∈ R, p.1 ≠ a) (hz : vs.length ≤ 1000) (hr : Room A (j + 5))
    (h0 : vs = [] → ∀ p s' t1 t2, (∀ q ∈ (a, accO aC d vs n) :: R, q.1 < p) → St G s' ((p, tupO [.str "" t1, .str "" t2]) :: (a, accO aC d vs n) :: R) → Q (.ref p) s')
    (h1 : ∀ xs x, vs = xs ++ [x] → ∀ s', St G s' ((a, accO aC d xs (n + 1)) :: R) → Q x s') : wpAny (model pw w) A (call (.ref aPop) [.ref a]) Q E s := by
  refine call_of_code (enterAtC [("self", .ref a)] S hr T.lim T.fPop (fun pm ct => BindsTo.of_eq (by kernel_rfl)) (by decide +kernel) (by kernel_rfl) (by rfl) (by rfl) (by rfl) ?_)
  intro L s' hL F hlt hr'
  refine ex_super ?_
  walk_at "w"
  refine gmF T F (List.mem_cons_self ..) (List.mem_cons_of_mem _ hd) T.cntF (by decide) (by kernel_rfl) ?_
  (try dsimp only)
  refine cwF (G := G) T.fCnt ?_ (by with_unfolding_all rfl)
  walk_at "w"
  refine ⟨F.keep, ?_⟩
  refine cnt_F (j := j + 1) T F (List.mem_cons_self ..) hr' ?_
  intro s2 t2 F2
  walk_at "w"
  rename_i t9 s9 F9
  by_cases hvs : vs = []
  · have e : ((vs.length : Int) == 0) = true := by rw [hvs]; rfl
    rw [e, if_pos rfl]
    walk_at "w"
    rename_i p s3 hp hLp F3
    exact h0 hvs _ _ _ _ hp F3.toSt
  · have e : ((vs.length : Int) == 0) = false := by
      have := List.length_pos_iff.mpr hvs
      simp
      (first | lia | omega)
    rw [e, if_neg (by decide)]
    walk_at "w"
    obtain ⟨xs, x, rfl⟩ : ∃ xs x, vs = xs ++ [x] := ⟨vs.dropLast, vs.getLast hvs, (List.dropLast_concat_getLast hvs).symm⟩
    refine ks_wpAt_execs_cons (ks_wpAt_Return_some ?_)
    refine ks_wpAt_MethodCall ?_ (by with_unfolding_all rfl)
    refine superB (ar := ⟨"self", none, _⟩) T F9 T.fPop T.filePop (by with_unfolding_all rfl) (by with_unfolding_all rfl) (List.mem_cons_self ..) (by decide) (by kernel_rfl) (by kernel_rfl) (by kernel_rfl) (by rfl) (by kernel_rfl) ?_
    intro so s3 hso hLso F3
    refine superM_pop T F3 (List.mem_cons_of_mem _ (List.mem_cons_self ..)) (List.mem_cons_self ..) ?_
    intro bo s4 hbo hLbo F4
    (try dsimp only)
    refine cwBnd (F4.get (List.mem_cons_self ..)) (.inr rfl) ?_
    refine callPop (a := a) (d := d) (vs := xs) (x := x) (n := n) (R := (bo, bndO "builtin_function_or_method" (.builtin "list.pop") a) :: R) T (F4.sub (by walk_at "sub")) (List.mem_cons_self ..) ?_ (by simp at hz; (first | lia | omega)) ?_
    · intro p hp
      rcases List.mem_cons.mp hp with rfl | hp
      · exact Nat.ne_of_gt (hbo (a, accO aC d (xs ++ [x]) n) (by simp))
      · exact off p hp
    intro s5 F5
    (try dsimp only)
    exact h1 xs x rfl _ (F5.toSt.sub (by walk_at "sub"))
end
theorem putSlice_from (vs ys : List Value) (i : Nat) : putSlice vs ys (some (i : Int)) none = vs.take i ++ ys := by
  unfold putSlice
  rw [sliceBounds_plain]
  simp only [Option.elim]
  rw [clipAt_nat]
  have : (max (((min i vs.length : Nat) : Int)) ((vs.length : Nat) : Int)).toNat = vs.length := by (first | lia | omega)
  rw [this]
  simp
theorem pick_from (vs : List Value) (i : Nat) : (slicePick vs.toArray (some (i : Int)) none none).toList = vs.drop i := by rw [slicePick_from']
theorem pick_all (vs : List Value) : (slicePick vs.toArray none none none).toList = vs := by rw [slicePick_all]
theorem putSlice_all (vs ys : List Value) : putSlice vs ys none none = ys := by
  unfold putSlice
  rw [sliceBounds_plain]
  simp
section
variable {w : World} {A : Around} {E : Value → Shared → Prop} {G : Gd} {s : Shared} {R : Led} {K : Frag} {a d : Addr} {vs : List Value} {n : Nat} {sz : Int} {k t : Tok} {Q : Value → Shared → Prop} {j : Nat}
theorem popFrom_spec {i : Nat} {u : Tok} (T : Tp G w K) (S : St G s ((a, accO aC d vs n) :: R)) (hd : (d, dicO w sz k t) ∈ R) (off : ∀ p ∈ R, p.1 ≠ a) (hz : vs.length ≤ 1000) (hr : Room A (j + 3))
    (h : ∀ b s' n', (∀ q ∈ (a, accO aC d vs n) :: R, q.1 < b) → St G s' ((a, accO aC d (vs.take i) n') :: (b, listO (vs.drop i) 0) :: R) → Q (.ref b) s') :
    wpAny (model pw w) A (call (.ref aPopFrom) [.ref a, .int i u]) Q E s := by
  obtain ⟨td, hdf⟩ := T.dPopFromIs
  refine enterF [("self", .ref a), ("i", .int i u)] S hr T.lim T.fPopFrom (fun pm ct => BindsTo.of_defaults rfl (S.keep _ _ hdf) rfl rfl rfl) (by decide +kernel) (by kernel_rfl) (by rfl) (by rfl) (by rfl) ?_
  intro L s' hL F hlt hr'
  refine wpAny_execs_cons ?_
  walk_at "w"
  rename_i sl s2 hsl hLsl F2
  refine slA (a := a) (d := d) (vs := vs) (n := n) (sl := sl) T F2 (by walk_at "mem") (by walk_at "mem") (by walk_at "mem") (.int _ _) .none hz ?_ (by with_unfolding_all rfl)
  intro b s3 hb hLb F3
  rw [pick_from] at F3
  walk_at "w"
  rename_i s4 F4 e s5 he hLe F5 sl2 s6 hsl2 hLsl2 F6
  refine stSlA (a := a) (d := d) (vs := vs) (n := n) (sl := sl2) (l := e) (ys := []) (R := (sl2, sliO (.int i u) .none .none) :: (e, listO [] 0) :: (b, listO (vs.drop i) 0) :: R) T (F6.sub (by walk_at "sub")) (sz := sz) (k := k) (t := t) (c := 0) (by walk_at "mem") ?_ (by walk_at "mem") (by walk_at "mem") (.int _ _) .none hz (by simp) ?_
  · intro p hp
    have h1 := hsl2 (a, accO aC d vs n) (by simp)
    have h2 := he (a, accO aC d vs n) (by simp)
    have h3 := hb (a, accO aC d vs n) (by simp)
    simp only [List.mem_cons] at hp
    rcases hp with rfl | rfl | rfl | hp
    · exact Nat.ne_of_gt h1
    · exact Nat.ne_of_gt h2
    · exact Nat.ne_of_gt h3
    · exact off p hp
  intro s7 n7 F7
  rw [putSlice_from, List.append_nil] at F7
  walk_at "w"
  exact h b _ n7 (fun q hq => hb q (List.mem_cons_of_mem _ hq)) (F7.toSt.sub (by walk_at "sub"))
end
theorem ref_is_none (l : Addr) : (Value.ref l == Value.none) = false := rfl
section
variable {w : World} {A : Around} {E : Value → Shared → Prop} {G : Gd} {s : Shared} {R : Led} {K : Frag} {a d : Addr} {vs : List Value} {n : Nat} {sz : Int} {k t : Tok} {Q : Value → Shared → Prop} {j : Nat}
theorem reset_list {l : Addr} {ys : List Value} {c : Nat} (T : Tp G w K) (S : St G s ((a, accO aC d vs n) :: (d, dicO w sz k t) :: R)) (hl : (l, listO ys c) ∈ R) (offa : ∀ p ∈ R, p.1 ≠ a) (offd : ∀ p ∈ R, p.1 ≠ d) (hz : vs.length ≤ 1000) (hz2 : ys.length ≤ 1000) (hr : Room A (j + 3))
    (h : ∀ s' n' k' t', St G s' ((a, accO aC d ys n') :: (d, dicO w 0 k' t') :: R) → Q .none s') :
    wpAny (model pw w) A (call (.ref aReset) [.ref a, .ref l]) Q E s := by
  have hne : a ≠ d := S.ne (by walk_at "mem") (List.mem_cons_of_mem _ (List.mem_cons_self ..)) (by intro e; cases e)
  refine enterF [("self", .ref a), ("startval", .ref l)] S hr T.lim T.fReset (fun pm ct => BindsTo.of_defaults rfl (S.keep _ _ T.dResetIs) rfl rfl rfl) (by decide +kernel) (by kernel_rfl) (by rfl) (by rfl) (by rfl) ?_
  intro L s' hL F hlt hr'
  refine wpAny_execs_cons ?_
  walk_at "w"
  rw [ref_is_none, if_neg (by decide)]
  walk_at "w"
  rename_i sl s2 hsl hLsl F2
  refine stSlA (a := a) (d := d) (vs := vs) (n := n) (sl := sl) (l := l) (ys := ys) (sz := sz) (k := k) (t := t) (c := c) (R := (sl, sliO .none .none .none) :: (d, dicO w sz k t) :: R) T (F2.sub (by walk_at "sub")) (by walk_at "mem") ?_ (by walk_at "mem") (by walk_at "mem") .none .none hz hz2 ?_
  · intro p hp
    have h1 := hsl (a, accO aC d vs n) (by walk_at "mem")
    simp only [List.mem_cons] at hp
    rcases hp with rfl | rfl | hp
    · exact Nat.ne_of_gt h1
    · exact hne.symm
    · exact offa p hp
  intro s3 n3 F3
  rw [putSlice_all] at F3
  walk_at "w"
  rename_i t4 s4 F4
  refine setA (R := (a, accO aC d ys n3) :: R) (a := a) (d := d) (vs := ys) (n := n3) (sz := sz) (k := k) (t := t) T (F4.sub (by walk_at "sub")) (by walk_at "mem") ?_ ?_
  · intro p hp
    rcases List.mem_cons.mp hp with rfl | hp
    · exact hne
    · exact offd p hp
  intro s5 k5 F5
  walk_at "w"
  exact h _ n3 k5 t4 (F5.toSt.sub (by walk_at "sub"))
theorem reset_none (T : Tp G w K) (S : St G s ((a, accO aC d vs n) :: (d, dicO w sz k t) :: R)) (offa : ∀ p ∈ R, p.1 ≠ a) (offd : ∀ p ∈ R, p.1 ≠ d) (hz : vs.length ≤ 1000) (hr : Room A (j + 3))
    (h : ∀ s' n' k' t', St G s' ((a, accO aC d [] n') :: (d, dicO w 0 k' t') :: R) → Q .none s') :
    wpAny (model pw w) A (call (.ref aReset) [.ref a]) Q E s := by
  have hne : a ≠ d := S.ne (by walk_at "mem") (List.mem_cons_of_mem _ (List.mem_cons_self ..)) (by intro e; cases e)
  refine enterF [("self", .ref a), ("startval", .none)] S hr T.lim T.fReset (fun pm ct => BindsTo.of_defaults rfl (S.keep _ _ T.dResetIs) rfl rfl rfl) (by decide +kernel) (by kernel_rfl) (by rfl) (by rfl) (by rfl) ?_
  intro L s' hL F hlt hr'
  refine wpAny_execs_cons ?_
  walk_at "w"
  rw [show (Value.none == Value.none) = true from rfl, if_pos rfl]
  walk_at "w"
  rename_i l s1 hl hLl F1 s1b F1b sl s2 hsl hLsl F2
  refine stSlA (a := a) (d := d) (vs := vs) (n := n) (sl := sl) (l := l) (ys := []) (sz := sz) (k := k) (t := t) (c := 0) (R := (sl, sliO .none .none .none) :: (l, listO [] 0) :: (d, dicO w sz k t) :: R) T (F2.sub (by walk_at "sub")) (by walk_at "mem") ?_ (by walk_at "mem") (by walk_at "mem") .none .none hz (by simp) ?_
  · intro p hp
    have h1 := hsl (a, accO aC d vs n) (by walk_at "mem")
    have h2 := hl (a, accO aC d vs n) (by walk_at "mem")
    simp only [List.mem_cons] at hp
    rcases hp with rfl | rfl | rfl | hp
    · exact Nat.ne_of_gt h1
    · exact Nat.ne_of_gt h2
    · exact hne.symm
    · exact offa p hp
  intro s3 n3 F3
  rw [putSlice_all] at F3
  walk_at "w"
  rename_i t4 s4 F4
  refine setA (R := (a, accO aC d [] n3) :: R) (a := a) (d := d) (vs := []) (n := n3) (sz := sz) (k := k) (t := t) T (F4.sub (by walk_at "sub")) (by walk_at "mem") ?_ ?_
  · intro p hp
    rcases List.mem_cons.mp hp with rfl | hp
    · exact hne
    · exact offd p hp
  intro s5 k5 F5
  walk_at "w"
  exact h _ n3 k5 t4 (F5.toSt.sub (by walk_at "sub"))
theorem new_args (a b : Value) : ∀ sig, Manifest.signature? "list.__new__" = some sig → Bind.checkArgs "list.__new__" sig ⟨[a, b], []⟩ = pure () := by
  intro sig h
  have h2 : argsOk "list.__new__" ⟨[a, b], []⟩ := by unfold argsOk; kernel_rfl
  simp only [argsOk, h] at h2
  exact h2
theorem new_args0 (a : Value) : ∀ sig, Manifest.signature? "list.__new__" = some sig → Bind.checkArgs "list.__new__" sig ⟨[a], []⟩ = pure () := by
  intro sig h
  have h2 : argsOk "list.__new__" ⟨[a], []⟩ := by unfold argsOk; kernel_rfl
  simp only [argsOk, h] at h2
  exact h2
theorem new_gen {i : Int} {u : Tok} {rest : List Value} (T : Tp G w K) (S : St G s R) (hr : Room A (j + 6))
    (hargs : ∀ sig, Manifest.signature? "list.__new__" = some sig → Bind.checkArgs "list.__new__" sig ⟨.ref aC :: rest, []⟩ = pure ())
    (hb : ∀ (s : Shared) R a, St G s R → ∀ pm ct, BindsTo s (fdOf (sMeth 0) "_Accumulator.__init__" clsCell cInit (.ref dInit) pm ct) ⟨.ref a :: rest, []⟩ [("self", .ref a), ("initial_size", .int i u)])
    (h : ∀ a d s' n' k', (∀ p ∈ R, p.1 < d) → d < a → St G s' ((a, accO aC d [] n') :: (d, dicO w i k' u) :: R) → Q (.ref a) s') :
    wpAny (model pw w) A (call (.ref aC) rest) Q E s := by
  refine call_of_code ?_
  obtain ⟨hh, g, dr, tk, os⟩ := s
  have X : K.In hh := T.inK.keeps S.keep
  refine makeA (makesA_of X T.makes) (looks_findIn X T.initF) (fun self => bind_fn X self T.initT) hargs ?_
  have S1 := S.push (t := tk) emptyDict
  have S2 := S1.push (t := tk) (accO aC hh.objs.size [] 0)
  simp only [Heap.size_push] at S2
  refine codeAny_mono (init_spec (E := E) (Q := fun v s' => v = .none ∧ Q (.ref (hh.objs.size + 1)) s') (a := hh.objs.size + 1) (d := hh.objs.size) (n := 0) (i := i) (u := u) (j := j) (R := R) (hb _ _ _ S2) T S2 ?_ ?_ (hr.make.mono (by walk_at "o")) ?_) ?_
  · intro p hp
    exact Nat.ne_of_lt (Nat.lt_succ_of_lt (S.lt (a := p.1) (o := p.2) hp))
  · intro p hp
    exact Nat.ne_of_lt (S.lt (a := p.1) (o := p.2) hp)
  · intro s' n' k' S'
    exact ⟨rfl, h _ _ _ _ _ (fun p hp => S.lt hp) (Nat.lt_succ_self _) S'⟩
  · intro r s' hr
    rcases r with e | (v | _ | _ | _)
    · exact hr
    · exact hr.elim
    · exact hr.elim
    · exact hr.elim
    · exact hr
theorem new_spec {i : Int} {u : Tok} (T : Tp G w K) (S : St G s R) (hr : Room A (j + 6))
    (h : ∀ a d s' n' k', (∀ p ∈ R, p.1 < d) → d < a → St G s' ((a, accO aC d [] n') :: (d, dicO w i k' u) :: R) → Q (.ref a) s') :
    wpAny (model pw w) A (call (.ref aC) [.int i u]) Q E s := by
  obtain ⟨td, hdf⟩ := T.dInitIs
  exact new_gen T S hr (new_args _ _) (fun s R a S' pm ct => BindsTo.of_defaults rfl (S'.keep _ _ hdf) rfl rfl rfl) h
end
abbrev Pc := Str × Str
/-- a value that is a piece -/
def IsPc (R : Led) (v : Value) (p : Pc) : Prop := ∃ T t1 t2, v = .ref T ∧ (T, tupO [.str p.1 t1, .str p.2 t2]) ∈ R
/-- values that are these pieces -/
inductive Pcs (R : Led) : List Value → List Pc → Prop
  | nil : Pcs R [] []
  | cons {v vs p ps} : IsPc R v p → Pcs R vs ps → Pcs R (v :: vs) (p :: ps)
def Small (ps : List Pc) : Prop := ∀ p ∈ ps, p.1.length ≤ 50 ∧ p.2.length ≤ 50
theorem IsPc.sub {R R' : Led} {v : Value} {p : Pc} (h : ∀ q ∈ R, q ∈ R') (x : IsPc R v p) : IsPc R' v p := by
  obtain ⟨T, t1, t2, e, hm⟩ := x
  exact ⟨T, t1, t2, e, h _ hm⟩
theorem Pcs.sub {R R' : Led} {vs : List Value} {ps : List Pc} (h : ∀ q ∈ R, q ∈ R') (x : Pcs R vs ps) : Pcs R' vs ps := by
  induction x with
  | nil => exact .nil
  | cons a _ ih => exact .cons (a.sub h) ih
theorem Pcs.length {R : Led} {vs : List Value} {ps : List Pc} (x : Pcs R vs ps) : vs.length = ps.length := by
  induction x with
  | nil => rfl
  | cons _ _ ih => simp [ih]
theorem Pcs.fns {R : Led} {vs : List Value} {ps : List Pc} (x : Pcs R vs ps) : ∃ (Ts : Nat → Addr) (t1 t2 : Nat → Tok), ∀ j, j < vs.length → vs[j]? = some (.ref (Ts j)) ∧ (Ts j, tupO [.str (ps.getD j default).1 (t1 j), .str (ps.getD j default).2 (t2 j)]) ∈ R := by
  induction x with
  | nil => exact ⟨fun _ => 0, fun _ => 0, fun _ => 0, fun j hj => absurd hj (by simp)⟩
  | cons a _ ih =>
    obtain ⟨T, t1, t2, rfl, hm⟩ := a
    obtain ⟨Ts, u1, u2, h⟩ := ih
    refine ⟨fun j => match j with | 0 => T | j + 1 => Ts j, fun j => match j with | 0 => t1 | j + 1 => u1 j, fun j => match j with | 0 => t2 | j + 1 => u2 j, fun j hj => ?_⟩
    cases j with
    | zero => exact ⟨rfl, hm⟩
    | succ j =>
      simp only [List.length_cons] at hj
      obtain ⟨h1, h2⟩ := h j (by walk_at "o")
      exact ⟨by simpa using h1, by simpa using h2⟩
def lenPs (ps : List Pc) : Int := (ps.map fun p => ((p.1.length : Int) + p.2.length)).sum
theorem lenPs_pre (ps : List Pc) : preSum (fun j => (((ps.getD j default).1.length : Int) + (ps.getD j default).2.length)) ps.length = lenPs ps := by
  have : ∀ k, k ≤ ps.length → preSum (fun j => (((ps.getD j default).1.length : Int) + (ps.getD j default).2.length)) k = lenPs (ps.take k) := by
    intro k
    induction k with
    | zero => intro _; simp [preSum, lenPs]
    | succ k ih =>
      intro hk
      rw [preSum, ih (by walk_at "o")]
      rw [List.take_succ_eq_append_getElem (by walk_at "o")]
      simp only [lenPs, List.map_append, List.sum_append, List.map_cons, List.map_nil, List.sum_cons, List.sum_nil, List.getD, List.getElem?_eq_getElem (show k < ps.length by (first | lia | omega)), Option.getD_some, Int.add_zero]
  rw [this _ (Nat.le_refl _), List.take_length]
section
variable {w : World} {A : Around} {E : Value → Shared → Prop} {G : Gd} {s : Shared} {R : Led} {K : Frag} {a d : Addr} {vs : List Value} {n : Nat} {sz : Int} {k t : Tok} {Q : Value → Shared → Prop} {j : Nat} {env : Env} {m : Str → Option Value}
theorem getA' {L : Addr} {Q : Value → Shared → Prop} (T : Tp G w K) (F : Fm G s L m R) (ha : (a, accO aC d vs n) ∈ R) (hd : (d, dicO w sz k t) ∈ R) (h : Fm G { s with toks := s.toks + 1 } L m R → Q (.int sz t) { s with toks := s.toks + 1 }) : wpAny (model pw w) A (getAttr (.ref a) "_initial_size" true) Q E s := by
  refine getOwnA (T.inK.keeps F.keep) T.cls (F.accAt ha hd) (findObj_own T.cls.hasDict T.cls.isz rfl ?_) rfl (h (F.toks _))
  have e : getL "_initial_size" [⟨PyData.keyHash w.params "_initial_size", .str "_initial_size" k, .int sz t⟩] = some (some (.int sz t)) := by kernel_rfl
  exact e
theorem len_spec {ps : List Pc} (T : Tp G w K) (S : St G s R) (ha : (a, accO aC d vs n) ∈ R) (hd : (d, dicO w sz k t) ∈ R) (hp : Pcs R vs ps) (hsm : Small ps) (hz : 0 ≤ sz ∧ sz ≤ 1000) (hr : Room A (j + 4))
    (h : ∀ s' t', St G s' R → Q (.int (sz + lenPs ps) t') s') : wpAny (model pw w) A (call (.ref aLen) [.ref a]) Q E s := by
  refine enterF [("self", .ref a)] S hr T.lim T.fLen (fun pm ct => BindsTo.of_eq (by kernel_rfl)) (by decide +kernel) (by kernel_rfl) (by rfl) (by rfl) (by rfl) ?_
  intro L s' hL F hlt hr'
  refine wpAny_execs_cons ?_
  walk_at "w"
  obtain ⟨Ts, t1, t2, hT⟩ := hp.fns
  refine genA (tb := tbLen) (j := j + 1) (Fy := fun i y => ∃ u, y = .int (((ps.getD i default).1.length : Int) + (ps.getD i default).2.length) u) T F hr' ha hd hT T.inLen rfl (by with_unfolding_all rfl) (by with_unfolding_all rfl) ?_ (by with_unfolding_all rfl) (by with_unfolding_all rfl) ?_ (by with_unfolding_all rfl) (by with_unfolding_all rfl) (by with_unfolding_all rfl) ?_ (by rfl) ?_ ?_
  · walk_at "w1"
    exact ⟨rfl, rfl⟩
  · intro y hy
    simp only [List.mem_cons, List.not_mem_nil, or_false] at hy
    rcases hy with rfl | rfl | rfl | rfl <;> simp
  · decide
  · intro A' E' i C code s₂ m₂ hA' hD hU hi hns h1 h2 hkB
    have hsi : ∀ q : Pc, q = ps.getD i default → q.1.length ≤ 50 ∧ q.2.length ≤ 50 := fun q e => by
      rw [e]
      rw [hp.length] at hi
      rw [List.getD, List.getElem?_eq_getElem hi]
      exact hsm _ (List.getElem_mem hi)
    generalize ps.getD i default = q at *
    obtain ⟨q1, q2⟩ := hsi q rfl
    refine wpAny_BinOp ?_
    refine rCall ?_ (by with_unfolding_all rfl)
    refine gnmB hkB (T.gbi (by with_unfolding_all rfl)) ?_ rfl rfl (by rfl) (by with_unfolding_all rfl) (by with_unfolding_all decide)
    refine cwB ?_ (by with_unfolding_all rfl)
    refine wpAny_items_cons ?_ (by with_unfolding_all rfl)
    refine gnmL hns h1 ?_ (by rfl) (by with_unfolding_all rfl) (by with_unfolding_all decide)
    refine wpAny_items_nil ?_
    refine len_str (by walk_at "o") ?_
    refine rCall ?_ (by with_unfolding_all rfl)
    refine gnmB (G := G) hkB (T.gbi (by with_unfolding_all rfl)) ?_ rfl rfl (by rfl) (by with_unfolding_all rfl) (by with_unfolding_all decide)
    refine cwB ?_ (by with_unfolding_all rfl)
    refine wpAny_items_cons ?_ (by with_unfolding_all rfl)
    refine gnmL (m := m₂) hns h2 ?_ (by rfl) (by with_unfolding_all rfl) (by with_unfolding_all decide)
    refine wpAny_items_nil ?_
    refine len_str (by walk_at "o") ?_
    refine PyProof.Rows.add_int ?_
    exact ⟨⟨_, rfl⟩, s₂.heap, _, rfl, fun _ _ e => e⟩
  intro g s2 F2 X
  walk_at "w"
  refine getA' T F2 ha hd ?_
  intro F3
  walk_at "w"
  have X2 := X.toks (t := s2.toks + 1) (Nat.le_succ _)
  obtain ⟨fp, wr, g', P, Stt, W, h0, h1, h2, h3, h4, h5⟩ := X2
  have W := W.in4_1
  refine sum2 (by simp; (first | lia | omega)) (W.self 0 _ _ _ h0 ⟨g, _, _, _, _, _, _, fun i => (((ps.getD i default).1.length : Int) + (ps.getD i default).2.length), rfl, W, h0, h1, fun i v hv => (h3 i v hv).2, fun s3 t3 M => ?_⟩)
  have e := lenPs_pre ps
  rw [← hp.length] at e
  rw [e]
  walk_at "w"
  exact h _ _ (h5 _ M).toSt
end
def cat (ys : List Str) : Str := ⟨(ys.flatMap fun y => y.cps.toList).toArray⟩
theorem join_cat : ∀ ys, Txt.join "" ys = cat ys := by
  intro ys
  show PySem.Builtin.Str.glued "" ys = _
  rw [StrLaws.glued_eq_join]
  induction ys with
  | nil => rfl
  | cons y r ih =>
    cases r with
    | nil => simp [Str.join, cat]
    | cons z r =>
      show y ++ "" ++ Str.join "" (z :: r) = _
      rw [ih]
      show Str.mk (y.cps ++ (Str.ofString "").cps ++ (cat (z :: r)).cps) = _
      have : (Str.ofString "").cps = #[] := by kernel_rfl
      rw [this]
      simp [cat, List.flatMap_cons]
def pcTxt (p : Pc) : Str := cat [p.1, p.2]
def txtPs (ps : List Pc) : Str := cat (ps.map pcTxt)
theorem cat_length (ys : List Str) : (cat ys).length = (ys.map (·.length)).sum := by
  induction ys with
  | nil => rfl
  | cons y r ih =>
    simp only [cat, Str.length, List.flatMap_cons, List.size_toArray, List.length_append, List.map_cons, List.sum_cons, Array.length_toList] at ih ⊢
    (first | lia | omega)
theorem pcTxt_length (p : Pc) : (pcTxt p).length = p.1.length + p.2.length := by simp [pcTxt, cat_length]
theorem sum_small {ps : List Pc} (hsm : Small ps) : ((ps.map pcTxt).map (·.length)).sum ≤ 100 * ps.length := by
  induction ps with
  | nil => simp
  | cons p r ih =>
    have h1 := hsm p (List.mem_cons_self ..)
    have h2 := ih fun q hq => hsm q (List.mem_cons_of_mem _ hq)
    simp only [List.map_cons, List.sum_cons, pcTxt_length, List.length_cons] at h2 ⊢
    (first | lia | omega)
section
variable {w : World} {A : Around} {E : Value → Shared → Prop} {G : Gd} {s : Shared} {R : Led} {K : Frag} {a d : Addr} {vs : List Value} {n : Nat} {sz : Int} {k t : Tok} {Q : Value → Shared → Prop} {j : Nat} {env : Env} {m : Str → Option Value}
theorem str_spec {ps : List Pc} (T : Tp G w K) (S : St G s R) (ha : (a, accO aC d vs n) ∈ R) (hd : (d, dicO w sz k t) ∈ R) (hp : Pcs R vs ps) (hsm : Small ps) (hz : ps.length ≤ 1000) (hr : Room A (j + 4))
    (h : ∀ s' t', St G s' R → Q (.str (txtPs ps) t') s') : wpAny (model pw w) A (call (.ref aStr) [.ref a]) Q E s := by
  refine enterF [("self", .ref a)] S hr T.lim T.fStr (fun pm ct => BindsTo.of_eq (by kernel_rfl)) (by decide +kernel) (by kernel_rfl) (by rfl) (by rfl) (by rfl) ?_
  intro L s' hL F hlt hr'
  refine wpAny_execs_cons ?_
  walk_at "w"
  obtain ⟨te, hE⟩ := T.gEmp
  refine nmG F hE ?_ (by with_unfolding_all rfl)
  with_reducible refine GM.join ?_
  walk_at "w"
  obtain ⟨Ts, t1, t2, hT⟩ := hp.fns
  refine genA (tb := tbStr) (j := j + 1) (Fy := fun i y => ∃ u, y = .str (pcTxt (ps.getD i default)) u) T F hr' ha hd hT T.inStr rfl (by with_unfolding_all rfl) (by with_unfolding_all rfl) ?_ (by with_unfolding_all rfl) (by with_unfolding_all rfl) ?_ (by with_unfolding_all rfl) (by with_unfolding_all rfl) (by with_unfolding_all rfl) ?_ (by rfl) ?_ ?_
  · walk_at "w1"
    exact ⟨rfl, rfl⟩
  · intro y hy
    simp only [List.mem_cons, List.not_mem_nil, or_false] at hy
    rcases hy with rfl | rfl | rfl | rfl <;> simp
  · decide
  · intro A' E' i C code s₂ m₂ hA' hD hU hi hns h1 h2 hkB
    have hsi : ∀ q : Pc, q = ps.getD i default → q.1.length ≤ 50 ∧ q.2.length ≤ 50 := fun q e => by
      rw [e]
      rw [hp.length] at hi
      rw [List.getD, List.getElem?_eq_getElem hi]
      exact hsm _ (List.getElem_mem hi)
    generalize ps.getD i default = q at *
    obtain ⟨q1, q2⟩ := hsi q rfl
    refine rMeth ?_ (by with_unfolding_all rfl)
    refine gnmG hkB hE ?_ rfl (by rfl) (by with_unfolding_all rfl) (by with_unfolding_all decide)
    with_reducible refine GM.join ?_
    refine cwB ?_ (by with_unfolding_all rfl)
    refine wpAny_items_cons ?_ (by with_unfolding_all rfl)
    refine Tuple_ ?_
    refine wpAny_items_cons ?_ (by with_unfolding_all rfl)
    refine gnmL hns h1 ?_ (by rfl) (by with_unfolding_all rfl) (by with_unfolding_all decide)
    refine wpAny_items_cons ?_ (by with_unfolding_all rfl)
    refine gnmL (m := m₂) hns h2 ?_ (by rfl) (by with_unfolding_all rfl) (by with_unfolding_all decide)
    refine wpAny_items_nil ?_
    refine wpAny_newObj_type ?_ (by show (2:Nat) ≤ sizeLine; decide)
    refine wpAny_items_nil ?_
    refine join_tupleW (ys := [q.1, q.2]) (items := #[.str q.1 (t1 i), .str q.2 (t2 i)]) ⟨_, Heap.get?_push_size _ rfl, rfl, 0, rfl⟩ (.cons _ _ (.cons _ _ .nil)) (by decide) (by simp; (first | lia | omega)) fun t' k' => ?_
    refine ⟨⟨t', ?_⟩, _, _, rfl, fun b o e => Heap.get?_push_of_some _ e⟩
    rw [join_cat]
    rfl
  intro g s2 F2 X
  walk_at "w"
  obtain ⟨fp, wr, g', P, Stt, W, h0, h1, h2, h3, h4, h5⟩ := X
  have W := W.in4_2
  have hn := hp.length
  refine SC.joinGen W h4 h0 h1 h2 (fun j v hv => let ⟨_, u, e⟩ := h3 j v hv; ⟨_, u, e⟩) (fun s' lt hm hacc => ?_) (by rw [hn]; exact Nat.le_trans hz (by decide))
  have hl : lt.map (·.1) = ps.map pcTxt := by
    apply List.ext_getElem?
    intro j
    have hsz : lt.length = ps.length := by rw [← hn]; simpa [strValues] using hacc.1
    by_cases hj : j < ps.length
    · have hj' : j < lt.length := hsz ▸ hj
      obtain ⟨_, u, hv⟩ := h3 j _ (hacc.2 j (.str lt[j].1 lt[j].2) (by simp [strValues, List.getElem?_eq_getElem hj']))
      injection hv with h1 _
      simp [List.getElem?_eq_getElem hj', hj, h1, List.getD, List.getElem?_eq_getElem hj]
    · rw [List.getElem?_eq_none (by simpa [hsz] using Nat.le_of_not_lt hj), List.getElem?_eq_none (by simpa using Nat.le_of_not_lt hj)]
  rw [hl]
  have hb := sum_small hsm
  refine ⟨joinOk_of_weight (by simp only [List.length_map]; (first | lia | omega)) (by decide), fun t' k' => ?_⟩
  walk_at "w"
  rw [join_cat]
  exact h _ _ ((h5 _ hm).toks k').toSt
end
section
open Builtin Builtin.Str
section
variable {w : World} {A : Around} {E : Value → Shared → Prop} {G : Gd} {s : Shared} {R : Led} {K : Frag} {a d L : Addr} {vs : List Value} {n : Nat} {sz : Int} {k t : Tok} {j : Nat} {env : Env} {m : Str → Option Value} {ps : List Pc}
theorem lenPs_nonneg (ps : List Pc) : 0 ≤ lenPs ps := by
  unfold lenPs
  induction ps with
  | nil => simp
  | cons p r ih => simp only [List.map_cons, List.sum_cons]; (first | lia | omega)
theorem lenPs_le {ps : List Pc} (hsm : Small ps) : lenPs ps ≤ 100 * ps.length := by
  unfold lenPs
  induction ps with
  | nil => simp
  | cons p r ih =>
    have h1 := hsm p (List.mem_cons_self ..)
    have h2 := ih fun q hq => hsm q (List.mem_cons_of_mem _ hq)
    simp only [List.map_cons, List.sum_cons, List.length_cons] at h2 ⊢
    (first | lia | omega)
theorem len_F {Q : Value → Shared → Prop} (T : Tp G w K) (F : Fm G s L m R) (ha : (a, accO aC d vs n) ∈ R) (hd : (d, dicO w sz k t) ∈ R) (hp : Pcs R vs ps) (hsm : Small ps) (hz : 0 ≤ sz ∧ sz ≤ 1000) (hr : Room A (j + 4))
    (h : ∀ s' t', Fm G s' L m R → Q (.int (sz + lenPs ps) t') s') : wpAny (model pw w) A (call (.ref aLen) [.ref a]) Q E s := by
  obtain ⟨oL, hm, SL, back⟩ := F.st
  exact len_spec T SL (List.mem_cons_of_mem _ ha) (List.mem_cons_of_mem _ hd) (hp.sub fun q hq => List.mem_cons_of_mem _ hq) hsm hz hr fun s' t' S' => h s' t' (back S' F.off)
/-- len(row) -/
theorem lenA {Q : Value → Shared → Prop} (T : Tp G w K) (F : Fm G s L m R) (ha : (a, accO aC d vs n) ∈ R) (hd : (d, dicO w sz k t) ∈ R) (hp : Pcs R vs ps) (hsm : Small ps) (hz : 0 ≤ sz ∧ sz ≤ 1000) (hl : ps.length ≤ 1000) (hr : Room A (j + 5))
    (h : ∀ s' t', Fm G s' L m R → Q (.int (sz + lenPs ps) t') s') : wpAny (model pw w) A (call (.builtin "len") [.ref a]) Q E s := by
  refine len_K F.fr T.inK (F.accAt ha hd).inst T.lenF (beq_iff_eq.mpr (T.fnT aLen (by decide))) ?_
  refine len_F (j := j) T F ha hd hp hsm hz hr.in1 fun s' t' F' => ?_
  have h1 := lenPs_nonneg ps
  have h2 := lenPs_le hsm
  exact ⟨⟨by (first | lia | omega), by (first | lia | omega)⟩, h _ _ (F'.toks _)⟩
/-- an accumulator's truth -/
theorem truthA {Q : Bool → Shared → Prop} (T : Tp G w K) (F : Fm G s L m R) (ha : (a, accO aC d vs n) ∈ R) (hd : (d, dicO w sz k t) ∈ R) (hp : Pcs R vs ps) (hsm : Small ps) (hz : 0 ≤ sz ∧ sz ≤ 1000) (hl : ps.length ≤ 1000) (hr : Room A (j + 5))
    (h : ∀ s', Fm G s' L m R → Q (sz + lenPs ps != 0) s') : wpAny (model pw w) A (truthy (.ref a)) Q E s := by
  have X := T.inK.keeps F.keep
  have I := (F.accAt ha hd).inst
  unfold truthy
  refine wpAny_bind (m := callSpecial? (.ref a) (Str.ofString "__bool__")) (wpAny_bind (wpAny_bind (I.type.here ((looks_findIn X T.cls.bool).here (wpAny_pure ?_)))))
  refine wpAny_bind (wpAny_bind (I.type.here ((looks_findIn X T.lenF).here ?_)))
  show wpAny _ _ (if (some (Value.ref aLen)).isNone = true then _ else _) _ _ _
  rw [if_neg (by simp)]
  refine wpAny_bind (wpAny_runValue (codeAny_builtin PySem.entry_len ?_))
  rw [Around.under_plainId PySem.plain_len _]
  unfold Builtin.«len»
  refine wpAny_bind (m := oneArg "len" _) (wpAny_pure ?_)
  refine wpAny_bind (m := callSpecial? (.ref a) (Str.ofString "__len__")) (special_fn X I T.lenF (T.fnT aLen (by decide)) ?_)
  refine len_F (j := j) T F ha hd hp hsm hz hr.in1 fun s' t' F' => ?_
  have h1 := lenPs_nonneg ps
  have h2 := lenPs_le hsm
  refine wpAny_bind (wpAny_holding (wpAny_pure ?_))
  refine wpAny_bind (wpAny_letGo ?_)
  show wpAny _ _ (if sz + lenPs ps < 0 then _ else _) _ _ _
  rw [if_neg (by walk_at "o")]
  show wpAny _ _ (if sz + lenPs ps ≥ 2 ^ 63 then _ else _) _ _ _
  rw [if_neg (by walk_at "o")]
  exact wpAny_bind (wpAny_mkInt (wpAny_pure (wpAny_pure (h _ (F'.toks _)))))
/-- str(row) -/
theorem strA {Q : Value → Shared → Prop} (T : Tp G w K) (F : Fm G s L m R) (ha : (a, accO aC d vs n) ∈ R) (hd : (d, dicO w sz k t) ∈ R) (hp : Pcs R vs ps) (hsm : Small ps) (hl : ps.length ≤ 1000) (hr : Room A (j + 6))
    (h : ∀ s' t', Fm G s' L m R → Q (.str (txtPs ps) t') s') : wpAny (model pw w) A (call (.type "str") [.ref a]) Q E s := by
  refine callType_codes (Q₁ := fun obj s₁ => ∃ t', obj = .str (txtPs ps) t' ∧ Fm G s₁ L m R) PySem.F.called_str (PySem.F.typeCall_str_1 _) PySem.F.entry_object_init ?_ ?_
  · refine codeAny_call_builtin (by decide +kernel) PySem.F.entry_str_new (wpAny_of_eq (PySem.F.newCall_str_1 _) ?_)
    rw [str_new_tree]
    refine wpAny_bind (wpAny_pure ?_)
    refine wpAny_bind (wpAny_of_eq isSubtype_str_str ?_)
    refine wpAny_bind ?_
    unfold Builtin.Str.strOf
    have e : isExactStr (.ref a) = false := rfl
    rw [e]
    simp only [Bool.false_eq_true, if_false, pure_bind]
    refine wpAny_bind (wpAny_cRoomFor (by have := hr.units; show A.units + 1 + 1 < _; (first | lia | omega)) ?_)
    have X := T.inK.keeps F.keep
    have I := (F.accAt ha hd).inst
    refine wpAny_bind (m := callSpecial? (.ref a) (Str.ofString "__str__")) (special_fn X I T.strF (T.fnT aStr (by decide)) ?_)
    obtain ⟨oL, hm, SL, back⟩ := F.st
    refine str_spec (j := j) T SL (List.mem_cons_of_mem _ ha) (List.mem_cons_of_mem _ hd) (hp.sub fun q hq => List.mem_cons_of_mem _ hq) hsm hl hr.in1.in1 fun s' t' S' => ?_
    refine wpAny_bind (wpAny_pure ?_)
    refine wpAny_pure (wpAny_pure ?_)
    exact ⟨t', rfl, back S' F.off⟩
  · rintro obj s₁ ⟨t', rfl, F'⟩
    refine ⟨typeIs_str _ _ _, PySem.F.args_object_init_2 _ _, ?_⟩
    exact (object_init_meets PySem.F.called_str.init.lookup PySem.F.called_str.made (by decide)) pw w A.in1 _ s₁ ⟨typeIs_str _ _ _, rfl, h _ _ F'⟩
end
end
def whiteB (sz : Int) (ps : List Pc) : Bool := (sz == 0) && (!(sz + lenPs ps != 0) || Txt.isspace (txtPs ps))
section
variable {w : World} {A : Around} {E : Value → Shared → Prop} {G : Gd} {s : Shared} {R : Led} {K : Frag} {a d L : Addr} {vs : List Value} {n : Nat} {sz : Int} {k t : Tok} {j : Nat} {env : Env} {m : Str → Option Value} {ps : List Pc}
theorem ws_spec {Q : Value → Shared → Prop} (T : Tp G w K) (S : St G s R) (ha : (a, accO aC d vs n) ∈ R) (hd : (d, dicO w sz k t) ∈ R) (hp : Pcs R vs ps) (hsm : Small ps) (hz : 0 ≤ sz ∧ sz ≤ 1000) (hl : ps.length ≤ 1000) (hr : Room A (j + 8))
    (h : ∀ s', St G s' R → Q (.bool (whiteB sz ps)) s') : wpAny (model pw w) A (call (.ref aWs) [.ref a]) Q E s := by
  refine enterF [("self", .ref a)] S hr T.lim T.fWs (fun pm ct => BindsTo.of_eq (by kernel_rfl)) (by decide +kernel) (by kernel_rfl) (by rfl) (by rfl) (by rfl) ?_
  intro L s' hL F hlt hr'
  refine wpAny_execs_cons ?_
  walk_at "w"
  refine getA T F ha hd ?_
  intro s2 F2
  walk_at "w"
  rename_i t3 s3 F3
  unfold whiteB at h
  cases e : (sz == 0) with
  | false =>
    rw [e] at h
    rw [if_neg (by decide)]
    exact h _ F3.toSt
  | true =>
    rw [e] at h
    rw [if_pos rfl]
    walk_at "w"
    refine truthA (j := j + 2) T F3 ha hd hp hsm hz hl hr' ?_
    intro s4 F4
    walk_at "w"
    cases e2 : (sz + lenPs ps != 0) with
    | false =>
      rw [e2] at h
      rw [if_pos (by rfl)]
      exact h _ F4.toSt
    | true =>
      rw [e2] at h
      rw [if_neg (by decide)]
      walk_at "w"
      refine strA (j := j + 1) T F4 ha hd hp hsm hl hr' ?_
      intro s5 t5 F5
      walk_at "w"
      refine SC.isspace ?_
      exact h _ F5.toSt
end
abbrev stI2d : Stmt := nthS (fBody (sLong 2)) 1
abbrev inO (st : Stmt) (qual : Str) (cl : List (Str × Addr)) (doc pm : Value) (c' : Addr) (ctv : Value) : Obj := fnMade (fName st) qual (fParams st) (fBody st) (fScope st) cl doc pm c' ctv
theorem mulOk {a : Nat} {b : Int} (h : a ≤ 1000000) : IntMulOk (a : Int) b := IntMulOk.of_left (by rw [intBits_nat]; exact Nat.le_trans (bits_le (k := 20) (by walk_at "o")) (by decide))
section
variable {w : World} {A : Around} {E : Value → Shared → Prop} {G : Gd} {s : Shared} {R : Led} {L : Addr} {m : Str → Option Value} {Q : Value → Shared → Prop} {a b : Int} {t u : Tok}
theorem rShrN {x k : Nat} (ha : a = x) (hb : b = k) (F : Fm G s L m R) (h : ∀ t s', Fm G s' L m R → Q (.int ((x / 2 ^ k : Nat) : Int) t) s') : wpAny (model pw w) A (binaryOp .RShift (.int a t) (.int b u)) Q E s := by
  subst ha hb
  refine rShr F (by walk_at "o") ?_
  rw [Int.fdiv_eq_ediv_of_nonneg _ (Int.pow_nonneg (by decide)), Int.toNat_natCast, show ((x : Int) / 2 ^ k) = ((x / 2 ^ k : Nat) : Int) by simp]
  exact h
theorem rShlN {x k : Nat} (ha : a = x) (hb : b = k) (hx : bits x ≤ 1000000) (hk : k ≤ 1000000) (F : Fm G s L m R) (h : ∀ t s', Fm G s' L m R → Q (.int ((x * 2 ^ k : Nat) : Int) t) s') : wpAny (model pw w) A (binaryOp .LShift (.int a t) (.int b u)) Q E s := by
  subst ha hb
  refine rShl F (by walk_at "o") ?_ ?_
  · rw [intBits_nat]
    have : (2 : Int) ^ 27 = 134217728 := by decide
    (first | lia | omega)
  rw [Int.toNat_natCast, show ((x : Int) * 2 ^ k) = ((x * 2 ^ k : Nat) : Int) by simp]
  exact h
theorem rMulN {x k : Nat} (ha : a = x) (hb : b = k) (hx : x ≤ 1000000) (F : Fm G s L m R) (h : ∀ t s', Fm G s' L m R → Q (.int ((x * k : Nat) : Int) t) s') : wpAny (model pw w) A (binaryOp .Mult (.int a t) (.int b u)) Q E s := by
  subst ha hb
  refine rMul F ?_ (mulOk hx)
  rw [show ((x : Int) * k) = ((x * k : Nat) : Int) by simp]
  exact h
end
section
variable {w : World} {A : Around} {E : Value → Shared → Prop} {G : Gd} {s : Shared} {R : Led} {K : Frag} {cl : List (Str × Addr)} {f c' cN cA cI ls : Addr} {doc pm ctv : Value} {oc oN oA oI : Obj} {vc : Array Value} {tq tn : Tok} {n : Nat}
theorem i2dIn (T : Tp G w K) (hn : cl.lookup ("n" : Str) = some cN) (hA : cl.lookup ("a_digits" : Str) = some cA) (hI : cl.lookup ("inner" : Str) = some cI)
    (mf : (f, inO stI2d "_int2digits.<locals>.inner" cl doc pm c' ctv) ∈ R) (mc : (c', oc) ∈ R) (dc : oc.data = .fields vc) (vq : vc[1]? = some (.str "_int2digits.<locals>.inner" tq))
    (mN : (cN, oN) ∈ R) (dN : oN.data = .cell (some (.int (n : Int) tn))) (mA : (cA, oA) ∈ R) (dA : oA.data = .cell (some (.ref ls))) (mI : (cI, oI) ∈ R) (dI : oI.data = .cell (some (.ref f))) :
    ∀ (d x Lo Hi : Nat) (tx tl th : Tok) (vs : List Value) (l : List Nat) (c : Nat) (s : Shared) (A : Around) (R' : Led) (Q : Value → Shared → Prop) (E : Value → Shared → Prop), (∀ p ∈ R, p ∈ R') → Lo < Hi → Hi - Lo ≤ 2 ^ d → Hi ≤ l.length → n * l.length ≤ 100000 → l.length ≤ 1000 → x < 2 ^ (n * (Hi - Lo)) →
      St G s ((ls, listO vs c) :: R') → (∀ p ∈ R', p.1 ≠ ls) → NA vs l → Room A (d + 2) →
      (∀ s' vs' c', St G s' ((ls, listO vs' c') :: R') → NA vs' (l.take Lo ++ digL n x (Hi - Lo) ++ l.drop Hi) → Q .none s') →
      wpAny (model pw w) A (call (.ref f) [.int (x : Int) tx, .int (Lo : Int) tl, .int (Hi : Int) th]) Q E s := by
  intro d
  induction d with
  | zero =>
    intro x Lo Hi tx tl th vs l c s A R' Q E hsub h1 h2 h3 h4 h5 hx S off hN hr h
    have e : Hi = Lo + 1 := by simp at h2; (first | lia | omega)
    subst e
    have mN' := hsub _ mN
    have mA' := hsub _ mA
    have mI' := hsub _ mI
    refine callN [("x", .int x tx), ("L", .int Lo tl), ("R", .int (Lo + 1 : Nat) th)] T S hr (List.mem_cons_of_mem _ (hsub _ mf)) (List.mem_cons_of_mem _ (hsub _ mc)) dc vq (BindsTo.of_eq (by kernel_rfl)) (by decide +kernel) (by kernel_rfl) (by rfl) (by rfl) (by rfl) ?_
    intro L s' hL F hlt hr'
    refine wpAny_execs_cons ?_
    walk_at "w"
    have e : (((Lo : Int) + 1) == ((Lo + 1 : Nat) : Int)) = true := by simp
    rw [e, if_pos rfl]
    walk_at "w"
    rename_i t1 s1 F1
    have hlo : Lo < l.length := by (first | lia | omega)
    refine stIt F1 off (by walk_at "o") (by walk_at "o") (by rw [hN.1]; (first | lia | omega)) fun s2 F2 => ?_
    walk_at "w"
    refine h _ _ _ F2.toSt ?_
    have := hN.set Lo x tx
    rw [show ((Lo : Int)).toNat = Lo by simp, show Lo + 1 - Lo = 1 by (first | lia | omega), digL_one (by rw [show Lo + 1 - Lo = 1 by (first | lia | omega), Nat.mul_one] at hx; exact hx)]
    have e3 : l.set Lo x = l.take Lo ++ [x] ++ l.drop (Lo + 1) := by rw [List.set_eq_take_append_cons_drop, if_pos hlo]; simp
    rw [e3] at this
    exact this
  | succ d ih =>
    intro x Lo Hi tx tl th vs l c s A R' Q E hsub h1 h2 h3 h4 h5 hx S off hN hr h
    have mN' := hsub _ mN
    have mA' := hsub _ mA
    have mI' := hsub _ mI
    refine callN [("x", .int x tx), ("L", .int Lo tl), ("R", .int Hi th)] T S hr (List.mem_cons_of_mem _ (hsub _ mf)) (List.mem_cons_of_mem _ (hsub _ mc)) dc vq (BindsTo.of_eq (by kernel_rfl)) (by decide +kernel) (by kernel_rfl) (by rfl) (by rfl) (by rfl) ?_
    intro L s' hL F hlt hr'
    refine wpAny_execs_cons ?_
    walk_at "w"
    rename_i t1 s1 F1
    by_cases e0 : Hi = Lo + 1
    · subst e0
      have e : (((Lo : Int) + 1) == ((Lo + 1 : Nat) : Int)) = true := by simp
      rw [e, if_pos rfl]
      walk_at "w"
      have hlo : Lo < l.length := by (first | lia | omega)
      rename_i F1
      refine stIt F1 off (by walk_at "o") (by walk_at "o") (by rw [hN.1]; (first | lia | omega)) fun s2 F2 => ?_
      walk_at "w"
      refine h _ _ _ F2.toSt ?_
      have := hN.set Lo x tx
      rw [show ((Lo : Int)).toNat = Lo by simp, show Lo + 1 - Lo = 1 by (first | lia | omega), digL_one (by rw [show Lo + 1 - Lo = 1 by (first | lia | omega), Nat.mul_one] at hx; exact hx)]
      have e3 : l.set Lo x = l.take Lo ++ [x] ++ l.drop (Lo + 1) := by rw [List.set_eq_take_append_cons_drop, if_pos hlo]; simp
      rw [e3] at this
      exact this
    · have e : (((Lo : Int) + 1) == (Hi : Int)) = false := by simp; (first | lia | omega)
      rw [e, if_neg (by decide)]
      walk_at "w"
      rename_i t2 s2 F2 t3 s3 F3
      refine rShrN (x := Lo + Hi) (k := 1) (by simp) (by rfl) F3 fun t4 s4 F4 => ?_
      rw [Nat.pow_one]
      obtain ⟨mid, hmid⟩ : ∃ mid, (Lo + Hi) / 2 = mid := ⟨_, rfl⟩
      rw [hmid]
      have m1 : Lo < mid := by (first | lia | omega)
      have m2 : mid < Hi := by (first | lia | omega)
      walk_at "w"
      rename_i s5 F5 t6 s6 F6
      refine rMulN (x := mid - Lo) (k := n) (by walk_at "o") rfl (by walk_at "o") F6 fun t7 s7 F7 => ?_
      walk_at "w"
      rename_i s8 F8
      have hk : (mid - Lo) * n ≤ 100000 := by
        refine Nat.le_trans ?_ h4
        rw [Nat.mul_comm]
        exact Nat.mul_le_mul_left _ (by walk_at "o")
      refine rShrN (x := x) (k := (mid - Lo) * n) rfl rfl F8 fun t9 s9 F9 => ?_
      walk_at "w"
      rename_i s10 F10
      have hx6 : bits (x / 2 ^ ((mid - Lo) * n)) ≤ 1000000 := by
        refine Nat.le_trans (bits_le (Nat.lt_of_le_of_lt (Nat.div_le_self _ _) hx)) (Nat.le_trans (Nat.mul_le_mul_left _ (show Hi - Lo ≤ l.length by (first | lia | omega))) (by walk_at "o"))
      refine rShlN (x := x / 2 ^ ((mid - Lo) * n)) (k := (mid - Lo) * n) rfl rfl hx6 (by walk_at "o") F10 fun t11 s11 F11 => ?_
      with_reducible refine rXor F11 ?_
      intro t12 s12 F12
      rw [xor_low]
      walk_at "w"
      rename_i s13 F13
      have mf' : (f, inO stI2d "_int2digits.<locals>.inner" cl doc pm c' ctv) ∈ (ls, listO vs c) :: R' := List.mem_cons_of_mem _ (hsub _ mf)
      refine cwN ?_ (by with_unfolding_all rfl)
      walk_at "w"
      refine ⟨⟨_, _, F13.get mf', rfl⟩, ?_⟩
      obtain ⟨oL, hmL, SL, back⟩ := F13.st
      have hLls : L ≠ ls := fun e => F13.off _ (List.mem_cons_self ..) e.symm
      have hLR : ∀ p ∈ R', p.1 ≠ L := fun p hp => F13.off p (List.mem_cons_of_mem _ hp)
      have hcom : n * (mid - Lo) = (mid - Lo) * n := Nat.mul_comm _ _
      refine ih (x % 2 ^ ((mid - Lo) * n)) Lo mid t12 tl t4 vs l c _ _ ((L, oL) :: R') _ _ (fun p hp => List.mem_cons_of_mem _ (hsub p hp)) m1 (by rw [Nat.pow_succ] at h2; (first | lia | omega)) (by walk_at "o") h4 h5 (by rw [hcom]; exact Nat.mod_lt _ (Nat.pow_pos (by decide))) (SL.sub (by walk_at "sub")) ?_ hN hr' ?_
      · intro p hp
        rcases List.mem_cons.mp hp with rfl | hp
        · exact hLls
        · exact off p hp
      intro s14 vs14 c14 S14 hN14
      have F14 := back (S14.sub (R' := (L, oL) :: (ls, listO vs14 c14) :: R') (by walk_at "sub")) (by
        intro p hp
        rcases List.mem_cons.mp hp with rfl | hp
        · exact hLls.symm
        · exact hLR p hp)
      walk_at "w"
      have mf'' : (f, inO stI2d "_int2digits.<locals>.inner" cl doc pm c' ctv) ∈ (ls, listO vs14 c14) :: R' := List.mem_cons_of_mem _ (hsub _ mf)
      refine cwN ?_ (by with_unfolding_all rfl)
      walk_at "w"
      refine ⟨⟨_, _, F14.get mf'', rfl⟩, ?_⟩
      obtain ⟨oL2, hmL2, SL2, back2⟩ := F14.st
      have hlen : (l.take Lo ++ digL n (x % 2 ^ ((mid - Lo) * n)) (mid - Lo) ++ l.drop mid).length = l.length := by
        simp only [List.length_append, List.length_take, List.length_drop, digL_length]
        (first | lia | omega)
      have hsplit : n * (Hi - Lo) = n * (mid - Lo) + n * (Hi - mid) := by rw [← Nat.mul_add]; congr 1; (first | lia | omega)
      refine ih (x / 2 ^ ((mid - Lo) * n)) mid Hi t9 t4 th vs14 _ c14 _ _ ((L, oL2) :: R') _ _ (fun p hp => List.mem_cons_of_mem _ (hsub p hp)) m2 (by rw [Nat.pow_succ] at h2; (first | lia | omega)) (by rw [hlen]; exact h3) (by rw [hlen]; exact h4) (by rw [hlen]; exact h5) ?_ (SL2.sub (by walk_at "sub")) ?_ hN14 hr' ?_
      · rw [← hcom, Nat.div_lt_iff_lt_mul (Nat.pow_pos (by decide)), ← Nat.pow_add, Nat.add_comm, ← hsplit]
        exact hx
      · intro p hp
        rcases List.mem_cons.mp hp with rfl | hp
        · exact hLls
        · exact off p hp
      intro s15 vs15 c15 S15 hN15
      walk_at "w"
      refine h _ vs15 c15 (S15.sub (by walk_at "sub")) ?_
      have hl1 : (l.take Lo).length = Lo := by rw [List.length_take]; (first | lia | omega)
      have e1 : (l.take Lo ++ digL n (x % 2 ^ ((mid - Lo) * n)) (mid - Lo) ++ l.drop mid).take mid = l.take Lo ++ digL n (x % 2 ^ ((mid - Lo) * n)) (mid - Lo) := by
        rw [List.take_left' (by rw [List.length_append, hl1, digL_length]; (first | lia | omega))]
      have e2 : (l.take Lo ++ digL n (x % 2 ^ ((mid - Lo) * n)) (mid - Lo) ++ l.drop mid).drop Hi = l.drop Hi := by
        rw [List.drop_append, List.drop_of_length_le (by rw [List.length_append, hl1, digL_length]; (first | lia | omega)), List.nil_append, List.length_append, hl1, digL_length, List.drop_drop]
        congr 1
        (first | lia | omega)
      rw [e1, e2] at hN15
      have e4 := digL_split n x (mid - Lo) (Hi - mid)
      rw [show mid - Lo + (Hi - mid) = Hi - Lo by (first | lia | omega), hcom] at e4
      rw [e4]
      simpa [List.append_assoc] using hN15
end
section
variable {w : World} {A : Around} {E : Value → Shared → Prop} {G : Gd} {s : Shared} {R : Led} {K : Frag} {Q : Value → Shared → Prop} {x n : Nat} {tx tn : Tok} {j : Nat}
theorem i2d_spec (T : Tp G w K) (S : St G s R) (hn : 0 < n) (hn2 : n ≤ 1000) (hx : bits x ≤ 1000) (hr : Room A (j + 14))
    (h : ∀ p s' vs c, (∀ q ∈ R, q.1 < p) → St G s' ((p, listO vs c) :: R) → NA vs (digL n x (cnt n x)) → Q (.ref p) s') : wpAny (model pw w) A (call (.ref aI2d) [.int (x : Int) tx, .int (n : Int) tn]) Q E s := by
  refine enterC [("a", .int x tx), ("n", .int n tn)] S hr T.lim T.fI2d (fun pm ct => BindsTo.of_eq (by kernel_rfl)) ?_ (by decide +kernel) (by rfl) (by rfl) (by rfl) ?_
  · intro k
    exact ⟨.inl (by with_unfolding_all rfl), .inr ⟨by with_unfolding_all rfl, by with_unfolding_all rfl⟩, trivial⟩
  intro L s1 cells hL F1 HC hlt hr1
  have HC3 : CellsAre (bindC (envOfC "_int2digits" (fScope (sLong 2)) L aI2d (.ref cI2d)).kindOf [("a", .int x tx), ("n", .int n tn)] fun _ => none) [("inner", L + 3), ("a_digits", L + 2), ("n", L + 1)] cells := HC
  obtain ⟨o1, o2, o3, rfl, d1, d2, d3⟩ := HC3.three
  have d1 : o1.data = .cell none := d1
  have d2 : o2.data = .cell none := d2
  have d3 : o3.data = .cell (some (.int n tn)) := d3
  have hcf : cellsFrom (L + 1) (fScope (sLong 2)).names [] = ([("inner", L + 3), ("a_digits", L + 2), ("n", L + 1)] : List (Str × Addr)) := by with_unfolding_all rfl
  rw [hcf] at hr1 ⊢
  simp only [List.cons_append, List.nil_append] at F1
  refine wpAny_execs_cons ?_
  walk_at "w"
  rename_i t0 s2 F2 l0 s3 hl0 hLl0 F3 t4 s4 F4 t5 s5 F5 t6 s6 F6 t7 s7 F7
  have hcx : cnt n x ≤ 1000 := by
    unfold cnt
    refine Nat.le_trans (Nat.div_le_div_right (show bits x + n - 1 ≤ 999 + n by (first | lia | omega))) ?_
    rw [Nat.add_div_right _ hn]
    have := Nat.div_le_self 999 n
    (first | lia | omega)
  refine rDivP F7 (by walk_at "o") ?_ ?_
  · exact Nat.lt_of_le_of_lt (Nat.log2_le_self _) (by walk_at "o")
  intro t8 s8 F8
  have hcn : ((Builtin.Int.intBits (x : Int) : Int) + n - 1) / n = (cnt n x : Nat) := by
    rw [intBits_nat]
    unfold cnt
    rw [Int.natCast_ediv]
    congr 1
    (first | lia | omega)
  rw [hcn]
  refine mulL (vs := [.int 0 t0]) (ns := [0]) F8 (List.mem_cons_self ..) (.cons _ _ .nil) (by walk_at "o") (by walk_at "o") (by simp) ?_
  intro p s9 hp hLp F9
  walk_at "w"
  have q3 : L + 3 < p := hp (L + 3, o1) (by simp)
  have hRp : ∀ q ∈ R, q.1 < p := fun q hq => hp q (by simp [hq])
  have hRL : ∀ k, ∀ q ∈ R, q.1 ≠ L + k := fun k q hq => by have := hlt q hq; exact Nat.ne_of_lt (Nat.lt_of_lt_of_le this (Nat.le_add_right _ _))
  generalize hz : (List.replicate (cnt n x : Int).toNat [Value.int 0 t0]).flatten = zs at F9
  have hzs : NA zs (List.replicate (cnt n x) 0) := by rw [← hz, Int.toNat_natCast]; exact NA.zeros _ _
  refine stC (c := L + 2) (R := (p, listO zs 0) :: (L + 3, o1) :: (L + 1, o3) :: R) (F9.sub (by walk_at "sub")) (by with_unfolding_all rfl) d2 ?_ ?_ (by with_unfolding_all rfl) (by with_unfolding_all rfl)
  · intro q hq
    simp only [List.mem_cons] at hq
    rcases hq with rfl | rfl | rfl | hq
    · exact Nat.ne_of_gt (Nat.lt_trans (Nat.lt_succ_self _) q3)
    · exact Nat.ne_of_gt (Nat.lt_succ_self _)
    · exact Nat.ne_of_lt (Nat.lt_succ_self _)
    · exact hRL 2 q hq
  intro s10 o2' d2' F10
  walk_at "w"
  refine nestDef_K (by with_unfolding_all rfl) (by with_unfolding_all rfl) (by with_unfolding_all rfl) ?_
  refine nestT (tb := tbI2d) T F10 T.inI2d rfl (by with_unfolding_all rfl) (by with_unfolding_all rfl) (by with_unfolding_all rfl) ?_
  intro f c' oc s11 doc pm ctv vc tq fo hfo F11 dc vq clc hf hLf
  replace hfo : fo = inO stI2d "_int2digits.<locals>.inner" [("n", L + 1), ("inner", L + 3), ("a_digits", L + 2)] doc pm c' ctv := hfo.trans (by kernel_rfl)
  refine stC (c := L + 3) (R := (f, fo) :: (c', oc) :: (L + 2, o2') :: (p, listO zs 0) :: (L + 1, o3) :: R) (o := o1) (F11.sub (by walk_at "sub")) (by with_unfolding_all rfl) d1 ?_ ?_ (by with_unfolding_all rfl) (by with_unfolding_all rfl)
  · intro q hq
    simp only [List.mem_cons] at hq
    rcases hq with rfl | rfl | rfl | rfl | rfl | hq
    · exact Nat.ne_of_gt (hf (L + 3, o1) (by simp))
    · refine F11.toSt.ne (a := c') (b := L + 3) (o := oc) (o' := o1) (by simp) (by simp) (fun e => ?_)
      rw [e, d1] at dc; cases dc
    · exact Nat.ne_of_lt (Nat.lt_succ_self _)
    · exact Nat.ne_of_gt q3
    · exact Nat.ne_of_lt (Nat.lt_trans (Nat.lt_succ_self _) (Nat.lt_succ_self _))
    · exact hRL 3 q hq
  intro s12 o1' d1' F12
  walk_at "w"
  by_cases hx0 : x = 0
  · subst hx0
    rw [if_neg (by decide)]
    walk_at "w"
    refine h p _ zs 0 hRp (F12.toSt.sub (by walk_at "sub")) ?_
    rw [cnt_zero n hn] at hzs ⊢
    exact hzs
  · rw [if_pos (by simp; (first | lia | omega))]
    walk_at "w"
    refine cwN ?_ (by with_unfolding_all rfl)
    walk_at "w"
    rename_i t13 s13 F13
    refine lenL (vs := zs) (c := 0) F13 (by simp) (by rw [hzs.1]; simp; (first | lia | omega)) ?_
    intro t14 s14 F14
    walk_at "w"
    refine ⟨⟨fo, _, F14.get (a := f) (by simp), by rw [hfo]⟩, ?_⟩
    obtain ⟨oL, hmL, SL, back⟩ := F14.st
    have hcp : 1 ≤ cnt n x := by
      rcases Nat.eq_zero_or_pos (cnt n x) with e | e
      · exfalso
        have := cnt_lt (x := x) hn
        rw [e] at this
        simp at this
        (first | lia | omega)
      · exact e
    have hlen : (zs.length : Int) = (cnt n x : Nat) := by rw [hzs.1]; simp
    rw [hlen]
    refine i2dIn (w := w) (R := (L + 3, o1') :: (f, fo) :: (c', oc) :: (L + 2, o2') :: (L + 1, o3) :: R) (cl := [("n", L + 1), ("inner", L + 3), ("a_digits", L + 2)]) (n := n) (tn := tn) (ls := p) T (by with_unfolding_all rfl) (by with_unfolding_all rfl) (by with_unfolding_all rfl) (f := f) (doc := doc) (pm := pm) (c' := c') (ctv := ctv) (by rw [← hfo]; simp) (oc := oc) (by simp) dc vq (oN := o3) (by simp) d3 (oA := o2') (by simp) d2' (oI := o1') (by simp) d1' 10 x 0 (cnt n x) tx _ _ zs (List.replicate (cnt n x) 0) 0 s14 _ ((L, oL) :: (L + 3, o1') :: (f, fo) :: (c', oc) :: (L + 2, o2') :: (L + 1, o3) :: R) _ _ (fun q hq => List.mem_cons_of_mem _ hq) hcp (by walk_at "o") (by simp) ?_ (by simp; (first | lia | omega)) (by simpa using cnt_lt hn) (SL.sub (by walk_at "sub")) ?_ hzs (hr1.mono (by walk_at "o")) ?_
    · rw [List.length_replicate]
      refine Nat.le_trans (Nat.mul_div_le (bits x + n - 1) n) (by walk_at "o")
    · intro q hq
      simp only [List.mem_cons] at hq
      rcases hq with rfl | rfl | rfl | rfl | rfl | rfl | hq
      · exact Nat.ne_of_lt hLp
      · exact Nat.ne_of_lt q3
      · exact Nat.ne_of_gt (hf (p, listO zs 0) (by simp))
      · refine F14.toSt.ne (a := c') (b := p) (o := oc) (o' := listO zs 0) (by simp) (by simp) (fun e => ?_)
        rw [e] at clc; simp at clc
      · exact Nat.ne_of_lt (Nat.lt_trans (Nat.lt_succ_self _) q3)
      · exact Nat.ne_of_lt (Nat.lt_trans (Nat.lt_succ_self _) (Nat.lt_trans (Nat.lt_succ_self _) q3))
      · exact Nat.ne_of_lt (hRp q hq)
    · intro s15 vs15 c15 S15 hN15
      have F15 := back (S15.sub (R' := (L, oL) :: (p, listO vs15 c15) :: (L + 3, o1') :: (f, fo) :: (c', oc) :: (L + 2, o2') :: (L + 1, o3) :: R) (by walk_at "sub")) (by
        intro q hq
        rcases List.mem_cons.mp hq with rfl | hq
        · exact Nat.ne_of_gt hLp
        · refine F14.off q ?_
          revert q
          walk_at "sub")
      walk_at "w"
      refine h p _ vs15 c15 hRp (F15.toSt.sub (by walk_at "sub")) ?_
      simpa using hN15
end
abbrev stD2i : Stmt := nthS (fBody (sLong 3)) 0
/-- the number that the digits from Lo to Hi are -/
def part (n : Nat) (l : List Nat) (Lo Hi : Nat) : Nat := num n ((l.drop Lo).take (Hi - Lo))
theorem part_one {n : Nat} {l : List Nat} {Lo x : Nat} (h : l[Lo]? = some x) : part n l Lo (Lo + 1) = x := by
  obtain ⟨hl, e⟩ := List.getElem?_eq_some_iff.mp h
  unfold part
  rw [show Lo + 1 - Lo = 1 by (first | lia | omega), List.drop_eq_getElem_cons hl, e]
  simp [num]
theorem part_split {n : Nat} {l : List Nat} {Lo mid Hi : Nat} (h1 : Lo ≤ mid) (h2 : mid ≤ Hi) (h3 : Hi ≤ l.length) : part n l Lo Hi = part n l mid Hi * 2 ^ ((mid - Lo) * n) + part n l Lo mid := by
  unfold part
  have e : (l.drop Lo).take (Hi - Lo) = (l.drop Lo).take (mid - Lo) ++ (l.drop mid).take (Hi - mid) := by
    rw [show Hi - Lo = (mid - Lo) + (Hi - mid) by (first | lia | omega), List.take_add, List.drop_drop, show Lo + (mid - Lo) = mid by (first | lia | omega)]
  rw [e, num_append, List.length_take, List.length_drop, Nat.min_eq_left (by walk_at "o"), Nat.add_comm, Nat.mul_comm, Nat.mul_comm n]
theorem part_bits {n : Nat} {l : List Nat} (h : ∀ x ∈ l, x < 2 ^ n) (Lo Hi : Nat) : bits (part n l Lo Hi) ≤ n * l.length := by
  refine bits_le ?_
  unfold part
  refine Nat.lt_of_lt_of_le (num_lt n _ fun x hx => h x (List.mem_of_mem_drop (List.mem_of_mem_take hx))) (Nat.pow_le_pow_right (by decide) (Nat.mul_le_mul_left _ ?_))
  rw [List.length_take, List.length_drop]
  (first | lia | omega)
section
variable {w : World} {A : Around} {E : Value → Shared → Prop} {G : Gd} {s : Shared} {R : Led} {K : Frag} {cl : List (Str × Addr)} {f c' cN cA cI ls : Addr} {doc pm ctv : Value} {oc oN oA oI : Obj} {vc : Array Value} {tq tn : Tok} {n : Nat}
theorem d2iIn {vs : List Value} {l : List Nat} {c : Nat} (T : Tp G w K) (hn : cl.lookup ("n" : Str) = some cN) (hA : cl.lookup ("digits" : Str) = some cA) (hI : cl.lookup ("inner" : Str) = some cI)
    (mf : (f, inO stD2i "_digits2int.<locals>.inner" cl doc pm c' ctv) ∈ R) (mc : (c', oc) ∈ R) (dc : oc.data = .fields vc) (vq : vc[1]? = some (.str "_digits2int.<locals>.inner" tq))
    (mN : (cN, oN) ∈ R) (dN : oN.data = .cell (some (.int (n : Int) tn))) (mA : (cA, oA) ∈ R) (dA : oA.data = .cell (some (.ref ls))) (mI : (cI, oI) ∈ R) (dI : oI.data = .cell (some (.ref f)))
    (ml : (ls, listO vs c) ∈ R) (hN : NA vs l) (hlt : ∀ x ∈ l, x < 2 ^ n) (h4 : n * l.length ≤ 100000) (h5 : l.length ≤ 1000) :
    ∀ (d Lo Hi : Nat) (tl th : Tok) (s : Shared) (A : Around) (R' : Led) (Q : Value → Shared → Prop) (E : Value → Shared → Prop), (∀ p ∈ R, p ∈ R') → Lo < Hi → Hi - Lo ≤ 2 ^ d → Hi ≤ l.length →
      St G s R' → Room A (d + 2) →
      (∀ s' t', St G s' R' → Q (.int ((part n l Lo Hi : Nat) : Int) t') s') →
      wpAny (model pw w) A (call (.ref f) [.int (Lo : Int) tl, .int (Hi : Int) th]) Q E s := by
  intro d
  induction d with
  | zero =>
    intro Lo Hi tl th s A R' Q E hsub h1 h2 h3 S hr h
    have e : Hi = Lo + 1 := by simp at h2; (first | lia | omega)
    subst e
    have mN' := hsub _ mN
    have mA' := hsub _ mA
    have mI' := hsub _ mI
    refine callN [("L", .int Lo tl), ("R", .int (Lo + 1 : Nat) th)] T S hr (hsub _ mf) (hsub _ mc) dc vq (BindsTo.of_eq (by kernel_rfl)) (by decide +kernel) (by kernel_rfl) (by rfl) (by rfl) (by rfl) ?_
    intro L s' hL F hlt' hr'
    refine wpAny_execs_cons ?_
    walk_at "w"
    have e : (((Lo : Int) + 1) == ((Lo + 1 : Nat) : Int)) = true := by simp
    rw [e, if_pos rfl]
    walk_at "w"
    rename_i t1 s1 F1
    have hlo : Lo < l.length := by (first | lia | omega)
    obtain ⟨tv, hv⟩ := hN.2 Lo l[Lo] (List.getElem?_eq_getElem hlo)
    refine itL (xs := vs) (c := c) F1 (hsub _ ml) (by walk_at "o") (by walk_at "o") (by rw [Int.toNat_natCast]; exact hv) ?_ (by with_unfolding_all rfl)
    have := h s1 tv F1.toSt
    rw [part_one (List.getElem?_eq_getElem hlo)] at this
    exact this
  | succ d ih =>
    intro Lo Hi tl th s A R' Q E hsub h1 h2 h3 S hr h
    have mN' := hsub _ mN
    have mA' := hsub _ mA
    have mI' := hsub _ mI
    refine callN [("L", .int Lo tl), ("R", .int Hi th)] T S hr (hsub _ mf) (hsub _ mc) dc vq (BindsTo.of_eq (by kernel_rfl)) (by decide +kernel) (by kernel_rfl) (by rfl) (by rfl) (by rfl) ?_
    intro L s' hL F hlt' hr'
    refine wpAny_execs_cons ?_
    walk_at "w"
    rename_i t1 s1 F1
    by_cases e0 : Hi = Lo + 1
    · subst e0
      have e : (((Lo : Int) + 1) == ((Lo + 1 : Nat) : Int)) = true := by simp
      rw [e, if_pos rfl]
      walk_at "w"
      rename_i F1
      have hlo : Lo < l.length := by (first | lia | omega)
      obtain ⟨tv, hv⟩ := hN.2 Lo l[Lo] (List.getElem?_eq_getElem hlo)
      refine itL (xs := vs) (c := c) F1 (hsub _ ml) (by walk_at "o") (by walk_at "o") (by rw [Int.toNat_natCast]; exact hv) ?_ (by with_unfolding_all rfl)
      have := h _ tv F1.toSt
      rw [part_one (List.getElem?_eq_getElem hlo)] at this
      exact this
    · have e : (((Lo : Int) + 1) == (Hi : Int)) = false := by simp; (first | lia | omega)
      rw [e, if_neg (by decide)]
      walk_at "w"
      rename_i t2 s2 F2 t3 s3 F3
      refine rShrN (x := Lo + Hi) (k := 1) (by simp) (by rfl) F3 fun t4 s4 F4 => ?_
      rw [Nat.pow_one]
      obtain ⟨mid, hmid⟩ : ∃ mid, (Lo + Hi) / 2 = mid := ⟨_, rfl⟩
      rw [hmid]
      have m1 : Lo < mid := by (first | lia | omega)
      have m2 : mid < Hi := by (first | lia | omega)
      walk_at "w"
      rename_i s5 F5 t6 s6 F6
      refine rMulN (x := mid - Lo) (k := n) (by walk_at "o") rfl (by walk_at "o") F6 fun t7 s7 F7 => ?_
      walk_at "w"
      rename_i s8 F8
      have hk : (mid - Lo) * n ≤ 100000 := by
        refine Nat.le_trans ?_ h4
        rw [Nat.mul_comm]
        exact Nat.mul_le_mul_left _ (by walk_at "o")
      refine cwN ?_ (by with_unfolding_all rfl)
      walk_at "w"
      refine ⟨⟨_, _, F8.get (hsub _ mf), rfl⟩, ?_⟩
      obtain ⟨oL, hmL, SL, back⟩ := F8.st
      refine ih mid Hi t4 th _ _ ((L, oL) :: R') _ _ (fun p hp => List.mem_cons_of_mem _ (hsub p hp)) m2 (by rw [Nat.pow_succ] at h2; (first | lia | omega)) h3 SL hr' ?_
      intro s9 t9 S9
      have F9 := back S9 F8.off
      walk_at "w"
      refine rShlN (x := part n l mid Hi) (k := (mid - Lo) * n) rfl rfl (Nat.le_trans (part_bits hlt _ _) (by walk_at "o")) (by walk_at "o") F9 fun t10 s10 F10 => ?_
      walk_at "w"
      refine cwN ?_ (by with_unfolding_all rfl)
      walk_at "w"
      refine ⟨⟨_, _, F10.get (hsub _ mf), rfl⟩, ?_⟩
      obtain ⟨oL2, hmL2, SL2, back2⟩ := F10.st
      refine ih Lo mid tl t4 _ _ ((L, oL2) :: R') _ _ (fun p hp => List.mem_cons_of_mem _ (hsub p hp)) m1 (by rw [Nat.pow_succ] at h2; (first | lia | omega)) (by walk_at "o") SL2 hr' ?_
      intro s11 t11 S11
      have F11 := back2 S11 F10.off
      walk_at "w"
      rename_i t12 s12 F12
      have := h s12 t12 F12.toSt
      rw [part_split (Nat.le_of_lt m1) (Nat.le_of_lt m2) h3] at this
      rw [Int.natCast_add] at this
      exact this
theorem d2i_spec {Q : Value → Shared → Prop} {vs : List Value} {l : List Nat} {c j : Nat} (T : Tp G w K) (S : St G s R) (ml : (ls, listO vs c) ∈ R) (hN : NA vs l) (hlt : ∀ x ∈ l, x < 2 ^ n) (h4 : n * l.length ≤ 100000) (h5 : l.length ≤ 1000) (hr : Room A (j + 14))
    (h : ∀ s' t', St G s' R → Q (.int ((num n l : Nat) : Int) t') s') : wpAny (model pw w) A (call (.ref aD2i) [.ref ls, .int (n : Int) tn]) Q E s := by
  refine enterC [("digits", .ref ls), ("n", .int n tn)] S hr T.lim T.fD2i (fun pm ct => BindsTo.of_eq (by kernel_rfl)) ?_ (by decide +kernel) (by rfl) (by rfl) (by rfl) ?_
  · intro k
    exact ⟨.inr ⟨by with_unfolding_all rfl, by with_unfolding_all rfl⟩, .inr ⟨by with_unfolding_all rfl, by with_unfolding_all rfl⟩, trivial⟩
  intro L s1 cells hL F1 HC hltL hr1
  have HC3 : CellsAre (bindC (envOfC "_digits2int" (fScope (sLong 3)) L aD2i (.ref cD2i)).kindOf [("digits", .ref ls), ("n", .int n tn)] fun _ => none) [("inner", L + 3), ("n", L + 2), ("digits", L + 1)] cells := HC
  obtain ⟨o1, o2, o3, rfl, d1, d2, d3⟩ := HC3.three
  have d1 : o1.data = .cell none := d1
  have d2 : o2.data = .cell (some (.int n tn)) := d2
  have d3 : o3.data = .cell (some (.ref ls)) := d3
  have hcf : cellsFrom (L + 1) (fScope (sLong 3)).names [] = ([("inner", L + 3), ("n", L + 2), ("digits", L + 1)] : List (Str × Addr)) := by with_unfolding_all rfl
  rw [hcf] at hr1 ⊢
  simp only [List.cons_append, List.nil_append] at F1
  refine wpAny_execs_cons ?_
  have hRL : ∀ k, ∀ q ∈ R, q.1 ≠ L + k := fun k q hq => by have := hltL q hq; exact Nat.ne_of_lt (Nat.lt_of_lt_of_le this (Nat.le_add_right _ _))
  refine nestDef_K (by with_unfolding_all rfl) (by with_unfolding_all rfl) (by with_unfolding_all rfl) ?_
  refine nestT (tb := tbD2i) T F1 T.inD2i rfl (by with_unfolding_all rfl) (by with_unfolding_all rfl) (by with_unfolding_all rfl) ?_
  intro f c' oc s11 doc pm ctv vc tq fo hfo F11 dc vq clc hf hLf
  replace hfo : fo = inO stD2i "_digits2int.<locals>.inner" [("n", L + 2), ("inner", L + 3), ("digits", L + 1)] doc pm c' ctv := hfo.trans (by kernel_rfl)
  refine stC (c := L + 3) (R := (f, fo) :: (c', oc) :: (L + 2, o2) :: (L + 1, o3) :: R) (o := o1) (F11.sub (by walk_at "sub")) (by with_unfolding_all rfl) d1 ?_ ?_ (by with_unfolding_all rfl) (by with_unfolding_all rfl)
  · intro q hq
    simp only [List.mem_cons] at hq
    rcases hq with rfl | rfl | rfl | rfl | hq
    · exact Nat.ne_of_gt (hf (L + 3, o1) (by simp))
    · refine F11.toSt.ne (a := c') (b := L + 3) (o := oc) (o' := o1) (by simp) (by simp) (fun e => ?_)
      rw [e, d1] at dc; cases dc
    · exact Nat.ne_of_lt (Nat.lt_succ_self _)
    · exact Nat.ne_of_lt (Nat.lt_trans (Nat.lt_succ_self _) (Nat.lt_succ_self _))
    · exact hRL 3 q hq
  intro s12 o1' d1' F12
  walk_at "w"
  refine tList (vs := vs) (c := c) F12 (by simp [ml]) (by rw [hN.1]; (first | lia | omega)) ?_
  intro s13 F13
  cases hvs : vs with
  | nil =>
    rw [if_neg (by simp)]
    walk_at "w"
    rename_i t14 s14 F14
    have hl : l = [] := by have := hN.1; rw [hvs] at this; exact List.length_eq_zero_iff.mp this.symm
    have := h s14 t14 (F14.toSt.sub (by walk_at "sub"))
    rw [hl] at this
    exact this
  | cons v r =>
    rw [if_pos (by simp)]
    walk_at "w"
    refine cwN ?_ (by with_unfolding_all rfl)
    walk_at "w"
    rename_i t14 s14 F14
    refine lenL (vs := vs) (c := c) F14 (by simp [ml]) (by rw [hN.1]; (first | lia | omega)) ?_
    intro t15 s15 F15
    walk_at "w"
    refine ⟨⟨fo, _, F15.get (a := f) (by simp), by rw [hfo]⟩, ?_⟩
    obtain ⟨oL, hmL, SL, back⟩ := F15.st
    have hlen : (vs.length : Int) = (l.length : Nat) := by rw [hN.1]
    rw [hlen]
    refine d2iIn (w := w) (R := (L + 3, o1') :: (f, fo) :: (c', oc) :: (L + 2, o2) :: (L + 1, o3) :: R) (cl := [("n", L + 2), ("inner", L + 3), ("digits", L + 1)]) (n := n) (tn := tn) (ls := ls) T (by with_unfolding_all rfl) (by with_unfolding_all rfl) (by with_unfolding_all rfl) (f := f) (doc := doc) (pm := pm) (c' := c') (ctv := ctv) (by rw [← hfo]; simp) (oc := oc) (by simp) dc vq (oN := o2) (by simp) d2 (oA := o3) (by simp) d3 (oI := o1') (by simp) d1' (vs := vs) (l := l) (c := c) (by simp [ml]) hN hlt h4 h5 10 0 l.length _ _ s15 _ ((L, oL) :: (L + 3, o1') :: (f, fo) :: (c', oc) :: (L + 2, o2) :: (L + 1, o3) :: R) _ _ (fun q hq => List.mem_cons_of_mem _ hq) ?_ (by walk_at "o") (Nat.le_refl _) SL (hr1.mono (by walk_at "o")) ?_
    · rw [← hN.1, hvs]; simp
    · intro s16 t16 S16
      walk_at "w"
      have := h s16 t16 (S16.sub (by walk_at "sub"))
      unfold part
      simpa using this
end
theorem bits_log2 {b : Nat} (h : bits b ≤ 8000) : ((b : Int)).natAbs.log2 < 9000 := by
  rw [Int.natAbs_natCast]
  unfold bits at h
  split at h
  · rename_i e; subst e; decide
  · (first | lia | omega)
section
variable {w : World} {A : Around} {E : Value → Shared → Prop} {G : Gd} {s : Shared} {R : Led} {K : Frag} {Q : Value → Shared → Prop} {a b n j : Nat} {ta tb tn : Tok}
theorem div_spec (T : Tp G w K) (S : St G s R) (hb : 0 < b) (hb2 : bits b ≤ 1000) (ha : bits a ≤ 3000) (hr : Room A (j + 2))
    (h : ∀ p s' t1 t2, (∀ q ∈ R, q.1 < p) → St G s' ((p, tupO [.int ((a / b : Nat) : Int) t1, .int ((a % b : Nat) : Int) t2]) :: R) → Q (.ref p) s') :
    wpAny (model pw w) A (call (.ref aDiv) [.int (a : Int) ta, .int (b : Int) tb, .int (n : Int) tn]) Q E s := by
  refine enterF [("a", .int a ta), ("b", .int b tb), ("n", .int n tn)] S hr T.lim T.fDiv (fun pm ct => BindsTo.of_eq (by kernel_rfl)) (by decide +kernel) (by kernel_rfl) (by rfl) (by rfl) (by rfl) ?_
  intro L s' hL F hlt hr'
  obtain ⟨tlim, hlim⟩ := T.gLim
  refine wpAny_execs_cons ?_
  walk_at "w"
  rename_i t1 s1 F1 t2 s2 F2
  refine nmG F2 hlim ?_ (by with_unfolding_all rfl)
  walk_at "w"
  rw [if_pos (by rw [intBits_nat]; simp; (first | lia | omega))]
  walk_at "w"
  refine rDivmod F2 (by walk_at "o") (bits_log2 (by walk_at "o")) ?_
  intro p s3 u1 u2 hp hLp F3
  walk_at "w"
  refine h p s3 u1 u2 hp ?_
  have := F3.toSt
  rw [show ((a : Int) / b) = ((a / b : Nat) : Int) by simp, show ((a : Int) % b) = ((a % b : Nat) : Int) by simp] at this
  exact this
end
/-- a number's upper part -/
theorem up_step {n a k i : Nat} (hi : i < k) : a / 2 ^ (n * (k - (i + 1))) = a / 2 ^ (n * (k - i)) * 2 ^ n + dig n a (k - 1 - i) := by
  unfold dig
  have e : k - (i + 1) = k - 1 - i := by (first | lia | omega)
  have e2 : n * (k - i) = n * (k - 1 - i) + n := by rw [show k - i = (k - 1 - i) + 1 by (first | lia | omega), Nat.mul_add, Nat.mul_one]
  rw [e, e2, Nat.pow_add, ← Nat.div_div_eq_div_mul]
  generalize a / 2 ^ (n * (k - 1 - i)) = y
  have := Nat.div_add_mod y (2 ^ n)
  rw [Nat.mul_comm] at this
  (first | lia | omega)
theorem step_div {n b r d Q V : Nat} (hb : 0 < b) (hr : r < b) (hd : d < 2 ^ n) (h : Q * b + r = V) :
    (r * 2 ^ n + d) / b < 2 ^ n ∧ (r * 2 ^ n + d) % b < b ∧ ((r * 2 ^ n + d) / b + 2 ^ n * Q) * b + (r * 2 ^ n + d) % b = V * 2 ^ n + d := by
  refine ⟨?_, Nat.mod_lt _ hb, ?_⟩
  · rw [Nat.div_lt_iff_lt_mul hb]
    have : (r + 1) * 2 ^ n ≤ b * 2 ^ n := Nat.mul_le_mul_right _ hr
    rw [Nat.add_mul, Nat.one_mul] at this
    rw [Nat.mul_comm (2 ^ n)]
    (first | lia | omega)
  · have e := Nat.div_add_mod (r * 2 ^ n + d) b
    rw [← h, Nat.add_mul, Nat.add_mul]
    have e3 : 2 ^ n * Q * b = Q * b * 2 ^ n := by rw [Nat.mul_comm (2 ^ n), Nat.mul_right_comm]
    rw [e3]
    rw [Nat.mul_comm b] at e
    (first | lia | omega)
section
variable {w : World} {A : Around} {E : Value → Shared → Prop} {G : Gd} {s : Shared} {R : Led} {K : Frag} {Q : Value → Shared → Prop} {a b j : Nat} {ta tb tn : Tok}
theorem i2d_F {x n : Nat} {tx : Tok} {L : Addr} {m : Str → Option Value} (T : Tp G w K) (F : Fm G s L m R) (hn : 0 < n) (hn2 : n ≤ 1000) (hx : bits x ≤ 1000) (hr : Room A (j + 14))
    (h : ∀ p s' vs c, (∀ q ∈ R, q.1 < p) → L < p → Fm G s' L m ((p, listO vs c) :: R) → NA vs (digL n x (cnt n x)) → Q (.ref p) s') : wpAny (model pw w) A (call (.ref aI2d) [.int (x : Int) tx, .int (n : Int) tn]) Q E s := by
  obtain ⟨oL, hmL, SL, back⟩ := F.st
  refine i2d_spec T SL hn hn2 hx hr fun p s' vs c hp S' hN => h p s' vs c (fun q hq => hp q (List.mem_cons_of_mem _ hq)) (hp (L, oL) (List.mem_cons_self ..)) (back (S'.sub (by walk_at "sub")) ?_) hN
  intro q hq
  rcases List.mem_cons.mp hq with rfl | hq
  · exact Nat.ne_of_gt (hp (L, oL) (List.mem_cons_self ..))
  · exact F.off q hq
theorem div_F {n : Nat} {L : Addr} {m : Str → Option Value} (T : Tp G w K) (F : Fm G s L m R) (hb : 0 < b) (hb2 : bits b ≤ 1000) (ha : bits a ≤ 3000) (hr : Room A (j + 2))
    (h : ∀ p s' t1 t2, (∀ q ∈ R, q.1 < p) → L < p → Fm G s' L m ((p, tupO [.int ((a / b : Nat) : Int) t1, .int ((a % b : Nat) : Int) t2]) :: R) → Q (.ref p) s') :
    wpAny (model pw w) A (call (.ref aDiv) [.int (a : Int) ta, .int (b : Int) tb, .int (n : Int) tn]) Q E s := by
  obtain ⟨oL, hmL, SL, back⟩ := F.st
  refine div_spec T SL hb hb2 ha hr fun p s' t1 t2 hp S' => h p s' t1 t2 (fun q hq => hp q (List.mem_cons_of_mem _ hq)) (hp (L, oL) (List.mem_cons_self ..)) (back (S'.sub (by walk_at "sub")) ?_)
  intro q hq
  rcases List.mem_cons.mp hq with rfl | hq
  · exact Nat.ne_of_gt (hp (L, oL) (List.mem_cons_self ..))
  · exact F.off q hq
theorem d2i_F {n : Nat} {L ls : Addr} {m : Str → Option Value} {vs : List Value} {l : List Nat} {c : Nat} (T : Tp G w K) (F : Fm G s L m R) (ml : (ls, listO vs c) ∈ R) (hN : NA vs l) (hlt : ∀ x ∈ l, x < 2 ^ n) (h4 : n * l.length ≤ 100000) (h5 : l.length ≤ 1000) (hr : Room A (j + 14))
    (h : ∀ s' t', Fm G s' L m R → Q (.int ((num n l : Nat) : Int) t') s') : wpAny (model pw w) A (call (.ref aD2i) [.ref ls, .int (n : Int) tn]) Q E s := by
  obtain ⟨oL, hmL, SL, back⟩ := F.st
  exact d2i_spec T SL (List.mem_cons_of_mem _ ml) hN hlt h4 h5 hr fun s' t' S' => h s' t' (back S' F.off)
theorem dmp_spec (T : Tp G w K) (S : St G s R) (hb : 0 < b) (hb2 : bits b ≤ 500) (ha : bits a ≤ 990) (hr : Room A (j + 15))
    (h : ∀ p s' t1 t2, (∀ q ∈ R, q.1 < p) → St G s' ((p, tupO [.int ((a / b : Nat) : Int) t1, .int ((a % b : Nat) : Int) t2]) :: R) → Q (.ref p) s') :
    wpAny (model pw w) A (call (.ref aDmp) [.int (a : Int) ta, .int (b : Int) tb]) Q E s := by
  refine enterF [("a", .int a ta), ("b", .int b tb)] S hr T.lim T.fDmp (fun pm ct => BindsTo.of_eq (by kernel_rfl)) (by decide +kernel) (by kernel_rfl) (by rfl) (by rfl) (by rfl) ?_
  intro L s' hL F hlt hr'
  refine wpAny_execs_cons ?_
  walk_at "w"
  rename_i t1 s1 F1 s2 F2
  obtain ⟨n, hn⟩ : ∃ n, bits b = n := ⟨_, rfl⟩
  rw [intBits_nat, hn] at F2
  have hn0 : 0 < n := by rw [← hn]; exact bits_gt (k := 0) (by show 1 ≤ b; (first | lia | omega))
  have hbn : b < 2 ^ n := by rw [← hn]; exact lt_bits b
  refine cwF (G := G) T.fI2d ?_ (by with_unfolding_all rfl)
  walk_at "w"
  refine ⟨F2.keep, ?_⟩
  refine i2d_F (j := j) T F2 hn0 (by walk_at "o") (by walk_at "o") hr' ?_
  intro ad s3 avs ca had hLad F3 hNA
  walk_at "w"
  rename_i s4 F4 t5 s5 F5 s6 F6 qd s7 hqd hLqd F7 s8 F8
  refine wpAny_For ?_ (by intro _; with_unfolding_all rfl)
  walk_at "w"
  refine revL (vs := avs) (c := ca) F8 (by simp) ?_
  intro it s9 hit hLit F9
  refine iterR F9 (List.mem_cons_self ..) ?_
  have hk : avs.length = cnt n a := by rw [hNA.1, digL_length]
  obtain ⟨k, hkk⟩ : ∃ k, cnt n a = k := ⟨_, rfl⟩
  rw [hkk] at hk hNA
  have hnk : n * k ≤ 1500 := by rw [← hkk]; refine Nat.le_trans (Nat.mul_div_le (bits a + n - 1) n) (by walk_at "o")
  have hk1 : k ≤ 1500 := Nat.le_trans (Nat.le_mul_of_pos_left k hn0) hnk
  have hqit : qd < it := hit _ (List.mem_cons_self ..)
  have hadit : ad < it := hit (ad, listO avs ca) (by simp)
  have hRit : ∀ q ∈ R, q.1 < it := fun q hq => hit q (by simp [hq])
  have hadq : ad < qd := hqd _ (List.mem_cons_self ..)
  have hRq : ∀ q ∈ R, q.1 < qd := fun q hq => hqd q (by simp [hq])
  refine forR (vs := avs) (L := L) hr'.handled (fun i m R' => ∃ vs ql c r tr, R' = (qd, listO vs c) :: (ad, listO avs ca) :: R ∧ NA vs ql ∧ ql.length = i ∧ (∀ x ∈ ql, x < 2 ^ n) ∧ r < b ∧ num n ql.reverse * b + r = a / 2 ^ (n * (k - i)) ∧
    m "q_digits" = some (.ref qd) ∧ m "r" = some (.int ((r : Nat) : Int) tr) ∧ m "n" = some (.int ((n : Nat) : Int) t1) ∧ m "b" = some (.int ((b : Nat) : Int) tb)) F9 ?_ ?_ ?_ ?_ ?_
  · intro q hq
    simp only [List.mem_cons] at hq
    rcases hq with rfl | rfl | hq
    · exact Nat.ne_of_lt hqit
    · exact Nat.ne_of_lt hadit
    · exact Nat.ne_of_lt (hRit q hq)
  · refine ⟨[], [], 0, 0, t5, rfl, NA.nil, rfl, by simp, hb, ?_, by with_unfolding_all rfl, by with_unfolding_all rfl, by with_unfolding_all rfl, by with_unfolding_all rfl⟩
    have := cnt_lt (x := a) hn0
    rw [hkk] at this
    rw [Nat.sub_zero, Nat.div_eq_of_lt this]
    simp [num]
  · rintro i m R' ⟨vs, ql, c, r, tr, rfl, _⟩
    exact ⟨ca, by simp⟩
  · rintro i v o m R' s hi hv ⟨vs, ql, c, r, tr, rfl, hN, hql, hq2, hrb, hval, hm1, hm2, hm3, hm4⟩ Fi offi
    rw [hk] at hi hv
    obtain ⟨td, hv'⟩ := hNA.2 (k - 1 - i) (dig n a (k - 1 - i)) (digL_get (by walk_at "o"))
    rw [hv'] at hv
    cases hv
    walk_at "w"
    refine cwF (G := G) T.fDiv ?_ (by with_unfolding_all rfl)
    walk_at "w"
    rename_i s10 F10
    have hbr : bits r ≤ 500 := Nat.le_trans (bits_le (Nat.lt_trans hrb hbn)) (by walk_at "o")
    refine rShlN (x := r) (k := n) rfl rfl (by walk_at "o") (by walk_at "o") F10 fun t11 s11 F11 => ?_
    walk_at "w"
    rename_i t12 s12 F12
    refine ⟨F12.keep, ?_⟩
    rw [← Int.natCast_add]
    have hd : dig n a (k - 1 - i) < 2 ^ n := Nat.mod_lt _ (Nat.pow_pos (by decide))
    obtain ⟨g1, g2, g3⟩ := step_div hb hrb hd hval
    have hbt : bits (r * 2 ^ n + dig n a (k - 1 - i)) ≤ 3000 := by
      refine Nat.le_trans (bits_le (k := n + n) ?_) (by walk_at "o")
      rw [Nat.pow_add]
      have : (r + 1) * 2 ^ n ≤ 2 ^ n * 2 ^ n := Nat.mul_le_mul_right _ (by walk_at "o")
      rw [Nat.add_mul, Nat.one_mul] at this
      (first | lia | omega)
    refine div_F (j := j) T F12 hb (by walk_at "o") hbt (hr'.mono (by walk_at "o")) ?_
    intro pt s13 u1 u2 hpt hLpt F13
    refine uT F13 (List.mem_cons_self ..) hr'.handled (by with_unfolding_all rfl) (by with_unfolding_all rfl) ?_
    intro s14 F14
    walk_at "w"
    rename_i s15 F15 s16 F16
    refine gmApp (vs := vs) (c := c) F16 (by simp) ?_
    walk_at "w"
    refine appL (vs := vs) (c := c) (R := (it, o) :: (ad, listO avs ca) :: R) (F16.sub (by walk_at "sub")) ?_ (by rw [hN.1]; (first | lia | omega)) ?_
    · intro q hq
      simp only [List.mem_cons] at hq
      rcases hq with rfl | rfl | hq
      · exact Nat.ne_of_gt hqit
      · exact Nat.ne_of_lt hadq
      · exact Nat.ne_of_lt (hRq q hq)
    intro s17 F17
    walk_at "w"
    refine ⟨_, _, ⟨_, ql ++ [(r * 2 ^ n + dig n a (k - 1 - i)) / b], c + 1, (r * 2 ^ n + dig n a (k - 1 - i)) % b, u2, rfl, hN.append (NA.one _ u1), by simp [hql], ?_, g2, ?_, by with_unfolding_all assumption, by with_unfolding_all rfl, by with_unfolding_all assumption, by with_unfolding_all assumption⟩, F17.sub (by walk_at "sub"), ?_⟩
    · intro x hx
      rcases List.mem_append.mp hx with hx | hx
      · exact hq2 x hx
      · simp at hx; subst hx; exact g1
    · rw [List.reverse_append]
      simp only [List.reverse_cons, List.reverse_nil, List.nil_append, List.cons_append, num]
      rw [g3, up_step hi]
    · intro q hq
      simp only [List.mem_cons] at hq
      rcases hq with rfl | rfl | hq
      · exact Nat.ne_of_lt hqit
      · exact Nat.ne_of_lt hadit
      · exact Nat.ne_of_lt (hRit q hq)
  · rintro m R' s ⟨vs, ql, c, r, tr, rfl, hN, hql, hq2, hrb, hval, hm1, hm2, hm3, hm4⟩ Fi
    rw [hk] at hql hval
    walk_at "w"
    refine gmRev (vs := vs) (c := c) Fi (by simp) ?_
    walk_at "w"
    refine reverseL (vs := vs) (c := c) Fi ?_ (by rw [hN.1]; (first | lia | omega)) ?_
    · intro q hq
      simp only [List.mem_cons] at hq
      rcases hq with rfl | hq
      · exact Nat.ne_of_lt hadq
      · exact Nat.ne_of_lt (hRq q hq)
    intro s10 c10 F10
    walk_at "w"
    refine cwF (G := G) T.fD2i ?_ (by with_unfolding_all rfl)
    walk_at "w"
    refine ⟨F10.keep, ?_⟩
    have hk2 : k ≤ 1000 := by
      rw [← hkk]
      unfold cnt
      refine Nat.le_trans (Nat.div_le_div_right (show bits a + n - 1 ≤ 990 + n by (first | lia | omega))) ?_
      rw [Nat.add_div_right _ hn0]
      have := Nat.div_le_self 990 n
      (first | lia | omega)
    refine d2i_F (j := j) (n := n) T F10 (List.mem_cons_self ..) hN.reverse (by simpa using hq2) (by rw [List.length_reverse, hql]; (first | lia | omega)) (by rw [List.length_reverse, hql]; exact hk2) hr' ?_
    intro s11 t11 F11
    walk_at "w"
    rename_i s12 F12 pp s13 hpp hLpp F13
    have hfin : num n ql.reverse = a / b ∧ r = a % b := by
      rw [Nat.sub_self, Nat.mul_zero, Nat.pow_zero, Nat.div_one] at hval
      rw [← hval]
      refine ⟨?_, ?_⟩
      · rw [Nat.add_comm, Nat.add_mul_div_right _ _ hb, Nat.div_eq_of_lt hrb, Nat.zero_add]
      · rw [Nat.add_comm, Nat.add_mul_mod_self_right, Nat.mod_eq_of_lt hrb]
    obtain ⟨e1, e2⟩ := hfin
    rw [e1, e2] at F13
    exact h pp s13 t11 tr (fun q hq => hpp q (by simp [hq])) (F13.toSt.sub (by walk_at "sub"))
end
section
variable {w : World} {A : Around} {E : Value → Shared → Prop} {G : Gd} {s : Shared} {R : Led} {K : Frag} {Q : Value → Shared → Prop} {b j : Nat} {ta tb tn : Tok}
theorem dmp_F {a : Nat} {L : Addr} {m : Str → Option Value} (T : Tp G w K) (F : Fm G s L m R) (hb : 0 < b) (hb2 : bits b ≤ 500) (ha : bits a ≤ 990) (hr : Room A (j + 15))
    (h : ∀ p s' t1 t2, (∀ q ∈ R, q.1 < p) → L < p → Fm G s' L m ((p, tupO [.int ((a / b : Nat) : Int) t1, .int ((a % b : Nat) : Int) t2]) :: R) → Q (.ref p) s') :
    wpAny (model pw w) A (call (.ref aDmp) [.int (a : Int) ta, .int (b : Int) tb]) Q E s := by
  obtain ⟨oL, hmL, SL, back⟩ := F.st
  refine dmp_spec T SL hb hb2 ha hr fun p s' t1 t2 hp S' => h p s' t1 t2 (fun q hq => hp q (List.mem_cons_of_mem _ hq)) (hp (L, oL) (List.mem_cons_self ..)) (back (S'.sub (by walk_at "sub")) ?_)
  intro q hq
  rcases List.mem_cons.mp hq with rfl | hq
  · exact Nat.ne_of_gt (hp (L, oL) (List.mem_cons_self ..))
  · exact F.off q hq
theorem idm_nn {a : Nat} (T : Tp G w K) (S : St G s R) (hb : 0 < b) (hb2 : bits b ≤ 500) (ha : bits a ≤ 990) (hr : Room A (j + 16))
    (h : ∀ p s' t1 t2, (∀ q ∈ R, q.1 < p) → St G s' ((p, tupO [.int ((a / b : Nat) : Int) t1, .int ((a % b : Nat) : Int) t2]) :: R) → Q (.ref p) s') :
    wpAny (model pw w) A (call (.ref aIdm) [.int (a : Int) ta, .int (b : Int) tb]) Q E s := by
  refine enterF [("a", .int a ta), ("b", .int b tb)] S hr T.lim T.fIdm (fun pm ct => BindsTo.of_eq (by kernel_rfl)) (by decide +kernel) (by kernel_rfl) (by rfl) (by rfl) (by rfl) ?_
  intro L s' hL F hlt hr'
  refine wpAny_execs_cons ?_
  walk_at "w"
  rw [if_neg (by first | (simp; done) | (simp; (first | lia | omega)))]
  walk_at "w"
  rw [if_neg (by first | (simp; done) | (simp; (first | lia | omega)))]
  walk_at "w"
  rw [if_neg (by first | (simp; done) | (simp; (first | lia | omega)))]
  walk_at "w"
  rename_i t1 s1 F1 t2 s2 F2 t3 s3 F3
  refine cwF (G := G) T.fDmp ?_ (by with_unfolding_all rfl)
  walk_at "w"
  refine ⟨F3.keep, ?_⟩
  refine dmp_F (j := j) T F3 hb hb2 ha hr' ?_
  intro p s4 u1 u2 hp hLp F4
  walk_at "w"
  exact h p s4 u1 u2 hp F4.toSt
end
/-- law 1's own defs -/
structure Tl (G : Gd) : Prop where
  fFirst : FnIs G.B 147 (topS 12) "_law_first" [] 146 .none
  fDeeds : FnIs G.B 154 (topS 13) "_law_deeds" [] 153 .none
  fPiece : FnIs G.B 161 (topS 14) "_law_piece" [] 160 .none
  fSeen : FnIs G.B 168 (topS 15) "_law_seen" [] 167 .none
  fByP : FnIs G.B 173 (topS 16) "_law_by_pieces" [] 172 .none
  fBehind : FnIs G.B 180 (topS 17) "_law_behind" [] 179 .none
  fTold : FnIs G.B 185 (topS 18) "_law_told" [] 184 .none
  fByN : FnIs G.B 190 (topS 19) "_law_by_numbers" [] 189 .none
  fAlike : FnIs G.B 197 (topS 20) "_law_alike" [] 196 .none
  fLaw : FnIs G.B 204 (topS 21) "law" [] 203 .none
def pcOf (code : Nat) : Pc := (rep 32 (code % 4), rep 111 (code / 4))
section
variable {w : World} {A : Around} {E : Value → Shared → Prop} {G : Gd} {s : Shared} {R : Led} {K : Frag} {Q : Value → Shared → Prop} {j : Nat}
theorem piece_spec {code : Nat} {tc : Tok} (T : Tp G w K) (TL : Tl G) (S : St G s R) (hc : code ≤ 100000) (hr : Room A (j + 1))
    (h : ∀ p s' t1 t2, (∀ q ∈ R, q.1 < p) → St G s' ((p, tupO [.str (pcOf code).1 t1, .str (pcOf code).2 t2]) :: R) → Q (.ref p) s') : wpAny (model pw w) A (call (.ref 161) [.int (code : Int) tc]) Q E s := by
  refine enterF [("code", .int code tc)] S hr T.lim TL.fPiece (fun pm ct => BindsTo.of_eq (by kernel_rfl)) (by decide +kernel) (by kernel_rfl) (by rfl) (by rfl) (by rfl) ?_
  intro L s' hL F hlt hr'
  refine wpAny_execs_cons ?_
  walk_at "w"
  rename_i t1 s1 F1 t2 s2 F2 t3 s3 F3
  refine rMulS (ch := 32) (n := code % 4) (by kernel_rfl) (by walk_at "o") (by walk_at "o") F3 ?_
  intro t4 s4 F4
  walk_at "w"
  rename_i t5 s5 F5 t6 s6 F6 t7 s7 F7
  refine rMulS (ch := 111) (n := code / 4) (by kernel_rfl) (by walk_at "o") (by walk_at "o") F7 ?_
  intro t8 s8 F8
  walk_at "w"
  rename_i p s9 hp hLp F9
  exact h p s9 t4 t8 hp F9.toSt
theorem first_spec {l : Addr} {vs : List Value} {ns : List Int} (T : Tp G w K) (TL : Tl G) (S : St G s R) (hl : G.B.IsList l vs.toArray) (hi : IntsAre vs ns) (hz : vs.length ≤ 63) (hr : Room A (j + 1))
    (h : ∀ s' t, St G s' R → Q (.int ((ns.head?.map fun x => x.natAbs).getD 59 : Nat) t) s') : wpAny (model pw w) A (call (.ref 147) [.ref l]) Q E s := by
  refine enterF [("script", .ref l)] S hr T.lim TL.fFirst (fun pm ct => BindsTo.of_eq (by kernel_rfl)) (by decide +kernel) (by kernel_rfl) (by rfl) (by rfl) (by rfl) ?_
  intro L s' hL F hlt hr'
  refine wpAny_execs_cons ?_
  walk_at "w"
  refine tListB F hl (by walk_at "o") ?_
  intro s1 F1
  cases hi with
  | nil =>
    rw [if_neg (by simp)]
    walk_at "w"
    rename_i t2 s2 F2
    exact h s2 t2 F2.toSt
  | @cons n t vs ns hr0 =>
    rw [if_pos (by simp)]
    walk_at "w"
    rename_i t2 s2 F2
    refine itB (v := .int n t) F2 hl (by walk_at "o") (by walk_at "o") (by rfl) ?_ (by with_unfolding_all rfl)
    walk_at "w"
    refine rAbs F2 ?_
    intro t3 s3 F3
    have := h s3 t3 F3.toSt
    have e : (if n < 0 then -n else n) = ((((n :: ns).head?.map fun x => x.natAbs).getD 59 : Nat) : Int) := by
      simp only [List.head?_cons, Option.map_some, Option.getD_some]
      split <;> (first | lia | omega)
    rw [e]
    exact this
end
theorem pick_run (vs : List Value) (a b : Nat) : (slicePick vs.toArray (some (a : Int)) (some (b : Int)) none).toList = (vs.drop a).take (b - a) := by
  rw [slicePick_plain]
  simp only [Option.elim]
  rw [clipAt_nat, clipAt_nat]
  simp only [List.size_toArray]
  apply List.ext_getElem?
  intro i
  rw [List.getElem?_take, List.getElem?_take, List.getElem?_drop, List.getElem?_drop]
  split <;> split
  · congr 1; (first | lia | omega)
  · rename_i h1 h2; exfalso; (first | lia | omega)
  · rename_i h1 h2; rw [List.getElem?_eq_none (by walk_at "o")]
  · rfl
structure Deed where
  kind : Int
  one : Int
  other : Int
  say : Int
def deedOf (c : Int) : Deed := ⟨c % 6, c / 6 % 3, (c / 6 % 3 + 1 + c / 18 % 2) % 3, c / 36⟩
def cellsOf (ns : List Int) : List Int := if ((ns.drop 1).take 15).length < 2 then (ns.drop 1).take 15 ++ [36, 433, 1080, 40, 8, 27, 17, 14, 112, 84] else (ns.drop 1).take 15
/-- values that are these deeds -/
def DeedsAre (R : Led) (vs : List Value) (ds : List Deed) : Prop := vs.length = ds.length ∧ ∀ (i : Nat) d, ds[i]? = some d → ∃ T t1 t2 t3 t4, vs[i]? = some (Value.ref T) ∧ (T, tupO [.int d.kind t1, .int d.one t2, .int d.other t3, .int d.say t4]) ∈ R
section
variable {w : World} {A : Around} {E : Value → Shared → Prop} {G : Gd} {s : Shared} {R : Led} {K : Frag} {Q : Value → Shared → Prop} {j : Nat}
theorem DeedsAre.sub {R R' : Led} {vs : List Value} {ds : List Deed} (h : ∀ q ∈ R, q ∈ R') (x : DeedsAre R vs ds) : DeedsAre R' vs ds :=
  ⟨x.1, fun i d hd => by obtain ⟨T, t1, t2, t3, t4, e, hm⟩ := x.2 i d hd; exact ⟨T, t1, t2, t3, t4, e, h _ hm⟩⟩
theorem DeedsAre.snoc {R : Led} {vs : List Value} {ds : List Deed} {T : Addr} {d : Deed} {t1 t2 t3 t4 : Tok} (x : DeedsAre R vs ds) (hm : (T, tupO [.int d.kind t1, .int d.one t2, .int d.other t3, .int d.say t4]) ∈ R) : DeedsAre R (vs ++ [.ref T]) (ds ++ [d]) := by
  refine ⟨by simp [x.1], fun i e he => ?_⟩
  by_cases hi : i < ds.length
  · rw [List.getElem?_append_left hi] at he
    rw [List.getElem?_append_left (by rw [x.1]; exact hi)]
    exact x.2 i e he
  · rw [List.getElem?_append_right (by walk_at "o")] at he
    rw [List.getElem?_append_right (by rw [x.1]; (first | lia | omega)), x.1]
    cases hj : i - ds.length with
    | zero => rw [hj] at he; simp at he; subst he; exact ⟨T, t1, t2, t3, t4, rfl, hm⟩
    | succ k => rw [hj] at he; simp at he
theorem IntsAre.getN {vs : List Value} {ns : List Int} (h : IntsAre vs ns) : ∀ (i : Nat) (v : Value), vs[i]? = some v → ∃ n t, ns[i]? = some n ∧ v = .int n t := by
  induction h with
  | nil => intro i v hv; simp at hv
  | cons n t _ ih =>
    intro i v hv
    cases i with
    | zero => simp at hv; exact ⟨n, t, rfl, hv.symm⟩
    | succ i => simp at hv; simpa using ih i v hv
theorem deeds_rest {body : List Stmt} {L cl : Addr} {m : Str → Option Value} {cvs : List Value} {cs : List Int} {cc : Nat} (hb : body = (fBody (topS 13)).drop 2) (T : Tp G w K) (TL : Tl G) (F : Fm G s L m ((cl, listO cvs cc) :: R)) (hcl : ∀ q ∈ R, q.1 < cl) (hi : IntsAre cvs cs) (hz : cs.length ≤ 15) (hm : m "cells" = some (.ref cl)) (hr : Room (A.deeper (envX "_law_deeds" (fScope (topS 13)) L 154 (.ref 153) [])) j)
    (h : ∀ p s' vs c Rn, (∀ q ∈ R, q.1 < p) → (∀ q ∈ Rn, p < q.1) → St G s' ((p, listO vs c) :: (Rn ++ R)) → DeedsAre Rn vs (cs.map deedOf) → Q (.ref p) s') :
    wpAny (model pw w) (A.deeper (envX "_law_deeds" (fScope (topS 13)) L 154 (.ref 153) [])) (execs body (envX "_law_deeds" (fScope (topS 13)) L 154 (.ref 153) [])) (fun fl s'' => Q (match fl with | .ret v => v | _ => .none) s'') (fun _ _ => False) s := by
  subst hb
  refine wpAny_execs_cons ?_
  walk_at "w"
  rename_i dd s1 hdd hLdd F1 s2 F2
  refine wpAny_For ?_ (by intro _; with_unfolding_all rfl)
  walk_at "w"
  refine iterL (vs := cvs) (c := cc) F2 (by simp) ?_
  intro it s3 hit hLit F3
  have hddit : dd < it := hit _ (List.mem_cons_self ..)
  have hclit : cl < it := hit (cl, listO cvs cc) (by simp)
  have hcldd : cl < dd := hdd _ (List.mem_cons_self ..)
  have hRdd : ∀ q ∈ R, q.1 < dd := fun q hq => hdd q (by simp [hq])
  refine forL (vs := cvs) (L := L) hr.handled (fun i m' R' => ∃ vs c Rn, R' = (dd, listO vs c) :: (cl, listO cvs cc) :: (Rn ++ R) ∧ (∀ q ∈ Rn, it < q.1) ∧ DeedsAre Rn vs ((cs.map deedOf).take i) ∧ m' "deeds" = some (.ref dd)) F3 ?_ ?_ ?_ (.inl ⟨_, _, rfl⟩) ?_ ?_
  · intro q hq
    simp only [List.mem_cons] at hq
    rcases hq with rfl | rfl | hq
    · exact Nat.ne_of_lt hddit
    · exact Nat.ne_of_lt hclit
    · exact Nat.ne_of_lt (Nat.lt_trans (hRdd q hq) hddit)
  · exact ⟨[], 0, [], rfl, by simp, ⟨rfl, fun i d hd => by simp at hd⟩, by with_unfolding_all rfl⟩
  · rintro i m' R' ⟨vs, c, Rn, rfl, _⟩
    exact ⟨cc, by simp⟩
  · rintro i v o m' R' s4 hv ⟨vs, c, Rn, rfl, hRn, hD, hm'⟩ F4 off4
    obtain ⟨x, tx, hx, rfl⟩ := IntsAre.getN hi i v hv
    have hxd : (cs.map deedOf)[i]? = some (deedOf x) := by simp [hx]
    walk_at "w"
    rename_i s5 F5 u1 s6 F6 u2 s7 F7 u3 s8 F8 u4 s9 F9 s10 F10 u5 s11 F11 u6 s12 F12 u7 s13 F13 u8 s14 F14 u9 s15 F15 u10 s16 F16 u11 s17 F17 u12 s18 F18 u13 s19 F19 s20 F20
    refine gmApp (vs := vs) (c := c) F20 (by simp) ?_
    walk_at "w"
    rename_i v1 s21 F21 v2 s22 F22 v3 s23 F23 v4 s24 F24 tp s25 htp hLtp F25
    refine appL (vs := vs) (c := c) (R := (tp, tupO [.int (x % 6) v2, .int (x / 6 % 3) u4, .int ((x / 6 % 3 + 1 + x / 18 % 2) % 3) u13, .int (x / 36) v4]) :: (it, o) :: (cl, listO cvs cc) :: (Rn ++ R)) (F25.sub (by walk_at "sub")) ?_ (by rw [hD.1]; simp; (first | lia | omega)) ?_
    · intro q hq
      simp only [List.mem_cons, List.mem_append] at hq
      rcases hq with rfl | rfl | rfl | hq | hq
      · exact Nat.ne_of_gt (htp (dd, listO vs c) (by simp))
      · exact Nat.ne_of_gt hddit
      · exact Nat.ne_of_lt hcldd
      · exact Nat.ne_of_gt (Nat.lt_trans hddit (hRn q hq))
      · exact Nat.ne_of_lt (hRdd q hq)
    intro s26 F26
    walk_at "w"
    refine ⟨_, _, ⟨vs ++ [.ref tp], c + 1, (tp, tupO [.int (x % 6) v2, .int (x / 6 % 3) u4, .int ((x / 6 % 3 + 1 + x / 18 % 2) % 3) u13, .int (x / 36) v4]) :: Rn, rfl, ?_, ?_, by with_unfolding_all assumption⟩, F26.sub (by walk_at "sub"), ?_⟩
    · intro q hq
      rcases List.mem_cons.mp hq with rfl | hq
      · exact htp (it, o) (by simp)
      · exact hRn q hq
    · rw [List.take_add_one, hxd]
      refine DeedsAre.snoc (hD.sub fun q hq => List.mem_cons_of_mem _ hq) (t1 := v2) (t2 := u4) (t3 := u13) (t4 := v4) (List.mem_cons_self ..)
    · intro q hq
      simp only [List.mem_cons, List.mem_append] at hq
      rcases hq with rfl | rfl | hq
      · exact Nat.ne_of_lt hddit
      · exact Nat.ne_of_lt hclit
      · rcases hq with (rfl | hq) | hq
        · exact Nat.ne_of_gt (htp (it, o) (by simp))
        · exact Nat.ne_of_gt (hRn q hq)
        · exact Nat.ne_of_lt (Nat.lt_trans (hRdd q hq) hddit)
  · rintro m' R' s4 ⟨vs, c, Rn, rfl, hRn, hD, hm'⟩ F4
    walk_at "w"
    have e : (cs.map deedOf).take cvs.length = cs.map deedOf := List.take_of_length_le (by rw [hi.length]; simp)
    rw [e] at hD
    exact h dd _ vs c Rn hRdd (fun q hq => Nat.lt_trans hddit (hRn q hq)) (F4.toSt.sub (by walk_at "sub")) hD
theorem ints_drop {vs : List Value} {ns : List Int} (h : IntsAre vs ns) : ∀ k, IntsAre (vs.drop k) (ns.drop k) := by
  induction h with
  | nil => intro k; simp; exact .nil
  | cons n t hr ih =>
    intro k
    cases k with
    | zero => exact .cons n t hr
    | succ k => simpa using ih k
theorem ints_take {vs : List Value} {ns : List Int} (h : IntsAre vs ns) : ∀ k, IntsAre (vs.take k) (ns.take k) := by
  induction h with
  | nil => intro k; simp; exact .nil
  | cons n t hr ih =>
    intro k
    cases k with
    | zero => exact .nil
    | succ k => exact .cons n t (ih k)
theorem deeds_spec {l : Addr} {vs : List Value} {ns : List Int} (T : Tp G w K) (TL : Tl G) (S : St G s R) (hl : G.B.IsList l vs.toArray) (hi : IntsAre vs ns) (hz : vs.length ≤ 63) (hr : Room A (j + 1))
    (h : ∀ p s' vs c Rn, (∀ q ∈ R, q.1 < p) → (∀ q ∈ Rn, p < q.1) → St G s' ((p, listO vs c) :: (Rn ++ R)) → DeedsAre Rn vs ((cellsOf ns).map deedOf) → Q (.ref p) s') : wpAny (model pw w) A (call (.ref 154) [.ref l]) Q E s := by
  refine enterF [("script", .ref l)] S hr T.lim TL.fDeeds (fun pm ct => BindsTo.of_eq (by kernel_rfl)) (by decide +kernel) (by kernel_rfl) (by rfl) (by rfl) (by rfl) ?_
  intro L s' hL F hlt hr'
  refine wpAny_execs_cons ?_
  walk_at "w"
  rename_i t1 s1 F1 t2 s2 F2 sl s3 hsl hLsl F3
  refine slB (sl := sl) (lv := .int 1 t1) (uv := .int 16 t2) (lo := some 1) (hi := some 16) F3 hl (List.mem_cons_self ..) (.int _ _) (.int _ _) (by walk_at "o") ?_ (by with_unfolding_all rfl)
  intro c1 s4 hc1 hLc1 F4
  rw [show (slicePick vs.toArray (some 1) (some 16) none).toList = (vs.drop 1).take 15 from pick_run vs 1 16] at F4
  have hi1 : IntsAre ((vs.drop 1).take 15) ((ns.drop 1).take 15) := ints_take (ints_drop hi 1) 15
  have hl1 := hi1.length
  have hRc1 : ∀ q ∈ R, q.1 < c1 := fun q hq => hc1 q (by simp [hq])
  have hl15 : ((ns.drop 1).take 15).length ≤ 15 := by rw [List.length_take]; (first | lia | omega)
  walk_at "w"
  rename_i s5 F5
  refine lenL (vs := (vs.drop 1).take 15) (c := 0) F5 (by simp) (by walk_at "o") ?_
  intro t6 s6 F6
  walk_at "w"
  rename_i t7 s7 F7
  by_cases hc : ((ns.drop 1).take 15).length < 2
  · rw [if_pos (by rw [hl1]; simp only [decide_eq_true_eq]; (first | lia | omega))]
    walk_at "w"
    rename_i tl s8 htl hLtl F8
    refine rAddL (l := c1) (vs := (vs.drop 1).take 15) (c := 0) F8 (by simp) (List.mem_cons_self ..) (by simp; (first | lia | omega)) ?_
    intro c2 s9 hc2 hLc2 F9
    walk_at "w1"
    rename_i s10 F10
    (try dsimp only)
    walk_at "w1"
    (try dsimp only)
    refine deeds_rest (cl := c2) (cc := 0) (R := R) (cs := (ns.drop 1).take 15 ++ [36, 433, 1080, 40, 8, 27, 17, 14, 112, 84]) (by kernel_rfl) T TL (F10.sub (by intro q hq; simp only [List.mem_cons] at hq ⊢; rcases hq with rfl | hq; exact .inl rfl; exact .inr (by simp [hq]))) (fun q hq => hc2 q (by simp [hq])) (IntsAre.append hi1 (by repeat constructor)) (by rw [List.length_append]; simp only [List.length_cons, List.length_nil]; (first | lia | omega)) (by with_unfolding_all rfl) hr' ?_
    intro p s8 vs8 c8 Rn hp hRn S8 hD
    refine h p s8 vs8 c8 Rn hp hRn S8 ?_
    unfold cellsOf
    rw [if_pos hc]
    exact hD
  · rw [if_neg (by rw [hl1]; simp only [decide_eq_true_eq]; (first | lia | omega))]
    walk_at "w1"
    refine deeds_rest (cl := c1) (cvs := (vs.drop 1).take 15) (cs := (ns.drop 1).take 15) (cc := 0) (R := R) (by kernel_rfl) T TL (F7.sub (by walk_at "sub")) hRc1 hi1 hl15 (by with_unfolding_all rfl) hr' ?_
    intro p s8 vs8 c8 Rn hp hRn S8 hD
    refine h p s8 vs8 c8 Rn hp hRn S8 ?_
    unfold cellsOf
    rw [if_neg hc]
    exact hD
end
def shade (b : Bool) : Str := if b then "white" else "not"
section
variable {w : World} {A : Around} {E : Value → Shared → Prop} {G : Gd} {s : Shared} {R : Led} {K : Frag} {a d : Addr} {vs : List Value} {n : Nat} {sz : Int} {k t : Tok} {Q : Value → Shared → Prop} {j : Nat} {ps : List Pc}
theorem ws_F {L : Addr} {m : Str → Option Value} (T : Tp G w K) (F : Fm G s L m R) (ha : (a, accO aC d vs n) ∈ R) (hd : (d, dicO w sz k t) ∈ R) (hp : Pcs R vs ps) (hsm : Small ps) (hz : 0 ≤ sz ∧ sz ≤ 1000) (hl : ps.length ≤ 1000) (hr : Room A (j + 8))
    (h : ∀ s', Fm G s' L m R → Q (.bool (whiteB sz ps)) s') : wpAny (model pw w) A (call (.ref aWs) [.ref a]) Q E s := by
  obtain ⟨oL, hmL, SL, back⟩ := F.st
  exact ws_spec T SL (List.mem_cons_of_mem _ ha) (List.mem_cons_of_mem _ hd) (hp.sub fun q hq => List.mem_cons_of_mem _ hq) hsm hz hl hr fun s' S' => h s' (back S' F.off)
theorem seen_rest {body : List Stmt} {L : Addr} {m : Str → Option Value} {x : Str} {tx : Tok} (hb : body = (fBody (topS 15)).drop 2) (T : Tp G w K) (F : Fm G s L m R) (ha : (a, accO aC d vs n) ∈ R) (hd : (d, dicO w sz k t) ∈ R) (hp : Pcs R vs ps) (hsm : Small ps) (hz : 0 ≤ sz ∧ sz ≤ 1000) (hl : ps.length ≤ 1000)
    (hm1 : m "row" = some (.ref a)) (hm2 : m "shade" = some (.str x tx)) (hr : Room (A.deeper (envX "_law_seen" (fScope (topS 15)) L 168 (.ref 167) [])) (j + 8))
    (h : ∀ p b s' t1 t2 t3, (∀ q ∈ R, q.1 < b) → b < p → St G s' ((p, tupO [.ref b, .int ps.length t1, .int (sz + lenPs ps) t2, .str (txtPs ps) t3, .str x tx]) :: (b, listO vs 0) :: R) → Q (.ref p) s') :
    wpAny (model pw w) (A.deeper (envX "_law_seen" (fScope (topS 15)) L 168 (.ref 167) [])) (execs body (envX "_law_seen" (fScope (topS 15)) L 168 (.ref 167) [])) (fun fl s'' => Q (match fl with | .ret v => v | _ => .none) s'') (fun _ _ => False) s := by
  subst hb
  have hvl : vs.length ≤ 1000 := by rw [hp.length]; exact hl
  refine wpAny_execs_cons ?_
  walk_at "w"
  rename_i sl s1 hsl hLsl F1
  refine slA (a := a) (d := d) (vs := vs) (n := n) (sl := sl) T F1 (List.mem_cons_of_mem _ ha) (List.mem_cons_of_mem _ hd) (List.mem_cons_self ..) .none .none hvl ?_ (by with_unfolding_all rfl)
  intro b s2 hb hLb F2
  rw [pick_all] at F2
  replace F2 : Fm G s2 L m ((b, listO vs 0) :: R) := F2.sub (by walk_at "sub")
  have hbR : ∀ q ∈ R, q.1 < b := fun q hq => hb q (List.mem_cons_of_mem _ hq)
  walk_at "w"
  refine gmF T F2 (List.mem_cons_of_mem _ ha) (List.mem_cons_of_mem _ hd) T.cntF (by decide) (by kernel_rfl) ?_
  (try dsimp only)
  refine cwF (G := G) T.fCnt ?_ (by with_unfolding_all rfl)
  walk_at "w"
  refine ⟨F2.keep, ?_⟩
  refine cnt_F (j := j + 5) T F2 (List.mem_cons_of_mem _ ha) hr ?_
  intro s3 t3 F3
  walk_at "w"
  refine lenA (j := j + 3) T F3 (List.mem_cons_of_mem _ ha) (List.mem_cons_of_mem _ hd) (hp.sub fun q hq => List.mem_cons_of_mem _ hq) hsm hz hl hr ?_
  intro s4 t4 F4
  walk_at "w"
  refine strA (j := j + 2) T F4 (List.mem_cons_of_mem _ ha) (List.mem_cons_of_mem _ hd) (hp.sub fun q hq => List.mem_cons_of_mem _ hq) hsm hl hr ?_
  intro s5 t5 F5
  walk_at "w"
  rename_i p s6 hp6 hLp6 F6
  have hps := hp.length
  rw [hps] at F6
  exact h p b s6 t3 t4 t5 hbR (hp6 _ (List.mem_cons_self ..)) F6.toSt
theorem seen_spec (T : Tp G w K) (TL : Tl G) (S : St G s R) (ha : (a, accO aC d vs n) ∈ R) (hd : (d, dicO w sz k t) ∈ R) (hp : Pcs R vs ps) (hsm : Small ps) (hz : 0 ≤ sz ∧ sz ≤ 1000) (hl : ps.length ≤ 1000) (hr : Room A (j + 9))
    (h : ∀ p b s' t1 t2 t3 t4, (∀ q ∈ R, q.1 < b) → b < p → St G s' ((p, tupO [.ref b, .int ps.length t1, .int (sz + lenPs ps) t2, .str (txtPs ps) t3, .str (shade (whiteB sz ps)) t4]) :: (b, listO vs 0) :: R) → Q (.ref p) s') :
    wpAny (model pw w) A (call (.ref 168) [.ref a]) Q E s := by
  refine enterF [("row", .ref a)] S hr T.lim TL.fSeen (fun pm ct => BindsTo.of_eq (by kernel_rfl)) (by decide +kernel) (by kernel_rfl) (by rfl) (by rfl) (by rfl) ?_
  intro L s' hL F hlt hr'
  refine wpAny_execs_cons ?_
  walk_at "w"
  refine gmF T F ha hd T.wsF (by decide) (by kernel_rfl) ?_
  (try dsimp only)
  refine cwF (G := G) T.fWs ?_ (by with_unfolding_all rfl)
  walk_at "w"
  refine ⟨F.keep, ?_⟩
  refine ws_F (j := j) T F ha hd hp hsm hz hl hr' ?_
  intro s1 F1
  walk_at "w"
  rename_i s2 F2
  cases hw : whiteB sz ps with
  | true =>
    rw [hw] at F2
    walk_at "w"
    rw [if_pos (by rfl)]
    walk_at "w1"
    rename_i t3 s3 F3
    (try dsimp only)
    walk_at "w1"
    rename_i s4 F4
    (try dsimp only)
    refine seen_rest (j := j) (a := a) (d := d) (x := "white") (tx := t3) (by kernel_rfl) T F4 ha hd hp hsm hz hl (by with_unfolding_all rfl) (by with_unfolding_all rfl) hr' ?_
    intro p b s5 u1 u2 u3 hb hbp S5
    refine h p b s5 u1 u2 u3 t3 hb hbp ?_
    rw [hw]
    exact S5
  | false =>
    rw [hw] at F2
    walk_at "w"
    rw [if_neg (by decide)]
    walk_at "w"
    rw [if_pos (by rfl)]
    walk_at "w1"
    rename_i t3 s3 F3
    (try dsimp only)
    walk_at "w1"
    rename_i s4 F4
    (try dsimp only)
    refine seen_rest (j := j) (a := a) (d := d) (x := "not") (tx := t3) (by kernel_rfl) T F4 ha hd hp hsm hz hl (by with_unfolding_all rfl) (by with_unfolding_all rfl) hr' ?_
    intro p b s5 u1 u2 u3 hb hbp S5
    refine h p b s5 u1 u2 u3 t3 hb hbp ?_
    rw [hw]
    exact S5
end
section
variable {w : World} {A : Around} {E : Value → Shared → Prop} {G : Gd} {s : Shared} {R : Led} {K : Frag} {Q : Value → Shared → Prop} {j x y wd : Nat} {tx ty tw : Tok}
def behindN (wd x y : Nat) : Nat := x + y * 2 ^ (wd * cnt wd x)
theorem cnt_le {n x : Nat} (hn : 0 < n) : cnt n x ≤ bits x := by
  unfold cnt
  rcases Nat.eq_zero_or_pos (bits x) with e | e
  · rw [e]; rw [Nat.div_eq_of_lt (by walk_at "o")]; exact Nat.le_refl _
  · rw [Nat.div_le_iff_le_mul_add_pred hn]
    have : bits x ≤ n * bits x := Nat.le_mul_of_pos_left _ hn
    (first | lia | omega)
theorem behind_spec (T : Tp G w K) (TL : Tl G) (S : St G s R) (hw : 0 < wd) (hw2 : wd ≤ 1000) (hx : bits x ≤ 900) (hy : bits y ≤ 900) (hr : Room A (j + 15))
    (h : ∀ s' t, St G s' R → Q (.int ((behindN wd x y : Nat) : Int) t) s') : wpAny (model pw w) A (call (.ref 180) [.int (x : Int) tx, .int (y : Int) ty, .int (wd : Int) tw]) Q E s := by
  refine enterF [("number", .int x tx), ("more", .int y ty), ("width", .int wd tw)] S hr T.lim TL.fBehind (fun pm ct => BindsTo.of_eq (by kernel_rfl)) (by decide +kernel) (by kernel_rfl) (by rfl) (by rfl) (by rfl) ?_
  intro L s' hL F hlt hr'
  refine wpAny_execs_cons ?_
  walk_at "w"
  refine cwF (G := G) T.fI2d ?_ (by with_unfolding_all rfl)
  walk_at "w"
  refine ⟨F.keep, ?_⟩
  refine i2d_F (j := j) T F hw hw2 (by walk_at "o") hr' ?_
  intro p s1 vs c hp hLp F1 hN
  walk_at "w"
  have hcl : vs.length = cnt wd x := by rw [hN.1, digL_length]
  have hc1 : cnt wd x ≤ 900 := Nat.le_trans (cnt_le hw) hx
  refine lenL (vs := vs) (c := c) F1 (List.mem_cons_self ..) (by walk_at "o") ?_
  intro t2 s2 F2
  walk_at "w"
  refine rMulN (x := wd) (k := cnt wd x) rfl (by rw [hcl]) (by walk_at "o") F2 ?_
  intro t3 s3 F3
  walk_at "w"
  have hk : wd * cnt wd x ≤ 1000 * 900 := Nat.mul_le_mul hw2 hc1
  refine rShlN (x := y) (k := wd * cnt wd x) rfl rfl (by walk_at "o") (by walk_at "o") F3 ?_
  intro t4 s4 F4
  walk_at "w"
  rename_i t5 s5 F5
  have := h s5 t5 (F5.toSt.sub (by walk_at "sub"))
  unfold behindN at this
  rw [Int.natCast_add] at this
  exact this
end
section
variable {w : World} {A : Around} {E : Value → Shared → Prop} {G : Gd} {s : Shared} {R : Led} {K : Frag} {Q : Value → Shared → Prop} {j x wd : Nat} {fs : Int} {tx tf tw : Tok}
theorem piece_F {code : Nat} {tc : Tok} {L : Addr} {m : Str → Option Value} (T : Tp G w K) (TL : Tl G) (F : Fm G s L m R) (hc : code ≤ 100000) (hr : Room A (j + 1))
    (h : ∀ p s' t1 t2, (∀ q ∈ R, q.1 < p) → L < p → Fm G s' L m ((p, tupO [.str (pcOf code).1 t1, .str (pcOf code).2 t2]) :: R) → Q (.ref p) s') : wpAny (model pw w) A (call (.ref 161) [.int (code : Int) tc]) Q E s := by
  obtain ⟨oL, hmL, SL, back⟩ := F.st
  refine piece_spec T TL SL hc hr fun p s' t1 t2 hp S' => h p s' t1 t2 (fun q hq => hp q (List.mem_cons_of_mem _ hq)) (hp (L, oL) (List.mem_cons_self ..)) (back (S'.sub (by walk_at "sub")) ?_)
  intro q hq
  rcases List.mem_cons.mp hq with rfl | hq
  · exact Nat.ne_of_gt (hp (L, oL) (List.mem_cons_self ..))
  · exact F.off q hq
theorem Pcs.snoc {R : Led} {vs : List Value} {ps : List Pc} {v : Value} {p : Pc} (h : Pcs R vs ps) (hv : IsPc R v p) : Pcs R (vs ++ [v]) (ps ++ [p]) := by
  induction h with
  | nil => exact .cons hv .nil
  | cons a _ ih => exact .cons a ih
theorem Pcs.getN {R : Led} {vs : List Value} {ps : List Pc} (h : Pcs R vs ps) : ∀ (i : Nat) (v : Value), vs[i]? = some v → ∃ p, ps[i]? = some p ∧ IsPc R v p := by
  induction h with
  | nil => intro i v hv; simp at hv
  | cons a _ ih =>
    intro i v hv
    cases i with
    | zero => simp at hv; subst hv; exact ⟨_, rfl, a⟩
    | succ i => simp at hv; simpa using ih i v hv
theorem Pcs.refs {R : Led} {vs : List Value} {ps : List Pc} (h : Pcs R vs ps) : ∀ v ∈ vs, ∃ T, v = Value.ref T := by
  intro v hv
  obtain ⟨i, hi⟩ := List.getElem?_of_mem hv
  obtain ⟨p, _, T, _, _, e, _⟩ := h.getN i v hi
  exact ⟨T, e⟩
theorem pcTxt_add (p : Pc) : p.1 ++ p.2 = pcTxt p := by
  unfold pcTxt cat
  show (⟨p.1.cps ++ p.2.cps⟩ : Str) = _
  congr 1
  apply Array.toList_inj.mp
  simp
def toldShade (fs : Int) (ds : List Nat) : Bool := (fs == 0) && !(ds.any fun c => decide (3 < c))
theorem strs_app {vs ws : List Value} {xs ys : List Str} (h : StrsAre vs xs) (h2 : StrsAre ws ys) : StrsAre (vs ++ ws) (xs ++ ys) := by
  induction h with
  | nil => exact h2
  | cons y t _ ih => exact .cons y t ih
theorem told_rest {body : List Stmt} {L pl cl : Addr} {m : Str → Option Value} {pvs cvs : List Value} {cp cc : Nat} {tx : Str} {tt ts : Tok} {b : Bool} (hb : body = (fBody (topS 18)).drop 4) (T : Tp G w K) (F : Fm G s L m R) (hpl : (pl, listO pvs cp) ∈ R) (hcl : (cl, listO cvs cc) ∈ R)
    (hz : tx.length ≤ 1000000) (hz2 : cvs.length ≤ 1000)
    (hm1 : m "pieces" = some (.ref pl)) (hm2 : m "codes" = some (.ref cl)) (hm3 : m "first" = some (.int fs tf)) (hm4 : m "text" = some (.str tx tt)) (hm5 : m "shade" = some (.str (shade b) ts))
    (h : ∀ p s' t1 t2, (∀ r ∈ R, r.1 < p) → St G s' ((p, tupO [.ref pl, .int (cvs.length : Nat) t1, .int (fs + tx.length) t2, .str tx tt, .str (shade b) ts]) :: R) → Q (.ref p) s') :
    wpAny (model pw w) (A.deeper (envX "_law_told" (fScope (topS 18)) L 185 (.ref 184) [])) (execs body (envX "_law_told" (fScope (topS 18)) L 185 (.ref 184) [])) (fun fl s'' => Q (match fl with | .ret v => v | _ => .none) s'') (fun _ _ => False) s := by
  subst hb
  refine wpAny_execs_cons ?_
  walk_at "w"
  refine lenL (vs := cvs) (c := cc) F hcl (by walk_at "o") ?_
  intro t1 s1 F1
  walk_at "w"
  refine lenS F1 hz ?_
  intro t2 s2 F2
  walk_at "w"
  rename_i t3 s3 F3 p s4 hp hLp F4
  exact h p s4 t1 t3 hp F4.toSt
theorem told_spec (T : Tp G w K) (TL : Tl G) (S : St G s R) (hw : 0 < wd) (hw2 : wd ≤ 1000) (hx : bits x ≤ 900) (hc : ∀ c ∈ digL wd x (cnt wd x), c ≤ 100) (hr : Room A (j + 16))
    (h : ∀ p b s' pvs cy Rn t1 t2 t3 t4, (∀ q ∈ R, q.1 < b) → (∀ q ∈ Rn, ∀ r ∈ R, r.1 < q.1) → (∀ r ∈ R, r.1 < p) → Pcs Rn pvs ((digL wd x (cnt wd x)).map pcOf) →
      St G s' ((p, tupO [.ref b, .int (cnt wd x : Nat) t1, .int (fs + (txtPs ((digL wd x (cnt wd x)).map pcOf)).length) t2, .str (txtPs ((digL wd x (cnt wd x)).map pcOf)) t3, .str (shade (toldShade fs (digL wd x (cnt wd x)))) t4]) :: (b, listO pvs cy) :: (Rn ++ R)) → Q (.ref p) s') :
    wpAny (model pw w) A (call (.ref 185) [.int (x : Int) tx, .int fs tf, .int (wd : Int) tw]) Q E s := by
  refine enterF [("number", .int x tx), ("first", .int fs tf), ("width", .int wd tw)] S hr T.lim TL.fTold (fun pm ct => BindsTo.of_eq (by kernel_rfl)) (by decide +kernel) (by kernel_rfl) (by rfl) (by rfl) (by rfl) ?_
  intro L s' hL F hlt hr'
  refine wpAny_execs_cons ?_
  walk_at "w"
  refine cwF (G := G) T.fI2d ?_ (by with_unfolding_all rfl)
  walk_at "w"
  refine ⟨F.keep, ?_⟩
  refine i2d_F (j := j + 1) T F hw hw2 (by walk_at "o") hr' ?_
  intro cl s1 cvs cc hcl hLcl F1 hN
  walk_at "w"
  rename_i s2 F2
  generalize hds : digL wd x (cnt wd x) = ds at *
  have hdl : ds.length = cnt wd x := by rw [← hds, digL_length]
  have hc9 : cnt wd x ≤ 900 := Nat.le_trans (cnt_le hw) hx
  refine lcS2 (vs := cvs) (c := cc) F2 (List.mem_cons_self ..) (by rw [hN.1]; (first | lia | omega)) hr'.handled (by with_unfolding_all rfl) (by with_unfolding_all rfl) (by with_unfolding_all rfl) (by with_unfolding_all rfl) (by decide +kernel) (by with_unfolding_all rfl) (by decide +kernel) (by intro _; with_unfolding_all rfl) ?_ (.inl ⟨_, _, rfl⟩) (fun i ys Rn => Pcs Rn ys ((ds.take i).map pcOf)) .nil ?_ ?_
  · intro Q' h'
    walk_at "w"
    exact h'
  · intro i v ys C m' s3 Rn R'' hv hI hs1 hs2 F3
    have hi : i < ds.length := by
      rcases Nat.lt_or_ge i cvs.length with h | h
      · rw [← hN.1]; exact h
      · rw [List.getElem?_eq_none h] at hv; cases hv
    obtain ⟨tv, hvv⟩ := hN.2 i ds[i] (List.getElem?_eq_getElem hi)
    rw [hvv] at hv
    cases hv
    walk_at "w"
    rename_i s4 F4
    refine cwF (G := G) TL.fPiece ?_ (by with_unfolding_all rfl)
    walk_at "w"
    refine ⟨F4.keep, ?_⟩
    refine piece_F (j := j + 14) T TL F4 (Nat.le_trans (hc _ (List.getElem_mem hi)) (by decide)) hr' ?_
    intro p s5 t1 t2 hp hCp F5
    refine ⟨[(p, tupO [.str (pcOf ds[i]).1 t1, .str (pcOf ds[i]).2 t2])], _, ?_, ?_, F5⟩
    · intro q hq
      simp only [List.mem_singleton] at hq
      subst hq
      exact hCp
    · rw [List.take_succ_eq_append_getElem hi, List.map_append]
      exact Pcs.snoc (hI.sub fun q hq => by simp [hq]) ⟨p, t1, t2, rfl, by simp⟩
  intro pl pvs cp Rp s3 hpl hLpl habp hoffp hPp F3
  rw [List.take_of_length_le (by rw [hN.1]; exact Nat.le_refl _)] at hPp
  have hPl := hPp.length
  rw [List.length_map] at hPl
  walk_at "w"
  rename_i t4 s4 F4
  refine lcV2 (vs := pvs) (c := cp) F4 (List.mem_cons_self ..) (by walk_at "o") hr'.handled (by with_unfolding_all rfl) (by decide +kernel) (by with_unfolding_all rfl) (by decide +kernel) (by intro _; with_unfolding_all rfl) ?_ (.inr ⟨⟨_, _, _, rfl⟩, ?_⟩) (fun i ys Rn => Rn = [] ∧ StrsAre ys (((ds.map pcOf).take i).map pcTxt)) ⟨rfl, .nil⟩ ?_ ?_
  · intro Q' h'
    walk_at "w"
    exact h'
  · exact hPp.refs
  · rintro i v ys C m' s5 Rn R'' hv ⟨rfl, hI⟩ hs1 hs2 F5
    obtain ⟨p, hp, Tp, t1, t2, rfl, hTp⟩ := hPp.getN i v hv
    have hTp' := hs2 (Tp, tupO [.str p.1 t1, .str p.2 t2]) (by simp [hTp])
    refine uT (t := Tp) F5 hTp' hr'.handled (by with_unfolding_all rfl) (by with_unfolding_all rfl) ?_
    intro s6 F6
    walk_at "w"
    rename_i s7 F7 s8 F8
    have hsp : p.1.length ≤ 100 ∧ p.2.length ≤ 100 := by
      rw [List.getElem?_map] at hp
      cases hq : ds[i]? with
      | none => rw [hq] at hp; cases hp
      | some c =>
        rw [hq] at hp
        cases hp
        have := hc c (List.mem_of_getElem? hq)
        unfold pcOf
        simp only [rep_length]
        (first | lia | omega)
    refine rAddS (by walk_at "o") F8 ?_
    intro t9 s9 F9
    refine ⟨[], _, by simp, ⟨rfl, ?_⟩, F9⟩
    rw [pcTxt_add, List.take_add_one, hp, List.map_append]
    exact strs_app hI (.cons _ _ .nil)
  · rintro jl ys cj Rn s5 hjl hLjl - - ⟨rfl, hSt⟩ F5
    rw [List.take_of_length_le (by rw [List.length_map]; (first | lia | omega))] at hSt
    walk_at "w"
    have hsum : ((((ds.map pcOf).map pcTxt)).map (·.length)).sum ≤ 300 * ds.length := by
      clear hSt hPp hPl hN hds hdl F1 F2 F3 F4 F5 h
      induction ds with
      | nil => simp
      | cons c r ih =>
        have h1 := hc c (List.mem_cons_self ..)
        have h2 := ih fun q hq => hc q (List.mem_cons_of_mem _ hq)
        simp only [List.map_cons, List.sum_cons, pcTxt_length, List.length_cons, pcOf, rep_length] at h2 ⊢
        (first | lia | omega)
    refine joinL (vs := ys) (c := cj) (ys := (ds.map pcOf).map pcTxt) F5 (List.mem_cons_self ..) hSt (by decide) ?_ ?_
    · simp only [List.length_map]
      (first | lia | omega)
    intro t6 s6 F6
    rw [join_cat]
    replace F6 : Fm G s6 L _ ((pl, listO pvs cp) :: (Rp ++ (cl, listO cvs cc) :: R)) := F6.sub (by walk_at "sub")
    walk_at "w"
    rename_i s7 F7 t8 s8 F8
    have fin : ∀ (s9 : Shared) (bb : Bool) (ts : Tok) (RR : Led), bb = toldShade fs ds → (∀ q ∈ (pl, listO pvs cp) :: (Rp ++ (cl, listO cvs cc) :: R), q ∈ RR) → Fm G s9 L (upd (upd (upd (upd (fun x_1 => List.lookup x_1 [(Str.ofString "number", Value.int x tx), (Str.ofString "first", Value.int fs tf), (Str.ofString "width", Value.int wd tw)].reverse) "codes" (.ref cl)) "pieces" (.ref pl)) "text" (.str (cat ((ds.map pcOf).map pcTxt)) t6)) "shade" (.str (shade bb) ts)) RR →
        wpAny (model pw w) (A.deeper (envX "_law_told" (fScope (topS 18)) L 185 (.ref 184) [])) (execs ((fBody (topS 18)).drop 4) (envX "_law_told" (fScope (topS 18)) L 185 (.ref 184) [])) (fun fl s'' => Q (match fl with | .ret v => v | _ => .none) s'') (fun _ _ => False) s9 := by
      intro s9 bb ts RR hbb hsub F9
      subst hbb
      refine told_rest (pl := pl) (cl := cl) (pvs := pvs) (cp := cp) (cvs := cvs) (cc := cc) (tx := cat ((ds.map pcOf).map pcTxt)) (tt := t6) (ts := ts) (b := toldShade fs ds) (fs := fs) (tf := tf) rfl T (F9.sub hsub) (List.mem_cons_self ..) (by simp) ?_ (by rw [hN.1]; (first | lia | omega)) (by with_unfolding_all rfl) (by with_unfolding_all rfl) (by with_unfolding_all rfl) (by with_unfolding_all rfl) (by with_unfolding_all rfl) ?_
      · rw [cat_length]; (first | lia | omega)
      intro p s10 t10 t11 hp S10
      rw [hN.1, hdl, show cat ((ds.map pcOf).map pcTxt) = txtPs (ds.map pcOf) from rfl] at S10
      refine h p pl s10 pvs cp Rp t10 t11 t6 ts (fun q hq => hpl q (List.mem_cons_of_mem _ hq)) (habp.sub fun q hq => List.mem_cons_of_mem _ hq) (fun r hr => hp r (by simp [hr])) hPp (S10.sub (by walk_at "sub"))
    by_cases h0 : fs = 0
    · rw [if_pos (by simp [h0])]
      walk_at "w"
      refine lcVI (vs := cvs) (c := cc) (l := cl) hr'.handled (by with_unfolding_all rfl) (fun y hy => by simpa using List.all_eq_true.mp (show (_ : List _).all (fun (x : Str × NameKind) => x.2 != .cell) = true from by decide +kernel) y hy) (by with_unfolding_all rfl) (fun y hy e => ?_) (by intro _; with_unfolding_all rfl) ?_ F8 (by simp) (by rw [hN.1]; (first | lia | omega)) (fun i ys => ys.length ≤ i ∧ (ys = [] ↔ (ds.take i).any (fun c => decide (3 < c)) = false)) (by simp) ?_ ?_
      · have h1 := List.all_eq_true.mp (show ([(Str.ofString ".0", NameKind.local), (Str.ofString "code", NameKind.local)] : List (Str × NameKind)).all (fun z => List.lookup z.1 [(Str.ofString ".0", NameKind.local), (Str.ofString "code", NameKind.local)] == some .local) = true from by decide +kernel) y hy
        simpa using h1
      · intro Q' h'
        walk_at "w"
        exact h'
      · rintro i v ys C m' s9 R'' hv ⟨hyl, hI⟩ F9
        have hi : i < ds.length := by
          rcases Nat.lt_or_ge i cvs.length with h | h
          · rw [← hN.1]; exact h
          · rw [List.getElem?_eq_none h] at hv; cases hv
        obtain ⟨tv, hvv⟩ := hN.2 i ds[i] (List.getElem?_eq_getElem hi)
        rw [hvv] at hv
        cases hv
        walk_at "w"
        rename_i s10 F10 t11 s11 F11
        have e := List.take_succ_eq_append_getElem hi
        by_cases h3 : 3 < ds[i]
        · rw [if_pos (by simp; (first | lia | omega))]
          walk_at "w"
          refine ⟨⟨by simp; (first | lia | omega), ?_⟩, _, F11⟩
          rw [e, List.any_append]
          simp [h3]
        · rw [if_neg (by simp; (first | lia | omega))]
          refine ⟨⟨by (first | lia | omega), ?_⟩, _, F11⟩
          rw [e, List.any_append, hI]
          simp [h3]
      · rintro D ys cy s9 hD hLD ⟨hyl, hI⟩ F9
        rw [List.take_of_length_le (by rw [hN.1]; exact Nat.le_refl _)] at hI
        refine tList (vs := ys) (c := cy) F9 (List.mem_cons_self ..) ?_ ?_
        · rw [hN.1] at hyl
          (first | lia | omega)
        intro s10 F10
        cases hy : ys with
        | nil =>
          have h1 := hI.mp hy
          rw [if_pos (by simp)]
          walk_at "w1"
          rw [if_pos (by rfl)]
          walk_at "w1"
          rename_i tq sq Fq
          (try dsimp only)
          walk_at "w1"
          rename_i sr Fr
          (try dsimp only)
          exact fin sr true tq _ (by rw [show toldShade fs ds = ((fs == 0) && !(ds.any fun c => decide (3 < c))) from rfl, h1, h0]; rfl) (by walk_at "sub") Fr
        | cons y0 yr =>
          have h1 : ds.any (fun c => decide (3 < c)) = true := by
            cases q : ds.any (fun c => decide (3 < c)) with
            | true => rfl
            | false => rw [hI.mpr q] at hy; cases hy
          rw [if_neg (by simp)]
          rw [if_neg (by decide)]
          walk_at "w1"
          rename_i tq sq Fq
          (try dsimp only)
          walk_at "w1"
          rename_i sr Fr
          (try dsimp only)
          exact fin sr false tq _ (by rw [show toldShade fs ds = ((fs == 0) && !(ds.any fun c => decide (3 < c))) from rfl, h1]; simp) (by walk_at "sub") Fr
    · rw [if_neg (by simp [h0])]
      rw [if_neg (by decide)]
      walk_at "w1"
      rename_i tq sq Fq
      (try dsimp only)
      walk_at "w1"
      rename_i sr Fr
      (try dsimp only)
      exact fin sr false tq _ (by rw [show toldShade fs ds = ((fs == 0) && !(ds.any fun c => decide (3 < c))) from rfl]; simp [h0]) (by walk_at "sub") Fr
end
/-- an accumulator, told -/
structure RowV where
  a : Addr
  d : Addr
  vs : List Value
  n : Nat
  sz : Int
  k : Tok
  t : Tok
def rowL (w : World) (r : RowV) : Led := [(r.a, accO aC r.d r.vs r.n), (r.d, dicO w r.sz r.k r.t)]
def rowsL (w : World) (rs : List RowV) : Led := rs.flatMap (rowL w)
def adsOf (rs : List RowV) : List Addr := rs.flatMap fun r => [r.a, r.d]
theorem at_split {rs : List RowV} {i : Nat} {r : RowV} (h : rs[i]? = some r) : rs = rs.take i ++ r :: rs.drop (i + 1) := by
  obtain ⟨hi, e⟩ := List.getElem?_eq_some_iff.mp h
  rw [← e]
  simp
theorem erase_split (rs : List RowV) (i : Nat) : rs.eraseIdx i = rs.take i ++ rs.drop (i + 1) := List.eraseIdx_eq_take_drop_succ rs i
theorem rows_focus {w : World} {rs : List RowV} {i : Nat} {r : RowV} (h : rs[i]? = some r) (q : Addr × Obj) : q ∈ rowsL w rs ↔ q ∈ rowL w r ∨ q ∈ rowsL w (rs.eraseIdx i) := by
  have e := at_split h
  unfold rowsL
  rw [erase_split]
  conv => lhs; rw [e]
  simp only [List.flatMap_append, List.flatMap_cons, List.mem_append]
  exact ⟨fun h => by rcases h with h | h | h; exact .inr (.inl h); exact .inl h; exact .inr (.inr h), fun h => by rcases h with h | h | h; exact .inr (.inl h); exact .inl h; exact .inr (.inr h)⟩
theorem rows_mem {w : World} {rs : List RowV} {q : Addr × Obj} (h : q ∈ rowsL w rs) : q.1 ∈ adsOf rs := by
  unfold rowsL rowL at h
  unfold adsOf
  simp only [List.mem_flatMap, List.mem_cons, List.not_mem_nil, or_false] at h ⊢
  obtain ⟨r, hr, h⟩ := h
  refine ⟨r, hr, ?_⟩
  rcases h with rfl | rfl
  · exact .inl rfl
  · exact .inr rfl
theorem rows_off {w : World} {rs : List RowV} {i : Nat} {r : RowV} (nd : (adsOf rs).Nodup) (h : rs[i]? = some r) : r.a ≠ r.d ∧ ∀ q ∈ rowsL w (rs.eraseIdx i), q.1 ≠ r.a ∧ q.1 ≠ r.d := by
  have e := at_split h
  have hs := erase_split rs i
  rw [e] at nd
  unfold adsOf at nd
  rw [List.flatMap_append, List.flatMap_cons] at nd
  have n1 := List.nodup_append.mp nd
  have n2 := List.nodup_append.mp n1.2.1
  refine ⟨?_, fun q hq => ?_⟩
  · have := n2.1
    simp only [List.nodup_cons, List.mem_singleton] at this
    exact this.1
  · have hm := rows_mem hq
    rw [hs] at hm
    unfold adsOf at hm
    rw [List.flatMap_append, List.mem_append] at hm
    rcases hm with hm | hm
    · exact ⟨n1.2.2 _ hm _ (by simp), n1.2.2 _ hm _ (by simp)⟩
    · exact ⟨Ne.symm (n2.2.2 r.a (by simp) _ hm), Ne.symm (n2.2.2 r.d (by simp) _ hm)⟩
theorem ads_mem {rs : List RowV} {i : Nat} {r : RowV} (h : rs[i]? = some r) : r.a ∈ adsOf rs ∧ r.d ∈ adsOf rs := by
  have := List.mem_of_getElem? h
  unfold adsOf
  simp only [List.mem_flatMap]
  exact ⟨⟨r, this, by simp⟩, ⟨r, this, by simp⟩⟩
theorem ads_set {rs : List RowV} {i : Nat} {r r' : RowV} (h : rs[i]? = some r) (ha : r'.a = r.a) (hd : r'.d = r.d) : adsOf (rs.set i r') = adsOf rs := by
  have e := at_split h
  obtain ⟨hi, _⟩ := List.getElem?_eq_some_iff.mp h
  have e2 : rs.set i r' = rs.take i ++ r' :: rs.drop (i + 1) := List.set_eq_take_append_cons_drop.trans (if_pos hi)
  rw [e2]
  conv => rhs; rw [e]
  unfold adsOf
  simp [ha, hd]
theorem set_get {rs : List RowV} {i : Nat} {r r' : RowV} (h : rs[i]? = some r) : (rs.set i r')[i]? = some r' := by
  obtain ⟨hi, _⟩ := List.getElem?_eq_some_iff.mp h
  rw [List.getElem?_set_self hi]
theorem set_erase (rs : List RowV) (i : Nat) (r' : RowV) : (rs.set i r').eraseIdx i = rs.eraseIdx i := by
  rw [erase_split, erase_split, List.take_set_of_le (Nat.le_refl _), List.drop_set_of_lt (Nat.lt_succ_self _)]
section
variable {w : World} {A : Around} {E : Value → Shared → Prop} {G : Gd} {s : Shared} {X : Led} {K : Frag} {Q : Value → Shared → Prop} {j i : Nat} {rs : List RowV} {r : RowV} {L : Addr} {m : Str → Option Value}
theorem row_in {R : Led} (hi : rs[i]? = some r) : (r.a, accO aC r.d r.vs r.n) ∈ rowsL w rs ++ R ∧ (r.d, dicO w r.sz r.k r.t) ∈ rowsL w rs ++ R :=
  ⟨List.mem_append_left _ ((rows_focus hi _).mpr (.inl (by simp [rowL]))), List.mem_append_left _ ((rows_focus hi _).mpr (.inl (by simp [rowL])))⟩
/-- the row at the head -/
theorem row_head (hi : rs[i]? = some r) : ∀ q ∈ (r.a, accO aC r.d r.vs r.n) :: (r.d, dicO w r.sz r.k r.t) :: (rowsL w (rs.eraseIdx i) ++ X), q ∈ rowsL w rs ++ X := by
  intro q hq
  simp only [List.mem_cons, List.mem_append] at hq ⊢
  rw [rows_focus hi]
  simp only [rowL, List.mem_cons, List.not_mem_nil, or_false]
  rcases hq with h | h | h | h
  · exact .inl (.inl (.inl h))
  · exact .inl (.inl (.inr h))
  · exact .inl (.inr h)
  · exact .inr h
theorem row_back {r' : RowV} {Y : Led} (hi : rs[i]? = some r) : ∀ q ∈ rowsL w (rs.set i r') ++ Y, q ∈ (r'.a, accO aC r'.d r'.vs r'.n) :: (r'.d, dicO w r'.sz r'.k r'.t) :: (rowsL w (rs.eraseIdx i) ++ Y) := by
  intro q hq
  simp only [List.mem_cons, List.mem_append] at hq ⊢
  rw [rows_focus (set_get hi), set_erase] at hq
  simp only [rowL, List.mem_cons, List.not_mem_nil, or_false] at hq
  rcases hq with ((h | h) | h) | h
  · exact .inl h
  · exact .inr (.inl h)
  · exact .inr (.inr (.inl h))
  · exact .inr (.inr (.inr h))
theorem off_a (nd : (adsOf rs).Nodup) (hi : rs[i]? = some r) (off : ∀ q ∈ X, q.1 ∉ adsOf rs) : ∀ q ∈ (r.d, dicO w r.sz r.k r.t) :: (rowsL w (rs.eraseIdx i) ++ X), q.1 ≠ r.a := by
  intro q hq
  simp only [List.mem_cons, List.mem_append] at hq
  have o := rows_off (w := w) nd hi
  rcases hq with rfl | hq | hq
  · exact Ne.symm o.1
  · exact (o.2 q hq).1
  · exact fun e => off q hq (e ▸ (ads_mem hi).1)
theorem off_d (nd : (adsOf rs).Nodup) (hi : rs[i]? = some r) (off : ∀ q ∈ X, q.1 ∉ adsOf rs) : ∀ q ∈ rowsL w (rs.eraseIdx i) ++ X, q.1 ≠ r.d := by
  intro q hq
  simp only [List.mem_append] at hq
  have o := rows_off (w := w) nd hi
  rcases hq with hq | hq
  · exact (o.2 q hq).2
  · exact fun e => off q hq (e ▸ (ads_mem hi).2)
theorem push_row {x y : Value} (T : Tp G w K) (S : St G s (rowsL w rs ++ X)) (hi : rs[i]? = some r) (nd : (adsOf rs).Nodup) (off : ∀ q ∈ X, q.1 ∉ adsOf rs) (hz : r.vs.length ≤ 1000) (hr : Room A (j + 3))
    (h : ∀ p s', (∀ q ∈ rowsL w rs ++ X, q.1 < p) → St G s' (rowsL w (rs.set i { r with vs := r.vs ++ [.ref p], n := r.n + 1 }) ++ ((p, tupO [x, y]) :: X)) → Q .none s') :
    wpAny (model pw w) A (call (.ref aPush) [.ref r.a, x, y]) Q E s := by
  refine push_spec (R := (r.d, dicO w r.sz r.k r.t) :: (rowsL w (rs.eraseIdx i) ++ X)) T (S.sub (row_head hi)) (List.mem_cons_self ..) (off_a nd hi off) hz hr ?_
  intro p s' hp S'
  refine h p s' (fun q hq => hp q ?_) (S'.sub fun q hq => ?_)
  · simp only [List.mem_cons, List.mem_append] at hq ⊢
    rw [rows_focus hi] at hq
    simp only [rowL, List.mem_cons, List.not_mem_nil, or_false] at hq
    rcases hq with ((h | h) | h) | h
    · exact .inl h
    · exact .inr (.inl h)
    · exact .inr (.inr (.inl h))
    · exact .inr (.inr (.inr h))
  · have := row_back (r' := { r with vs := r.vs ++ [.ref p], n := r.n + 1 }) hi q hq
    simp only [List.mem_cons, List.mem_append] at this ⊢
    rcases this with h | h | h | h | h
    · exact .inl h
    · exact .inr (.inr (.inl h))
    · exact .inr (.inr (.inr (.inl h)))
    · exact .inr (.inl h)
    · exact .inr (.inr (.inr (.inr h)))
theorem lt_of_head {p : Addr} (hi : rs[i]? = some r) (hp : ∀ q ∈ (r.a, accO aC r.d r.vs r.n) :: (r.d, dicO w r.sz r.k r.t) :: (rowsL w (rs.eraseIdx i) ++ X), q.1 < p) : ∀ q ∈ rowsL w rs ++ X, q.1 < p := by
  intro q hq
  refine hp q ?_
  simp only [List.mem_cons, List.mem_append] at hq ⊢
  rw [rows_focus hi] at hq
  simp only [rowL, List.mem_cons, List.not_mem_nil, or_false] at hq
  rcases hq with ((h | h) | h) | h
  · exact .inl h
  · exact .inr (.inl h)
  · exact .inr (.inr (.inl h))
  · exact .inr (.inr (.inr h))
theorem pop_row (T : Tp G w K) (S : St G s (rowsL w rs ++ X)) (hi : rs[i]? = some r) (nd : (adsOf rs).Nodup) (off : ∀ q ∈ X, q.1 ∉ adsOf rs) (hz : r.vs.length ≤ 1000) (hr : Room A (j + 5))
    (h0 : r.vs = [] → ∀ p s' t1 t2, (∀ q ∈ rowsL w rs ++ X, q.1 < p) → St G s' (rowsL w rs ++ ((p, tupO [.str "" t1, .str "" t2]) :: X)) → Q (.ref p) s')
    (h1 : ∀ xs x, r.vs = xs ++ [x] → ∀ s', St G s' (rowsL w (rs.set i { r with vs := xs, n := r.n + 1 }) ++ X) → Q x s') : wpAny (model pw w) A (call (.ref aPop) [.ref r.a]) Q E s := by
  refine pop_spec (R := (r.d, dicO w r.sz r.k r.t) :: (rowsL w (rs.eraseIdx i) ++ X)) T (S.sub (row_head hi)) (List.mem_cons_self ..) (off_a nd hi off) hz hr ?_ ?_
  · intro e p s' t1 t2 hp S'
    refine h0 e p s' t1 t2 (lt_of_head hi hp) (S'.sub fun q hq => ?_)
    simp only [List.mem_cons, List.mem_append] at hq ⊢
    rw [rows_focus hi] at hq
    simp only [rowL, List.mem_cons, List.not_mem_nil, or_false] at hq
    rcases hq with ((h | h) | h) | h | h
    · exact .inr (.inl h)
    · exact .inr (.inr (.inl h))
    · exact .inr (.inr (.inr (.inl h)))
    · exact .inl h
    · exact .inr (.inr (.inr (.inr h)))
  · intro xs x e s' S'
    exact h1 xs x e s' (S'.sub (row_back (r' := { r with vs := xs, n := r.n + 1 }) hi))
theorem popFrom_row {k : Nat} {u : Tok} (T : Tp G w K) (S : St G s (rowsL w rs ++ X)) (hi : rs[i]? = some r) (nd : (adsOf rs).Nodup) (off : ∀ q ∈ X, q.1 ∉ adsOf rs) (hz : r.vs.length ≤ 1000) (hr : Room A (j + 3))
    (h : ∀ b s' n', (∀ q ∈ rowsL w rs ++ X, q.1 < b) → St G s' (rowsL w (rs.set i { r with vs := r.vs.take k, n := n' }) ++ ((b, listO (r.vs.drop k) 0) :: X)) → Q (.ref b) s') :
    wpAny (model pw w) A (call (.ref aPopFrom) [.ref r.a, .int k u]) Q E s := by
  refine popFrom_spec (R := (r.d, dicO w r.sz r.k r.t) :: (rowsL w (rs.eraseIdx i) ++ X)) T (S.sub (row_head hi)) (List.mem_cons_self ..) (off_a nd hi off) hz hr ?_
  intro b s' n' hb S'
  refine h b s' n' (lt_of_head hi hb) (S'.sub fun q hq => ?_)
  have := row_back (r' := { r with vs := r.vs.take k, n := n' }) hi q hq
  simp only [List.mem_cons, List.mem_append] at this ⊢
  rcases this with h | h | h | h | h
  · exact .inl h
  · exact .inr (.inr (.inl h))
  · exact .inr (.inr (.inr (.inl h)))
  · exact .inr (.inl h)
  · exact .inr (.inr (.inr (.inr h)))
theorem reset_row {l : Addr} {ys : List Value} {c : Nat} (T : Tp G w K) (S : St G s (rowsL w rs ++ X)) (hi : rs[i]? = some r) (nd : (adsOf rs).Nodup) (off : ∀ q ∈ X, q.1 ∉ adsOf rs) (hz : r.vs.length ≤ 1000) (hl : (l, listO ys c) ∈ X) (hz2 : ys.length ≤ 1000) (hr : Room A (j + 3))
    (h : ∀ s' n' k' t', St G s' (rowsL w (rs.set i { r with vs := ys, n := n', sz := 0, k := k', t := t' }) ++ X) → Q .none s') :
    wpAny (model pw w) A (call (.ref aReset) [.ref r.a, .ref l]) Q E s := by
  refine reset_list (R := rowsL w (rs.eraseIdx i) ++ X) T (S.sub (row_head hi)) (List.mem_append_right _ hl) (fun q hq => off_a nd hi off q (List.mem_cons_of_mem _ hq)) (off_d nd hi off) hz hz2 hr ?_
  intro s' n' k' t' S'
  exact h s' n' k' t' (S'.sub (row_back (r' := { r with vs := ys, n := n', sz := 0, k := k', t := t' }) hi))
theorem reset0_row (T : Tp G w K) (S : St G s (rowsL w rs ++ X)) (hi : rs[i]? = some r) (nd : (adsOf rs).Nodup) (off : ∀ q ∈ X, q.1 ∉ adsOf rs) (hz : r.vs.length ≤ 1000) (hr : Room A (j + 3))
    (h : ∀ s' n' k' t', St G s' (rowsL w (rs.set i { r with vs := [], n := n', sz := 0, k := k', t := t' }) ++ X) → Q .none s') :
    wpAny (model pw w) A (call (.ref aReset) [.ref r.a]) Q E s := by
  refine reset_none (R := rowsL w (rs.eraseIdx i) ++ X) T (S.sub (row_head hi)) (fun q hq => off_a nd hi off q (List.mem_cons_of_mem _ hq)) (off_d nd hi off) hz hr ?_
  intro s' n' k' t' S'
  exact h s' n' k' t' (S'.sub (row_back (r' := { r with vs := [], n := n', sz := 0, k := k', t := t' }) hi))
/-! the same in a frame -/
theorem frame_in {oL : Obj} {P Y : Led} : ∀ q ∈ P ++ ((L, oL) :: Y), q ∈ (L, oL) :: (P ++ Y) := by
  intro q hq
  simp only [List.mem_cons, List.mem_append] at hq ⊢
  rcases hq with h | h | h
  · exact .inr (.inl h)
  · exact .inl h
  · exact .inr (.inr h)
theorem frame_out {oL : Obj} {P Y : Led} : ∀ q ∈ (L, oL) :: (P ++ Y), q ∈ P ++ ((L, oL) :: Y) := by
  intro q hq
  simp only [List.mem_cons, List.mem_append] at hq ⊢
  rcases hq with h | h | h
  · exact .inr (.inl h)
  · exact .inl h
  · exact .inr (.inr h)
theorem offL_of (F : Fm G s L m (rowsL w rs ++ X)) : L ∉ adsOf rs := by
  intro hL
  unfold adsOf at hL
  simp only [List.mem_flatMap, List.mem_cons, List.not_mem_nil, or_false] at hL
  obtain ⟨r, hr, h⟩ := hL
  have h1 : (r.a, accO aC r.d r.vs r.n) ∈ rowsL w rs ++ X := List.mem_append_left _ (by unfold rowsL; rw [List.mem_flatMap]; exact ⟨r, hr, by simp [rowL]⟩)
  have h2 : (r.d, dicO w r.sz r.k r.t) ∈ rowsL w rs ++ X := List.mem_append_left _ (by unfold rowsL; rw [List.mem_flatMap]; exact ⟨r, hr, by simp [rowL]⟩)
  rcases h with h | h
  · exact F.off _ h1 h.symm
  · exact F.off _ h2 h.symm
theorem offX {oL : Obj} (F : Fm G s L m (rowsL w rs ++ X)) (off : ∀ q ∈ X, q.1 ∉ adsOf rs) : ∀ q ∈ (L, oL) :: X, q.1 ∉ adsOf rs := by
  intro q hq
  rcases List.mem_cons.mp hq with rfl | hq
  · exact offL_of F
  · exact off q hq
/-- rows turned keep off the frame -/
theorem off_set {r' : RowV} {Y : Led} (F : Fm G s L m (rowsL w rs ++ X)) (hi : rs[i]? = some r) (ha : r'.a = r.a) (hd : r'.d = r.d) (hY : ∀ q ∈ Y, q.1 ≠ L) : ∀ q ∈ rowsL w (rs.set i r') ++ Y, q.1 ≠ L := by
  intro q hq
  rcases List.mem_append.mp hq with hq | hq
  · have := rows_mem hq
    rw [ads_set hi ha hd] at this
    exact fun e => offL_of F (e ▸ this)
  · exact hY q hq
theorem offR (F : Fm G s L m (rowsL w rs ++ X)) : ∀ q ∈ X, q.1 ≠ L := fun q hq => F.off q (List.mem_append_right _ hq)
theorem pushF {x y : Value} (T : Tp G w K) (F : Fm G s L m (rowsL w rs ++ X)) (hi : rs[i]? = some r) (nd : (adsOf rs).Nodup) (off : ∀ q ∈ X, q.1 ∉ adsOf rs) (hz : r.vs.length ≤ 1000) (hr : Room A (j + 3))
    (h : ∀ p s', (∀ q ∈ rowsL w rs ++ X, q.1 < p) → L < p → Fm G s' L m (rowsL w (rs.set i { r with vs := r.vs ++ [.ref p], n := r.n + 1 }) ++ ((p, tupO [x, y]) :: X)) → Q .none s') :
    wpAny (model pw w) A (call (.ref aPush) [.ref r.a, x, y]) Q E s := by
  obtain ⟨oL, hmL, SL, back⟩ := F.st
  refine push_row T (SL.sub frame_in) hi nd (offX F off) hz hr ?_
  intro p s' hp S'
  have hLp := hp (L, oL) (by simp)
  refine h p s' (fun q hq => hp q ?_) hLp (back (S'.sub fun q hq => ?_) ?_)
  · simp only [List.mem_append, List.mem_cons] at hq ⊢
    rcases hq with h | h
    · exact .inl h
    · exact .inr (.inr h)
  · simp only [List.mem_append, List.mem_cons] at hq ⊢
    rcases hq with h | h | h | h
    · exact .inr (.inr (.inl h))
    · exact .inl h
    · exact .inr (.inl h)
    · exact .inr (.inr (.inr h))
  · refine off_set F hi rfl rfl ?_
    intro q hq
    rcases List.mem_cons.mp hq with rfl | hq
    · exact Nat.ne_of_gt hLp
    · exact offR F q hq
theorem popF (T : Tp G w K) (F : Fm G s L m (rowsL w rs ++ X)) (hi : rs[i]? = some r) (nd : (adsOf rs).Nodup) (off : ∀ q ∈ X, q.1 ∉ adsOf rs) (hz : r.vs.length ≤ 1000) (hr : Room A (j + 5))
    (h0 : r.vs = [] → ∀ p s' t1 t2, (∀ q ∈ rowsL w rs ++ X, q.1 < p) → L < p → Fm G s' L m (rowsL w rs ++ ((p, tupO [.str "" t1, .str "" t2]) :: X)) → Q (.ref p) s')
    (h1 : ∀ xs x, r.vs = xs ++ [x] → ∀ s', Fm G s' L m (rowsL w (rs.set i { r with vs := xs, n := r.n + 1 }) ++ X) → Q x s') : wpAny (model pw w) A (call (.ref aPop) [.ref r.a]) Q E s := by
  obtain ⟨oL, hmL, SL, back⟩ := F.st
  refine pop_row T (SL.sub frame_in) hi nd (offX F off) hz hr ?_ ?_
  · intro e p s' t1 t2 hp S'
    have hLp := hp (L, oL) (by simp)
    refine h0 e p s' t1 t2 (fun q hq => hp q ?_) hLp (back (S'.sub fun q hq => ?_) ?_)
    · simp only [List.mem_append, List.mem_cons] at hq ⊢
      rcases hq with h | h
      · exact .inl h
      · exact .inr (.inr h)
    · simp only [List.mem_append, List.mem_cons] at hq ⊢
      rcases hq with h | h | h | h
      · exact .inr (.inr (.inl h))
      · exact .inl h
      · exact .inr (.inl h)
      · exact .inr (.inr (.inr h))
    · intro q hq
      simp only [List.mem_append, List.mem_cons] at hq
      rcases hq with h | rfl | h
      · exact F.off q (List.mem_append_left _ h)
      · exact Nat.ne_of_gt hLp
      · exact offR F q h
  · intro xs x e s' S'
    exact h1 xs x e s' (back (S'.sub frame_out) (off_set F hi rfl rfl (offR F)))
theorem popFromF {k : Nat} {u : Tok} (T : Tp G w K) (F : Fm G s L m (rowsL w rs ++ X)) (hi : rs[i]? = some r) (nd : (adsOf rs).Nodup) (off : ∀ q ∈ X, q.1 ∉ adsOf rs) (hz : r.vs.length ≤ 1000) (hr : Room A (j + 3))
    (h : ∀ b s' n', (∀ q ∈ rowsL w rs ++ X, q.1 < b) → L < b → Fm G s' L m (rowsL w (rs.set i { r with vs := r.vs.take k, n := n' }) ++ ((b, listO (r.vs.drop k) 0) :: X)) → Q (.ref b) s') :
    wpAny (model pw w) A (call (.ref aPopFrom) [.ref r.a, .int k u]) Q E s := by
  obtain ⟨oL, hmL, SL, back⟩ := F.st
  refine popFrom_row T (SL.sub frame_in) hi nd (offX F off) hz hr ?_
  intro p s' n' hp S'
  have hLp := hp (L, oL) (by simp)
  refine h p s' n' (fun q hq => hp q ?_) hLp (back (S'.sub fun q hq => ?_) ?_)
  · simp only [List.mem_append, List.mem_cons] at hq ⊢
    rcases hq with h | h
    · exact .inl h
    · exact .inr (.inr h)
  · simp only [List.mem_append, List.mem_cons] at hq ⊢
    rcases hq with h | h | h | h
    · exact .inr (.inr (.inl h))
    · exact .inl h
    · exact .inr (.inl h)
    · exact .inr (.inr (.inr h))
  · refine off_set F hi rfl rfl ?_
    intro q hq
    rcases List.mem_cons.mp hq with rfl | hq
    · exact Nat.ne_of_gt hLp
    · exact offR F q hq
theorem resetF {l : Addr} {ys : List Value} {c : Nat} (T : Tp G w K) (F : Fm G s L m (rowsL w rs ++ X)) (hi : rs[i]? = some r) (nd : (adsOf rs).Nodup) (off : ∀ q ∈ X, q.1 ∉ adsOf rs) (hz : r.vs.length ≤ 1000) (hl : (l, listO ys c) ∈ X) (hz2 : ys.length ≤ 1000) (hr : Room A (j + 3))
    (h : ∀ s' n' k' t', Fm G s' L m (rowsL w (rs.set i { r with vs := ys, n := n', sz := 0, k := k', t := t' }) ++ X) → Q .none s') :
    wpAny (model pw w) A (call (.ref aReset) [.ref r.a, .ref l]) Q E s := by
  obtain ⟨oL, hmL, SL, back⟩ := F.st
  refine reset_row T (SL.sub frame_in) hi nd (offX F off) hz (List.mem_cons_of_mem _ hl) hz2 hr ?_
  intro s' n' k' t' S'
  exact h s' n' k' t' (back (S'.sub frame_out) (off_set F hi rfl rfl (offR F)))
theorem reset0F (T : Tp G w K) (F : Fm G s L m (rowsL w rs ++ X)) (hi : rs[i]? = some r) (nd : (adsOf rs).Nodup) (off : ∀ q ∈ X, q.1 ∉ adsOf rs) (hz : r.vs.length ≤ 1000) (hr : Room A (j + 3))
    (h : ∀ s' n' k' t', Fm G s' L m (rowsL w (rs.set i { r with vs := [], n := n', sz := 0, k := k', t := t' }) ++ X) → Q .none s') :
    wpAny (model pw w) A (call (.ref aReset) [.ref r.a]) Q E s := by
  obtain ⟨oL, hmL, SL, back⟩ := F.st
  refine reset0_row T (SL.sub frame_in) hi nd (offX F off) hz hr ?_
  intro s' n' k' t' S'
  exact h s' n' k' t' (back (S'.sub frame_out) (off_set F hi rfl rfl (offR F)))
end
def pcD (p : Pc) : Dat := .tuple [.str p.1, .str p.2]
def pcsD (cs : List Nat) : Dat := .list (cs.map fun c => pcD (pcOf c))
structure RowC where
  sz : Int
  cs : List Nat
def seenD (r : RowC) : Dat := .tuple [pcsD r.cs, .int r.cs.length, .int (r.sz + lenPs (r.cs.map pcOf)), .str (txtPs (r.cs.map pcOf)), .str (shade (whiteB r.sz (r.cs.map pcOf)))]
def getR (rs : List RowC) (i : Nat) : RowC := rs.getD i ⟨0, []⟩
def stepC (d : Deed) (rs : List RowC) : List Nat × List RowC :=
  let i := d.one.toNat
  let k := d.other.toNat
  let z := (d.say % 4).toNat
  if d.kind < 2 then ([], rs.set i ⟨(getR rs i).sz, (getR rs i).cs ++ [(1 + d.say % 31).toNat]⟩)
  else if d.kind = 2 then
    (match (getR rs i).cs.getLast? with
    | none => ([0], rs)
    | some c => ([c], (rs.set i ⟨(getR rs i).sz, (getR rs i).cs.dropLast⟩).set k ⟨(getR rs k).sz, (getR rs k).cs ++ [c]⟩))
  else if d.kind = 3 then ((getR rs i).cs.drop z, (rs.set i ⟨(getR rs i).sz, (getR rs i).cs.take z⟩).set k ⟨0, (getR rs i).cs.drop z⟩)
  else if d.kind = 4 then ((getR rs i).cs.drop z, (rs.set i ⟨(getR rs i).sz, (getR rs i).cs.take z⟩).set k ⟨(getR rs k).sz, (getR rs k).cs ++ (getR rs i).cs.drop z⟩)
  else ([], rs.set i ⟨0, []⟩)
def frameD (d : Deed) (x : List Nat × List RowC) : Dat := .tuple [pcsD x.1, seenD (getR x.2 d.one.toNat), seenD (getR x.2 d.other.toNat)]
def runC : List Deed → List RowC → List RowC
  | [], rs => rs
  | d :: r, rs => runC r (stepC d rs).2
def filmC : List Deed → List RowC → List Dat
  | [], _ => []
  | d :: r, rs => frameD d (stepC d rs) :: filmC r (stepC d rs).2
theorem runC_snoc (d : Deed) : ∀ (ds : List Deed) (rs : List RowC), runC (ds ++ [d]) rs = (stepC d (runC ds rs)).2
  | [], rs => rfl
  | e :: r, rs => by simp only [List.cons_append, runC]; exact runC_snoc d r _
theorem filmC_snoc (d : Deed) : ∀ (ds : List Deed) (rs : List RowC), filmC (ds ++ [d]) rs = filmC ds rs ++ [frameD d (stepC d (runC ds rs))]
  | [], rs => rfl
  | e :: r, rs => by simp only [List.cons_append, filmC, runC]; rw [filmC_snoc d r]
theorem filmC_length : ∀ (ds : List Deed) (rs : List RowC), (filmC ds rs).length = ds.length
  | [], _ => rfl
  | _ :: r, _ => by simp only [filmC, List.length_cons]; rw [filmC_length r]
structure DeedOk (d : Deed) : Prop where
  one : 0 ≤ d.one ∧ d.one < 3
  other : 0 ≤ d.other ∧ d.other < 3
  ne : d.one ≠ d.other
  kind : 0 ≤ d.kind ∧ d.kind < 6
theorem deedOf_ok (c : Int) : DeedOk (deedOf c) := by
  unfold deedOf
  refine ⟨?_, ?_, ?_, ?_⟩ <;> dsimp only <;> (first | lia | omega)
structure Good (n : Nat) (rs : List RowC) : Prop where
  len : rs.length = 3
  sz : ∀ r ∈ rs, 0 ≤ r.sz ∧ r.sz ≤ 2
  cs : ∀ r ∈ rs, ∀ c ∈ r.cs, 1 ≤ c ∧ c ≤ 31
  sum : (rs.map fun r => r.cs.length).sum ≤ n
theorem getR_mem {rs : List RowC} {i : Nat} (h : i < rs.length) : getR rs i ∈ rs ∧ rs[i]? = some (getR rs i) := by
  unfold getR
  rw [List.getD, List.getElem?_eq_getElem h]
  exact ⟨List.getElem_mem h, rfl⟩
theorem Good.le {n : Nat} {rs : List RowC} (g : Good n rs) {r : RowC} (h : r ∈ rs) : r.cs.length ≤ n := by
  have : ∀ l : List RowC, r ∈ l → r.cs.length ≤ (l.map fun r => r.cs.length).sum := by
    intro l
    induction l with
    | nil => intro h; cases h
    | cons a l ih =>
      intro h
      simp only [List.map_cons, List.sum_cons]
      rcases List.mem_cons.mp h with rfl | h
      · (first | lia | omega)
      · have := ih h; (first | lia | omega)
  exact Nat.le_trans (this rs h) g.sum
theorem sum_set {rs : List RowC} {i : Nat} {r' : RowC} (h : i < rs.length) : ((rs.set i r').map fun r => r.cs.length).sum + (getR rs i).cs.length = (rs.map fun r => r.cs.length).sum + r'.cs.length := by
  induction rs generalizing i with
  | nil => simp at h
  | cons a l ih =>
    cases i with
    | zero => simp [getR]; (first | lia | omega)
    | succ i =>
      simp only [List.length_cons] at h
      have := ih (i := i) (by (first | lia | omega))
      simp only [getR, List.getD, List.set_cons_succ, List.map_cons, List.sum_cons, List.getElem?_cons_succ] at this ⊢
      (first | lia | omega)
theorem getR_set_ne {rs : List RowC} {i k : Nat} {r' : RowC} (h : i ≠ k) : getR (rs.set i r') k = getR rs k := by
  unfold getR List.getD
  rw [List.getElem?_set_ne h]
theorem mem_set {rs : List RowC} {i : Nat} {r' r : RowC} (h : r ∈ rs.set i r') : r ∈ rs ∨ r = r' := by
  rcases List.mem_or_eq_of_mem_set h with h | h
  · exact .inl h
  · exact .inr h
theorem Good.set {n n' : Nat} {rs : List RowC} {i : Nat} {r' : RowC} (g : Good n rs) (h : i < 3) (hs : 0 ≤ r'.sz ∧ r'.sz ≤ 2) (hc : ∀ c ∈ r'.cs, 1 ≤ c ∧ c ≤ 31) (hn : n + r'.cs.length ≤ n' + (getR rs i).cs.length) : Good n' (rs.set i r') := by
  refine ⟨by rw [List.length_set]; exact g.len, fun r hr => ?_, fun r hr => ?_, ?_⟩
  · rcases mem_set hr with hr | rfl
    · exact g.sz r hr
    · exact hs
  · rcases mem_set hr with hr | rfl
    · exact g.cs r hr
    · exact hc
  · have := sum_set (rs := rs) (r' := r') (i := i) (by rw [g.len]; exact h)
    have := g.sum
    (first | lia | omega)
theorem Good.mono {n n' : Nat} {rs : List RowC} (g : Good n rs) (h : n ≤ n') : Good n' rs := ⟨g.len, g.sz, g.cs, Nat.le_trans g.sum h⟩
theorem Good.step {n : Nat} {rs : List RowC} {d : Deed} (g : Good n rs) (o : DeedOk d) : Good (n + 1) (stepC d rs).2 ∧ ∀ c ∈ (stepC d rs).1, c ≤ 31 := by
  obtain ⟨h1, h2⟩ := o.one
  obtain ⟨h3, h4⟩ := o.other
  have hne := o.ne
  have hi : d.one.toNat < 3 := by (first | lia | omega)
  have hk : d.other.toNat < 3 := by (first | lia | omega)
  have hik : d.one.toNat ≠ d.other.toNat := by (first | lia | omega)
  have m1 := getR_mem (rs := rs) (i := d.one.toNat) (by rw [g.len]; exact hi)
  have m2 := getR_mem (rs := rs) (i := d.other.toNat) (by rw [g.len]; exact hk)
  have s1 := g.sz _ m1.1
  have s2 := g.sz _ m2.1
  have c1 := g.cs _ m1.1
  have c2 := g.cs _ m2.1
  unfold stepC
  dsimp only
  split
  · refine ⟨Good.set g hi s1 ?_ (by simp; (first | lia | omega)), by simp⟩
    intro c hc
    rcases List.mem_append.mp hc with hc | hc
    · exact c1 c hc
    · simp only [List.mem_singleton] at hc
      subst hc
      (first | lia | omega)
  split
  · split
    · exact ⟨g.mono (by (first | lia | omega)), by simp⟩
    · rename_i c hc
      have hcm := List.mem_of_getLast? hc
      have hlen : 0 < (getR rs d.one.toNat).cs.length := List.length_pos_of_mem hcm
      have g1 := Good.set (n' := n - 1) (r' := ⟨(getR rs d.one.toNat).sz, (getR rs d.one.toNat).cs.dropLast⟩) g hi s1 (fun c hc => c1 c (List.dropLast_subset _ hc)) (by simp; have := g.le m1.1; (first | lia | omega))
      refine ⟨Good.set g1 hk s2 ?_ (by rw [getR_set_ne hik]; simp; (first | lia | omega)), ?_⟩
      · intro x hx
        rcases List.mem_append.mp hx with hx | hx
        · exact c2 x hx
        · simp only [List.mem_singleton] at hx
          subst hx
          exact c1 _ hcm
      · intro x hx
        simp only [List.mem_singleton] at hx
        subst hx
        exact (c1 _ hcm).2
  have td : (getR rs d.one.toNat).cs.length = ((getR rs d.one.toNat).cs.take (d.say % 4).toNat).length + ((getR rs d.one.toNat).cs.drop (d.say % 4).toNat).length := by
    rw [← List.length_append, List.take_append_drop]
  have g1 := Good.set (n' := n - ((getR rs d.one.toNat).cs.drop (d.say % 4).toNat).length) (r' := ⟨(getR rs d.one.toNat).sz, (getR rs d.one.toNat).cs.take (d.say % 4).toNat⟩) g hi s1 (fun c hc => c1 c (List.mem_of_mem_take hc)) (by have := g.le m1.1; dsimp only; (first | lia | omega))
  have hle := g.le m1.1
  split
  · refine ⟨Good.set g1 hk (by simp) (fun c hc => c1 c (List.mem_of_mem_drop hc)) (by dsimp only; (first | lia | omega)), fun c hc => (c1 c (List.mem_of_mem_drop hc)).2⟩
  split
  · refine ⟨Good.set g1 hk s2 ?_ (by rw [getR_set_ne hik]; dsimp only; rw [List.length_append]; (first | lia | omega)), fun c hc => (c1 c (List.mem_of_mem_drop hc)).2⟩
    intro x hx
    rcases List.mem_append.mp hx with hx | hx
    · exact c2 x hx
    · exact c1 x (List.mem_of_mem_drop hx)
  · exact ⟨Good.set g hi (by simp) (by simp) (by simp; (first | lia | omega)), by simp⟩
theorem Good.run {rs : List RowC} : ∀ {n : Nat} (ds : List Deed), Good n rs → (∀ d ∈ ds, DeedOk d) → Good (n + ds.length) (runC ds rs) := by
  intro n ds
  induction ds generalizing rs n with
  | nil => intro g _; exact g
  | cons d r ih =>
    intro g h
    have := ih (g.step (h d (List.mem_cons_self ..))).1 fun e he => h e (List.mem_cons_of_mem _ he)
    simp only [runC, List.length_cons]
    rw [show n + (r.length + 1) = n + 1 + r.length by (first | lia | omega)]
    exact this
theorem small_of {cs : List Nat} (h : ∀ c ∈ cs, c ≤ 31) : Small (cs.map pcOf) := by
  intro p hp
  obtain ⟨c, hc, rfl⟩ := List.mem_map.mp hp
  have := h c hc
  unfold pcOf
  simp only [rep_length]
  (first | lia | omega)
def RowIs (Rn : Led) (rv : RowV) (rc : RowC) : Prop := rv.sz = rc.sz ∧ Pcs Rn rv.vs (rc.cs.map pcOf)
def RowsAre (Rn : Led) (rvs : List RowV) (rcs : List RowC) : Prop := rvs.length = rcs.length ∧ ∀ (i : Nat) rv rc, rvs[i]? = some rv → rcs[i]? = some rc → RowIs Rn rv rc
theorem RowIs.sub {R R' : Led} {rv : RowV} {rc : RowC} (h : ∀ q ∈ R, q ∈ R') (x : RowIs R rv rc) : RowIs R' rv rc := ⟨x.1, x.2.sub h⟩
theorem RowsAre.sub {R R' : Led} {rvs : List RowV} {rcs : List RowC} (h : ∀ q ∈ R, q ∈ R') (x : RowsAre R rvs rcs) : RowsAre R' rvs rcs := ⟨x.1, fun i rv rc h1 h2 => (x.2 i rv rc h1 h2).sub h⟩
theorem RowsAre.set {R : Led} {rvs : List RowV} {rcs : List RowC} {rv : RowV} {rc : RowC} (x : RowsAre R rvs rcs) (h : RowIs R rv rc) (i : Nat) : RowsAre R (rvs.set i rv) (rcs.set i rc) := by
  refine ⟨by simp [x.1], fun j v c h1 h2 => ?_⟩
  by_cases e : i = j
  · subst e
    rw [List.getElem?_set] at h1 h2
    simp only [if_true] at h1 h2
    split at h1
    · split at h2
      · cases h1; cases h2; exact h
      · cases h2
    · cases h1
  · rw [List.getElem?_set_ne e] at h1 h2
    exact x.2 j v c h1 h2
theorem RowsAre.at {R : Led} {rvs : List RowV} {rcs : List RowC} (x : RowsAre R rvs rcs) {i : Nat} (h : i < rcs.length) : ∃ rv, rvs[i]? = some rv ∧ RowIs R rv (getR rcs i) := by
  have h1 : i < rvs.length := by rw [x.1]; exact h
  exact ⟨rvs[i], List.getElem?_eq_getElem h1, x.2 i _ _ (List.getElem?_eq_getElem h1) (getR_mem h).2⟩
def refsOf (rvs : List RowV) : List Value := rvs.map fun r => .ref r.a
theorem refs_set {rvs : List RowV} {i : Nat} {r r' : RowV} (h : rvs[i]? = some r) (ha : r'.a = r.a) : refsOf (rvs.set i r') = refsOf rvs := by
  unfold refsOf
  rw [List.map_set]
  apply List.ext_getElem?
  intro j
  by_cases e : i = j
  · subst e
    obtain ⟨hi, e2⟩ := List.getElem?_eq_some_iff.mp h
    rw [List.getElem?_set_self (by simpa using hi), List.getElem?_map, h, ha]
    rfl
  · rw [List.getElem?_set_ne e]
theorem refs_get {rvs : List RowV} {i : Nat} {r : RowV} (h : rvs[i]? = some r) : (refsOf rvs)[i]? = some (.ref r.a) := by
  unfold refsOf; rw [List.getElem?_map, h]; rfl
/-! data told -/
theorem IsPc.dat {R : Led} {v : Value} {p : Pc} (h : IsPc R v p) : DatIn R v (pcD p) := by
  obtain ⟨T, t1, t2, rfl, hm⟩ := h
  exact .tuple hm (.cons (.str _ _) (.cons (.str _ _) .nil))
theorem Pcs.dat {R : Led} {vs : List Value} {ps : List Pc} (h : Pcs R vs ps) : DatAll R vs (ps.map pcD) := by
  induction h with
  | nil => exact .nil
  | cons a _ ih => exact .cons a.dat ih
theorem rep_ok (ch n : Nat) (h : ch < 0x110000) : PyData.strOk (rep ch n) = true := by
  unfold PyData.strOk rep
  simp only [List.all_toArray]
  rw [List.all_eq_true]
  intro x hx
  rw [(List.mem_replicate.mp hx).2]
  simpa using h
theorem pcOk (c n : Nat) : kqdOk (n + 1) (pcD (pcOf c)) = true := by
  simp [pcD, kqdOk, pcOf, rep_ok]
theorem pcsOk (cs : List Nat) (n : Nat) : kqdOk (n + 2) (pcsD cs) = true := by
  simp [pcsD, kqdOk, pcOk]
theorem pcOf_zero : pcOf 0 = ((Str.ofString "", Str.ofString "") : Str × Str) := rfl
theorem pcOf_inj {c c' : Nat} (h : pcOf c = pcOf c') : c = c' := by
  have h1 := congrArg (fun p => p.1.length) h
  have h2 := congrArg (fun p => p.2.length) h
  simp only [pcOf, rep_length] at h1 h2
  (first | lia | omega)
theorem pcD_inj {c c' : Nat} (h : pcD (pcOf c) = pcD (pcOf c')) : c = c' := by
  unfold pcD at h
  simp only [Dat.tuple.injEq, List.cons.injEq, Dat.str.injEq, and_true] at h
  exact pcOf_inj (Prod.ext h.1 h.2)
section
variable {w : World} {A : Around} {E : Value → Shared → Prop} {G : Gd} {s : Shared} {R : Led} {L a b : Addr} {m : Str → Option Value} {xs ys : List Value} {ca cb k : Nat} {ds es : List Dat} {Q : Value → Shared → Prop}
theorem neL_t (F : Fm G s L m R) (ha : (a, listO xs ca) ∈ R) (hb : (b, listO ys cb) ∈ R) (Da : DatAll R xs ds) (Db : DatAll R ys es) (oka : ∀ d ∈ ds, kqdOk 8 d = true) (okb : ∀ d ∈ es, kqdOk 8 d = true) (hr : Room A (k + 4)) (hne : ds ≠ es) (h : Q (.bool true) s) :
    wpAny (model pw w) A (compareOp .NotEq (.ref a) (.ref b)) Q E s :=
  kqd_ne F.news ha rfl rfl Da (fun _ h => h) hb rfl rfl Db (fun _ h => h) oka okb (by have := hr.units; (first | lia | omega)) (by rw [@decide_eq_false _ (_) hne]; exact h)
theorem neL_f (F : Fm G s L m R) (ha : (a, listO xs ca) ∈ R) (hb : (b, listO ys cb) ∈ R) (Da : DatAll R xs ds) (Db : DatAll R ys es) (oka : ∀ d ∈ ds, kqdOk 8 d = true) (okb : ∀ d ∈ es, kqdOk 8 d = true) (hr : Room A (k + 4)) (he : ds = es) (h : Q (.bool false) s) :
    wpAny (model pw w) A (compareOp .NotEq (.ref a) (.ref b)) Q E s :=
  kqd_ne F.news ha rfl rfl Da (fun _ h => h) hb rfl rfl Db (fun _ h => h) oka okb (by have := hr.units; (first | lia | omega)) (by rw [@decide_eq_true _ (_) he]; exact h)
theorem eqL_t (F : Fm G s L m R) (ha : (a, listO xs ca) ∈ R) (hb : (b, listO ys cb) ∈ R) (Da : DatAll R xs ds) (Db : DatAll R ys es) (oka : ∀ d ∈ ds, kqdOk 8 d = true) (okb : ∀ d ∈ es, kqdOk 8 d = true) (hr : Room A (k + 4)) (he : ds = es) (h : Q (.bool true) s) :
    wpAny (model pw w) A (compareOp .Eq (.ref a) (.ref b)) Q E s :=
  kqd_eq F.news ha rfl rfl Da (fun _ h => h) hb rfl rfl Db (fun _ h => h) oka okb (by have := hr.units; (first | lia | omega)) (by rw [@decide_eq_true _ (_) he]; exact h)
end
/-- where all lies -/
structure Lay (it rl fl : Addr) (ads : List Addr) (R Rn : Led) : Prop where
  nd : ads.Nodup
  top : ∀ x ∈ ads, x < it ∧ x ≠ rl ∧ x ≠ fl
  lo : ∀ x ∈ ads, ∀ q ∈ R, q.1 < x
  lrl : rl < it ∧ ∀ q ∈ R, q.1 < rl
  lfl : fl < it ∧ ∀ q ∈ R, q.1 < fl
  ne : rl ≠ fl
  hi : ∀ q ∈ Rn, it < q.1
abbrev bpY (it rl fl : Addr) (o : Obj) (refs fvs : List Value) (cr cf : Nat) (Rn R : Led) : Led := (it, o) :: (fl, listO fvs cf) :: (rl, listO refs cr) :: (Rn ++ R)
theorem Lay.out {it rl fl : Addr} {ads : List Addr} {R Rn : Led} {o : Obj} {refs fvs : List Value} {cr cf : Nat} (x : Lay it rl fl ads R Rn) : ∀ q ∈ bpY it rl fl o refs fvs cr cf Rn R, q.1 ∉ ads := by
  intro q hq ha
  have h1 := x.top _ ha
  simp only [List.mem_cons, List.mem_append] at hq
  rcases hq with rfl | rfl | rfl | hq | hq
  · exact Nat.lt_irrefl _ h1.1
  · exact h1.2.2 rfl
  · exact h1.2.1 rfl
  · exact Nat.lt_asymm h1.1 (x.hi q hq)
  · exact Nat.lt_irrefl _ (x.lo _ ha q hq)
theorem Lay.outC {it rl fl p : Addr} {ads : List Addr} {R Rn X : Led} {o : Obj} (x : Lay it rl fl ads R Rn) (hp : it < p) (h : ∀ q ∈ X, q.1 ∉ ads) : ∀ q ∈ (p, o) :: X, q.1 ∉ ads := by
  intro q hq
  rcases List.mem_cons.mp hq with rfl | hq
  · exact fun ha => Nat.lt_asymm (x.top _ ha).1 hp
  · exact h q hq
/-- behind the branches -/
def PostB (G : Gd) (w : World) (L it rl fl : Addr) (Y Rn : Led) (d : Deed) (rcs : List RowC) (rvs : List RowV) (t2 t3 : Tok) (s' : Shared) : Prop :=
  ∃ (m' : Str → Option Value) (rvs' : List RowV) (tl : Addr) (tvs : List Value) (ct : Nat) (Rm : Led), Fm G s' L m' (rowsL w rvs' ++ ((tl, listO tvs ct) :: (Rm ++ Y))) ∧ adsOf rvs' = adsOf rvs ∧ refsOf rvs' = refsOf rvs ∧ (∀ q ∈ Rm, it < q.1) ∧ it < tl ∧
    m' "told" = some (.ref tl) ∧ m' "rows" = some (.ref rl) ∧ m' "film" = some (.ref fl) ∧ m' "one" = some (.int d.one t2) ∧ m' "other" = some (.int d.other t3) ∧
    RowsAre (Rm ++ Rn) rvs' (stepC d rcs).2 ∧ Pcs (Rm ++ Rn) tvs ((stepC d rcs).1.map pcOf)
def forBody : Stmt → List Stmt | .For _ _ b .. => b | _ => []
def ifBody : Stmt → List Stmt | .If _ b .. => b | _ => []
def ifElse : Stmt → List Stmt | .If _ _ b .. => b | _ => []
def bpIf : Stmt := nthS (forBody (nthS (fBody (topS 16)) 2)) 1
def bpIf2 : Stmt := nthS (ifElse bpIf) 0
def bpIf3 : Stmt := nthS (ifElse bpIf2) 0
def bpIf4 : Stmt := nthS (ifElse bpIf3) 0
section
variable {w : World} {A : Around} {E : Value → Shared → Prop} {G : Gd} {s : Shared} {R Rn : Led} {K : Frag} {j n : Nat} {L it rl fl tl : Addr} {m : Str → Option Value} {o : Obj} {fvs : List Value} {cr cf : Nat} {rvs : List RowV} {rcs : List RowC} {d : Deed} {t1 t2 t3 t4 : Tok}
abbrev bpEnv (L : Addr) : Env := envX "_law_by_pieces" (fScope (topS 16)) L 173 (.ref 172) []
/-- what a branch finds -/
structure BpS (G : Gd) (w : World) (K : Frag) (A : Around) (s : Shared) (L it rl fl tl : Addr) (m : Str → Option Value) (o : Obj) (fvs : List Value) (cr cf n j : Nat) (rvs : List RowV) (rcs : List RowC) (d : Deed) (t1 t2 t3 t4 : Tok) (Rn R : Led) : Prop where
  T : Tp G w K
  TL : Tl G
  F : Fm G s L m (rowsL w rvs ++ ((tl, listO [] 0) :: bpY it rl fl o (refsOf rvs) fvs cr cf Rn R))
  lay : Lay it rl fl (adsOf rvs) R Rn
  htl : it < tl
  htn : ∀ q ∈ Rn, q.1 ≠ tl
  hR : RowsAre Rn rvs rcs
  g : Good n rcs
  hn : n ≤ 100
  ok : DeedOk d
  hr : Room (A.deeper (bpEnv L)) (j + 12)
  m1 : m "told" = some (.ref tl)
  m2 : m "rows" = some (.ref rl)
  m3 : m "film" = some (.ref fl)
  m4 : m "one" = some (.int d.one t2)
  m5 : m "other" = some (.int d.other t3)
  m6 : m "kind" = some (.int d.kind t1)
  m7 : m "say" = some (.int d.say t4)
abbrev bpPost (G : Gd) (w : World) (L it rl fl : Addr) (o : Obj) (fvs : List Value) (cr cf : Nat) (rvs : List RowV) (rcs : List RowC) (d : Deed) (t2 t3 : Tok) (Rn R : Led) (f : Flow) (s' : Shared) : Prop :=
  f = .next ∧ PostB G w L it rl fl (bpY it rl fl o (refsOf rvs) fvs cr cf Rn R) Rn d rcs rvs t2 t3 s'
theorem bp_push (B : BpS G w K A s L it rl fl tl m o fvs cr cf n j rvs rcs d t1 t2 t3 t4 Rn R) (h2 : d.kind < 2) :
    wpAny (model pw w) (A.deeper (bpEnv L)) (execs (ifBody bpIf) (bpEnv L)) (bpPost G w L it rl fl o fvs cr cf rvs rcs d t2 t3 Rn R) (fun _ _ => False) s := by
  obtain ⟨T, TL, F, lay, htl, htn, hR, g, hn, ok, hr, m1, m2, m3, m4, m5, m6, m7⟩ := B
  have hone := ok.one
  have hi : d.one.toNat < rcs.length := by rw [g.len]; (first | lia | omega)
  obtain ⟨r, hri, hrI⟩ := hR.at hi
  have hrl := hrI.2.length
  rw [List.length_map] at hrl
  have hrn := g.le (getR_mem hi).1
  refine wpAny_execs_cons ?_
  walk_at "w"
  refine cwF (G := G) TL.fPiece ?_ (by with_unfolding_all rfl)
  walk_at "w"
  rename_i u1 s1 F1 u2 s2 F2 u3 s3 F3 u4 s4 F4
  refine ⟨F4.keep, ?_⟩
  obtain ⟨c, hc⟩ : ∃ c : Nat, 1 + d.say % 31 = (c : Int) := ⟨(1 + d.say % 31).toNat, by (first | lia | omega)⟩
  rw [hc]
  refine piece_F (j := j + 11) T TL F4 (by walk_at "o") hr ?_
  intro p s5 u5 u6 hp hLp F5
  refine uT (t := p) F5 (List.mem_cons_self ..) hr.handled (by with_unfolding_all rfl) (by with_unfolding_all rfl) ?_
  intro s6 F6
  walk_at "w"
  rename_i s7 F7 s8 F8
  replace F8 := F8.sub (fun q hq => List.mem_cons_of_mem _ hq)
  refine itL (l := rl) (xs := refsOf rvs) (c := cr) F8 (by walk_at "mem") hone.1 (by walk_at "o") (refs_get hri) ?_ (by with_unfolding_all rfl)
  refine gmF T F8 (row_in hri).1 (row_in hri).2 T.pushF (by decide) (by kernel_rfl) ?_
  (try dsimp only)
  refine cwF (G := G) T.fPush ?_ (by with_unfolding_all rfl)
  walk_at "w"
  refine ⟨F8.keep, ?_⟩
  refine pushF (j := j + 9) T F8 hri lay.nd (lay.outC htl lay.out) (by walk_at "o") hr ?_
  intro p2 s9 hp2 hLp2 F9
  walk_at "w"
  have hitp : it < p2 := hp2 (it, o) (by walk_at "mem")
  have hst : stepC d rcs = ([], rcs.set d.one.toNat ⟨(getR rcs d.one.toNat).sz, (getR rcs d.one.toNat).cs ++ [c]⟩) := by
    unfold stepC
    dsimp only
    rw [if_pos h2, hc]
    rfl
  refine ⟨rfl, _, rvs.set d.one.toNat { r with vs := r.vs ++ [.ref p2], n := r.n + 1 }, tl, [], 0, [(p2, tupO [.str (pcOf c).1 u5, .str (pcOf c).2 u6])], F9.sub ?_, ads_set hri rfl rfl, refs_set hri rfl, ?_, htl, by with_unfolding_all assumption, by with_unfolding_all assumption, by with_unfolding_all assumption, by with_unfolding_all assumption, by with_unfolding_all assumption, ?_, ?_⟩
  · walk_at "sub"
  · intro q hq
    simp only [List.mem_singleton] at hq
    subst hq
    exact hitp
  · rw [hst]
    dsimp only
    refine RowsAre.set (hR.sub ?_) ?_ _
    · intro q hq; simp [hq]
    refine ⟨hrI.1, ?_⟩
    dsimp only
    rw [List.map_append]
    exact Pcs.snoc (hrI.2.sub fun q hq => by simp [hq]) ⟨p2, u5, u6, rfl, by simp⟩
  · rw [hst]
    exact .nil
end
section
variable {w : World} {A : Around} {E : Value → Shared → Prop} {G : Gd} {s : Shared} {R Rn : Led} {K : Frag} {j n : Nat} {L it rl fl tl : Addr} {m : Str → Option Value} {o : Obj} {fvs : List Value} {cr cf : Nat} {rvs : List RowV} {rcs : List RowC} {d : Deed} {t1 t2 t3 t4 : Tok}
theorem Pcs.take {R : Led} {vs : List Value} {ps : List Pc} (h : Pcs R vs ps) : ∀ k, Pcs R (vs.take k) (ps.take k) := by
  induction h with
  | nil => intro k; simp; exact .nil
  | cons a _ ih =>
    intro k
    cases k with
    | zero => exact .nil
    | succ k => exact .cons a (ih k)
theorem Pcs.drop {R : Led} {vs : List Value} {ps : List Pc} (h : Pcs R vs ps) : ∀ k, Pcs R (vs.drop k) (ps.drop k) := by
  induction h with
  | nil => intro k; simp; exact .nil
  | cons a h ih =>
    intro k
    cases k with
    | zero => exact .cons a h
    | succ k => exact ih k
theorem Pcs.append {R : Led} {vs ws : List Value} {ps qs : List Pc} (h : Pcs R vs ps) (h2 : Pcs R ws qs) : Pcs R (vs ++ ws) (ps ++ qs) := by
  induction h with
  | nil => exact h2
  | cons a _ ih => exact .cons a ih
theorem bp_reset (B : BpS G w K A s L it rl fl tl m o fvs cr cf n j rvs rcs d t1 t2 t3 t4 Rn R) (h2 : 5 ≤ d.kind) :
    wpAny (model pw w) (A.deeper (bpEnv L)) (execs (ifElse bpIf4) (bpEnv L)) (bpPost G w L it rl fl o fvs cr cf rvs rcs d t2 t3 Rn R) (fun _ _ => False) s := by
  obtain ⟨T, TL, F, lay, htl, htn, hR, g, hn, ok, hr, m1, m2, m3, m4, m5, m6, m7⟩ := B
  have hone := ok.one
  have hi : d.one.toNat < rcs.length := by rw [g.len]; (first | lia | omega)
  obtain ⟨r, hri, hrI⟩ := hR.at hi
  have hrl := hrI.2.length
  rw [List.length_map] at hrl
  have hrn := g.le (getR_mem hi).1
  refine wpAny_execs_cons ?_
  walk_at "w"
  refine itL (l := rl) (xs := refsOf rvs) (c := cr) F (by walk_at "mem") hone.1 (by walk_at "o") (refs_get hri) ?_ (by with_unfolding_all rfl)
  refine gmF T F (row_in hri).1 (row_in hri).2 T.resetF (by decide) (by kernel_rfl) ?_
  (try dsimp only)
  refine cwF (G := G) T.fReset ?_ (by with_unfolding_all rfl)
  walk_at "w"
  refine ⟨F.keep, ?_⟩
  refine reset0F (j := j + 9) T F hri lay.nd (lay.outC htl lay.out) (by walk_at "o") hr ?_
  intro s9 n' k' t' F9
  walk_at "w"
  have hst : stepC d rcs = ([], rcs.set d.one.toNat ⟨0, []⟩) := by
    unfold stepC
    dsimp only
    rw [if_neg (by walk_at "o"), if_neg (by walk_at "o"), if_neg (by walk_at "o"), if_neg (by walk_at "o")]
  refine ⟨rfl, _, rvs.set d.one.toNat { r with vs := [], n := n', sz := 0, k := k', t := t' }, tl, [], 0, [], F9.sub ?_, ads_set hri rfl rfl, refs_set hri rfl, by simp, htl, by with_unfolding_all assumption, by with_unfolding_all assumption, by with_unfolding_all assumption, by with_unfolding_all assumption, by with_unfolding_all assumption, ?_, ?_⟩
  · walk_at "sub"
  · rw [hst]
    dsimp only
    refine RowsAre.set (hR.sub ?_) ?_ _
    · intro q hq; simp [hq]
    exact ⟨rfl, .nil⟩
  · rw [hst]
    exact .nil
theorem bp_move (B : BpS G w K A s L it rl fl tl m o fvs cr cf n j rvs rcs d t1 t2 t3 t4 Rn R) (h2 : d.kind = 3) :
    wpAny (model pw w) (A.deeper (bpEnv L)) (execs (ifBody bpIf3) (bpEnv L)) (bpPost G w L it rl fl o fvs cr cf rvs rcs d t2 t3 Rn R) (fun _ _ => False) s := by
  obtain ⟨T, TL, F, lay, htl, htn, hR, g, hn, ok, hr, m1, m2, m3, m4, m5, m6, m7⟩ := B
  have hone := ok.one
  have hi : d.one.toNat < rcs.length := by rw [g.len]; (first | lia | omega)
  obtain ⟨r, hri, hrI⟩ := hR.at hi
  have hrl := hrI.2.length
  rw [List.length_map] at hrl
  have hrn := g.le (getR_mem hi).1
  have hother := ok.other
  have hk : d.other.toNat < rcs.length := by rw [g.len]; (first | lia | omega)
  have hik : d.one.toNat ≠ d.other.toNat := by have := ok.ne; (first | lia | omega)
  obtain ⟨q, hqi, hqI⟩ := hR.at hk
  have hql := hqI.2.length
  rw [List.length_map] at hql
  have hqn := g.le (getR_mem hk).1
  refine wpAny_execs_cons ?_
  walk_at "w"
  refine itL (l := rl) (xs := refsOf rvs) (c := cr) F (by walk_at "mem") hone.1 (by walk_at "o") (refs_get hri) ?_ (by with_unfolding_all rfl)
  refine gmF T F (row_in hri).1 (row_in hri).2 T.popFromF (by decide) (by kernel_rfl) ?_
  (try dsimp only)
  refine cwF (G := G) T.fPopFrom ?_ (by with_unfolding_all rfl)
  walk_at "w"
  rename_i u1 s1 F1 u2 s2 F2
  refine ⟨F2.keep, ?_⟩
  obtain ⟨z, hz⟩ : ∃ z : Nat, d.say % 4 = (z : Int) := ⟨(d.say % 4).toNat, by (first | lia | omega)⟩
  have hzz : (d.say % 4).toNat = z := by (first | lia | omega)
  rw [hz]
  refine popFromF (j := j + 9) T F2 hri lay.nd (lay.outC htl lay.out) (by walk_at "o") hr ?_
  intro b s3 n3 hb hLb F3
  have hitb : it < b := hb (it, o) (by walk_at "mem")
  have hq3 : (rvs.set d.one.toNat { r with vs := r.vs.take z, n := n3 })[d.other.toNat]? = some q := by rw [List.getElem?_set_ne hik]; exact hqi
  have ha3 : adsOf (rvs.set d.one.toNat { r with vs := r.vs.take z, n := n3 }) = adsOf rvs := ads_set hri rfl rfl
  have hr3 : refsOf (rvs.set d.one.toNat { r with vs := r.vs.take z, n := n3 }) = refsOf rvs := refs_set hri rfl
  walk_at "w"
  rename_i s4 F4
  refine itL (l := rl) (xs := refsOf rvs) (c := cr) F4 (by walk_at "mem") hother.1 (by walk_at "o") (refs_get hqi) ?_ (by with_unfolding_all rfl)
  refine gmF T F4 (row_in hq3).1 (row_in hq3).2 T.resetF (by decide) (by kernel_rfl) ?_
  (try dsimp only)
  refine cwF (G := G) T.fReset ?_ (by with_unfolding_all rfl)
  walk_at "w"
  refine ⟨F4.keep, ?_⟩
  refine resetF (j := j + 9) (l := b) (ys := r.vs.drop z) (c := 0) T F4 hq3 (by rw [ha3]; exact lay.nd) (by rw [ha3]; exact lay.outC hitb (lay.outC htl lay.out)) (by walk_at "o") (List.mem_cons_self ..) (by rw [List.length_drop]; (first | lia | omega)) hr ?_
  intro s5 n5 k5 t5 F5
  walk_at "w"
  have hst : stepC d rcs = ((getR rcs d.one.toNat).cs.drop z, (rcs.set d.one.toNat ⟨(getR rcs d.one.toNat).sz, (getR rcs d.one.toNat).cs.take z⟩).set d.other.toNat ⟨0, (getR rcs d.one.toNat).cs.drop z⟩) := by
    unfold stepC
    dsimp only
    rw [if_neg (by walk_at "o"), if_neg (by walk_at "o"), if_pos h2, hzz]
  refine ⟨rfl, _, (rvs.set d.one.toNat { r with vs := r.vs.take z, n := n3 }).set d.other.toNat { q with vs := r.vs.drop z, n := n5, sz := 0, k := k5, t := t5 }, b, r.vs.drop z, 0, [], F5.sub ?_, by rw [ads_set hq3 (by rfl) (by rfl)]; exact ha3, by rw [refs_set hq3 (by rfl)]; exact hr3, by simp, hitb, by with_unfolding_all rfl, by with_unfolding_all assumption, by with_unfolding_all assumption, by with_unfolding_all assumption, by with_unfolding_all assumption, ?_, ?_⟩
  · walk_at "sub"
  · rw [hst]
    dsimp only
    refine RowsAre.set (RowsAre.set (hR.sub ?_) ?_ _) ?_ _
    · intro q hq; simp [hq]
    · refine ⟨hrI.1, ?_⟩
      dsimp only
      rw [List.map_take]
      exact hrI.2.take z
    · refine ⟨rfl, ?_⟩
      dsimp only
      rw [List.map_drop]
      exact hrI.2.drop z
  · rw [hst]
    dsimp only
    rw [List.map_drop]
    exact hrI.2.drop z
end
section
variable {w : World} {A : Around} {E : Value → Shared → Prop} {G : Gd} {s : Shared} {R Rn : Led} {K : Frag} {j n : Nat} {L it rl fl tl : Addr} {m : Str → Option Value} {o : Obj} {fvs : List Value} {cr cf : Nat} {rvs : List RowV} {rcs : List RowC} {d : Deed} {t1 t2 t3 t4 : Tok}
theorem set_same {rs : List RowV} {i : Nat} {r : RowV} (h : rs[i]? = some r) : rs.set i r = rs := by
  apply List.ext_getElem?
  intro j
  by_cases e : i = j
  · subst e
    rw [set_get h, h]
  · rw [List.getElem?_set_ne e]
theorem bp_merge (B : BpS G w K A s L it rl fl tl m o fvs cr cf n j rvs rcs d t1 t2 t3 t4 Rn R) (h2 : d.kind = 4) :
    wpAny (model pw w) (A.deeper (bpEnv L)) (execs (ifBody bpIf4) (bpEnv L)) (bpPost G w L it rl fl o fvs cr cf rvs rcs d t2 t3 Rn R) (fun _ _ => False) s := by
  obtain ⟨T, TL, F, lay, htl, htn, hR, g, hn, ok, hr, m1, m2, m3, m4, m5, m6, m7⟩ := B
  have hone := ok.one
  have hi : d.one.toNat < rcs.length := by rw [g.len]; (first | lia | omega)
  obtain ⟨r, hri, hrI⟩ := hR.at hi
  have hrl := hrI.2.length
  rw [List.length_map] at hrl
  have hrn := g.le (getR_mem hi).1
  have hother := ok.other
  have hk : d.other.toNat < rcs.length := by rw [g.len]; (first | lia | omega)
  have hik : d.one.toNat ≠ d.other.toNat := by have := ok.ne; (first | lia | omega)
  obtain ⟨q, hqi, hqI⟩ := hR.at hk
  have hql := hqI.2.length
  rw [List.length_map] at hql
  have hqn := g.le (getR_mem hk).1
  refine wpAny_execs_cons ?_
  walk_at "w"
  refine itL (l := rl) (xs := refsOf rvs) (c := cr) F (by walk_at "mem") hone.1 (by walk_at "o") (refs_get hri) ?_ (by with_unfolding_all rfl)
  refine gmF T F (row_in hri).1 (row_in hri).2 T.popFromF (by decide) (by kernel_rfl) ?_
  (try dsimp only)
  refine cwF (G := G) T.fPopFrom ?_ (by with_unfolding_all rfl)
  walk_at "w"
  rename_i u1 s1 F1 u2 s2 F2
  refine ⟨F2.keep, ?_⟩
  obtain ⟨z, hz⟩ : ∃ z : Nat, d.say % 4 = (z : Int) := ⟨(d.say % 4).toNat, by (first | lia | omega)⟩
  have hzz : (d.say % 4).toNat = z := by (first | lia | omega)
  rw [hz]
  refine popFromF (j := j + 9) T F2 hri lay.nd (lay.outC htl lay.out) (by walk_at "o") hr ?_
  intro b s3 n3 hb hLb F3
  have hitb : it < b := hb (it, o) (by walk_at "mem")
  have hq3 : (rvs.set d.one.toNat { r with vs := r.vs.take z, n := n3 })[d.other.toNat]? = some q := by rw [List.getElem?_set_ne hik]; exact hqi
  have ha3 : adsOf (rvs.set d.one.toNat { r with vs := r.vs.take z, n := n3 }) = adsOf rvs := ads_set hri rfl rfl
  have hr3 : refsOf (rvs.set d.one.toNat { r with vs := r.vs.take z, n := n3 }) = refsOf rvs := refs_set hri rfl
  walk_at "w"
  rename_i s4 F4
  have hst : stepC d rcs = ((getR rcs d.one.toNat).cs.drop z, (rcs.set d.one.toNat ⟨(getR rcs d.one.toNat).sz, (getR rcs d.one.toNat).cs.take z⟩).set d.other.toNat ⟨(getR rcs d.other.toNat).sz, (getR rcs d.other.toNat).cs ++ (getR rcs d.one.toNat).cs.drop z⟩) := by
    unfold stepC
    dsimp only
    rw [if_neg (by walk_at "o"), if_neg (by walk_at "o"), if_neg (by walk_at "o"), if_pos h2, hzz]
  have hR1 : RowsAre Rn (rvs.set d.one.toNat { r with vs := r.vs.take z, n := n3 }) (rcs.set d.one.toNat ⟨(getR rcs d.one.toNat).sz, (getR rcs d.one.toNat).cs.take z⟩) := by
    refine RowsAre.set hR ?_ _
    refine ⟨hrI.1, ?_⟩
    dsimp only
    rw [List.map_take]
    exact hrI.2.take z
  generalize hv1 : rvs.set d.one.toNat { r with vs := r.vs.take z, n := n3 } = rvs1 at *
  have hpd : Pcs Rn (r.vs.drop z) (((getR rcs d.one.toNat).cs.drop z).map pcOf) := by rw [List.map_drop]; exact hrI.2.drop z
  have hpl := hpd.length
  rw [List.length_map] at hpl
  refine wpAny_For ?_ (by intro _; with_unfolding_all rfl)
  walk_at "w"
  refine iterL (l := b) (vs := r.vs.drop z) (c := 0) F4 (by walk_at "mem") ?_
  intro it2 s5 hit2 hLit2 F5
  have hitit : it < it2 := hit2 (it, o) (by walk_at "mem")
  have hbit : b < it2 := hit2 (b, listO (r.vs.drop z) 0) (by walk_at "mem")
  have hadit : ∀ x ∈ adsOf rvs, x < it2 := fun x hx => Nat.lt_trans (lay.top x hx).1 hitit
  refine forL (vs := r.vs.drop z) (L := L) hr.handled (fun i m' R' => ∃ q' Rm, R' = rowsL w (rvs1.set d.other.toNat q') ++ ((b, listO (r.vs.drop z) 0) :: (Rm ++ bpY it rl fl o (refsOf rvs) fvs cr cf Rn R)) ∧ q'.a = q.a ∧ q'.d = q.d ∧ q'.sz = q.sz ∧
    Pcs (Rm ++ Rn) q'.vs (((getR rcs d.other.toNat).cs ++ ((getR rcs d.one.toNat).cs.drop z).take i).map pcOf) ∧ (∀ q ∈ Rm, it2 < q.1) ∧ i ≤ (r.vs.drop z).length ∧ m' "told" = some (.ref b) ∧ m' "rows" = some (.ref rl) ∧ m' "film" = some (.ref fl) ∧ m' "one" = some (.int d.one t2) ∧ m' "other" = some (.int d.other t3)) (F5.sub (R' := (it2, litO b 0) :: (rowsL w (rvs1.set d.other.toNat q) ++ ((b, listO (r.vs.drop z) 0) :: ([] ++ bpY it rl fl o (refsOf rvs) fvs cr cf Rn R)))) ?_) ?_ ⟨q, [], rfl, rfl, rfl, rfl, ?_, by simp, Nat.zero_le _, by with_unfolding_all rfl, by with_unfolding_all assumption, by with_unfolding_all assumption, by with_unfolding_all assumption, by with_unfolding_all assumption⟩ ?_ (.inr ⟨⟨_, _, _, rfl⟩, hpd.refs⟩) ?_ ?_
  · rw [set_same hq3]
    walk_at "sub"
  · rw [set_same hq3]
    intro p hp
    refine Nat.ne_of_lt (hit2 p ?_)
    revert p
    walk_at "sub"
  · rw [List.take_zero, List.append_nil]
    exact hqI.2
  · rintro i m' R' ⟨q', Rm, rfl, _⟩
    exact ⟨0, by walk_at "mem"⟩
  · rintro i v oi m' R' s6 hv ⟨q', Rm, rfl, qa, qd, qz, hP, hRm, hil, n1, n2, n3, n4, n5⟩ F6 off6
    obtain ⟨p, hp, Tp, u5, u6, rfl, hTp⟩ := hpd.getN i v hv
    have hlt : i < (r.vs.drop z).length := (List.getElem?_eq_some_iff.mp hv).1
    have hq' : (rvs1.set d.other.toNat q')[d.other.toNat]? = some q' := set_get hq3
    have haq : adsOf (rvs1.set d.other.toNat q') = adsOf rvs := (ads_set hq3 qa qd).trans ha3
    have hrq : refsOf (rvs1.set d.other.toNat q') = refsOf rvs := (refs_set hq3 qa).trans hr3
    have hPl := hP.length
    rw [List.length_map, List.length_append, List.length_take, List.length_drop] at hPl
    refine uT (t := Tp) (xs := [.str p.1 u5, .str p.2 u6]) F6 (by walk_at "mem") hr.handled (by with_unfolding_all rfl) (by with_unfolding_all rfl) ?_
    intro s7 F7
    walk_at "w"
    rename_i s8 F8 s9 F9
    refine itL (l := rl) (xs := refsOf rvs) (c := cr) F9 (by walk_at "mem") hother.1 (by walk_at "o") (by rw [← hrq]; exact refs_get hq') ?_ (by with_unfolding_all rfl)
    have F10 : Fm G s9 L _ (rowsL w (rvs1.set d.other.toNat q') ++ ((it2, oi) :: (b, listO (r.vs.drop z) 0) :: (Rm ++ bpY it rl fl o (refsOf rvs) fvs cr cf Rn R))) := F9.sub (by walk_at "sub")
    refine gmF T F10 (row_in hq').1 (row_in hq').2 T.pushF (by decide) (by kernel_rfl) ?_
    (try dsimp only)
    refine cwF (G := G) T.fPush ?_ (by with_unfolding_all rfl)
    walk_at "w"
    refine ⟨F10.keep, ?_⟩
    refine pushF (j := j + 9) T F10 hq' (by rw [haq]; exact lay.nd) ?_ (by walk_at "o") hr ?_
    · rw [haq]
      refine lay.outC hitit (lay.outC hitb ?_)
      intro x hx
      rcases List.mem_append.mp hx with hx | hx
      · exact fun ha => Nat.lt_asymm (hadit _ ha) (hRm x hx)
      · exact lay.out x hx
    intro p2 s11 hp2 hLp2 F11
    have hitp : it2 < p2 := hp2 (it2, oi) (by walk_at "mem")
    rw [List.set_set] at F11
    walk_at "w"
    refine ⟨_, _, ⟨{ q' with vs := q'.vs ++ [.ref p2], n := q'.n + 1 }, (p2, tupO [.str p.1 u5, .str p.2 u6]) :: Rm, rfl, qa, qd, qz, ?_, ?_, hlt, by with_unfolding_all assumption, by with_unfolding_all assumption, by with_unfolding_all assumption, by with_unfolding_all assumption, by with_unfolding_all assumption⟩, F11.sub (by walk_at "sub"), ?_⟩
    · rw [List.take_add_one, ← List.append_assoc, List.map_append]
      refine Pcs.append (hP.sub fun x hx => by simp only [List.cons_append]; exact List.mem_cons_of_mem _ hx) ?_
      rw [List.getElem?_map] at hp
      cases hc : ((getR rcs d.one.toNat).cs.drop z)[i]? with
      | none => rw [hc] at hp; cases hp
      | some c =>
        rw [hc] at hp
        cases hp
        exact .cons ⟨p2, u5, u6, rfl, by simp⟩ .nil
    · intro x hx
      rcases List.mem_cons.mp hx with rfl | hx
      · exact hitp
      · exact hRm x hx
    · intro x hx
      rcases List.mem_append.mp hx with hx | hx
      · have := rows_mem hx
        rw [show adsOf (rvs1.set d.other.toNat { q' with vs := q'.vs ++ [.ref p2], n := q'.n + 1 }) = adsOf rvs by rw [ads_set hq3 (by exact qa) (by exact qd)]; exact ha3] at this
        exact Nat.ne_of_lt (hadit _ this)
      · simp only [List.mem_cons, List.mem_append, List.cons_append] at hx
        rcases hx with rfl | rfl | hx | hx
        · exact Nat.ne_of_lt hbit
        · exact Nat.ne_of_gt hitp
        · exact Nat.ne_of_gt (hRm x hx)
        · exact Nat.ne_of_lt (hit2 x (by simp only [List.mem_cons, List.mem_append]; exact .inr (.inr (.inr hx))))
  · rintro m' R' s6 ⟨q', Rm, rfl, qa, qd, qz, hP, hRm, hil, n1, n2, n3, n4, n5⟩ F6
    walk_at "w"
    rw [List.take_of_length_le (by rw [hpl]; exact Nat.le_refl _)] at hP
    refine ⟨rfl, _, rvs1.set d.other.toNat q', b, r.vs.drop z, 0, Rm, F6, (ads_set hq3 qa qd).trans ha3, (refs_set hq3 qa).trans hr3, fun x hx => Nat.lt_trans hitit (hRm x hx), hitb, n1, n2, n3, n4, n5, ?_, ?_⟩
    · rw [hst]
      dsimp only
      refine RowsAre.set (hR1.sub ?_) ?_ _
      · intro x hx; simp [hx]
      · exact ⟨qz.trans hqI.1, hP⟩
    · rw [hst]
      exact hpd.sub fun x hx => by simp [hx]
end
section
variable {w : World} {A : Around} {E : Value → Shared → Prop} {G : Gd} {s : Shared} {R Rn : Led} {K : Frag} {j n : Nat} {L it rl fl tl : Addr} {m : Str → Option Value} {o : Obj} {fvs : List Value} {cr cf : Nat} {rvs : List RowV} {rcs : List RowC} {d : Deed} {t1 t2 t3 t4 : Tok}
theorem offTl {p : Addr} {op : Obj} {rvs' : List RowV} (htp : tl < p) (lay : Lay it rl fl (adsOf rvs) R Rn) (htl : it < tl) (htn : ∀ q ∈ Rn, q.1 ≠ tl) (ha : adsOf rvs' = adsOf rvs) : ∀ q ∈ (p, op) :: (rowsL w rvs' ++ bpY it rl fl o (refsOf rvs) fvs cr cf Rn R), q.1 ≠ tl := by
  intro q hq
  simp only [List.mem_cons, List.mem_append] at hq
  rcases hq with rfl | hq | rfl | rfl | rfl | hq | hq
  · exact Nat.ne_of_gt htp
  · have := rows_mem hq
    rw [ha] at this
    exact Nat.ne_of_lt (Nat.lt_trans (lay.top _ this).1 htl)
  · exact Nat.ne_of_lt htl
  · exact Nat.ne_of_lt (Nat.lt_trans lay.lfl.1 htl)
  · exact Nat.ne_of_lt (Nat.lt_trans lay.lrl.1 htl)
  · exact htn q hq
  · exact Nat.ne_of_lt (Nat.lt_trans (lay.lrl.2 q hq) (Nat.lt_trans lay.lrl.1 htl))
theorem bp_pop (B : BpS G w K A s L it rl fl tl m o fvs cr cf n j rvs rcs d t1 t2 t3 t4 Rn R) (h2 : d.kind = 2) :
    wpAny (model pw w) (A.deeper (bpEnv L)) (execs (ifBody bpIf2) (bpEnv L)) (bpPost G w L it rl fl o fvs cr cf rvs rcs d t2 t3 Rn R) (fun _ _ => False) s := by
  obtain ⟨T, TL, F, lay, htl, htn, hR, g, hn, ok, hr, m1, m2, m3, m4, m5, m6, m7⟩ := B
  have hone := ok.one
  have hi : d.one.toNat < rcs.length := by rw [g.len]; (first | lia | omega)
  obtain ⟨r, hri, hrI⟩ := hR.at hi
  have hrl := hrI.2.length
  rw [List.length_map] at hrl
  have hrn := g.le (getR_mem hi).1
  have hother := ok.other
  have hk : d.other.toNat < rcs.length := by rw [g.len]; (first | lia | omega)
  have hik : d.one.toNat ≠ d.other.toNat := by have := ok.ne; (first | lia | omega)
  obtain ⟨q, hqi, hqI⟩ := hR.at hk
  have hql := hqI.2.length
  rw [List.length_map] at hql
  have hqn := g.le (getR_mem hk).1
  refine wpAny_execs_cons ?_
  walk_at "w"
  refine gmApp (vs := []) (c := 0) F (by walk_at "mem") ?_
  walk_at "w"
  refine itL (l := rl) (xs := refsOf rvs) (c := cr) F (by walk_at "mem") hone.1 (by walk_at "o") (refs_get hri) ?_ (by with_unfolding_all rfl)
  refine gmF T F (row_in hri).1 (row_in hri).2 T.popF (by decide) (by kernel_rfl) ?_
  (try dsimp only)
  refine cwF (G := G) T.fPop ?_ (by with_unfolding_all rfl)
  walk_at "w"
  refine ⟨F.keep, ?_⟩
  refine popF (j := j + 7) T F hri lay.nd (lay.outC htl lay.out) (by walk_at "o") hr ?_ ?_
  · intro hv0 p s1 u1 u2 hp hLp F1
    walk_at "w"
    have hg0 : (getR rcs d.one.toNat).cs = [] := by
      rw [hv0] at hrl
      exact List.eq_nil_of_length_eq_zero hrl.symm
    have hst : stepC d rcs = ([0], rcs) := by
      unfold stepC
      dsimp only
      rw [if_neg (by walk_at "o"), if_pos h2, hg0]
      rfl
    have htp : tl < p := hp (tl, listO [] 0) (by walk_at "mem")
    refine appL (vs := []) (c := 0) (R := (p, tupO [.str "" u1, .str "" u2]) :: (rowsL w rvs ++ bpY it rl fl o (refsOf rvs) fvs cr cf Rn R)) (F1.sub (by walk_at "sub")) ?_ (by simp) ?_
    · exact offTl htp lay htl htn rfl
    intro s2 F2
    rw [List.nil_append] at F2
    walk_at "w"
    rename_i u3 s3 F3 u4 s4 F4 tp s5 htp5 hLtp5 F5 ll s6 hll hLll F6
    refine neL_f (k := j + 8) (a := tl) (b := ll) (xs := [.ref p]) (ca := 0 + 1) (ys := [.ref tp]) (cb := 0) (ds := [pcD (pcOf 0)]) (es := [pcD (pcOf 0)]) F6 (by walk_at "mem") (by walk_at "mem") (.cons (IsPc.dat ⟨p, u1, u2, rfl, by rw [pcOf_zero]; walk_at "mem"⟩) .nil) (.cons (IsPc.dat ⟨tp, u3, u4, rfl, by rw [pcOf_zero]; walk_at "mem"⟩) .nil) (by simp [pcOk]) (by simp [pcOk]) hr rfl ?_
    walk_at "w"
    rw [if_neg (by decide)]
    walk_at "w"
    refine ⟨rfl, _, rvs, tl, [.ref p], 0 + 1, [(p, tupO [.str "" u1, .str "" u2])], F6.sub ?_, rfl, rfl, ?_, htl, by with_unfolding_all assumption, by with_unfolding_all assumption, by with_unfolding_all assumption, by with_unfolding_all assumption, by with_unfolding_all assumption, ?_, ?_⟩
    · walk_at "sub"
    · intro x hx
      simp only [List.mem_singleton] at hx
      subst hx
      exact Nat.lt_trans htl htp
    · rw [hst]
      exact hR.sub fun x hx => by simp [hx]
    · rw [hst]
      exact .cons ⟨p, u1, u2, rfl, by simp [pcOf_zero]⟩ .nil
  · intro xs x hvx s1 F1
    walk_at "w"
    have ha3 : adsOf (rvs.set d.one.toNat { r with vs := xs, n := r.n + 1 }) = adsOf rvs := ads_set hri rfl rfl
    have hr3 : refsOf (rvs.set d.one.toNat { r with vs := xs, n := r.n + 1 }) = refsOf rvs := refs_set hri rfl
    have hq3 : (rvs.set d.one.toNat { r with vs := xs, n := r.n + 1 })[d.other.toNat]? = some q := by rw [List.getElem?_set_ne hik]; exact hqi
    have hrP := hrI.2
    rw [hvx] at hrP
    obtain ⟨cs0, c, hcs⟩ : ∃ cs0 c, (getR rcs d.one.toNat).cs = cs0 ++ [c] := by
      rcases List.eq_nil_or_concat (getR rcs d.one.toNat).cs with e | ⟨cs0, c, e⟩
      · rw [e, hvx] at hrl
        simp at hrl
      · exact ⟨cs0, c, by rw [e, List.concat_eq_append]⟩
    rw [hcs, List.map_append] at hrP
    have hxl : xs.length = cs0.length := by
      have := hrP.length
      simp at this
      exact this
    have hP1 : Pcs Rn xs (cs0.map pcOf) := by
      have := hrP.take xs.length
      rw [List.take_left, List.take_left' (by rw [List.length_map, hxl])] at this
      exact this
    have hP2 : IsPc Rn x (pcOf c) := by
      have := hrP.drop xs.length
      rw [List.drop_left, List.drop_left' (by rw [List.length_map, hxl])] at this
      cases this with
      | cons a _ => exact a
    have hc1 : 1 ≤ c := (g.cs _ (getR_mem hi).1 c (by rw [hcs]; simp)).1
    have hst : stepC d rcs = ([c], (rcs.set d.one.toNat ⟨(getR rcs d.one.toNat).sz, cs0⟩).set d.other.toNat ⟨(getR rcs d.other.toNat).sz, (getR rcs d.other.toNat).cs ++ [c]⟩) := by
      unfold stepC
      dsimp only
      rw [if_neg (by walk_at "o"), if_pos h2, hcs]
      simp
    have hR1 : RowsAre Rn (rvs.set d.one.toNat { r with vs := xs, n := r.n + 1 }) (rcs.set d.one.toNat ⟨(getR rcs d.one.toNat).sz, cs0⟩) := by
      refine RowsAre.set hR ?_ _
      exact ⟨hrI.1, hP1⟩
    generalize hv1 : rvs.set d.one.toNat { r with vs := xs, n := r.n + 1 } = rvs1 at *
    obtain ⟨tx, u1, u2, rfl, htx⟩ := hP2
    refine appL (vs := []) (c := 0) (R := rowsL w rvs1 ++ bpY it rl fl o (refsOf rvs) fvs cr cf Rn R) (F1.sub (by walk_at "sub")) (fun z hz => offTl (p := tl + 1) (op := o) (Nat.lt_succ_self _) lay htl htn ha3 z (List.mem_cons_of_mem _ hz)) (by simp) ?_
    intro s2 F2
    rw [List.nil_append] at F2
    walk_at "w"
    rename_i u3 s3 F3 u4 s4 F4 tp s5 htp5 hLtp5 F5 ll s6 hll hLll F6
    refine neL_t (k := j + 8) (a := tl) (b := ll) (xs := [.ref tx]) (ca := 0 + 1) (ys := [.ref tp]) (cb := 0) (ds := [pcD (pcOf c)]) (es := [pcD (pcOf 0)]) F6 (by walk_at "mem") (by walk_at "mem") (.cons (IsPc.dat ⟨tx, u1, u2, rfl, by walk_at "mem"⟩) .nil) (.cons (IsPc.dat ⟨tp, u3, u4, rfl, by rw [pcOf_zero]; walk_at "mem"⟩) .nil) (by simp [pcOk]) (by simp [pcOk]) hr ?_ ?_
    · intro e
      simp only [List.cons.injEq, and_true] at e
      have := pcD_inj e
      (first | lia | omega)
    walk_at "w"
    rw [if_pos (by rfl)]
    walk_at "w"
    refine itL (l := rl) (xs := refsOf rvs) (c := cr) F6 (by walk_at "mem") hother.1 (by walk_at "o") (refs_get hqi) ?_ (by with_unfolding_all rfl)
    have F7 : Fm G s6 L _ (rowsL w rvs1 ++ ((tl, listO [.ref tx] (0 + 1)) :: bpY it rl fl o (refsOf rvs) fvs cr cf Rn R)) := F6.sub (by walk_at "sub")
    refine gmF T F7 (row_in hq3).1 (row_in hq3).2 T.pushF (by decide) (by kernel_rfl) ?_
    (try dsimp only)
    refine cwF (G := G) T.fPush ?_ (by with_unfolding_all rfl)
    clear F6
    walk_at "w"
    rename_i u8 s8 F8
    refine itL (l := tl) (xs := [.ref tx]) (c := 0 + 1) F8 (by walk_at "mem") (by walk_at "o") (by walk_at "o") (by rfl) ?_ (by with_unfolding_all rfl)
    walk_at "w"
    rename_i u9 s9 F9
    refine itT (l := tx) (xs := [.str (pcOf c).1 u1, .str (pcOf c).2 u2]) F9 (by walk_at "mem") (by walk_at "o") (by walk_at "o") (by rfl) ?_ (by with_unfolding_all rfl)
    walk_at "w"
    rename_i u10 s10 F10
    refine itL (l := tl) (xs := [.ref tx]) (c := 0 + 1) F10 (by walk_at "mem") (by walk_at "o") (by walk_at "o") (by rfl) ?_ (by with_unfolding_all rfl)
    walk_at "w"
    rename_i u11 s11 F11
    refine itT (l := tx) (xs := [.str (pcOf c).1 u1, .str (pcOf c).2 u2]) F11 (by walk_at "mem") (by walk_at "o") (by walk_at "o") (by rfl) ?_ (by with_unfolding_all rfl)
    walk_at "w"
    refine ⟨F11.keep, ?_⟩
    refine pushF (j := j + 9) T F11 hq3 (by rw [ha3]; exact lay.nd) (by rw [ha3]; exact lay.outC htl lay.out) (by walk_at "o") hr ?_
    intro p2 s12 hp2 hLp2 F12
    have hitp : it < p2 := hp2 (it, o) (by walk_at "mem")
    walk_at "w"
    refine ⟨rfl, _, rvs1.set d.other.toNat { q with vs := q.vs ++ [.ref p2], n := q.n + 1 }, tl, [.ref tx], 0 + 1, [(p2, tupO [.str (pcOf c).1 u1, .str (pcOf c).2 u2])], F12.sub ?_, by rw [ads_set hq3 (by rfl) (by rfl)]; exact ha3, by rw [refs_set hq3 (by rfl)]; exact hr3, ?_, htl, by with_unfolding_all assumption, by with_unfolding_all assumption, by with_unfolding_all assumption, by with_unfolding_all assumption, by with_unfolding_all assumption, ?_, ?_⟩
    · walk_at "sub"
    · intro z hz
      simp only [List.mem_singleton] at hz
      subst hz
      exact hitp
    · rw [hst]
      dsimp only
      refine RowsAre.set (hR1.sub ?_) ?_ _
      · intro z hz; simp [hz]
      · refine ⟨hqI.1, ?_⟩
        dsimp only
        rw [List.map_append]
        exact Pcs.snoc (hqI.2.sub fun z hz => by simp [hz]) ⟨p2, u1, u2, rfl, by simp⟩
    · rw [hst]
      exact .cons ⟨tx, u1, u2, rfl, by simp [htx]⟩ .nil
end
section
variable {w : World} {A : Around} {E : Value → Shared → Prop} {G : Gd} {s : Shared} {R Rn : Led} {K : Frag} {j n : Nat} {L it rl fl tl : Addr} {m : Str → Option Value} {o : Obj} {fvs : List Value} {cr cf : Nat} {rvs : List RowV} {rcs : List RowC} {d : Deed} {t1 t2 t3 t4 : Tok}
theorem BpS.eq {s' : Shared} (B : BpS G w K A s L it rl fl tl m o fvs cr cf n j rvs rcs d t1 t2 t3 t4 Rn R) (F : Fm G s' L m (rowsL w rvs ++ ((tl, listO [] 0) :: bpY it rl fl o (refsOf rvs) fvs cr cf Rn R))) : BpS G w K A s' L it rl fl tl m o fvs cr cf n j rvs rcs d t1 t2 t3 t4 Rn R :=
  ⟨B.T, B.TL, F, B.lay, B.htl, B.htn, B.hR, B.g, B.hn, B.ok, B.hr, B.m1, B.m2, B.m3, B.m4, B.m5, B.m6, B.m7⟩
theorem bp_if (B : BpS G w K A s L it rl fl tl m o fvs cr cf n j rvs rcs d t1 t2 t3 t4 Rn R) :
    wpAny (model pw w) (A.deeper (bpEnv L)) (exec bpIf (bpEnv L)) (bpPost G w L it rl fl o fvs cr cf rvs rcs d t2 t3 Rn R) (fun _ _ => False) s := by
  have F := B.F
  have m6 := B.m6
  have hk := B.ok.kind
  refine wpAny_If ?_
  walk_at "w"
  rename_i u1 s1 F1
  by_cases h2 : d.kind < 2
  · rw [if_pos (by simp; (first | lia | omega))]
    exact bp_push (B.eq F1) h2
  rw [if_neg (by simp; (first | lia | omega))]
  walk_at "w"
  rename_i u2 s2 F2
  by_cases h3 : d.kind = 2
  · rw [if_pos (by simp; (first | lia | omega))]
    exact wpAny_mono (bp_pop (B.eq F2) h3) (fun f s' h => by obtain ⟨rfl, h⟩ := h; exact wpAny_execs_nil ⟨rfl, h⟩) fun _ _ e => e
  rw [if_neg (by simp; (first | lia | omega))]
  walk_at "w"
  rename_i u3 s3 F3
  by_cases h4 : d.kind = 3
  · rw [if_pos (by simp; (first | lia | omega))]
    exact wpAny_mono (bp_move (B.eq F3) h4) (fun f s' h => by obtain ⟨rfl, h⟩ := h; exact wpAny_execs_nil (wpAny_execs_nil ⟨rfl, h⟩)) fun _ _ e => e
  rw [if_neg (by simp; (first | lia | omega))]
  walk_at "w"
  rename_i u4 s4 F4
  by_cases h5 : d.kind = 4
  · rw [if_pos (by simp; (first | lia | omega))]
    exact wpAny_mono (bp_merge (B.eq F4) h5) (fun f s' h => by obtain ⟨rfl, h⟩ := h; exact wpAny_execs_nil (wpAny_execs_nil (wpAny_execs_nil ⟨rfl, h⟩))) fun _ _ e => e
  rw [if_neg (by simp; (first | lia | omega))]
  exact wpAny_mono (bp_reset (B.eq F4) (by walk_at "o")) (fun f s' h => by obtain ⟨rfl, h⟩ := h; exact wpAny_execs_nil (wpAny_execs_nil (wpAny_execs_nil ⟨rfl, h⟩))) fun _ _ e => e
end
section
variable {w : World} {A : Around} {E : Value → Shared → Prop} {G : Gd} {s : Shared} {R Rn : Led} {K : Frag} {j n : Nat} {L it rl fl tl : Addr} {m : Str → Option Value} {o : Obj} {fvs : List Value} {cr cf : Nat} {rvs : List RowV} {rcs : List RowC} {d : Deed} {t1 t2 t3 t4 : Tok}
theorem seen_F {a dd : Addr} {vs : List Value} {nn : Nat} {sz : Int} {k t : Tok} {ps : List Pc} {Q : Value → Shared → Prop} (T : Tp G w K) (TL : Tl G) (F : Fm G s L m R) (ha : (a, accO aC dd vs nn) ∈ R) (hd : (dd, dicO w sz k t) ∈ R) (hp : Pcs R vs ps) (hsm : Small ps) (hz : 0 ≤ sz ∧ sz ≤ 1000) (hl : ps.length ≤ 1000) (hr : Room A (j + 9))
    (h : ∀ p b s' t1 t2 t3 t4, (∀ q ∈ R, q.1 < b) → L < b → b < p → Fm G s' L m ((p, tupO [.ref b, .int ps.length t1, .int (sz + lenPs ps) t2, .str (txtPs ps) t3, .str (shade (whiteB sz ps)) t4]) :: (b, listO vs 0) :: R) → Q (.ref p) s') :
    wpAny (model pw w) A (call (.ref 168) [.ref a]) Q E s := by
  obtain ⟨oL, hmL, SL, back⟩ := F.st
  refine seen_spec T TL SL (List.mem_cons_of_mem _ ha) (List.mem_cons_of_mem _ hd) (hp.sub fun q hq => List.mem_cons_of_mem _ hq) hsm hz hl hr ?_
  intro p b s' t1 t2 t3 t4 hb hbp S'
  have hLb : L < b := hb (L, oL) (List.mem_cons_self ..)
  refine h p b s' t1 t2 t3 t4 (fun q hq => hb q (List.mem_cons_of_mem _ hq)) hLb hbp (back (S'.sub (by walk_at "sub")) ?_)
  intro q hq
  simp only [List.mem_cons] at hq
  rcases hq with rfl | rfl | hq
  · exact Nat.ne_of_gt (Nat.lt_trans hLb hbp)
  · exact Nat.ne_of_gt hLb
  · exact F.off q hq
theorem seen_dat {p b : Addr} {rv : RowV} {rc : RowC} {c : Nat} {t1 t2 t3 t4 : Tok} (hb : (b, listO rv.vs c) ∈ R) (hp : (p, tupO [.ref b, .int ((rc.cs.map pcOf).length : Nat) t1, .int (rv.sz + lenPs (rc.cs.map pcOf)) t2, .str (txtPs (rc.cs.map pcOf)) t3, .str (shade (whiteB rv.sz (rc.cs.map pcOf))) t4]) ∈ R) (h : RowIs R rv rc) : DatIn R (.ref p) (seenD rc) := by
  unfold seenD
  rw [← h.1]
  rw [List.length_map] at hp
  refine .tuple hp (.cons (.list hb ?_) (.cons (.int _ _) (.cons (.int _ _) (.cons (.str _ _) (.cons (.str _ _) .nil)))))
  have := h.2.dat
  rw [List.map_map] at this
  exact this
/-- the loop's state -/
def BpI (w : World) (it rl fl : Addr) (ads : List Addr) (refs : List Value) (cr : Nat) (R : Led) (rcs : List RowC) (film : List Dat) (m' : Str → Option Value) (R' : Led) : Prop :=
  ∃ rvs fvs cf Rn, R' = rowsL w rvs ++ ((fl, listO fvs cf) :: (rl, listO refs cr) :: (Rn ++ R)) ∧ adsOf rvs = ads ∧ refsOf rvs = refs ∧ (∀ q ∈ Rn, it < q.1) ∧ RowsAre Rn rvs rcs ∧ DatAll Rn fvs film ∧ m' "rows" = some (.ref rl) ∧ m' "film" = some (.ref fl)
def bpTail : List Stmt := (forBody (nthS (fBody (topS 16)) 2)).drop 2
theorem bp_tail {film : List Dat} (T : Tp G w K) (TL : Tl G) (lay : Lay it rl fl (adsOf rvs) R Rn) (g : Good n rcs) (hn : n ≤ 100) (ok : DeedOk d) (hr : Room (A.deeper (bpEnv L)) (j + 12)) (hD : DatAll Rn fvs film) (hfl : fvs.length ≤ 1000)
    (P : PostB G w L it rl fl (bpY it rl fl o (refsOf rvs) fvs cr cf Rn R) Rn d rcs rvs t2 t3 s) :
    wpAny (model pw w) (A.deeper (bpEnv L)) (execs bpTail (bpEnv L)) (fun f s' => f = .next ∧ ∃ m' R', BpI w it rl fl (adsOf rvs) (refsOf rvs) cr R (stepC d rcs).2 (film ++ [frameD d (stepC d rcs)]) m' R' ∧ Fm G s' L m' ((it, o) :: R') ∧ ∀ p ∈ R', p.1 ≠ it) (fun _ _ => False) s := by
  obtain ⟨m', rvs', tl, tvs, ct, Rm, F, ha, hrf, hRm, htl, n1, n2, n3, n4, n5, hR', hT⟩ := P
  obtain ⟨g', hc'⟩ := g.step ok
  have hone := ok.one
  have hother := ok.other
  have hi : d.one.toNat < (stepC d rcs).2.length := by rw [g'.len]; (first | lia | omega)
  have hk : d.other.toNat < (stepC d rcs).2.length := by rw [g'.len]; (first | lia | omega)
  obtain ⟨r, hri, hrI⟩ := hR'.at hi
  obtain ⟨q, hqi, hqI⟩ := hR'.at hk
  have hrn := g'.le (getR_mem hi).1
  have hqn := g'.le (getR_mem hk).1
  have hrs := g'.sz _ (getR_mem hi).1
  have hqs := g'.sz _ (getR_mem hk).1
  have hrc := g'.cs _ (getR_mem hi).1
  have hqc := g'.cs _ (getR_mem hk).1
  have subN : ∀ x ∈ Rm ++ Rn, x ∈ rowsL w rvs' ++ ((tl, listO tvs ct) :: (Rm ++ bpY it rl fl o (refsOf rvs) fvs cr cf Rn R)) := by walk_at "sub"
  refine wpAny_execs_cons ?_
  walk_at "w"
  refine gmApp (vs := fvs) (c := cf) F (by walk_at "mem") ?_
  walk_at "w"
  refine cwF (G := G) TL.fSeen ?_ (by with_unfolding_all rfl)
  walk_at "w"
  refine itL (l := rl) (xs := refsOf rvs) (c := cr) F (by walk_at "mem") hone.1 (by walk_at "o") (by rw [← hrf]; exact refs_get hri) ?_ (by with_unfolding_all rfl)
  walk_at "w"
  refine ⟨F.keep, ?_⟩
  refine seen_F (j := j + 3) (ps := (getR (stepC d rcs).2 d.one.toNat).cs.map pcOf) T TL F (row_in hri).1 (row_in hri).2 (hrI.2.sub subN) (small_of fun c hc => (hrc c hc).2) (by rw [hrI.1]; (first | lia | omega)) (by rw [List.length_map]; (first | lia | omega)) hr ?_
  intro p1 b1 s1 u1 u2 u3 u4 hb1 hLb1 hbp1 F1
  walk_at "w"
  refine cwF (G := G) TL.fSeen ?_ (by with_unfolding_all rfl)
  walk_at "w"
  refine itL (l := rl) (xs := refsOf rvs) (c := cr) F1 (by walk_at "mem") hother.1 (by walk_at "o") (by rw [← hrf]; exact refs_get hqi) ?_ (by with_unfolding_all rfl)
  walk_at "w"
  refine ⟨F1.keep, ?_⟩
  refine seen_F (j := j + 3) (ps := (getR (stepC d rcs).2 d.other.toNat).cs.map pcOf) T TL F1 (List.mem_cons_of_mem _ (List.mem_cons_of_mem _ (row_in hqi).1)) (List.mem_cons_of_mem _ (List.mem_cons_of_mem _ (row_in hqi).2)) (hqI.2.sub fun x hx => List.mem_cons_of_mem _ (List.mem_cons_of_mem _ (subN x hx))) (small_of fun c hc => (hqc c hc).2) (by rw [hqI.1]; (first | lia | omega)) (by rw [List.length_map]; (first | lia | omega)) hr ?_
  intro p2 b2 s2 u5 u6 u7 u8 hb2 hLb2 hbp2 F2
  walk_at "w"
  rename_i tp s3 htp hLtp F3
  have hit1 : it < b1 := hb1 (it, o) (by walk_at "mem")
  have hit2 : it < b2 := hb2 (it, o) (by walk_at "mem")
  have hit3 : it < tp := htp (it, o) (by walk_at "mem")
  generalize ho1 : tupO [.ref b1, .int ((getR (stepC d rcs).2 d.one.toNat).cs.map pcOf).length u1, .int (r.sz + lenPs ((getR (stepC d rcs).2 d.one.toNat).cs.map pcOf)) u2, .str (txtPs ((getR (stepC d rcs).2 d.one.toNat).cs.map pcOf)) u3, .str (shade (whiteB r.sz ((getR (stepC d rcs).2 d.one.toNat).cs.map pcOf))) u4] = o1 at F3
  generalize ho2 : tupO [.ref b2, .int ((getR (stepC d rcs).2 d.other.toNat).cs.map pcOf).length u5, .int (q.sz + lenPs ((getR (stepC d rcs).2 d.other.toNat).cs.map pcOf)) u6, .str (txtPs ((getR (stepC d rcs).2 d.other.toNat).cs.map pcOf)) u7, .str (shade (whiteB q.sz ((getR (stepC d rcs).2 d.other.toNat).cs.map pcOf))) u8] = o2 at F3
  refine appL (l := fl) (vs := fvs) (c := cf) (R := rowsL w rvs' ++ ((it, o) :: (rl, listO (refsOf rvs) cr) :: ((tp, tupO [.ref tl, .ref p1, .ref p2]) :: (p2, o2) :: (b2, listO q.vs 0) :: (p1, o1) :: (b1, listO r.vs 0) :: (tl, listO tvs ct) :: (Rm ++ Rn)) ++ R)) (F3.sub (by walk_at "sub")) ?_ (by walk_at "o") ?_
  · intro x hx
    simp only [List.mem_cons, List.mem_append, List.cons_append, List.append_assoc] at hx
    have hf := lay.lfl.1
    rcases hx with hx | rfl | rfl | rfl | rfl | rfl | rfl | rfl | rfl | hx | hx | hx
    · have := rows_mem hx
      rw [ha] at this
      exact (lay.top _ this).2.2
    · exact Nat.ne_of_gt hf
    · exact lay.ne
    · exact Nat.ne_of_gt (Nat.lt_trans hf hit3)
    · exact Nat.ne_of_gt (Nat.lt_trans hf (Nat.lt_trans hit2 hbp2))
    · exact Nat.ne_of_gt (Nat.lt_trans hf hit2)
    · exact Nat.ne_of_gt (Nat.lt_trans hf (Nat.lt_trans hit1 hbp1))
    · exact Nat.ne_of_gt (Nat.lt_trans hf hit1)
    · exact Nat.ne_of_gt (Nat.lt_trans hf htl)
    · exact Nat.ne_of_gt (Nat.lt_trans hf (hRm x hx))
    · exact Nat.ne_of_gt (Nat.lt_trans hf (lay.hi x hx))
    · exact Nat.ne_of_lt (lay.lfl.2 x hx)
  intro s4 F4
  walk_at "w"
  have hi' : ∀ x ∈ (tp, tupO [.ref tl, .ref p1, .ref p2]) :: (p2, o2) :: (b2, listO q.vs 0) :: (p1, o1) :: (b1, listO r.vs 0) :: (tl, listO tvs ct) :: (Rm ++ Rn), it < x.1 := by
    intro x hx
    simp only [List.mem_cons, List.mem_append] at hx
    rcases hx with rfl | rfl | rfl | rfl | rfl | rfl | hx | hx
    · exact hit3
    · exact Nat.lt_trans hit2 hbp2
    · exact hit2
    · exact Nat.lt_trans hit1 hbp1
    · exact hit1
    · exact htl
    · exact hRm x hx
    · exact lay.hi x hx
  refine ⟨rfl, _, _, ⟨rvs', fvs ++ [.ref tp], cf + 1, (tp, tupO [.ref tl, .ref p1, .ref p2]) :: (p2, o2) :: (b2, listO q.vs 0) :: (p1, o1) :: (b1, listO r.vs 0) :: (tl, listO tvs ct) :: (Rm ++ Rn), rfl, ha, hrf, hi', hR'.sub (by walk_at "sub"), DatAll.append (DatAll.mono (by walk_at "sub") hD) (.cons ?_ .nil), n2, n3⟩, F4.sub (by walk_at "sub"), ?_⟩
  · refine .tuple (List.mem_cons_self ..) (.cons (.list (n := ct) (vs := tvs) ?_ ?_) (.cons ?_ (.cons ?_ .nil)))
    · show (tl, listO tvs ct) ∈ _
      walk_at "mem"
    · have := (hT.sub (R' := (tp, tupO [.ref tl, .ref p1, .ref p2]) :: (p2, o2) :: (b2, listO q.vs 0) :: (p1, o1) :: (b1, listO r.vs 0) :: (tl, listO tvs ct) :: (Rm ++ Rn)) (by walk_at "sub")).dat
      rw [List.map_map] at this
      exact this
    · refine seen_dat (b := b1) (rv := r) (c := 0) (t1 := u1) (t2 := u2) (t3 := u3) (t4 := u4) (by walk_at "mem") (by rw [ho1]; walk_at "mem") (hrI.sub (by walk_at "sub"))
    · refine seen_dat (b := b2) (rv := q) (c := 0) (t1 := u5) (t2 := u6) (t3 := u7) (t4 := u8) (by walk_at "mem") (by rw [ho2]; walk_at "mem") (hqI.sub (by walk_at "sub"))
  · intro x hx
    rcases List.mem_append.mp hx with hx | hx
    · have := rows_mem hx
      rw [ha] at this
      exact Nat.ne_of_lt (lay.top _ this).1
    · rcases List.mem_cons.mp hx with rfl | hx
      · exact Nat.ne_of_lt lay.lfl.1
      rcases List.mem_cons.mp hx with rfl | hx
      · exact Nat.ne_of_lt lay.lrl.1
      rcases List.mem_append.mp hx with hx | hx
      · exact Nat.ne_of_gt (hi' x hx)
      · exact Nat.ne_of_lt (Nat.lt_trans (lay.lrl.2 x hx) lay.lrl.1)
end
section
variable {w : World} {A : Around} {E : Value → Shared → Prop} {G : Gd} {s : Shared} {R Rn : Led} {K : Frag} {j n : Nat} {L it rl fl tl : Addr} {m : Str → Option Value} {o : Obj} {fvs : List Value} {cr cf : Nat} {rvs : List RowV} {rcs : List RowC} {d : Deed} {t1 t2 t3 t4 : Tok}
theorem new_F {i : Int} {u : Tok} {Q : Value → Shared → Prop} (T : Tp G w K) (F : Fm G s L m R) (hr : Room A (j + 6))
    (h : ∀ a d s' n' k', (∀ p ∈ R, p.1 < d) → L < d → d < a → Fm G s' L m ((a, accO aC d [] n') :: (d, dicO w i k' u) :: R) → Q (.ref a) s') :
    wpAny (model pw w) A (call (.ref aC) [.int i u]) Q E s := by
  obtain ⟨oL, hmL, SL, back⟩ := F.st
  refine new_spec T SL hr ?_
  intro a d s' n' k' hd hda S'
  have hLd : L < d := hd (L, oL) (List.mem_cons_self ..)
  refine h a d s' n' k' (fun q hq => hd q (List.mem_cons_of_mem _ hq)) hLd hda (back (S'.sub (by walk_at "sub")) ?_)
  intro q hq
  simp only [List.mem_cons] at hq
  rcases hq with rfl | rfl | hq
  · exact Nat.ne_of_gt (Nat.lt_trans hLd hda)
  · exact Nat.ne_of_gt hLd
  · exact F.off q hq
theorem DeedsAre.getN {R : Led} {vs : List Value} {ds : List Deed} (h : DeedsAre R vs ds) (i : Nat) (v : Value) (hv : vs[i]? = some v) : ∃ d T t1 t2 t3 t4, ds[i]? = some d ∧ v = .ref T ∧ (T, tupO [.int d.kind t1, .int d.one t2, .int d.other t3, .int d.say t4]) ∈ R := by
  have hi : i < ds.length := by rw [← h.1]; exact (List.getElem?_eq_some_iff.mp hv).1
  obtain ⟨T, t1, t2, t3, t4, e, hm⟩ := h.2 i ds[i] (List.getElem?_eq_getElem hi)
  rw [hv] at e
  cases e
  exact ⟨ds[i], T, t1, t2, t3, t4, List.getElem?_eq_getElem hi, rfl, hm⟩
theorem DeedsAre.refs {R : Led} {vs : List Value} {ds : List Deed} (h : DeedsAre R vs ds) : ∀ v ∈ vs, ∃ T, v = Value.ref T := by
  intro v hv
  obtain ⟨i, hi⟩ := List.getElem?_of_mem hv
  obtain ⟨d, T, _, _, _, _, _, e, _⟩ := h.getN i v hi
  exact ⟨T, e⟩
theorem Lay.with {Rn' : Led} {ads : List Addr} (x : Lay it rl fl ads R Rn) (h : ∀ q ∈ Rn', it < q.1) : Lay it rl fl ads R Rn' := ⟨x.nd, x.top, x.lo, x.lrl, x.lfl, x.ne, h⟩
/-- from the loop on -/
theorem bp_rest {body : List Stmt} {Q : Value → Shared → Prop} {dl : Addr} {dvs : List Value} {ds : List Deed} {cd : Nat} (hb : body = (fBody (topS 16)).drop 2) (T : Tp G w K) (TL : Tl G)
    (F : Fm G s L m (rowsL w rvs ++ ((fl, listO [] 0) :: (rl, listO (refsOf rvs) cr) :: R))) (nd : (adsOf rvs).Nodup) (lo : ∀ x ∈ adsOf rvs, (x ≠ rl ∧ x ≠ fl) ∧ ∀ q ∈ R, q.1 < x) (hrl : ∀ q ∈ R, q.1 < rl) (hfl : ∀ q ∈ R, q.1 < fl) (hne : rl ≠ fl)
    (hR : RowsAre [] rvs rcs) (g : Good 0 rcs) (hdl : (dl, listO dvs cd) ∈ R) (hds : DeedsAre R dvs ds) (hok : ∀ d ∈ ds, DeedOk d) (hz : ds.length ≤ 30) (hr : Room (A.deeper (bpEnv L)) (j + 12)) (m1 : m "rows" = some (.ref rl)) (m2 : m "film" = some (.ref fl)) (m3 : m "deeds" = some (.ref dl))
    (h : ∀ s' fvs c Rn, (∀ q ∈ Rn, fl < q.1) → St G s' ((fl, listO fvs c) :: (Rn ++ R)) → DatAll Rn fvs (filmC ds rcs) → Q (.ref fl) s') :
    wpAny (model pw w) (A.deeper (bpEnv L)) (execs body (bpEnv L)) (fun fl s'' => Q (match fl with | .ret v => v | _ => .none) s'') (fun _ _ => False) s := by
  subst hb
  refine wpAny_execs_cons ?_
  refine wpAny_For ?_ (by intro _; with_unfolding_all rfl)
  walk_at "w"
  refine iterL (vs := dvs) (c := cd) F (by walk_at "mem") ?_
  intro it s1 hit hLit F1
  have layH : ∀ Rn, (∀ q ∈ Rn, it < q.1) → Lay it rl fl (adsOf rvs) R Rn := by
    intro Rn hRn
    refine ⟨nd, fun x hx => ⟨?_, (lo x hx).1⟩, fun x hx => (lo x hx).2, ⟨hit (rl, listO (refsOf rvs) cr) (by walk_at "mem"), hrl⟩, ⟨hit (fl, listO [] 0) (by walk_at "mem"), hfl⟩, hne, hRn⟩
    unfold adsOf at hx
    obtain ⟨r, hr, hx⟩ := List.mem_flatMap.mp hx
    obtain ⟨i, hi⟩ := List.getElem?_of_mem hr
    have h1 := hit _ (row_in hi).1
    have h2 := hit _ (row_in hi).2
    simp only [List.mem_cons, List.not_mem_nil, or_false] at hx
    rcases hx with rfl | rfl
    · exact h1
    · exact h2
  refine forL (vs := dvs) (L := L) hr.handled (fun i m' R' => BpI w it rl fl (adsOf rvs) (refsOf rvs) cr R (runC (ds.take i) rcs) (filmC (ds.take i) rcs) m' R') F1 (fun q hq => Nat.ne_of_lt (hit q hq)) ⟨rvs, [], 0, [], rfl, rfl, rfl, by simp, hR, .nil, m1, m2⟩ ?_ (.inr ⟨⟨_, _, _, rfl⟩, hds.refs⟩) ?_ ?_
  · rintro i m' R' ⟨rvs', fvs, cf, Rn, rfl, _⟩
    exact ⟨cd, by walk_at "mem"⟩
  · rintro i v o m' R' s2 hv ⟨rvs', fvs, cf, Rn, rfl, ha, hrf, hRn, hRA, hDA, n1, n2⟩ F2 off2
    obtain ⟨d, Tt, t1, t2, t3, t4, hd, rfl, hTt⟩ := hds.getN i v hv
    have hdm := List.mem_of_getElem? hd
    have hi : i < ds.length := (List.getElem?_eq_some_iff.mp hd).1
    have gi := Good.run (ds.take i) g fun e he => hok e (List.mem_of_mem_take he)
    rw [List.length_take, Nat.min_eq_left (by walk_at "o"), Nat.zero_add] at gi
    refine uT (t := Tt) F2 (by walk_at "mem") hr.handled (by with_unfolding_all rfl) (by with_unfolding_all rfl) ?_
    intro s3 F3
    iterate 20 (walk_at "w1"; (try dsimp only [List.cons_append, List.nil_append]))
    rename_i s4 F4 s5 F5 s6 F6 s7 F7 tl s8 htl hLtl F8 s9 F9
    have hittl : it < tl := htl (it, o) (List.mem_cons_self ..)
    have layi : Lay it rl fl (adsOf rvs') R Rn := by rw [ha]; exact layH Rn hRn
    have hfv : fvs.length ≤ 30 := by rw [hDA.length, filmC_length, List.length_take]; (first | lia | omega)
    refine wpAny_mono (bp_if (tl := tl) (rvs := rvs') (rcs := runC (ds.take i) rcs) (fvs := fvs) (cf := cf) (cr := cr) (Rn := Rn) (R := R) (it := it) (rl := rl) (fl := fl) (o := o) (d := d) (t1 := t1) (t2 := t2) (t3 := t3) (t4 := t4) (n := i) (j := j) (K := K) ⟨T, TL, F9.sub (by rw [hrf]; walk_at "sub"), layi, hittl, fun q hq => Nat.ne_of_lt (htl q (by simp [hq])), hRA, gi, by (first | lia | omega), hok d hdm, hr, by with_unfolding_all rfl, by with_unfolding_all assumption, by with_unfolding_all assumption, by with_unfolding_all rfl, by with_unfolding_all rfl, by with_unfolding_all rfl, by with_unfolding_all rfl⟩) ?_ fun _ _ e => e
    rintro f s10 ⟨rfl, P⟩
    refine wpAny_mono (bp_tail (film := filmC (ds.take i) rcs) T TL layi gi (by walk_at "o") (hok d hdm) hr hDA (by walk_at "o") P) ?_ fun _ _ e => e
    rintro f s11 ⟨rfl, m11, R11, hI, F11, off11⟩
    rw [ha, hrf] at hI
    refine ⟨m11, R11, ?_, F11, off11⟩
    rw [List.take_add_one, hd]
    show BpI w it rl fl (adsOf rvs) (refsOf rvs) cr R (runC (ds.take i ++ [d]) rcs) (filmC (ds.take i ++ [d]) rcs) m11 R11
    rw [runC_snoc, filmC_snoc]
    exact hI
  · rintro m' R' s2 ⟨rvs', fvs, cf, Rn, rfl, ha, hrf, hRn, hRA, hDA, n1, n2⟩ F2
    rw [List.take_of_length_le (by rw [hds.1]; exact Nat.le_refl _)] at hDA
    walk_at "w"
    refine h _ fvs cf Rn (fun q hq => Nat.lt_trans (layH [] (by simp)).lfl.1 (hRn q hq)) (F2.toSt.sub (by walk_at "sub")) hDA
end
section
variable {w : World} {A : Around} {E : Value → Shared → Prop} {G : Gd} {s : Shared} {R Rn : Led} {K : Frag} {j n : Nat} {L it rl fl tl : Addr} {m : Str → Option Value} {o : Obj} {fvs : List Value} {cr cf : Nat} {rvs : List RowV} {rcs : List RowC} {d : Deed} {t1 t2 t3 t4 : Tok}
theorem ads_pair {x : Addr} (h : x ∈ adsOf rvs) : ∃ o, (x, o) ∈ rowsL w rvs := by
  unfold adsOf at h
  obtain ⟨r, hr, hx⟩ := List.mem_flatMap.mp h
  simp only [List.mem_cons, List.not_mem_nil, or_false] at hx
  unfold rowsL
  rcases hx with rfl | rfl
  · exact ⟨_, List.mem_flatMap.mpr ⟨r, hr, List.mem_cons_self ..⟩⟩
  · exact ⟨_, List.mem_flatMap.mpr ⟨r, hr, List.mem_cons_of_mem _ (List.mem_cons_self ..)⟩⟩
theorem rows_rev {q : Addr × Obj} : q ∈ rowsL w rvs.reverse ↔ q ∈ rowsL w rvs := by
  unfold rowsL
  simp only [List.mem_flatMap, List.mem_reverse]
theorem cwC {pos : Pos} {env : Env} {args : List Expr} {Q : Value → Shared → Prop} (T : Tp G w K)
    (h : wpAny (model pw w) A (spliced (backTo pos (starEach args env))) (fun vs s₁ => (∀ b o, G.B.get? b = some o → s₁.heap.get? b = some o) ∧ wpAny (model pw w) A (call (.ref aC) vs) Q E s₁) E s)
    (hp : ((backTo pos (starEach args env)).any (·.1)) = false) :
    wpAny (model pw w) A (callWith pos (.ref aC) [] (backTo pos (starEach args env)) []) Q E s := by
  refine cw (fun h => ∀ b o, G.B.get? b = some o → h.get? b = some o) (fun h hk => ⟨.machine, .inr (.inl rfl), ?_⟩) h hp
  obtain ⟨⟨oc, od, cd, sl, hC, _, _, _⟩, _, _, _, _, call, _⟩ := makesA_of (M := model pw w) (T.inK.keeps hk) T.makes
  refine (Looks.ld (part := none) hC).andThen ?_
  dsimp only
  refine call.andThen ?_
  exact .now
theorem byp_spec {Q : Value → Shared → Prop} {sl dl : Addr} {svs dvs : List Value} {szs : List Int} {ds : List Deed} {cs cd : Nat} (T : Tp G w K) (TL : Tl G) (S : St G s R) (hsl : (sl, listO svs cs) ∈ R) (hsz : IntsAre svs szs) (hs3 : szs.length = 3) (hsr : ∀ z ∈ szs, 0 ≤ z ∧ z ≤ 2)
    (hdl : (dl, listO dvs cd) ∈ R) (hds : DeedsAre R dvs ds) (hok : ∀ d ∈ ds, DeedOk d) (hz : ds.length ≤ 30) (hr : Room A (j + 13))
    (h : ∀ p s' fvs c Rn, (∀ q ∈ R, q.1 < p) → (∀ q ∈ Rn, p < q.1) → St G s' ((p, listO fvs c) :: (Rn ++ R)) → DatAll Rn fvs (filmC ds (szs.map fun z => ⟨z, []⟩)) → Q (.ref p) s') :
    wpAny (model pw w) A (call (.ref 173) [.ref sl, .ref dl]) Q E s := by
  refine enterF [("sizes", .ref sl), ("deeds", .ref dl)] S hr T.lim TL.fByP (fun pm ct => BindsTo.of_eq (by kernel_rfl)) (by decide +kernel) (by kernel_rfl) (by rfl) (by rfl) (by rfl) ?_
  intro L s' hL F hlt hr'
  refine wpAny_execs_cons ?_
  have hsl2 := hsz.length
  refine lcS2 (vs := svs) (c := cs) F hsl (by walk_at "o") hr'.handled (by with_unfolding_all rfl) (by with_unfolding_all rfl) (by with_unfolding_all rfl) (by with_unfolding_all rfl) (by decide +kernel) (by with_unfolding_all rfl) (by decide +kernel) (by intro _; with_unfolding_all rfl) ?_ (.inl ⟨_, _, rfl⟩)
    (fun i ys Rn => ∃ rvs, Rn = rowsL w rvs.reverse ∧ ys = refsOf rvs ∧ (adsOf rvs).Nodup ∧ RowsAre [] rvs ((szs.take i).map fun z => ⟨z, []⟩)) ⟨[], rfl, rfl, List.nodup_nil, rfl, fun i rv rc h => by simp at h⟩ ?_ ?_
  · intro Q' h'
    walk_at "w"
    exact h'
  · rintro i v ys C m' s1 Rn R'' hv ⟨rvs, rfl, rfl, hnd, hRA⟩ hs1 hs2 F1
    obtain ⟨z, tz, hzi, rfl⟩ := IntsAre.getN hsz i v hv
    walk_at "w"
    rename_i s2 F2
    refine cwC T ?_ (by with_unfolding_all rfl)
    walk_at "w"
    refine ⟨F2.keep, ?_⟩
    refine new_F (j := j + 6) T F2 hr' ?_
    intro a dd s3 n3 k3 hd3 hCd hda F3
    have hnew : ∀ x ∈ adsOf rvs, x < dd := fun x hx => by
      obtain ⟨ox, hox⟩ := ads_pair (w := w) hx
      exact hd3 _ (hs1 _ (rows_rev.mpr hox))
    refine ⟨[(a, accO aC dd [] n3), (dd, dicO w z k3 tz)], _, ?_, ⟨rvs ++ [⟨a, dd, [], n3, z, k3, tz⟩], ?_, ?_, ?_, ?_⟩, F3⟩
    · intro x hx
      simp only [List.mem_cons, List.not_mem_nil, or_false] at hx
      rcases hx with rfl | rfl
      · exact Nat.lt_trans hCd hda
      · exact hCd
    · rw [List.reverse_append]
      rfl
    · unfold refsOf
      rw [List.map_append]
      rfl
    · unfold adsOf
      rw [List.flatMap_append, List.nodup_append]
      refine ⟨hnd, by simp; exact Nat.ne_of_gt hda, ?_⟩
      intro x hx y hy
      have := hnew x hx
      simp only [List.flatMap_cons, List.flatMap_nil, List.append_nil, List.mem_cons, List.not_mem_nil, or_false] at hy
      rcases hy with rfl | rfl
      · exact Nat.ne_of_lt (Nat.lt_trans this hda)
      · exact Nat.ne_of_lt this
    · rw [List.take_add_one, hzi, List.map_append]
      refine ⟨by simp [hRA.1], fun i2 rv rc h1 h2 => ?_⟩
      by_cases hlt2 : i2 < rvs.length
      · rw [List.getElem?_append_left hlt2] at h1
        rw [List.getElem?_append_left (by rw [← hRA.1]; exact hlt2)] at h2
        exact hRA.2 i2 rv rc h1 h2
      · rw [List.getElem?_append_right (by walk_at "o")] at h1
        rw [List.getElem?_append_right (by rw [← hRA.1]; (first | lia | omega)), ← hRA.1] at h2
        cases hj : i2 - rvs.length with
        | zero =>
          rw [hj] at h1 h2
          simp at h1 h2
          subst h1 h2
          exact ⟨rfl, .nil⟩
        | succ k => rw [hj] at h1; simp at h1
  · rintro rl ys cy Rn s1 hrl hLrl habv hoff ⟨rvs, rfl, rfl, hnd, hRA⟩ F1
    rw [List.take_of_length_le (by walk_at "o")] at hRA
    iterate 6 (walk_at "w1"; (try dsimp only [List.cons_append, List.nil_append]))
    rename_i fl s2 hfl hLfl F2 s3 F3
    have g0 : Good 0 (szs.map fun z => (⟨z, []⟩ : RowC)) := by
      refine ⟨by simp [hs3], fun r hr => ?_, fun r hr => ?_, ?_⟩
      · obtain ⟨z, hz, rfl⟩ := List.mem_map.mp hr
        exact hsr z hz
      · obtain ⟨z, hz, rfl⟩ := List.mem_map.mp hr
        intro c hc
        simp at hc
      · rw [List.map_map]
        clear hsl2 hs3 hsz hRA h hsr
        induction szs with
        | nil => simp
        | cons a l ih => simpa using ih
    refine bp_rest (rvs := rvs) (rl := rl) (fl := fl) (cr := cy) (dl := dl) (dvs := dvs) (cd := cd) (ds := ds) (R := R) (rcs := szs.map fun z => ⟨z, []⟩) (j := j) rfl T TL (F3.sub ?_) hnd ?_ hrl ?_ ?_ hRA g0 hdl hds hok hz hr' (by with_unfolding_all rfl) (by with_unfolding_all rfl) (by with_unfolding_all rfl) ?_
    · intro q hq
      simp only [List.mem_append, List.mem_cons] at hq ⊢
      rcases hq with hq | hq | hq | hq
      · exact .inr (.inr (.inl (rows_rev.mpr hq)))
      · exact .inl hq
      · exact .inr (.inl hq)
      · exact .inr (.inr (.inr hq))
    · intro x hx
      obtain ⟨ox, hox⟩ := ads_pair (w := w) hx
      have hox' := rows_rev.mpr hox
      refine ⟨⟨hoff _ hox', Nat.ne_of_lt (hfl (x, ox) (by simp [hox']))⟩, fun q hq => habv _ hox' q hq⟩
    · exact fun q hq => hfl q (by simp [hq])
    · exact Nat.ne_of_lt (hfl (rl, listO (refsOf rvs) cy) (by simp))
    intro s4 fvs c Rn hRn S4 hD
    exact h fl s4 fvs c Rn (fun q hq => hfl q (by simp [hq])) hRn S4 hD
end
/-- codes that are pieces -/
def Codes (cs : List Nat) : Prop := ∀ c ∈ cs, 1 ≤ c ∧ c ≤ 31
theorem Codes.lt {cs : List Nat} (h : Codes cs) {wd : Nat} (hw : 5 ≤ wd) : ∀ x ∈ cs, x < 2 ^ wd := by
  intro x hx
  have := (h x hx).2
  exact Nat.lt_of_lt_of_le (show x < 2 ^ 5 by (first | lia | omega)) (Nat.pow_le_pow_right (by decide) hw)
theorem Codes.cnt {cs : List Nat} (h : Codes cs) {wd : Nat} (hw : 5 ≤ wd) : cnt wd (num wd cs) = cs.length :=
  cnt_num (by (first | lia | omega)) cs (h.lt hw) fun x hx => by have := (h x (List.mem_of_getLast? hx)).1; (first | lia | omega)
theorem Codes.dig {cs : List Nat} (h : Codes cs) {wd : Nat} (hw : 5 ≤ wd) : digL wd (num wd cs) (Mine.cnt wd (num wd cs)) = cs := by
  rw [h.cnt hw]
  exact digL_num wd cs (h.lt hw)
theorem Codes.take {cs : List Nat} (h : Codes cs) (k : Nat) : Codes (cs.take k) := fun c hc => h c (List.mem_of_mem_take hc)
theorem Codes.drop {cs : List Nat} (h : Codes cs) (k : Nat) : Codes (cs.drop k) := fun c hc => h c (List.mem_of_mem_drop hc)
theorem Codes.behind {cs : List Nat} (h : Codes cs) {wd : Nat} (hw : 5 ≤ wd) (ds : List Nat) : behindN wd (num wd cs) (num wd ds) = num wd (cs ++ ds) := by
  unfold behindN
  rw [h.cnt hw, num_append, Nat.mul_comm (num wd ds)]
theorem Codes.bits {cs : List Nat} (h : Codes cs) {wd : Nat} (hw : 5 ≤ wd) : bits (num wd cs) ≤ wd * cs.length := bits_le (num_lt wd cs (h.lt hw))
theorem num_one (wd c : Nat) : num wd [c] = c := by simp [num]
theorem bits_pow (k : Nat) : Mine.bits (2 ^ k) ≤ k + 1 := bits_le (Nat.pow_lt_pow_right (by decide) (Nat.lt_succ_self k))
/-! the text -/
theorem cat_cons (y : Str) (ys : List Str) : (cat (y :: ys)).cps.toList = y.cps.toList ++ (cat ys).cps.toList := by
  unfold cat
  simp
theorem txt_cons (p : Pc) (ps : List Pc) : (txtPs (p :: ps)).cps.toList = (p.1.cps.toList ++ p.2.cps.toList) ++ (txtPs ps).cps.toList := by
  unfold txtPs
  rw [List.map_cons, cat_cons]
  unfold pcTxt
  rw [cat_cons, cat_cons]
  simp [cat]
theorem txt_len (ps : List Pc) : ((txtPs ps).length : Int) = lenPs ps := by
  induction ps with
  | nil => rfl
  | cons p r ih =>
    have e := congrArg List.length (txt_cons p r)
    simp only [Array.length_toList, List.length_append] at e
    have e' : (txtPs (p :: r)).length = p.1.length + p.2.length + (txtPs r).length := e
    rw [e']
    unfold lenPs at ih ⊢
    rw [List.map_cons, List.sum_cons, ← ih]
    (first | lia | omega)
theorem sp32 : Unicode.isSpace 32 = true := by decide +kernel
theorem sp111 : Unicode.isSpace 111 = false := by decide +kernel
theorem all_rep (f : Nat → Bool) (ch n : Nat) : (rep ch n).cps.toList.all f = (n == 0 || f ch) := by
  unfold rep
  simp only
  induction n with
  | zero => rfl
  | succ n ih =>
    simp only [List.replicate_succ, List.all_cons] at ih ⊢
    rw [ih]
    cases f ch <;> simp
theorem all_space (cs : List Nat) : (txtPs (cs.map pcOf)).cps.toList.all Unicode.isSpace = !(cs.any fun c => decide (3 < c)) := by
  induction cs with
  | nil => rfl
  | cons c r ih =>
    rw [List.map_cons, txt_cons, List.all_append, List.all_append, ih]
    unfold pcOf
    simp only
    rw [all_rep, all_rep, sp32, sp111, List.any_cons]
    by_cases h : 3 < c
    · have h1 : (c / 4 == 0) = false := by simp; (first | lia | omega)
      rw [h1]
      simp [h]
    · have h1 : (c / 4 == 0) = true := by simp; (first | lia | omega)
      rw [h1]
      simp [h]
theorem shade_same {sz : Int} {cs : List Nat} (h : Codes cs) : whiteB sz (cs.map pcOf) = toldShade sz cs := by
  unfold whiteB toldShade
  by_cases h0 : sz = 0
  · subst h0
    have e0 : ((0 : Int) == 0) = true := rfl
    rw [e0, Bool.true_and, Bool.true_and, Int.zero_add]
    have hx : Txt.isspace (txtPs (cs.map pcOf)) = (decide ((txtPs (cs.map pcOf)).length > 0) && !(cs.any fun c => decide (3 < c))) := by
      unfold Txt.isspace
      rw [← all_space, Array.all_toList]
    rw [hx]
    have hl := txt_len (cs.map pcOf)
    cases cs with
    | nil => rfl
    | cons c r =>
      have hc := (h c (List.mem_cons_self ..)).1
      have hpos : 0 < lenPs ((c :: r).map pcOf) := by
        unfold lenPs
        rw [List.map_cons, List.map_cons, List.sum_cons]
        have h2 := lenPs_nonneg (r.map pcOf)
        unfold lenPs at h2
        have h3 : 0 < (((pcOf c).1.length : Int) + (pcOf c).2.length) := by
          unfold pcOf
          simp only [rep_length]
          (first | lia | omega)
        (first | lia | omega)
      have e1 : (lenPs ((c :: r).map pcOf) != 0) = true := bne_iff_ne.mpr (by (first | lia | omega))
      have e2 : decide ((txtPs ((c :: r).map pcOf)).length > 0) = true := decide_eq_true (by (first | lia | omega))
      rw [e1, e2]
      simp
  · have e0 : (sz == 0) = false := by simp [h0]
    rw [e0]
    simp
theorem seenD_told {r : RowC} (h : Codes r.cs) : seenD r = .tuple [pcsD r.cs, .int r.cs.length, .int (r.sz + ((txtPs (r.cs.map pcOf)).length : Nat)), .str (txtPs (r.cs.map pcOf)), .str (shade (toldShade r.sz r.cs))] := by
  unfold seenD
  rw [shade_same h, txt_len]
section
variable {w : World} {A : Around} {E : Value → Shared → Prop} {G : Gd} {s : Shared} {R : Led} {K : Frag} {Q : Value → Shared → Prop} {j x y wd : Nat} {tx ty tw : Tok} {L : Addr} {m : Str → Option Value}
theorem behind_F (T : Tp G w K) (TL : Tl G) (F : Fm G s L m R) (hw : 0 < wd) (hw2 : wd ≤ 1000) (hx : bits x ≤ 900) (hy : bits y ≤ 900) (hr : Room A (j + 15))
    (h : ∀ s' t, Fm G s' L m R → Q (.int ((behindN wd x y : Nat) : Int) t) s') : wpAny (model pw w) A (call (.ref 180) [.int (x : Int) tx, .int (y : Int) ty, .int (wd : Int) tw]) Q E s := by
  obtain ⟨oL, hmL, SL, back⟩ := F.st
  exact behind_spec T TL SL hw hw2 hx hy hr fun s' t S' => h s' t (back S' F.off)
theorem idm_F {a : Nat} {b : Nat} {ta tb : Tok} (T : Tp G w K) (F : Fm G s L m R) (hb : 0 < b) (hb2 : bits b ≤ 500) (ha : bits a ≤ 990) (hr : Room A (j + 16))
    (h : ∀ p s' t1 t2, (∀ q ∈ R, q.1 < p) → L < p → Fm G s' L m ((p, tupO [.int ((a / b : Nat) : Int) t1, .int ((a % b : Nat) : Int) t2]) :: R) → Q (.ref p) s') :
    wpAny (model pw w) A (call (.ref aIdm) [.int (a : Int) ta, .int (b : Int) tb]) Q E s := by
  obtain ⟨oL, hmL, SL, back⟩ := F.st
  refine idm_nn T SL hb hb2 ha hr fun p s' t1 t2 hp S' => h p s' t1 t2 (fun q hq => hp q (List.mem_cons_of_mem _ hq)) (hp (L, oL) (List.mem_cons_self ..)) (back (S'.sub (by walk_at "sub")) ?_)
  intro q hq
  rcases List.mem_cons.mp hq with rfl | hq
  · exact Nat.ne_of_gt (hp (L, oL) (List.mem_cons_self ..))
  · exact F.off q hq
/-- what is told of a row -/
theorem told_F {r : RowC} {tf : Tok} (T : Tp G w K) (TL : Tl G) (F : Fm G s L m R) (hw : 5 ≤ wd) (hw2 : wd ≤ 20) (hc : Codes r.cs) (hl : r.cs.length ≤ 30) (hr : Room A (j + 16))
    (h : ∀ p s' Rn, Above Rn R → (∀ q ∈ Rn, L < q.1) → DatIn Rn (.ref p) (seenD r) → Fm G s' L m (Rn ++ R) → Q (.ref p) s') :
    wpAny (model pw w) A (call (.ref 185) [.int ((num wd r.cs : Nat) : Int) tx, .int r.sz tf, .int (wd : Int) tw]) Q E s := by
  obtain ⟨oL, hmL, SL, back⟩ := F.st
  have hbits : bits (num wd r.cs) ≤ 900 := Nat.le_trans (hc.bits hw) (Nat.le_trans (Nat.mul_le_mul hw2 hl) (by decide))
  refine told_spec (fs := r.sz) T TL SL (by walk_at "o") (by walk_at "o") hbits (by rw [hc.dig hw]; intro c hm; have := (hc c hm).2; (first | lia | omega)) hr ?_
  rw [hc.dig hw, hc.cnt hw]
  intro p b s' pvs cy Rn t1 t2 t3 t4 hb hRn hp hP S'
  have hLb := hb (L, oL) (List.mem_cons_self ..)
  have hLp := hp (L, oL) (List.mem_cons_self ..)
  generalize ho : tupO [.ref b, .int (r.cs.length : Nat) t1, .int (r.sz + (txtPs (r.cs.map pcOf)).length) t2, .str (txtPs (r.cs.map pcOf)) t3, .str (shade (toldShade r.sz r.cs)) t4] = op at S'
  have hLR : ∀ q ∈ (p, op) :: (b, listO pvs cy) :: Rn, L < q.1 := by
    intro q hq
    simp only [List.mem_cons] at hq
    rcases hq with rfl | rfl | hq
    · exact hLp
    · exact hLb
    · exact hRn q hq (L, oL) (List.mem_cons_self ..)
  refine h p s' ((p, op) :: (b, listO pvs cy) :: Rn) ?_ hLR ?_ (back (S'.sub (by walk_at "sub")) ?_)
  · intro q hq r' hr'
    simp only [List.mem_cons] at hq
    rcases hq with rfl | rfl | hq
    · exact hp r' (List.mem_cons_of_mem _ hr')
    · exact hb r' (List.mem_cons_of_mem _ hr')
    · exact hRn q hq r' (List.mem_cons_of_mem _ hr')
  · rw [seenD_told hc]
    refine .tuple (by rw [← ho]; exact List.mem_cons_self ..) (.cons (.list (vs := pvs) (n := cy) (by show (b, listO pvs cy) ∈ _; walk_at "mem") ?_) (.cons (.int _ _) (.cons (.int _ _) (.cons (.str _ _) (.cons (.str _ _) .nil)))))
    have := (hP.sub (R' := (p, op) :: (b, listO pvs cy) :: Rn) (by walk_at "sub")).dat
    rw [List.map_map] at this
    exact this
  · intro q hq
    rcases List.mem_append.mp hq with hq | hq
    · exact Nat.ne_of_gt (hLR q hq)
    · exact F.off q hq
/-- xs[i] as one of several targets -/
theorem asSub {M : Model} {o i : Expr} {pos : Pos} {env : Env} {v : Value} {Q : Unit → Shared → Prop}
    (h : wpAny M A (eval o env) (fun ov s₁ => wpAny M A (eval i env) (fun iv s₂ => wpAny M A (setItem ov iv v) Q E s₂) E s₁) E s) : wpAny M A (assign (.Subscript o i pos) env v) Q E s := by
  rw [arm_assign_Subscript]
  refine wpAny_bind (wpAny_holding (wpAny_mono h (fun ov s₁ h₁ => wpAny_bind (wpAny_holding (wpAny_mono h₁ (fun iv s₂ h₂ => wpAny_bind (wpAny_standAt (wpAny_bind (wpAny_holding (wpAny_mono h₂ (fun _ s₃ h₃ => ?_) fun _ _ e => e)))) ) fun _ _ e => e))) fun _ _ e => e))
  exact wpAny_release h₃
theorem ints_set {vs : List Value} {ns : List Int} (h : IntsAre vs ns) : ∀ (i : Nat) (x : Int) (t : Tok), IntsAre (vs.set i (.int x t)) (ns.set i x) := by
  induction h with
  | nil => intro i x t; exact .nil
  | cons n t hr ih =>
    intro i x u
    cases i with
    | zero => exact .cons x u hr
    | succ i => exact .cons n t (ih i x u)
theorem ints_get {vs : List Value} {ns : List Int} (h : IntsAre vs ns) : ∀ (i : Nat) (x : Int), ns[i]? = some x → ∃ t, vs[i]? = some (.int x t) := by
  induction h with
  | nil => intro i x hx; simp at hx
  | cons n t hr ih =>
    intro i x hx
    cases i with
    | zero => simp at hx; subst hx; exact ⟨t, rfl⟩
    | succ i => simp at hx; simpa using ih i x hx
def numsOf (wd : Nat) (rcs : List RowC) : List Int := rcs.map fun r => ((num wd r.cs : Nat) : Int)
def szsOf (rcs : List RowC) : List Int := rcs.map fun r => r.sz
theorem nums_set (wd : Nat) (rcs : List RowC) (i : Nat) (r : RowC) : numsOf wd (rcs.set i r) = (numsOf wd rcs).set i ((num wd r.cs : Nat) : Int) := by unfold numsOf; rw [List.map_set]
theorem szs_set (rcs : List RowC) (i : Nat) (r : RowC) : szsOf (rcs.set i r) = (szsOf rcs).set i r.sz := by unfold szsOf; rw [List.map_set]
theorem szs_same {rcs : List RowC} {i : Nat} {cs : List Nat} (h : i < rcs.length) : szsOf (rcs.set i ⟨(getR rcs i).sz, cs⟩) = szsOf rcs := by
  rw [szs_set]
  apply List.ext_getElem?
  intro k
  by_cases e : i = k
  · subst e
    rw [List.getElem?_set_self (by unfold szsOf; simpa using h)]
    unfold szsOf
    rw [List.getElem?_map, (getR_mem h).2]
    rfl
  · rw [List.getElem?_set_ne e]
theorem nums_get {wd : Nat} {rcs : List RowC} {i : Nat} (h : i < rcs.length) : (numsOf wd rcs)[i]? = some ((num wd (getR rcs i).cs : Nat) : Int) := by
  unfold numsOf
  rw [List.getElem?_map, (getR_mem h).2]
  rfl
theorem szs_get {rcs : List RowC} {i : Nat} (h : i < rcs.length) : (szsOf rcs)[i]? = some (getR rcs i).sz := by
  unfold szsOf
  rw [List.getElem?_map, (getR_mem h).2]
  rfl
end
structure LayN (it nl ff fl : Addr) (R Rn : Led) : Prop where
  n1 : nl < it ∧ ∀ q ∈ R, q.1 < nl
  f1 : ff < it ∧ ∀ q ∈ R, q.1 < ff
  g1 : fl < it ∧ ∀ q ∈ R, q.1 < fl
  nf : nl ≠ ff
  ng : nl ≠ fl
  fg : ff ≠ fl
  hi : ∀ q ∈ Rn, it < q.1
abbrev bnY (it fl : Addr) (o : Obj) (fvs : List Value) (cf : Nat) (Rn R : Led) : Led := (it, o) :: (fl, listO fvs cf) :: (Rn ++ R)
def bnIf : Stmt := nthS (forBody (nthS (fBody (topS 19)) 3)) 1
def bnIf2 : Stmt := nthS (ifElse bnIf) 0
def bnIf3 : Stmt := nthS (ifElse bnIf2) 0
abbrev bnEnv (L : Addr) : Env := envX "_law_by_numbers" (fScope (topS 19)) L 190 (.ref 189) []
structure BnS (G : Gd) (w : World) (K : Frag) (A : Around) (s : Shared) (L it nl ff fl tl : Addr) (m : Str → Option Value) (o : Obj) (nvs zvs fvs : List Value) (cn cz cf n j wd : Nat) (rcs : List RowC) (d : Deed) (t1 t2 t3 t4 tw : Tok) (Rn R : Led) : Prop where
  T : Tp G w K
  TL : Tl G
  F : Fm G s L m ((tl, listO [] 0) :: (nl, listO nvs cn) :: (ff, listO zvs cz) :: bnY it fl o fvs cf Rn R)
  lay : LayN it nl ff fl R Rn
  htl : it < tl
  htn : ∀ q ∈ Rn, q.1 ≠ tl
  hN : IntsAre nvs (numsOf wd rcs)
  hZ : IntsAre zvs (szsOf rcs)
  g : Good n rcs
  hn : n ≤ 15
  ok : DeedOk d
  hw : 5 ≤ wd
  hw2 : wd ≤ 20
  hr : Room (A.deeper (bnEnv L)) (j + 17)
  m1 : m "told" = some (.ref tl)
  m2 : m "numbers" = some (.ref nl)
  m3 : m "firsts" = some (.ref ff)
  m4 : m "film" = some (.ref fl)
  m5 : m "one" = some (.int d.one t2)
  m6 : m "other" = some (.int d.other t3)
  m7 : m "kind" = some (.int d.kind t1)
  m8 : m "say" = some (.int d.say t4)
  m9 : m "width" = some (.int (wd : Int) tw)
/-- behind the branches -/
def PostN (G : Gd) (w : World) (L it nl ff fl : Addr) (Y : Led) (wd : Nat) (d : Deed) (rcs : List RowC) (t2 t3 tw : Tok) (s' : Shared) : Prop :=
  ∃ (m' : Str → Option Value) (nvs zvs : List Value) (cn cz : Nat) (tl : Addr) (tvs : List Value) (ct : Nat) (Rm : Led), Fm G s' L m' ((tl, listO tvs ct) :: (nl, listO nvs cn) :: (ff, listO zvs cz) :: (Rm ++ Y)) ∧ (∀ q ∈ Rm, it < q.1) ∧ it < tl ∧
    m' "told" = some (.ref tl) ∧ m' "numbers" = some (.ref nl) ∧ m' "firsts" = some (.ref ff) ∧ m' "film" = some (.ref fl) ∧ m' "one" = some (.int d.one t2) ∧ m' "other" = some (.int d.other t3) ∧ m' "width" = some (.int (wd : Int) tw) ∧
    IntsAre nvs (numsOf wd (stepC d rcs).2) ∧ IntsAre zvs (szsOf (stepC d rcs).2) ∧ Pcs Rm tvs ((stepC d rcs).1.map pcOf)
abbrev bnPost (G : Gd) (w : World) (L it nl ff fl : Addr) (o : Obj) (fvs : List Value) (cf wd : Nat) (rcs : List RowC) (d : Deed) (t2 t3 tw : Tok) (Rn R : Led) (f : Flow) (s' : Shared) : Prop :=
  f = .next ∧ PostN G w L it nl ff fl (bnY it fl o fvs cf Rn R) wd d rcs t2 t3 tw s'
section
variable {w : World} {A : Around} {E : Value → Shared → Prop} {G : Gd} {s : Shared} {R Rn : Led} {K : Frag} {j n wd : Nat} {L it nl ff fl tl : Addr} {m : Str → Option Value} {o : Obj} {nvs zvs fvs : List Value} {cn cz cf : Nat} {rcs : List RowC} {d : Deed} {t1 t2 t3 t4 tw : Tok}
theorem Good.codes (g : Good n rcs) {i : Nat} (hi : i < rcs.length) : Codes (getR rcs i).cs := g.cs _ (getR_mem hi).1
theorem Good.bits {i : Nat} (g : Good n rcs) (hn : n ≤ 15) (hw : 5 ≤ wd) (hw2 : wd ≤ 20) (hi : i < rcs.length) : bits (num wd (getR rcs i).cs) ≤ 300 :=
  Nat.le_trans ((g.codes hi).bits hw) (Nat.le_trans (Nat.mul_le_mul hw2 (Nat.le_trans (g.le (getR_mem hi).1) hn)) (by decide))
theorem LayN.offN {X : Led} (x : LayN it nl ff fl R Rn) (h : ∀ q ∈ X, it < q.1) : ∀ q ∈ X ++ ((ff, listO zvs cz) :: bnY it fl o fvs cf Rn R), q.1 ≠ nl := by
  intro q hq
  simp only [List.mem_append, List.mem_cons] at hq
  rcases hq with hq | rfl | rfl | rfl | hq | hq
  · exact Nat.ne_of_gt (Nat.lt_trans x.n1.1 (h q hq))
  · exact Ne.symm x.nf
  · exact Nat.ne_of_gt x.n1.1
  · exact Ne.symm x.ng
  · exact Nat.ne_of_gt (Nat.lt_trans x.n1.1 (x.hi q hq))
  · exact Nat.ne_of_lt (x.n1.2 q hq)
theorem LayN.offZ {X : Led} (x : LayN it nl ff fl R Rn) (h : ∀ q ∈ X, it < q.1) : ∀ q ∈ X ++ ((nl, listO zvs cz) :: bnY it fl o fvs cf Rn R), q.1 ≠ ff := by
  intro q hq
  simp only [List.mem_append, List.mem_cons] at hq
  rcases hq with hq | rfl | rfl | rfl | hq | hq
  · exact Nat.ne_of_gt (Nat.lt_trans x.f1.1 (h q hq))
  · exact x.nf
  · exact Nat.ne_of_gt x.f1.1
  · exact Ne.symm x.fg
  · exact Nat.ne_of_gt (Nat.lt_trans x.f1.1 (x.hi q hq))
  · exact Nat.ne_of_lt (x.f1.2 q hq)
theorem bn_push (B : BnS G w K A s L it nl ff fl tl m o nvs zvs fvs cn cz cf n j wd rcs d t1 t2 t3 t4 tw Rn R) (h2 : d.kind < 2) :
    wpAny (model pw w) (A.deeper (bnEnv L)) (execs (ifBody bnIf) (bnEnv L)) (bnPost G w L it nl ff fl o fvs cf wd rcs d t2 t3 tw Rn R) (fun _ _ => False) s := by
  obtain ⟨T, TL, F, lay, htl, htn, hN, hZ, g, hn, ok, hw, hw2, hr, m1, m2, m3, m4, m5, m6, m7, m8, m9⟩ := B
  have hone := ok.one
  have hi : d.one.toNat < rcs.length := by rw [g.len]; (first | lia | omega)
  have hbi := g.bits hn hw hw2 hi
  have hci := g.codes hi
  obtain ⟨ti, hvi⟩ := ints_get hN d.one.toNat _ (nums_get hi)
  have hnl := hN.length
  rw [show (numsOf wd rcs).length = 3 by unfold numsOf; rw [List.length_map, g.len]] at hnl
  refine wpAny_execs_cons ?_
  walk_at "w"
  refine cwF (G := G) TL.fBehind ?_ (by with_unfolding_all rfl)
  walk_at "w"
  refine itL (l := nl) (xs := nvs) (c := cn) F (by walk_at "mem") hone.1 (by walk_at "o") hvi ?_ (by with_unfolding_all rfl)
  walk_at "w"
  rename_i u1 s1 F1 u2 s2 F2 u3 s3 F3 u4 s4 F4
  refine ⟨F4.keep, ?_⟩
  obtain ⟨c, hc⟩ : ∃ c : Nat, 1 + d.say % 31 = (c : Int) := ⟨(1 + d.say % 31).toNat, by (first | lia | omega)⟩
  rw [hc]
  have hcb : bits c ≤ 5 := bits_le (by walk_at "o")
  refine behind_F (j := j + 2) T TL F4 (by walk_at "o") (by walk_at "o") (by walk_at "o") (by walk_at "o") hr ?_
  intro s5 t5 F5
  walk_at "w"
  refine stIt (l := nl) (xs := nvs) (c := cn) (R := [(tl, listO [] 0)] ++ ((ff, listO zvs cz) :: bnY it fl o fvs cf Rn R)) (F5.sub (by walk_at "sub")) (lay.offN (by simp [htl])) hone.1 (by walk_at "o") (by walk_at "o") ?_
  intro s6 F6
  rw [show behindN wd (num wd (getR rcs d.one.toNat).cs) c = num wd ((getR rcs d.one.toNat).cs ++ [c]) by rw [← hci.behind hw, num_one]] at F6
  walk_at "w"
  have hst : stepC d rcs = ([], rcs.set d.one.toNat ⟨(getR rcs d.one.toNat).sz, (getR rcs d.one.toNat).cs ++ [c]⟩) := by
    unfold stepC
    dsimp only
    rw [if_pos h2, hc]
    rfl
  refine ⟨rfl, _, nvs.set d.one.toNat (.int ((num wd ((getR rcs d.one.toNat).cs ++ [c]) : Nat) : Int) t5), zvs, cn, cz, tl, [], 0, [], F6.sub (by walk_at "sub"), by simp, htl, m1, m2, m3, m4, m5, m6, m9, ?_, ?_, ?_⟩
  · rw [hst, nums_set]
    exact ints_set hN d.one.toNat _ t5
  · rw [hst, szs_same hi]
    exact hZ
  · rw [hst]
    exact .nil
theorem bn_reset (B : BnS G w K A s L it nl ff fl tl m o nvs zvs fvs cn cz cf n j wd rcs d t1 t2 t3 t4 tw Rn R) (h2 : 5 ≤ d.kind) :
    wpAny (model pw w) (A.deeper (bnEnv L)) (execs (ifElse bnIf3) (bnEnv L)) (bnPost G w L it nl ff fl o fvs cf wd rcs d t2 t3 tw Rn R) (fun _ _ => False) s := by
  obtain ⟨T, TL, F, lay, htl, htn, hN, hZ, g, hn, ok, hw, hw2, hr, m1, m2, m3, m4, m5, m6, m7, m8, m9⟩ := B
  have hone := ok.one
  have hi : d.one.toNat < rcs.length := by rw [g.len]; (first | lia | omega)
  have hnl := hN.length
  rw [show (numsOf wd rcs).length = 3 by unfold numsOf; rw [List.length_map, g.len]] at hnl
  have hzl := hZ.length
  rw [show (szsOf rcs).length = 3 by unfold szsOf; rw [List.length_map, g.len]] at hzl
  refine wpAny_execs_cons ?_
  walk_at "w"
  rename_i u1 s1 F1
  refine stIt (l := nl) (xs := nvs) (c := cn) (R := [(tl, listO [] 0)] ++ ((ff, listO zvs cz) :: bnY it fl o fvs cf Rn R)) (F1.sub (by walk_at "sub")) (lay.offN (by simp [htl])) hone.1 (by walk_at "o") (by walk_at "o") ?_
  intro s2 F2
  walk_at "w"
  rename_i u3 s3 F3
  refine stIt (l := ff) (xs := zvs) (c := cz) (R := [(tl, listO [] 0)] ++ ((nl, listO (nvs.set d.one.toNat (.int 0 u1)) cn) :: bnY it fl o fvs cf Rn R)) (F3.sub (by walk_at "sub")) (lay.offZ (by simp [htl])) hone.1 (by walk_at "o") (by walk_at "o") ?_
  intro s4 F4
  walk_at "w"
  have hst : stepC d rcs = ([], rcs.set d.one.toNat ⟨0, []⟩) := by
    unfold stepC
    dsimp only
    rw [if_neg (by walk_at "o"), if_neg (by walk_at "o"), if_neg (by walk_at "o"), if_neg (by walk_at "o")]
  refine ⟨rfl, _, nvs.set d.one.toNat (.int 0 u1), zvs.set d.one.toNat (.int 0 u3), cn, cz, tl, [], 0, [], F4.sub (by walk_at "sub"), by simp, htl, m1, m2, m3, m4, m5, m6, m9, ?_, ?_, ?_⟩
  · rw [hst, nums_set]
    exact ints_set hN d.one.toNat 0 u1
  · rw [hst, szs_set]
    exact ints_set hZ d.one.toNat 0 u3
  · rw [hst]
    exact .nil
end
section
variable {w : World} {A : Around} {E : Value → Shared → Prop} {G : Gd} {s : Shared} {R Rn : Led} {K : Frag} {j n wd : Nat} {L it nl ff fl tl : Addr} {m : Str → Option Value} {o : Obj} {nvs zvs fvs : List Value} {cn cz cf : Nat} {rcs : List RowC} {d : Deed} {t1 t2 t3 t4 tw : Tok}
theorem nums_same {i : Nat} (hi : i < rcs.length) : (numsOf wd rcs).set i ((num wd (getR rcs i).cs : Nat) : Int) = numsOf wd rcs := by
  apply List.ext_getElem?
  intro k
  by_cases e : i = k
  · subst e
    rw [List.getElem?_set_self (by unfold numsOf; simpa using hi), nums_get hi]
  · rw [List.getElem?_set_ne e]
/-- the last code, or nought -/
theorem num_last (cs : List Nat) (h : Codes cs) (hw : 5 ≤ wd) : num wd cs / 2 ^ (wd * (cs.length - 1)) = cs.getLastD 0 ∧ num wd cs % 2 ^ (wd * (cs.length - 1)) = num wd cs.dropLast := by
  rcases List.eq_nil_or_concat cs with rfl | ⟨r, c, rfl⟩
  · simp [num]
  · rw [List.concat_eq_append] at h ⊢
    rw [num_div wd _ _ (h.lt hw), num_mod wd _ _ (h.lt hw)]
    simp [num_one]
theorem bn_pop (B : BnS G w K A s L it nl ff fl tl m o nvs zvs fvs cn cz cf n j wd rcs d t1 t2 t3 t4 tw Rn R) (h2 : d.kind = 2) :
    wpAny (model pw w) (A.deeper (bnEnv L)) (execs (ifBody bnIf2) (bnEnv L)) (bnPost G w L it nl ff fl o fvs cf wd rcs d t2 t3 tw Rn R) (fun _ _ => False) s := by
  obtain ⟨T, TL, F, lay, htl, htn, hN, hZ, g, hn, ok, hw, hw2, hr, m1, m2, m3, m4, m5, m6, m7, m8, m9⟩ := B
  have hone := ok.one
  have hother := ok.other
  have hi : d.one.toNat < rcs.length := by rw [g.len]; (first | lia | omega)
  have hk : d.other.toNat < rcs.length := by rw [g.len]; (first | lia | omega)
  have hik : d.one.toNat ≠ d.other.toNat := by have := ok.ne; (first | lia | omega)
  have hbi := g.bits hn hw hw2 hi
  have hbk := g.bits hn hw hw2 hk
  have hci := g.codes hi
  have hck := g.codes hk
  obtain ⟨ti, hvi⟩ := ints_get hN d.one.toNat _ (nums_get hi)
  obtain ⟨tk, hvk⟩ := ints_get hN d.other.toNat _ (nums_get hk)
  have hnl := hN.length
  rw [show (numsOf wd rcs).length = 3 by unfold numsOf; rw [List.length_map, g.len]] at hnl
  have hzl := hZ.length
  rw [show (szsOf rcs).length = 3 by unfold szsOf; rw [List.length_map, g.len]] at hzl
  refine wpAny_execs_cons ?_
  walk_at "w"
  refine cwF (G := G) T.fI2d ?_ (by with_unfolding_all rfl)
  walk_at "w"
  refine itL (l := nl) (xs := nvs) (c := cn) F (by walk_at "mem") hone.1 (by walk_at "o") hvi ?_ (by with_unfolding_all rfl)
  walk_at "w"
  refine ⟨F.keep, ?_⟩
  refine i2d_F (j := j + 3) T F (by walk_at "o") (by walk_at "o") (by walk_at "o") hr ?_
  intro dp s1 dvs dc hdp hLdp F1 hNA
  rw [hci.dig hw] at hNA
  have hlen := hNA.1
  have hin := g.le (getR_mem hi).1
  walk_at "w"
  refine lenL (vs := dvs) (c := dc) F1 (List.mem_cons_self ..) (by walk_at "o") ?_
  intro u2 s2 F2
  walk_at "w"
  rename_i u3 s3 F3 u4 s4 F4 u5 s5 F5
  refine rMax hr.handled F5 ?_
  intro u6 s6 F6
  rw [hlen]
  have hmax : (if (0 : Int) > (((getR rcs d.one.toNat).cs.length : Nat) : Int) - 1 then (0 : Int) else (((getR rcs d.one.toNat).cs.length : Nat) : Int) - 1) = (((getR rcs d.one.toNat).cs.length - 1 : Nat) : Int) := by
    split <;> (first | lia | omega)
  rw [hmax]
  generalize hstay : (getR rcs d.one.toNat).cs.length - 1 = stay
  have hst20 : stay ≤ 15 := by (first | lia | omega)
  walk_at "w"
  rename_i s7 F7
  obtain ⟨hq, hm⟩ := num_last (getR rcs d.one.toNat).cs hci hw
  rw [hstay] at hq hm
  refine cwF (G := G) T.fIdm ?_ (by with_unfolding_all rfl)
  walk_at "w"
  refine itL (l := nl) (xs := nvs) (c := cn) F7 (by walk_at "mem") hone.1 (by walk_at "o") hvi ?_ (by with_unfolding_all rfl)
  walk_at "w"
  rename_i u8 s8 F8
  refine rMulN (x := wd) (k := stay) rfl rfl (by walk_at "o") F8 ?_
  intro u9 s9 F9
  have hws : wd * stay ≤ 300 := Nat.le_trans (Nat.mul_le_mul hw2 hst20) (by decide)
  refine rShlN (x := 1) (k := wd * stay) rfl rfl (by decide) (by walk_at "o") F9 ?_
  intro u10 s10 F10
  rw [Nat.one_mul]
  walk_at "w"
  refine ⟨F10.keep, ?_⟩
  refine idm_F (j := j + 1) T F10 (Nat.pow_pos (by decide)) (Nat.le_trans (bits_pow _) (by walk_at "o")) (by walk_at "o") hr ?_
  intro p s11 u11 u12 hp hLp F11
  rw [hq, hm] at F11
  generalize hc : (getR rcs d.one.toNat).cs.getLastD 0 = c at *
  have hc31 : c ≤ 31 := by
    rcases List.eq_nil_or_concat (getR rcs d.one.toNat).cs with e | ⟨r, c', e⟩
    · rw [e] at hc; simp at hc; (first | lia | omega)
    · rw [e] at hc hci
      simp at hc
      subst hc
      exact (hci c' (by simp)).2
  refine uT (t := p) F11 (List.mem_cons_self ..) hr.handled (by with_unfolding_all rfl) (by with_unfolding_all rfl) ?_
  intro s12 F12
  walk_at "w"
  rename_i s13 F13
  refine asSub ?_
  walk_at "w"
  refine stIt (l := nl) (xs := nvs) (c := cn) (R := [(tl, listO [] 0)] ++ ((ff, listO zvs cz) :: bnY it fl o fvs cf Rn R)) (F13.sub (by walk_at "sub")) (lay.offN (by simp [htl])) hone.1 (by walk_at "o") (by walk_at "o") ?_
  intro s14 F14
  generalize hnv : nvs.set d.one.toNat (.int ((num wd (getR rcs d.one.toNat).cs.dropLast : Nat) : Int) u12) = nvs1 at *
  walk_at "w"
  refine gmApp (l := tl) (vs := []) (c := 0) F14 (by walk_at "mem") ?_
  walk_at "w"
  refine cwF (G := G) TL.fPiece ?_ (by with_unfolding_all rfl)
  walk_at "w"
  refine ⟨F14.keep, ?_⟩
  refine piece_F (j := j + 16) T TL F14 (by walk_at "o") hr ?_
  intro pp s15 u15 u16 hpp hLpp F15
  have htpp : tl < pp := hpp (tl, listO [] 0) (by walk_at "mem")
  walk_at "w"
  refine appL (l := tl) (vs := []) (c := 0) (R := (pp, tupO [.str (pcOf c).1 u15, .str (pcOf c).2 u16]) :: (nl, listO nvs1 cn) :: (ff, listO zvs cz) :: bnY it fl o fvs cf Rn R) (F15.sub (by walk_at "sub")) ?_ (by simp) ?_
  · intro x hx
    simp only [List.mem_cons, List.mem_append] at hx
    rcases hx with rfl | rfl | rfl | rfl | rfl | hx | hx
    · exact Nat.ne_of_gt htpp
    · exact Nat.ne_of_lt (Nat.lt_trans lay.n1.1 htl)
    · exact Nat.ne_of_lt (Nat.lt_trans lay.f1.1 htl)
    · exact Nat.ne_of_lt htl
    · exact Nat.ne_of_lt (Nat.lt_trans lay.g1.1 htl)
    · exact htn x hx
    · exact Nat.ne_of_lt (Nat.lt_trans (lay.n1.2 x hx) (Nat.lt_trans lay.n1.1 htl))
  intro s16 F16
  rw [List.nil_append] at F16
  walk_at "w"
  refine cwF (G := G) TL.fBehind ?_ (by with_unfolding_all rfl)
  walk_at "w"
  refine itL (l := nl) (xs := nvs1) (c := cn) F16 (by walk_at "mem") hother.1 (by walk_at "o") (by rw [← hnv, List.getElem?_set_ne hik]; exact hvk) ?_ (by with_unfolding_all rfl)
  walk_at "w"
  refine ⟨F16.keep, ?_⟩
  have hcb : bits c ≤ 5 := bits_le (by walk_at "o")
  refine behind_F (j := j + 2) T TL F16 (by walk_at "o") (by walk_at "o") (by walk_at "o") (by walk_at "o") hr ?_
  intro s17 t17 F17
  have hbe : behindN wd (num wd (getR rcs d.other.toNat).cs) c = num wd ((getR rcs d.other.toNat).cs ++ [c]) := by rw [← hck.behind hw, num_one]
  rw [hbe]
  walk_at "w"
  refine stIt (l := nl) (xs := nvs1) (c := cn) (R := [(tl, listO [.ref pp] (0 + 1)), (pp, tupO [.str (pcOf c).1 u15, .str (pcOf c).2 u16])] ++ ((ff, listO zvs cz) :: bnY it fl o fvs cf Rn R)) (F17.sub (by walk_at "sub")) (lay.offN (by intro q hq; simp only [List.mem_cons, List.not_mem_nil, or_false] at hq; rcases hq with rfl | rfl; exact htl; exact Nat.lt_trans htl htpp)) hother.1 (by walk_at "o") (by rw [← hnv, List.length_set]; (first | lia | omega)) ?_
  intro s18 F18
  walk_at "w"
  refine ⟨rfl, _, nvs1.set d.other.toNat (.int ((num wd ((getR rcs d.other.toNat).cs ++ [c]) : Nat) : Int) t17), zvs, cn, cz, tl, [.ref pp], 0 + 1, [(pp, tupO [.str (pcOf c).1 u15, .str (pcOf c).2 u16])], F18.sub (by walk_at "sub"), ?_, htl, by with_unfolding_all assumption, by with_unfolding_all assumption, by with_unfolding_all assumption, by with_unfolding_all assumption, by with_unfolding_all assumption, by with_unfolding_all assumption, by with_unfolding_all assumption, ?_⟩
  · intro q hq
    simp only [List.mem_singleton] at hq
    subst hq
    exact Nat.lt_trans htl htpp
  have hA := ints_set (ints_set hN d.one.toNat ((num wd (getR rcs d.one.toNat).cs.dropLast : Nat) : Int) u12) d.other.toNat ((num wd ((getR rcs d.other.toNat).cs ++ [c]) : Nat) : Int) t17
  rw [hnv] at hA
  rcases List.eq_nil_or_concat (getR rcs d.one.toNat).cs with e | ⟨r, c', e⟩
  · have hst : stepC d rcs = ([0], rcs) := by
      unfold stepC
      dsimp only
      rw [if_neg (by walk_at "o"), if_pos h2, e]
      rfl
    have hc0 : c = 0 := by rw [e] at hc; simp at hc; (first | lia | omega)
    subst hc0
    rw [hst]
    refine ⟨?_, hZ, .cons ⟨pp, u15, u16, rfl, by simp⟩ .nil⟩
    rw [show (getR rcs d.one.toNat).cs.dropLast = (getR rcs d.one.toNat).cs by rw [e]; rfl, nums_same hi, show num wd ((getR rcs d.other.toNat).cs ++ [0]) = num wd (getR rcs d.other.toNat).cs by rw [num_append]; simp [num], nums_same hk] at hA
    rw [show num wd ((getR rcs d.other.toNat).cs ++ [0]) = num wd (getR rcs d.other.toNat).cs by rw [num_append]; simp [num]]
    exact hA
  · rw [List.concat_eq_append] at e
    have hcc : c' = c := by rw [e] at hc; simpa using hc
    subst hcc
    have hst : stepC d rcs = ([c'], (rcs.set d.one.toNat ⟨(getR rcs d.one.toNat).sz, (getR rcs d.one.toNat).cs.dropLast⟩).set d.other.toNat ⟨(getR rcs d.other.toNat).sz, (getR rcs d.other.toNat).cs ++ [c']⟩) := by
      unfold stepC
      dsimp only
      rw [if_neg (by walk_at "o"), if_pos h2, show (getR rcs d.one.toNat).cs.getLast? = some c' by rw [e]; simp]
    rw [hst]
    refine ⟨?_, ?_, .cons ⟨pp, u15, u16, rfl, by simp⟩ .nil⟩
    · dsimp only
      rw [nums_set, nums_set]
      exact hA
    · dsimp only
      have := szs_same (rcs := rcs.set d.one.toNat ⟨(getR rcs d.one.toNat).sz, (getR rcs d.one.toNat).cs.dropLast⟩) (i := d.other.toNat) (cs := (getR rcs d.other.toNat).cs ++ [c']) (by rw [List.length_set]; exact hk)
      rw [getR_set_ne hik] at this
      rw [this, szs_same hi]
      exact hZ
end
section
variable {w : World} {A : Around} {E : Value → Shared → Prop} {G : Gd} {s : Shared} {R Rn : Led} {K : Frag} {j n wd : Nat} {L it nl ff fl tl : Addr} {m : Str → Option Value} {o : Obj} {nvs zvs fvs : List Value} {cn cz cf : Nat} {rcs : List RowC} {d : Deed} {t1 t2 t3 t4 tw : Tok}
theorem lcS3 {elt target iter : Expr} {scope : Scope} {pos spos py : Pos} {y : Str} {cn' : Str} {cs : Scope} {cl : List (Str × Addr)} {f cd : Addr} {Q : Flow → Shared → Prop} (hh : A.handled = none)
    (hsw : swapsWith (.ListComp elt [⟨target, iter, [], 0⟩] scope pos) (some (.Name y py)) spos.line (envX cn' cs L f (.ref cd) cl) = pure true) (hk : cs.kind = .function) (hy : (envX cn' cs L f (.ref cd) cl).kindOf y = some .local)
    (hclos : closureFor scope (envX cn' cs L f (.ref cd) cl) = pure []) (hcell : (scope.names.all fun x => x.2 != .cell) = true) (hkind : scope.kind = .function)
    (hnames : (scope.names.all fun y => y.2 != .local || (scope.names.lookup y.1 == some .local)) = true) (hs : ∀ x, foldedSetIterable iter (envX cn' cs L f (.ref cd) cl) x = pure x)
    (h : wpAny (model pw w) A (eval iter (envX cn' cs L f (.ref cd) cl)) (CompK w A G L m scope (envX cn' cs L f (.ref cd) cl) target elt (fun D ys cy R' => ∀ s', Fm G s' L (upd m y (.ref D)) ((D, listO ys cy) :: R') → Q .next s')) E s) :
    wpAny (model pw w) A (exec (.Assign [.Name y py] (.ListComp elt [⟨target, iter, [], 0⟩] scope pos) spos) (envX cn' cs L f (.ref cd) cl)) Q E s := by
  refine lcS (G := G) (m := m) hh hsw hk hy hclos (fun y hy => by simpa using List.all_eq_true.mp hcell y hy) hkind (fun y hy e => ?_) hs h
  have := List.all_eq_true.mp hnames y hy
  rw [e] at this
  simpa using this
theorem bn_move (B : BnS G w K A s L it nl ff fl tl m o nvs zvs fvs cn cz cf n j wd rcs d t1 t2 t3 t4 tw Rn R) (h2 : d.kind = 3 ∨ d.kind = 4) :
    wpAny (model pw w) (A.deeper (bnEnv L)) (execs (ifBody bnIf3) (bnEnv L)) (bnPost G w L it nl ff fl o fvs cf wd rcs d t2 t3 tw Rn R) (fun _ _ => False) s := by
  obtain ⟨T, TL, F, lay, htl, htn, hN, hZ, g, hn, ok, hw, hw2, hr, m1, m2, m3, m4, m5, m6, m7, m8, m9⟩ := B
  have hone := ok.one
  have hother := ok.other
  have hi : d.one.toNat < rcs.length := by rw [g.len]; (first | lia | omega)
  have hk : d.other.toNat < rcs.length := by rw [g.len]; (first | lia | omega)
  have hik : d.one.toNat ≠ d.other.toNat := by have := ok.ne; (first | lia | omega)
  have hbi := g.bits hn hw hw2 hi
  have hbk := g.bits hn hw hw2 hk
  have hci := g.codes hi
  have hck := g.codes hk
  obtain ⟨ti, hvi⟩ := ints_get hN d.one.toNat _ (nums_get hi)
  obtain ⟨tk, hvk⟩ := ints_get hN d.other.toNat _ (nums_get hk)
  have hnl := hN.length
  rw [show (numsOf wd rcs).length = 3 by unfold numsOf; rw [List.length_map, g.len]] at hnl
  have hzl := hZ.length
  rw [show (szsOf rcs).length = 3 by unfold szsOf; rw [List.length_map, g.len]] at hzl
  refine wpAny_execs_cons ?_
  walk_at "w"
  refine cwF (G := G) T.fIdm ?_ (by with_unfolding_all rfl)
  walk_at "w"
  refine itL (l := nl) (xs := nvs) (c := cn) F (by walk_at "mem") hone.1 (by walk_at "o") hvi ?_ (by with_unfolding_all rfl)
  walk_at "w"
  rename_i u1 s1 F1 u2 s2 F2 u3 s3 F3
  obtain ⟨z, hz⟩ : ∃ z : Nat, d.say % 4 = (z : Int) := ⟨(d.say % 4).toNat, by (first | lia | omega)⟩
  have hzz : (d.say % 4).toNat = z := by (first | lia | omega)
  have hz3 : z ≤ 3 := by (first | lia | omega)
  refine rMulN (x := wd) (k := z) rfl hz (by walk_at "o") F3 ?_
  intro u4 s4 F4
  have hws : wd * z ≤ 60 := Nat.le_trans (Nat.mul_le_mul hw2 hz3) (by decide)
  refine rShlN (x := 1) (k := wd * z) rfl rfl (by decide) (by walk_at "o") F4 ?_
  intro u5 s5 F5
  rw [Nat.one_mul]
  walk_at "w"
  refine ⟨F5.keep, ?_⟩
  refine idm_F (j := j + 1) T F5 (Nat.pow_pos (by decide)) (Nat.le_trans (bits_pow _) (by walk_at "o")) (by walk_at "o") hr ?_
  intro p s6 u6 u7 hp hLp F6
  rw [num_div wd _ _ (hci.lt hw), num_mod wd _ _ (hci.lt hw)] at F6
  refine uT (t := p) F6 (List.mem_cons_self ..) hr.handled (by with_unfolding_all rfl) (by with_unfolding_all rfl) ?_
  intro s7 F7
  walk_at "w"
  rename_i s8 F8
  refine asSub ?_
  walk_at "w"
  refine stIt (l := nl) (xs := nvs) (c := cn) (R := [(tl, listO [] 0)] ++ ((ff, listO zvs cz) :: bnY it fl o fvs cf Rn R)) (F8.sub (by walk_at "sub")) (lay.offN (by simp [htl])) hone.1 (by walk_at "o") (by walk_at "o") ?_
  intro s9 F9
  generalize hnv : nvs.set d.one.toNat (.int ((num wd ((getR rcs d.one.toNat).cs.take z) : Nat) : Int) u7) = nvs1 at *
  iterate 2 (walk_at "w1"; (try dsimp only [List.cons_append, List.nil_append]))
  have hdr : Codes ((getR rcs d.one.toNat).cs.drop z) := hci.drop z
  have hdl : ((getR rcs d.one.toNat).cs.drop z).length ≤ 15 := by rw [List.length_drop]; have := g.le (getR_mem hi).1; (first | lia | omega)
  have hdb : bits (num wd ((getR rcs d.one.toNat).cs.drop z)) ≤ 300 := Nat.le_trans (hdr.bits hw) (Nat.le_trans (Nat.mul_le_mul hw2 hdl) (by decide))
  generalize hmore : (getR rcs d.one.toNat).cs.drop z = more at *
  refine lcS3 (G := G) (m := upd m "more" (.int ((num wd more : Nat) : Int) u6)) hr.handled (by with_unfolding_all rfl) (by with_unfolding_all rfl) (by with_unfolding_all rfl) (by with_unfolding_all rfl) (by decide +kernel) (by with_unfolding_all rfl) (by decide +kernel) (by intro _; with_unfolding_all rfl) ?_
  walk_at "w"
  refine cwF (G := G) T.fI2d ?_ (by with_unfolding_all rfl)
  walk_at "w"
  refine ⟨F9.keep, ?_⟩
  refine i2d_F (j := j + 3) T F9 (by walk_at "o") (by walk_at "o") (by walk_at "o") hr ?_
  intro dp s10 dvs dc hdp hLdp F10 hNA
  rw [hdr.dig hw] at hNA
  refine compK_of (vs := dvs) (c := dc) F10 (List.mem_cons_self ..) (by rw [hNA.1]; (first | lia | omega)) (fun i ys Rn => Pcs Rn ys ((more.take i).map pcOf)) .nil (.inl ⟨_, _, rfl⟩) ?_ ?_
  · intro i v ys C m' s3 Rn R'' hv hI hs1 hs2 F3
    have hi : i < more.length := by
      rcases Nat.lt_or_ge i dvs.length with h | h
      · rw [← hNA.1]; exact h
      · rw [List.getElem?_eq_none h] at hv; cases hv
    obtain ⟨tv, hvv⟩ := hNA.2 i more[i] (List.getElem?_eq_getElem hi)
    rw [hvv] at hv
    cases hv
    walk_at "w"
    rename_i s4 F4
    refine cwF (G := G) TL.fPiece ?_ (by with_unfolding_all rfl)
    walk_at "w"
    refine ⟨F4.keep, ?_⟩
    refine piece_F (j := j + 16) T TL F4 (Nat.le_trans (hdr _ (List.getElem_mem hi)).2 (by decide)) hr ?_
    intro p s5 t1 t2 hp hCp F5
    refine ⟨[(p, tupO [.str (pcOf more[i]).1 t1, .str (pcOf more[i]).2 t2])], _, ?_, ?_, F5⟩
    · intro q hq
      simp only [List.mem_singleton] at hq
      subst hq
      exact hCp
    · rw [List.take_succ_eq_append_getElem hi, List.map_append]
      exact Pcs.snoc (hI.sub fun q hq => by simp [hq]) ⟨p, t1, t2, rfl, by simp⟩
  intro pl pvs cp Rp hpl hLpl habp hoffp hPp s11 F11
  rw [List.take_of_length_le (by rw [hNA.1]; exact Nat.le_refl _)] at hPp
  have hitpl : it < pl := hpl (it, o) (by walk_at "mem")
  have hitRp : ∀ q ∈ Rp, it < q.1 := fun q hq => habp q hq (it, o) (by walk_at "mem")
  have F12 : Fm G s11 L _ ((nl, listO nvs1 cn) :: (((pl, listO pvs cp) :: Rp) ++ ((ff, listO zvs cz) :: bnY it fl o fvs cf Rn R))) := F11.sub (by walk_at "sub")
  clear F11 F10 F9 F8 F7 F6 F5 F4 F3 F2 F1 F
  have hX : ∀ q ∈ (pl, listO pvs cp) :: Rp, it < q.1 := by
    intro q hq
    rcases List.mem_cons.mp hq with rfl | hq
    · exact hitpl
    · exact hitRp q hq
  walk_at "w"
  rename_i u13 s13 F13
  have hnl1 : nvs1.length = 3 := by rw [← hnv, List.length_set]; exact hnl
  have hN1 := ints_set hN d.one.toNat ((num wd ((getR rcs d.one.toNat).cs.take z) : Nat) : Int) u7
  rw [hnv] at hN1
  by_cases h3 : d.kind = 3
  · rw [if_pos (by simp [h3])]
    have hst : stepC d rcs = (more, (rcs.set d.one.toNat ⟨(getR rcs d.one.toNat).sz, (getR rcs d.one.toNat).cs.take z⟩).set d.other.toNat ⟨0, more⟩) := by
      unfold stepC
      dsimp only
      rw [if_neg (by walk_at "o"), if_neg (by walk_at "o"), if_pos h3, hzz, hmore]
    walk_at "w"
    refine stIt (l := nl) (xs := nvs1) (c := cn) F13 (lay.offN hX) hother.1 (by walk_at "o") (by walk_at "o") ?_
    intro s14 F14
    generalize hnv2 : nvs1.set d.other.toNat (.int ((num wd more : Nat) : Int) u6) = nvs2 at *
    walk_at "w"
    rename_i u15 s15 F15
    refine stIt (l := ff) (xs := zvs) (c := cz) (R := ((pl, listO pvs cp) :: Rp) ++ ((nl, listO nvs2 cn) :: bnY it fl o fvs cf Rn R)) (F15.sub (by walk_at "sub")) (lay.offZ hX) hother.1 (by walk_at "o") (by walk_at "o") ?_
    intro s16 F16
    walk_at "w"
    refine ⟨rfl, _, nvs2, zvs.set d.other.toNat (.int 0 u15), cn, cz, pl, pvs, cp, Rp, F16.sub (by walk_at "sub"), hitRp, hitpl, by with_unfolding_all rfl, by with_unfolding_all assumption, by with_unfolding_all assumption, by with_unfolding_all assumption, by with_unfolding_all assumption, by with_unfolding_all assumption, by with_unfolding_all assumption, ?_, ?_, ?_⟩
    · rw [hst, nums_set, nums_set, ← hnv2]
      exact ints_set hN1 d.other.toNat _ u6
    · rw [hst, szs_set, szs_same hi]
      exact ints_set hZ d.other.toNat 0 u15
    · rw [hst]
      exact hPp
  · have h4 : d.kind = 4 := by (first | lia | omega)
    rw [if_neg (by simp [h3])]
    have hst : stepC d rcs = (more, (rcs.set d.one.toNat ⟨(getR rcs d.one.toNat).sz, (getR rcs d.one.toNat).cs.take z⟩).set d.other.toNat ⟨(getR rcs d.other.toNat).sz, (getR rcs d.other.toNat).cs ++ more⟩) := by
      unfold stepC
      dsimp only
      rw [if_neg (by walk_at "o"), if_neg (by walk_at "o"), if_neg (by walk_at "o"), if_pos h4, hzz, hmore]
    walk_at "w"
    refine cwF (G := G) TL.fBehind ?_ (by with_unfolding_all rfl)
    walk_at "w"
    refine itL (l := nl) (xs := nvs1) (c := cn) F13 (by walk_at "mem") hother.1 (by walk_at "o") (by rw [← hnv, List.getElem?_set_ne hik]; exact hvk) ?_ (by with_unfolding_all rfl)
    walk_at "w"
    refine ⟨F13.keep, ?_⟩
    refine behind_F (j := j + 2) T TL F13 (by walk_at "o") (by walk_at "o") (by walk_at "o") (by walk_at "o") hr ?_
    intro s14 t14 F14
    rw [hck.behind hw]
    walk_at "w"
    refine stIt (l := nl) (xs := nvs1) (c := cn) F14 (lay.offN hX) hother.1 (by walk_at "o") (by walk_at "o") ?_
    intro s15 F15
    walk_at "w"
    refine ⟨rfl, _, nvs1.set d.other.toNat (.int ((num wd ((getR rcs d.other.toNat).cs ++ more) : Nat) : Int) t14), zvs, cn, cz, pl, pvs, cp, Rp, F15.sub (by walk_at "sub"), hitRp, hitpl, by with_unfolding_all rfl, by with_unfolding_all assumption, by with_unfolding_all assumption, by with_unfolding_all assumption, by with_unfolding_all assumption, by with_unfolding_all assumption, by with_unfolding_all assumption, ?_, ?_, ?_⟩
    · rw [hst, nums_set, nums_set]
      exact ints_set hN1 d.other.toNat _ t14
    · rw [hst]
      dsimp only
      have := szs_same (rcs := rcs.set d.one.toNat ⟨(getR rcs d.one.toNat).sz, (getR rcs d.one.toNat).cs.take z⟩) (i := d.other.toNat) (cs := (getR rcs d.other.toNat).cs ++ more) (by rw [List.length_set]; exact hk)
      rw [getR_set_ne hik] at this
      rw [this, szs_same hi]
      exact hZ
    · rw [hst]
      exact hPp
end
section
variable {w : World} {A : Around} {E : Value → Shared → Prop} {G : Gd} {s : Shared} {R Rn : Led} {K : Frag} {j n wd : Nat} {L it nl ff fl tl : Addr} {m : Str → Option Value} {o : Obj} {nvs zvs fvs : List Value} {cn cz cf : Nat} {rcs : List RowC} {d : Deed} {t1 t2 t3 t4 tw : Tok}
theorem BnS.eq {s' : Shared} (B : BnS G w K A s L it nl ff fl tl m o nvs zvs fvs cn cz cf n j wd rcs d t1 t2 t3 t4 tw Rn R) (F : Fm G s' L m ((tl, listO [] 0) :: (nl, listO nvs cn) :: (ff, listO zvs cz) :: bnY it fl o fvs cf Rn R)) : BnS G w K A s' L it nl ff fl tl m o nvs zvs fvs cn cz cf n j wd rcs d t1 t2 t3 t4 tw Rn R :=
  ⟨B.T, B.TL, F, B.lay, B.htl, B.htn, B.hN, B.hZ, B.g, B.hn, B.ok, B.hw, B.hw2, B.hr, B.m1, B.m2, B.m3, B.m4, B.m5, B.m6, B.m7, B.m8, B.m9⟩
theorem bn_if (B : BnS G w K A s L it nl ff fl tl m o nvs zvs fvs cn cz cf n j wd rcs d t1 t2 t3 t4 tw Rn R) :
    wpAny (model pw w) (A.deeper (bnEnv L)) (exec bnIf (bnEnv L)) (bnPost G w L it nl ff fl o fvs cf wd rcs d t2 t3 tw Rn R) (fun _ _ => False) s := by
  have F := B.F
  have m7 := B.m7
  have hk := B.ok.kind
  refine wpAny_If ?_
  walk_at "w"
  rename_i u1 s1 F1
  by_cases h2 : d.kind < 2
  · rw [if_pos (by simp; (first | lia | omega))]
    exact bn_push (B.eq F1) h2
  rw [if_neg (by simp; (first | lia | omega))]
  walk_at "w"
  rename_i u2 s2 F2
  by_cases h3 : d.kind = 2
  · rw [if_pos (by simp; (first | lia | omega))]
    exact wpAny_mono (bn_pop (B.eq F2) h3) (fun f s' h => by obtain ⟨rfl, h⟩ := h; exact wpAny_execs_nil ⟨rfl, h⟩) fun _ _ e => e
  rw [if_neg (by simp; (first | lia | omega))]
  walk_at "w"
  rename_i u3 s3 F3
  by_cases h4 : d.kind < 5
  · rw [if_pos (by simp; (first | lia | omega))]
    exact wpAny_mono (bn_move (B.eq F3) (by walk_at "o")) (fun f s' h => by obtain ⟨rfl, h⟩ := h; exact wpAny_execs_nil (wpAny_execs_nil ⟨rfl, h⟩)) fun _ _ e => e
  rw [if_neg (by simp; (first | lia | omega))]
  exact wpAny_mono (bn_reset (B.eq F3) (by walk_at "o")) (fun f s' h => by obtain ⟨rfl, h⟩ := h; exact wpAny_execs_nil (wpAny_execs_nil ⟨rfl, h⟩)) fun _ _ e => e
/-- the loop's state -/
def BnI (it nl ff fl : Addr) (R : Led) (wd : Nat) (tw : Tok) (rcs : List RowC) (film : List Dat) (m' : Str → Option Value) (R' : Led) : Prop :=
  ∃ nvs zvs fvs cn cz cf Rn, R' = (nl, listO nvs cn) :: (ff, listO zvs cz) :: (fl, listO fvs cf) :: (Rn ++ R) ∧ (∀ q ∈ Rn, it < q.1) ∧ IntsAre nvs (numsOf wd rcs) ∧ IntsAre zvs (szsOf rcs) ∧ DatAll Rn fvs film ∧
    m' "numbers" = some (.ref nl) ∧ m' "firsts" = some (.ref ff) ∧ m' "film" = some (.ref fl) ∧ m' "width" = some (.int (wd : Int) tw)
def bnTail : List Stmt := (forBody (nthS (fBody (topS 19)) 3)).drop 2
theorem bn_tail {film : List Dat} (T : Tp G w K) (TL : Tl G) (lay : LayN it nl ff fl R Rn) (g : Good n rcs) (hn : n ≤ 15) (ok : DeedOk d) (hw : 5 ≤ wd) (hw2 : wd ≤ 20) (hr : Room (A.deeper (bnEnv L)) (j + 17)) (hD : DatAll Rn fvs film) (hfl : fvs.length ≤ 1000)
    (P : PostN G w L it nl ff fl (bnY it fl o fvs cf Rn R) wd d rcs t2 t3 tw s) :
    wpAny (model pw w) (A.deeper (bnEnv L)) (execs bnTail (bnEnv L)) (fun f s' => f = .next ∧ ∃ m' R', BnI it nl ff fl R wd tw (stepC d rcs).2 (film ++ [frameD d (stepC d rcs)]) m' R' ∧ Fm G s' L m' ((it, o) :: R') ∧ ∀ p ∈ R', p.1 ≠ it) (fun _ _ => False) s := by
  obtain ⟨m', nvs, zvs, cn, cz, tl, tvs, ct, Rm, F, hRm, htl, n1, n2, n3, n4, n5, n6, n7, hN, hZ, hT⟩ := P
  obtain ⟨g', hc'⟩ := g.step ok
  have hone := ok.one
  have hother := ok.other
  have hi : d.one.toNat < (stepC d rcs).2.length := by rw [g'.len]; (first | lia | omega)
  have hk : d.other.toNat < (stepC d rcs).2.length := by rw [g'.len]; (first | lia | omega)
  obtain ⟨ti, hvi⟩ := ints_get hN d.one.toNat _ (nums_get hi)
  obtain ⟨tk, hvk⟩ := ints_get hN d.other.toNat _ (nums_get hk)
  obtain ⟨ti', hzi⟩ := ints_get hZ d.one.toNat _ (szs_get hi)
  obtain ⟨tk', hzk⟩ := ints_get hZ d.other.toNat _ (szs_get hk)
  have hrn := g'.le (getR_mem hi).1
  have hqn := g'.le (getR_mem hk).1
  refine wpAny_execs_cons ?_
  walk_at "w"
  refine cwF (G := G) TL.fTold ?_ (by with_unfolding_all rfl)
  walk_at "w"
  refine itL (l := nl) (xs := nvs) (c := cn) F (by walk_at "mem") hone.1 (by walk_at "o") hvi ?_ (by with_unfolding_all rfl)
  walk_at "w"
  refine itL (l := ff) (xs := zvs) (c := cz) F (by walk_at "mem") hone.1 (by walk_at "o") hzi ?_ (by with_unfolding_all rfl)
  walk_at "w"
  refine ⟨F.keep, ?_⟩
  refine told_F (j := j + 1) (r := getR (stepC d rcs).2 d.one.toNat) T TL F hw hw2 (g'.codes hi) (by walk_at "o") hr ?_
  intro p1 s1 R1 hab1 hL1 hD1 F1
  walk_at "w"
  rename_i s2 F2
  refine gmApp (l := fl) (vs := fvs) (c := cf) F2 (by walk_at "mem") ?_
  walk_at "w"
  refine cwF (G := G) TL.fTold ?_ (by with_unfolding_all rfl)
  walk_at "w"
  refine itL (l := nl) (xs := nvs) (c := cn) F2 (by walk_at "mem") hother.1 (by walk_at "o") hvk ?_ (by with_unfolding_all rfl)
  walk_at "w"
  refine itL (l := ff) (xs := zvs) (c := cz) F2 (by walk_at "mem") hother.1 (by walk_at "o") hzk ?_ (by with_unfolding_all rfl)
  walk_at "w"
  refine ⟨F2.keep, ?_⟩
  refine told_F (j := j + 1) (r := getR (stepC d rcs).2 d.other.toNat) T TL F2 hw hw2 (g'.codes hk) (by walk_at "o") hr ?_
  intro p2 s3 R2 hab2 hL2 hD2 F3
  walk_at "w"
  rename_i tp s4 htp hLtp F4
  have hit1 : ∀ q ∈ R1, it < q.1 := fun q hq => hab1 q hq (it, o) (by walk_at "mem")
  have hit2 : ∀ q ∈ R2, it < q.1 := fun q hq => hab2 q hq (it, o) (by walk_at "mem")
  have hit3 : it < tp := htp (it, o) (by walk_at "mem")
  have hX : ∀ x ∈ (tp, tupO [.ref tl, .ref p1, .ref p2]) :: (tl, listO tvs ct) :: (R2 ++ (R1 ++ (Rm ++ Rn))), it < x.1 := by
    intro x hx
    simp only [List.mem_cons, List.mem_append] at hx
    rcases hx with rfl | rfl | hx | hx | hx | hx
    · exact hit3
    · exact htl
    · exact hit2 x hx
    · exact hit1 x hx
    · exact hRm x hx
    · exact lay.hi x hx
  refine appL (l := fl) (vs := fvs) (c := cf) (R := (nl, listO nvs cn) :: (ff, listO zvs cz) :: (it, o) :: (((tp, tupO [.ref tl, .ref p1, .ref p2]) :: (tl, listO tvs ct) :: (R2 ++ (R1 ++ (Rm ++ Rn)))) ++ R)) (F4.sub (by walk_at "sub")) ?_ (by walk_at "o") ?_
  · intro x hx
    have hf := lay.g1.1
    rcases List.mem_cons.mp hx with rfl | hx
    · exact lay.ng
    rcases List.mem_cons.mp hx with rfl | hx
    · exact lay.fg
    rcases List.mem_cons.mp hx with rfl | hx
    · exact Nat.ne_of_gt hf
    rcases List.mem_append.mp hx with hx | hx
    · exact Nat.ne_of_gt (Nat.lt_trans hf (hX x hx))
    · exact Nat.ne_of_lt (lay.g1.2 x hx)
  intro s5 F5
  walk_at "w"
  refine ⟨rfl, _, _, ⟨nvs, zvs, fvs ++ [.ref tp], cn, cz, cf + 1, (tp, tupO [.ref tl, .ref p1, .ref p2]) :: (tl, listO tvs ct) :: (R2 ++ (R1 ++ (Rm ++ Rn))), rfl, hX, hN, hZ, DatAll.append (DatAll.mono (by walk_at "sub") hD) (.cons ?_ .nil), by with_unfolding_all assumption, by with_unfolding_all assumption, by with_unfolding_all assumption, by with_unfolding_all assumption⟩, F5.sub (by walk_at "sub"), ?_⟩
  · refine .tuple (List.mem_cons_self ..) (.cons (.list (n := ct) (vs := tvs) ?_ ?_) (.cons ?_ (.cons ?_ .nil)))
    · show (tl, listO tvs ct) ∈ _
      walk_at "mem"
    · have := (hT.sub (R' := (tp, tupO [.ref tl, .ref p1, .ref p2]) :: (tl, listO tvs ct) :: (R2 ++ (R1 ++ (Rm ++ Rn)))) (by walk_at "sub")).dat
      rw [List.map_map] at this
      exact this
    · exact DatIn.mono (by walk_at "sub") hD1
    · exact DatIn.mono (by walk_at "sub") hD2
  · intro x hx
    rcases List.mem_cons.mp hx with rfl | hx
    · exact Nat.ne_of_lt lay.n1.1
    rcases List.mem_cons.mp hx with rfl | hx
    · exact Nat.ne_of_lt lay.f1.1
    rcases List.mem_cons.mp hx with rfl | hx
    · exact Nat.ne_of_lt lay.g1.1
    rcases List.mem_append.mp hx with hx | hx
    · exact Nat.ne_of_gt (hX x hx)
    · exact Nat.ne_of_lt (Nat.lt_trans (lay.n1.2 x hx) lay.n1.1)
end
section
variable {w : World} {A : Around} {E : Value → Shared → Prop} {G : Gd} {s : Shared} {R Rn : Led} {K : Frag} {j n wd : Nat} {L it nl ff fl tl : Addr} {m : Str → Option Value} {o : Obj} {nvs zvs fvs : List Value} {cn cz cf : Nat} {rcs : List RowC} {d : Deed} {t1 t2 t3 t4 tw : Tok}
theorem bn_rest {body : List Stmt} {Q : Value → Shared → Prop} {dl : Addr} {dvs : List Value} {ds : List Deed} {cd : Nat} (hb : body = (fBody (topS 19)).drop 3) (T : Tp G w K) (TL : Tl G)
    (F : Fm G s L m ((nl, listO nvs cn) :: (ff, listO zvs cz) :: (fl, listO [] 0) :: R)) (hnl : ∀ q ∈ R, q.1 < nl) (hff : ∀ q ∈ R, q.1 < ff) (hfl : ∀ q ∈ R, q.1 < fl) (h12 : nl ≠ ff) (h13 : nl ≠ fl) (h23 : ff ≠ fl)
    (hN : IntsAre nvs (numsOf wd rcs)) (hZ : IntsAre zvs (szsOf rcs)) (g : Good 0 rcs) (hw : 5 ≤ wd) (hw2 : wd ≤ 20) (hdl : (dl, listO dvs cd) ∈ R) (hds : DeedsAre R dvs ds) (hok : ∀ d ∈ ds, DeedOk d) (hz : ds.length ≤ 15) (hr : Room (A.deeper (bnEnv L)) (j + 17))
    (m1 : m "numbers" = some (.ref nl)) (m2 : m "firsts" = some (.ref ff)) (m3 : m "film" = some (.ref fl)) (m4 : m "deeds" = some (.ref dl)) (m5 : m "width" = some (.int (wd : Int) tw))
    (h : ∀ s' fvs c Rn, (∀ q ∈ Rn, fl < q.1) → St G s' ((fl, listO fvs c) :: (Rn ++ R)) → DatAll Rn fvs (filmC ds rcs) → Q (.ref fl) s') :
    wpAny (model pw w) (A.deeper (bnEnv L)) (execs body (bnEnv L)) (fun fl s'' => Q (match fl with | .ret v => v | _ => .none) s'') (fun _ _ => False) s := by
  subst hb
  refine wpAny_execs_cons ?_
  refine wpAny_For ?_ (by intro _; with_unfolding_all rfl)
  walk_at "w"
  refine iterL (vs := dvs) (c := cd) F (by walk_at "mem") ?_
  intro it s1 hit hLit F1
  have layH : ∀ Rn, (∀ q ∈ Rn, it < q.1) → LayN it nl ff fl R Rn := fun Rn hRn =>
    ⟨⟨hit (nl, listO nvs cn) (by walk_at "mem"), hnl⟩, ⟨hit (ff, listO zvs cz) (by walk_at "mem"), hff⟩, ⟨hit (fl, listO [] 0) (by walk_at "mem"), hfl⟩, h12, h13, h23, hRn⟩
  refine forL (vs := dvs) (L := L) hr.handled (fun i m' R' => BnI it nl ff fl R wd tw (runC (ds.take i) rcs) (filmC (ds.take i) rcs) m' R') F1 (fun q hq => Nat.ne_of_lt (hit q hq)) ⟨nvs, zvs, [], cn, cz, 0, [], rfl, by simp, hN, hZ, .nil, m1, m2, m3, m5⟩ ?_ (.inr ⟨⟨_, _, _, rfl⟩, hds.refs⟩) ?_ ?_
  · rintro i m' R' ⟨nvs', zvs', fvs, cn', cz', cf, Rn, rfl, _⟩
    exact ⟨cd, by walk_at "mem"⟩
  · rintro i v o m' R' s2 hv ⟨nvs', zvs', fvs, cn', cz', cf, Rn, rfl, hRn, hN', hZ', hDA, n1, n2, n3, n4⟩ F2 off2
    obtain ⟨d, Tt, t1, t2, t3, t4, hd, rfl, hTt⟩ := hds.getN i v hv
    have hdm := List.mem_of_getElem? hd
    have hi : i < ds.length := (List.getElem?_eq_some_iff.mp hd).1
    have gi := Good.run (ds.take i) g fun e he => hok e (List.mem_of_mem_take he)
    rw [List.length_take, Nat.min_eq_left (by walk_at "o"), Nat.zero_add] at gi
    refine uT (t := Tt) F2 (by walk_at "mem") hr.handled (by with_unfolding_all rfl) (by with_unfolding_all rfl) ?_
    intro s3 F3
    iterate 20 (walk_at "w1"; (try dsimp only [List.cons_append, List.nil_append]))
    rename_i s4 F4 s5 F5 s6 F6 s7 F7 tl s8 htl hLtl F8 s9 F9
    have hittl : it < tl := htl (it, o) (List.mem_cons_self ..)
    have layi : LayN it nl ff fl R Rn := layH Rn hRn
    have hfv : fvs.length ≤ 30 := by rw [hDA.length, filmC_length, List.length_take]; (first | lia | omega)
    refine wpAny_mono (bn_if (tl := tl) (nvs := nvs') (zvs := zvs') (cn := cn') (cz := cz') (rcs := runC (ds.take i) rcs) (fvs := fvs) (cf := cf) (Rn := Rn) (R := R) (it := it) (nl := nl) (ff := ff) (fl := fl) (o := o) (d := d) (t1 := t1) (t2 := t2) (t3 := t3) (t4 := t4) (tw := tw) (n := i) (j := j) (wd := wd) (K := K) ⟨T, TL, F9.sub (by walk_at "sub"), layi, hittl, fun q hq => Nat.ne_of_lt (htl q (by simp [hq])), hN', hZ', gi, by (first | lia | omega), hok d hdm, hw, hw2, hr, by with_unfolding_all rfl, by with_unfolding_all assumption, by with_unfolding_all assumption, by with_unfolding_all assumption, by with_unfolding_all rfl, by with_unfolding_all rfl, by with_unfolding_all rfl, by with_unfolding_all rfl, by with_unfolding_all assumption⟩) ?_ fun _ _ e => e
    rintro f s10 ⟨rfl, P⟩
    refine wpAny_mono (bn_tail (film := filmC (ds.take i) rcs) T TL layi gi (by walk_at "o") (hok d hdm) hw hw2 hr hDA (by walk_at "o") P) ?_ fun _ _ e => e
    rintro f s11 ⟨rfl, m11, R11, hI, F11, off11⟩
    refine ⟨m11, R11, ?_, F11, off11⟩
    rw [List.take_add_one, hd]
    show BnI it nl ff fl R wd tw (runC (ds.take i ++ [d]) rcs) (filmC (ds.take i ++ [d]) rcs) m11 R11
    rw [runC_snoc, filmC_snoc]
    exact hI
  · rintro m' R' s2 ⟨nvs', zvs', fvs, cn', cz', cf, Rn, rfl, hRn, hN', hZ', hDA, n1, n2, n3, n4⟩ F2
    rw [List.take_of_length_le (by rw [hds.1]; exact Nat.le_refl _)] at hDA
    walk_at "w"
    refine h _ fvs cf Rn (fun q hq => Nat.lt_trans (layH [] (by simp)).g1.1 (hRn q hq)) (F2.toSt.sub (by walk_at "sub")) hDA
theorem byn_spec {Q : Value → Shared → Prop} {sl dl : Addr} {svs dvs : List Value} {szs : List Int} {ds : List Deed} {cs cd : Nat} (T : Tp G w K) (TL : Tl G) (S : St G s R) (hsl : (sl, listO svs cs) ∈ R) (hsz : IntsAre svs szs) (hs3 : szs.length = 3) (hsr : ∀ z ∈ szs, 0 ≤ z ∧ z ≤ 2) (hw : 5 ≤ wd) (hw2 : wd ≤ 20)
    (hdl : (dl, listO dvs cd) ∈ R) (hds : DeedsAre R dvs ds) (hok : ∀ d ∈ ds, DeedOk d) (hz : ds.length ≤ 15) (hr : Room A (j + 18))
    (h : ∀ p s' fvs c Rn, (∀ q ∈ R, q.1 < p) → (∀ q ∈ Rn, p < q.1) → St G s' ((p, listO fvs c) :: (Rn ++ R)) → DatAll Rn fvs (filmC ds (szs.map fun z => ⟨z, []⟩)) → Q (.ref p) s') :
    wpAny (model pw w) A (call (.ref 190) [.ref sl, .ref dl, .int (wd : Int) tw]) Q E s := by
  refine enterF [("sizes", .ref sl), ("deeds", .ref dl), ("width", .int wd tw)] S hr T.lim TL.fByN (fun pm ct => BindsTo.of_eq (by kernel_rfl)) (by decide +kernel) (by kernel_rfl) (by rfl) (by rfl) (by rfl) ?_
  intro L s' hL F hlt hr'
  have hsl2 := hsz.length
  refine wpAny_execs_cons ?_
  walk_at "w"
  rename_i sc s1 hsc hLsc F1
  refine slL (l := sl) (xs := svs) (c := cs) (sl := sc) F1 (by walk_at "mem") (by walk_at "mem") .none .none (by walk_at "o") ?_ (by with_unfolding_all rfl)
  intro ff s2 hff hLff F2
  rw [pick_all] at F2
  replace F2 : Fm G s2 L _ ((ff, listO svs 0) :: R) := F2.sub (by walk_at "sub")
  iterate 2 (walk_at "w1"; (try dsimp only [List.cons_append, List.nil_append]))
  rename_i s3 F3
  iterate 17 (walk_at "w1"; (try dsimp only [List.cons_append, List.nil_append]))
  rename_i u4 s4 F4 u5 s5 F5 u6 s6 F6 nl s7 hnl hLnl F7 s8 F8 fl s9 hfl hLfl F9 s10 F10
  have g0 : Good 0 (szs.map fun z => (⟨z, []⟩ : RowC)) := by
    refine ⟨by simp [hs3], fun r hr => ?_, fun r hr => ?_, ?_⟩
    · obtain ⟨z, hz, rfl⟩ := List.mem_map.mp hr
      exact hsr z hz
    · obtain ⟨z, hz, rfl⟩ := List.mem_map.mp hr
      intro c hc
      simp at hc
    · rw [List.map_map]
      clear hsl2 hs3 hsz h hsr
      induction szs with
      | nil => simp
      | cons a l ih => simpa using ih
  have hR1 : ∀ q ∈ R, q.1 < nl := fun q hq => hnl q (by simp [hq])
  have hR2 : ∀ q ∈ R, q.1 < ff := fun q hq => hff q (by simp [hq])
  have hR3 : ∀ q ∈ R, q.1 < fl := fun q hq => hfl q (by simp [hq])
  refine bn_rest (rcs := szs.map fun z => ⟨z, []⟩) (nl := nl) (nvs := [.int 0 u4, .int 0 u5, .int 0 u6]) (cn := 0) (ff := ff) (zvs := svs) (cz := 0) (fl := fl) (dl := dl) (dvs := dvs) (cd := cd) (ds := ds) (R := R) (wd := wd) (tw := tw) (j := j) rfl T TL (F10.sub (by walk_at "sub")) hR1 hR2 hR3 ?_ ?_ ?_ ?_ ?_ g0 hw hw2 hdl hds hok hz hr' (by with_unfolding_all rfl) (by with_unfolding_all rfl) (by with_unfolding_all rfl) (by with_unfolding_all rfl) (by with_unfolding_all rfl) ?_
  · exact Nat.ne_of_gt (hnl (ff, listO svs 0) (by walk_at "mem"))
  · exact Nat.ne_of_lt (hfl (nl, listO [.int 0 u4, .int 0 u5, .int 0 u6] 0) (by walk_at "mem"))
  · exact Nat.ne_of_lt (hfl (ff, listO svs 0) (by walk_at "mem"))
  · have e : numsOf wd (szs.map fun z => (⟨z, []⟩ : RowC)) = [0, 0, 0] := by
      match szs, hs3 with
      | [a, b, c], _ => rfl
    rw [e]
    exact .cons _ _ (.cons _ _ (.cons _ _ .nil))
  · have e : szsOf (szs.map fun z => (⟨z, []⟩ : RowC)) = szs := by
      unfold szsOf
      rw [List.map_map]
      exact List.map_id szs
    rw [e]
    exact hsz
  intro s11 fvs c Rn hRn S11 hD
  exact h fl s11 fvs c Rn hR3 hRn S11 hD
end
theorem rep_all (ch n : Nat) (h : ch < 0x110000) : (rep ch n).cps.toList.all (fun c => decide (c < 0x110000)) = true := by
  rw [all_rep]
  simp [h]
theorem txt_ok (cs : List Nat) : PyData.strOk (txtPs (cs.map pcOf)) = true := by
  unfold PyData.strOk
  rw [← Array.all_toList]
  induction cs with
  | nil => rfl
  | cons c r ih =>
    rw [List.map_cons, txt_cons, List.all_append, List.all_append, ih]
    unfold pcOf
    rw [rep_all 32 _ (by decide), rep_all 111 _ (by decide)]
    rfl
theorem shade_ok (b : Bool) : PyData.strOk (shade b) = true := by cases b <;> decide +kernel
theorem seen_ok (r : RowC) (n : Nat) : kqdOk (n + 3) (seenD r) = true := by
  unfold seenD
  simp only [kqdOk, List.all_cons, List.all_nil, pcsOk, txt_ok, shade_ok, Bool.and_true]
theorem frame_ok (d : Deed) (x : List Nat × List RowC) (n : Nat) : kqdOk (n + 4) (frameD d x) = true := by
  unfold frameD
  simp only [kqdOk, List.all_cons, List.all_nil, pcsOk, seen_ok, Bool.and_true]
theorem film_ok : ∀ (ds : List Deed) (rs : List RowC), ∀ d ∈ filmC ds rs, kqdOk 8 d = true
  | [], _, d, h => by simp [filmC] at h
  | e :: r, rs, d, h => by
    rcases List.mem_cons.mp h with rfl | h
    · exact frame_ok _ _ 4
    · exact film_ok r _ d h
section
variable {w : World} {A : Around} {E : Value → Shared → Prop} {G : Gd} {s : Shared} {R : Led} {K : Frag} {Q : Value → Shared → Prop} {j : Nat} {L : Addr} {m : Str → Option Value}
theorem byp_F {sl dl : Addr} {svs dvs : List Value} {szs : List Int} {ds : List Deed} {cs cd : Nat} (T : Tp G w K) (TL : Tl G) (F : Fm G s L m R) (hsl : (sl, listO svs cs) ∈ R) (hsz : IntsAre svs szs) (hs3 : szs.length = 3) (hsr : ∀ z ∈ szs, 0 ≤ z ∧ z ≤ 2)
    (hdl : (dl, listO dvs cd) ∈ R) (hds : DeedsAre R dvs ds) (hok : ∀ d ∈ ds, DeedOk d) (hz : ds.length ≤ 30) (hr : Room A (j + 13))
    (h : ∀ p s' fvs c Rn, Fm G s' L m ((p, listO fvs c) :: (Rn ++ R)) → DatAll Rn fvs (filmC ds (szs.map fun z => ⟨z, []⟩)) → Q (.ref p) s') :
    wpAny (model pw w) A (call (.ref 173) [.ref sl, .ref dl]) Q E s := by
  obtain ⟨oL, hmL, SL, back⟩ := F.st
  refine byp_spec T TL SL (List.mem_cons_of_mem _ hsl) hsz hs3 hsr (List.mem_cons_of_mem _ hdl) (hds.sub fun q hq => List.mem_cons_of_mem _ hq) hok hz hr ?_
  intro p s' fvs c Rn hp hRn S' hD
  have hLp := hp (L, oL) (List.mem_cons_self ..)
  refine h p s' fvs c Rn (back (S'.sub (by walk_at "sub")) ?_) hD
  intro q hq
  simp only [List.mem_cons, List.mem_append] at hq
  rcases hq with rfl | hq | hq
  · exact Nat.ne_of_gt hLp
  · exact Nat.ne_of_gt (Nat.lt_trans hLp (hRn q hq))
  · exact F.off q hq
theorem byn_F {sl dl : Addr} {svs dvs : List Value} {szs : List Int} {ds : List Deed} {cs cd wd : Nat} {tw : Tok} (T : Tp G w K) (TL : Tl G) (F : Fm G s L m R) (hsl : (sl, listO svs cs) ∈ R) (hsz : IntsAre svs szs) (hs3 : szs.length = 3) (hsr : ∀ z ∈ szs, 0 ≤ z ∧ z ≤ 2) (hw : 5 ≤ wd) (hw2 : wd ≤ 20)
    (hdl : (dl, listO dvs cd) ∈ R) (hds : DeedsAre R dvs ds) (hok : ∀ d ∈ ds, DeedOk d) (hz : ds.length ≤ 15) (hr : Room A (j + 18))
    (h : ∀ p s' fvs c Rn, Fm G s' L m ((p, listO fvs c) :: (Rn ++ R)) → DatAll Rn fvs (filmC ds (szs.map fun z => ⟨z, []⟩)) → Q (.ref p) s') :
    wpAny (model pw w) A (call (.ref 190) [.ref sl, .ref dl, .int (wd : Int) tw]) Q E s := by
  obtain ⟨oL, hmL, SL, back⟩ := F.st
  refine byn_spec T TL SL (List.mem_cons_of_mem _ hsl) hsz hs3 hsr hw hw2 (List.mem_cons_of_mem _ hdl) (hds.sub fun q hq => List.mem_cons_of_mem _ hq) hok hz hr ?_
  intro p s' fvs c Rn hp hRn S' hD
  have hLp := hp (L, oL) (List.mem_cons_self ..)
  refine h p s' fvs c Rn (back (S'.sub (by walk_at "sub")) ?_) hD
  intro q hq
  simp only [List.mem_cons, List.mem_append] at hq
  rcases hq with rfl | hq | hq
  · exact Nat.ne_of_gt hLp
  · exact Nat.ne_of_gt (Nat.lt_trans hLp (hRn q hq))
  · exact F.off q hq
theorem alike_spec {x : Nat} {tx : Tok} {dl : Addr} {dvs : List Value} {ds : List Deed} {cd : Nat} (T : Tp G w K) (TL : Tl G) (S : St G s R) (hdl : (dl, listO dvs cd) ∈ R) (hds : DeedsAre R dvs ds) (hok : ∀ d ∈ ds, DeedOk d) (hz : ds.length ≤ 15) (hr : Room A (j + 19))
    (h : ∀ s', St G s' R → Q (.bool true) s') : wpAny (model pw w) A (call (.ref 197) [.int (x : Int) tx, .ref dl]) Q E s := by
  refine enterF [("first", .int x tx), ("deeds", .ref dl)] S hr T.lim TL.fAlike (fun pm ct => BindsTo.of_eq (by kernel_rfl)) (by decide +kernel) (by kernel_rfl) (by rfl) (by rfl) (by rfl) ?_
  intro L s' hL F hlt hr'
  refine wpAny_execs_cons ?_
  walk_at "w"
  rename_i q1 r1 G1 q2 r2 G2 q3 r3 G3 q4 r4 G4 q5 r5 G5 q6 r6 G6 q7 r7 G7 q8 r8 G8 q9 r9 G9 q10 r10 G10 sl s1 hsl hLsl F1 s2 F2 q11 r11 G11 q12 r12 G12 q13 r13 G13 q14 r14 G14 q15 r15 G15 q16 r16 G16 s3 F3
  clear G1 G2 G3 G4 G5 G6 G7 G8 G9 G10 G11 G12 G13 G14 G15 G16
  obtain ⟨wd, hwd⟩ : ∃ wd : Nat, 5 + (x : Int) / 27 % 16 = (wd : Int) := ⟨(5 + (x : Int) / 27 % 16).toNat, by (first | lia | omega)⟩
  rw [hwd] at F3
  have hI : IntsAre [.int ((x : Int) % 3) q2, .int ((x : Int) / 3 % 3) q6, .int ((x : Int) / 9 % 3) q10] [(x : Int) % 3, (x : Int) / 3 % 3, (x : Int) / 9 % 3] := .cons _ _ (.cons _ _ (.cons _ _ .nil))
  have hsr : ∀ z ∈ [(x : Int) % 3, (x : Int) / 3 % 3, (x : Int) / 9 % 3], 0 ≤ z ∧ z ≤ 2 := by
    intro z hz
    simp only [List.mem_cons, List.not_mem_nil, or_false] at hz
    rcases hz with rfl | rfl | rfl <;> (first | lia | omega)
  refine cwF (G := G) TL.fByP ?_ (by with_unfolding_all rfl)
  walk_at "w"
  refine ⟨F3.keep, ?_⟩
  refine byp_F (j := j + 5) (svs := [.int ((x : Int) % 3) q2, .int ((x : Int) / 3 % 3) q6, .int ((x : Int) / 9 % 3) q10]) (cs := 0) (dvs := dvs) (cd := cd) T TL F3 (by walk_at "mem") hI rfl hsr (by walk_at "mem") (hds.sub (by walk_at "sub")) hok (by walk_at "o") hr' ?_
  intro p1 s4 fvs1 c1 Rn1 F4 hD1
  walk_at "w"
  refine cwF (G := G) TL.fByN ?_ (by with_unfolding_all rfl)
  walk_at "w"
  refine ⟨F4.keep, ?_⟩
  refine byn_F (j := j) (svs := [.int ((x : Int) % 3) q2, .int ((x : Int) / 3 % 3) q6, .int ((x : Int) / 9 % 3) q10]) (cs := 0) (dvs := dvs) (cd := cd) T TL F4 (by walk_at "mem") hI rfl hsr (by walk_at "o") (by walk_at "o") (by walk_at "mem") (hds.sub (by walk_at "sub")) hok hz hr' ?_
  intro p2 s5 fvs2 c2 Rn2 F5 hD2
  walk_at "w"
  refine eqL_t (k := j + 14) F5 (a := p1) (b := p2) (xs := fvs1) (ys := fvs2) (ca := c1) (cb := c2) (by walk_at "mem") (by walk_at "mem") (DatAll.mono (by walk_at "sub") hD1) (DatAll.mono (by walk_at "sub") hD2) (film_ok _ _) (film_ok _ _) hr' rfl ?_
  walk_at "w"
  exact h _ (F5.toSt.sub (by walk_at "sub"))
theorem first_F {l : Addr} {vs : List Value} {ns : List Int} (T : Tp G w K) (TL : Tl G) (F : Fm G s L m R) (hl : G.B.IsList l vs.toArray) (hi : IntsAre vs ns) (hz : vs.length ≤ 63) (hr : Room A (j + 1))
    (h : ∀ s' t, Fm G s' L m R → Q (.int ((ns.head?.map fun x => x.natAbs).getD 59 : Nat) t) s') : wpAny (model pw w) A (call (.ref 147) [.ref l]) Q E s := by
  obtain ⟨oL, hmL, SL, back⟩ := F.st
  exact first_spec T TL SL hl hi hz hr fun s' t S' => h s' t (back S' F.off)
theorem deeds_F {l : Addr} {vs : List Value} {ns : List Int} (T : Tp G w K) (TL : Tl G) (F : Fm G s L m R) (hl : G.B.IsList l vs.toArray) (hi : IntsAre vs ns) (hz : vs.length ≤ 63) (hr : Room A (j + 1))
    (h : ∀ p s' vs c Rn, Fm G s' L m ((p, listO vs c) :: (Rn ++ R)) → DeedsAre Rn vs ((cellsOf ns).map deedOf) → Q (.ref p) s') : wpAny (model pw w) A (call (.ref 154) [.ref l]) Q E s := by
  obtain ⟨oL, hmL, SL, back⟩ := F.st
  refine deeds_spec T TL SL hl hi hz hr ?_
  intro p s' vs c Rn hp hRn S' hD
  have hLp := hp (L, oL) (List.mem_cons_self ..)
  refine h p s' vs c Rn (back (S'.sub (by walk_at "sub")) ?_) hD
  intro q hq
  simp only [List.mem_cons, List.mem_append] at hq
  rcases hq with rfl | hq | hq
  · exact Nat.ne_of_gt hLp
  · exact Nat.ne_of_gt (Nat.lt_trans hLp (hRn q hq))
  · exact F.off q hq
theorem cells_le (ns : List Int) : (cellsOf ns).length ≤ 15 := by
  unfold cellsOf
  split
  · rw [List.length_append]
    simp only [List.length_cons, List.length_nil]
    (first | lia | omega)
  · rw [List.length_take]
    (first | lia | omega)
theorem law_spec {l : Addr} {vs : List Value} {ns : List Int} (T : Tp G w K) (TL : Tl G) (S : St G s R) (hl : G.B.IsList l vs.toArray) (hi : IntsAre vs ns) (hz : vs.length ≤ 63) (hr : Room A (j + 20))
    (h : ∀ s', St G s' R → Q (.bool true) s') : wpAny (model pw w) A (call (.ref 204) [.ref l]) Q E s := by
  refine enterF [("script", .ref l)] S hr T.lim TL.fLaw (fun pm ct => BindsTo.of_eq (by kernel_rfl)) (by decide +kernel) (by kernel_rfl) (by rfl) (by rfl) (by rfl) ?_
  intro L s' hL F hlt hr'
  refine wpAny_execs_cons ?_
  walk_at "w"
  refine cwF (G := G) TL.fAlike ?_ (by with_unfolding_all rfl)
  walk_at "w"
  refine cwF (G := G) TL.fFirst ?_ (by with_unfolding_all rfl)
  walk_at "w"
  refine ⟨F.keep, ?_⟩
  refine first_F (j := j + 18) T TL F hl hi hz hr' ?_
  intro s1 t1 F1
  walk_at "w"
  refine cwF (G := G) TL.fDeeds ?_ (by with_unfolding_all rfl)
  walk_at "w"
  refine ⟨F1.keep, ?_⟩
  refine deeds_F (j := j + 18) T TL F1 hl hi hz hr' ?_
  intro dl s2 dvs cd Rn F2 hD
  walk_at "w"
  refine ⟨F2.keep, ?_⟩
  obtain ⟨oL, hmL, SL, back⟩ := F2.st
  refine alike_spec (j := j) (ds := (cellsOf ns).map deedOf) T TL SL (List.mem_cons_of_mem _ (List.mem_cons_self ..)) (hD.sub (by walk_at "sub")) ?_ (by rw [List.length_map]; exact cells_le ns) hr' ?_
  · intro d hd
    obtain ⟨c, _, rfl⟩ := List.mem_map.mp hd
    exact deedOf_ok c
  intro s3 S3
  exact h s3 (S3.sub (by walk_at "sub"))
end
structure TlEqs (K : Frag) : Prop where
  fFirst : FnEq K 147 (topS 12) "_law_first" [] 146 .none
  fDeeds : FnEq K 154 (topS 13) "_law_deeds" [] 153 .none
  fPiece : FnEq K 161 (topS 14) "_law_piece" [] 160 .none
  fSeen : FnEq K 168 (topS 15) "_law_seen" [] 167 .none
  fByP : FnEq K 173 (topS 16) "_law_by_pieces" [] 172 .none
  fBehind : FnEq K 180 (topS 17) "_law_behind" [] 179 .none
  fTold : FnEq K 185 (topS 18) "_law_told" [] 184 .none
  fByN : FnEq K 190 (topS 19) "_law_by_numbers" [] 189 .none
  fAlike : FnEq K 197 (topS 20) "_law_alike" [] 196 .none
  fLaw : FnEq K 204 (topS 21) "law" [] 203 .none
theorem fin1 {K0 : Frag} {w : World} {s₁ : Shared} {mg mb : Str → Option Value} {vs : List Value} {ns : List Int} {Q E : Value → Shared → Prop} (X0 : K0.In s₁.heap) (e : TopEqs K0 (hideK K0)) (el : TlEqs (hideK K0)) (hsz : s₁.heap.objs.size = topN) (hg : s₁.heap.Ns mainGlobals mg) (hb : s₁.heap.Ns builtinsNs mb) (lim : s₁.heap.NoLimit)
    (bm : ∃ bm ob, mg "__builtins__" = some (.ref bm) ∧ bm ≠ builtinsNs ∧ s₁.heap.get? bm = some ob ∧ ob.cls = .type "module" ∧ ob.dict = some builtinsNs ∧ ob.data = .plain) (hgens : s₁.gens = #[])
    (hL : s₁.heap.IsList 205 vs.toArray) (hi : IntsAre vs ns) (hz : vs.length ≤ 63) (h : ∀ s', OldK s₁.heap s'.heap → s'.os = s₁.os → AllBare s'.gens → Q (.bool true) s') :
    wpAny (model pw w) callerA (call (.ref 204) [.ref 205]) Q E s₁ := by
  have T : Tp (topG s₁.heap s₁.os) w (hideK K0) := tp_of e X0 hsz hg hb lim bm
  have X := hideK_in X0
  have TL : Tl (topG s₁.heap s₁.os) := ⟨fnIs_of X el.fFirst, fnIs_of X el.fDeeds, fnIs_of X el.fPiece, fnIs_of X el.fSeen, fnIs_of X el.fByP, fnIs_of X el.fBehind, fnIs_of X el.fTold, fnIs_of X el.fByN, fnIs_of X el.fAlike, fnIs_of X el.fLaw⟩
  refine law_spec (j := 0) (l := 205) T TL (st_top e X0 hgens) ?_ hi hz (room_top _ (by decide)) ?_
  · obtain ⟨o, ho, r⟩ := hL
    exact ⟨o, hide_some.mpr ⟨by decide +kernel, ho⟩, r⟩
  intro s' S'
  exact h s' (old_top e X0 S') S'.os S'.gens
theorem tlEqs_of {K : Frag} (h : ∀ r ∈ lawT, FnEq K r.f r.st r.qual r.cl r.cd r.dV) : TlEqs K :=
  ⟨h (lawT[0]'(by decide)) (List.getElem_mem _), h (lawT[1]'(by decide)) (List.getElem_mem _), h (lawT[2]'(by decide)) (List.getElem_mem _), h (lawT[3]'(by decide)) (List.getElem_mem _), h (lawT[4]'(by decide)) (List.getElem_mem _),
   h (lawT[5]'(by decide)) (List.getElem_mem _), h (lawT[6]'(by decide)) (List.getElem_mem _), h (lawT[7]'(by decide)) (List.getElem_mem _), h (lawT[8]'(by decide)) (List.getElem_mem _), h (lawT[9]'(by decide)) (List.getElem_mem _)⟩
end Mine
open PySem PySem.W PySem.W.X PyProof.Rows
set_option maxRecDepth 100000 in
set_option maxHeartbeats 0 in
theorem PySem.Challenge.cw_nb0176_01_holds : PySem.Challenge.rw_nb0176_01.Holds := by
  w_on
  refine Mine.holdsOf fun said => Mine.headL said ?hw ?hc
  case hw => w_witness2
  intro w s₀ s₁ mg mb G y fa o pm cd doc dV kV ho hd hcd hD hmg hg args vals as L hpre hlay hrd hwl hlo
  obtain ⟨e, el, en, ZN⟩ := Mine.obs_facts y
  have KX := Mine.in_keeps (Mine.fragOf_in s₀.heap Mine.needA) L.keeps
  refine Ground.open G ?_
  intro T B D TE TW
  wrow_args hpre hlay hrd hwl hlo
  obtain ⟨hat, hsz⟩ := script_at L
  rw [ZN] at hat hsz
  subst hat
  have hfa : fa = 204 := by
    have q := Mine.ns_some_of (K := Mine.hideK (Mine.fragOf s₀.heap Mine.needA)) (fun a o q => KX a o (Mine.hideK_lookup q).2) T.g en
    exact Value.ref.inj (Option.some.inj (hmg.symm.trans q))
  subst hfa
  all_lens
  refine Mine.fin1 KX e (Mine.tlEqs_of el) hsz T.g T.b T.nolimit T.bmain hg (by assumption) (by assumption) (by (first | lia | omega)) ?_
  intro s' hold hos hbare
  refine ⟨.inl ⟨.bool true, .bool true, [], rfl, fun _ => rfl, .bool true, ?_, fun _ => ⟨List.nodup_nil, by simp⟩⟩, hold, hos, hbare⟩
  exact PySem.W.postW_of (by wrow_shape) (by wtm_val) (by first | rfl | (str_meet; first | done | w_fin))
