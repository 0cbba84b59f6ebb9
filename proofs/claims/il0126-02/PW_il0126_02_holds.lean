import PyProof.Rows.All
import PyProof.MeetsDictList
import PyProof.IsiH_set
import PyProof.MeetsStr3
import PyProof.TupleOfSeq
import KE.LcSums
import KE.KBoundM
import KE.KLam
import KE.KDictIter
import KE.KDictOf
import KE.KEqDat
import KE.KEqDict
import KE.KItemsList
import KE.KNestM
import KE.KStar
import KE.KSuper
import KE.KTypeOf
import KE.RegKSuper
import Wide.FinOn
import OpenK.AllK
import Wide.All
import PySem.Challenge.RW_il0126_02
open PySem PySem.W PyProof.Rows PySem.Calls
set_option Elab.async false
set_option maxRecDepth 100000
set_option linter.all false
set_option compiler.extract_closed false
section
namespace Mine
/-- room for n calls one in the other -/
noncomputable def Room (n : Nat) (A : Around) : Prop := A.depth + n < recursionLimit ∧ A.units + 10 * n < cLine
theorem Room.le {n k : Nat} {A : Around} (h : Room n A) (hk : k ≤ n) : Room k A := ⟨by have := h.1; omega, by have := h.2; omega⟩
theorem Room.deeper {n : Nat} {A : Around} {e : Env} (h : Room (n + 1) A) : Room n (A.deeper e) := ⟨by have := h.1; show A.depth + 1 + n < _; omega, by have := h.2; show A.units + 3 + 10 * n < _; omega⟩
theorem Room.in1 {n : Nat} {A : Around} (h : Room (n + 1) A) : Room n A.in1 := ⟨by have := h.1; show A.depth + n < _; omega, by have := h.2; show A.units + 1 + 10 * n < _; omega⟩

noncomputable abbrev Led := List (Addr × Obj)
noncomputable abbrev sA (s : Shared) (h : Heap) (tk : Nat) : Shared := { s with heap := h, toks := tk }

noncomputable def IsFrm (o : Obj) : Prop := o.cls = .type "frame" ∧ ∃ es ep, o.data = .dict es ep
theorem notFrm_cls {o : Obj} (h : o.cls ≠ .type "frame") : ¬ IsFrm o := fun q => h q.1
theorem notFrm_fields {o : Obj} {vs : Array Value} (h : o.data = .fields vs) : ¬ IsFrm o := fun q => by obtain ⟨_, _, _, e⟩ := q; rw [h] at e; cases e
theorem notFrm_cell {o : Obj} {v : Option Value} (h : o.data = .cell v) : ¬ IsFrm o := fun q => by obtain ⟨_, _, _, e⟩ := q; rw [h] at e; cases e
structure KpX (T : Heap) (S : List Addr) (h h' : Heap) : Prop where
  keep : ∀ b o, b ∉ S → h.get? b = some o → ∃ sl, h'.get? b = some { o with slots := sl } ∧ ((o.cls ≠ .type "frame" ∨ (T.get? b).isSome = true) → sl = o.slots)
  nf : ∀ b o, h.get? b = some o → IsFrm o → ∃ o', h'.get? b = some o' ∧ IsFrm o'
noncomputable abbrev Kp (T h h' : Heap) : Prop := KpX T [] h h'

theorem KpX.refl {T : Heap} {S : List Addr} {h : Heap} : KpX T S h h := ⟨fun _ o _ e => ⟨o.slots, e, fun _ => rfl⟩, fun _ o e n => ⟨o, e, n⟩⟩
theorem KpX.trans {T : Heap} {S : List Addr} {h₁ h₂ h₃ : Heap} (x : KpX T S h₁ h₂) (y : KpX T S h₂ h₃) : KpX T S h₁ h₃ := by
  refine ⟨fun b o hb e => ?_, fun b o e n => ?_⟩
  · obtain ⟨sl, e1, k1⟩ := x.keep b o hb e
    obtain ⟨sl2, e2, k2⟩ := y.keep b _ hb e1
    exact ⟨sl2, e2, fun c => (k2 c).trans (k1 c)⟩
  · obtain ⟨o1, e1, n1⟩ := x.nf b o e n
    exact y.nf b o1 e1 n1
theorem KpX.get {T : Heap} {S : List Addr} {h h' : Heap} (x : KpX T S h h') {b : Addr} {o : Obj} (e : h.get? b = some o) (hb : b ∉ S) (hc : o.cls ≠ .type "frame") : h'.get? b = some o := by
  obtain ⟨sl, e1, k1⟩ := x.keep b o hb e
  rw [e1, k1 (.inl hc)]
theorem KpX.top {T : Heap} {S : List Addr} {h h' : Heap} (x : KpX T S h h') {b : Addr} {o ot : Obj} (e : h.get? b = some o) (hb : b ∉ S) (hT : T.get? b = some ot) : h'.get? b = some o := by
  obtain ⟨sl, e1, k1⟩ := x.keep b o hb e
  rw [e1, k1 (.inr (by rw [hT]; rfl))]
theorem KpX.mono {T : Heap} {S S' : List Addr} {h h' : Heap} (x : KpX T S h h') (k : ∀ b ∈ S, b ∈ S') : KpX T S' h h' :=
  ⟨fun b o hb e => x.keep b o (fun q => hb (k b q)) e, x.nf⟩
theorem KpX.of_keeps {T : Heap} {S : List Addr} {h h' : Heap} (k : ∀ b o, h.get? b = some o → h'.get? b = some o) : KpX T S h h' :=
  ⟨fun b o _ e => ⟨o.slots, k b o e, fun _ => rfl⟩, fun b o e n => ⟨o, k b o e, n⟩⟩
theorem KpX.push {T : Heap} {S : List Addr} {h : Heap} (o : Obj) : KpX T S h (h.push o) := .of_keeps fun _ _ e => Heap.get?_push_of_some _ e
theorem KpX.sameBut {T : Heap} {S : List Addr} {h h' : Heap} {a : Addr} (hs : Heap.SameBut a h h') (ha : a ∈ S) (hn : ∀ o, h.get? a = some o → IsFrm o → ∃ o', h'.get? a = some o' ∧ IsFrm o') : KpX T S h h' := by
  refine ⟨fun b o hb e => ⟨o.slots, (hs.2 b fun q => hb (q ▸ ha)).trans e, fun _ => rfl⟩, fun b o e n => ?_⟩
  by_cases q : b = a
  · subst q; exact hn o e n
  · exact ⟨o, (hs.2 b q).trans e, n⟩
theorem KpX.extBut {T : Heap} {S : List Addr} {h h' : Heap} {a : Addr} (hs : Heap.ExtBut a h h') (ha : a ∈ S) (hn : ∃ o, h.get? a = some o ∧ ¬ IsFrm o) : KpX T S h h' := by
  refine ⟨fun b o hb e => ⟨o.slots, hs b o (fun q => hb (q ▸ ha)) e, fun _ => rfl⟩, fun b o e n => ?_⟩
  by_cases q : b = a
  · subst q
    obtain ⟨o', e', d⟩ := hn
    rw [e] at e'; cases e'
    exact absurd n d
  · exact ⟨o, hs b o q e, n⟩
/-- what did not stand at the start of a stretch that touches S alone is free to turn -/
theorem KpX.drop {T : Heap} {S : List Addr} {h₀ h h' : Heap} (x : Kp T h₀ h) (y : KpX T S h h') (k : ∀ b ∈ S, h₀.get? b = none) : Kp T h₀ h' := by
  refine ⟨fun b o _ e => ?_, fun b o e n => ?_⟩
  · obtain ⟨sl, e1, k1⟩ := x.keep b o (by simp) e
    obtain ⟨sl2, e2, k2⟩ := y.keep b _ (fun q => by rw [k b q] at e; cases e) e1
    exact ⟨sl2, e2, fun c => (k2 c).trans (k1 c)⟩
  · obtain ⟨o1, e1, n1⟩ := x.nf b o e n
    exact y.nf b o1 e1 n1
theorem fresh_size (h : Heap) : h.get? h.objs.size = none := by
  cases q : h.get? h.objs.size with
  | none => rfl
  | some o => exact absurd (Heap.lt_size q) (Nat.lt_irrefl _)
theorem KpX.back {T : Heap} {S : List Addr} {h h' : Heap} (x : KpX T S h h') {b : Addr} (hb : b ∉ S) (e : h'.get? b = none) : h.get? b = none := by
  cases q : h.get? b with
  | none => rfl
  | some o => obtain ⟨sl, e1, _⟩ := x.keep b o hb q; rw [e] at e1; cases e1
theorem Kp.back {T h h' : Heap} (x : Kp T h h') {b : Addr} (e : h'.get? b = none) : h.get? b = none := KpX.back x (by simp) e

theorem funFrames_frm {h h' base : Heap} : ∀ {l : List Env}, h.FunFrames base l → (∀ b ∈ l.filterMap (·.frame), ∃ o, h'.get? b = some o ∧ IsFrm o) → h'.FunFrames base l
  | [], _, _ => trivial
  | env :: r, ⟨hk, ⟨L, o, hf, hn, ho, hd⟩, hr⟩, k => by
    have kr : ∀ b ∈ r.filterMap (·.frame), ∃ o, h'.get? b = some o ∧ IsFrm o := fun b hb => k b (by rw [List.filterMap_cons, hf]; exact .tail _ hb)
    obtain ⟨o', e', n'⟩ := k L (by rw [List.filterMap_cons, hf]; exact .head _)
    exact ⟨hk, ⟨L, o', hf, hn, e', fun vs q => notFrm_fields q n'⟩, funFrames_frm hr kr⟩

structure Fs (T : Heap) (A : Around) (h : Heap) : Prop where
  hd : A.handled = none
  fr : ∃ l, A.frames = some l ∧ h.FunFrames T l ∧ ∀ b ∈ l.filterMap (·.frame), ∃ o, h.get? b = some o ∧ IsFrm o
theorem Fs.by {T h h' : Heap} {A : Around} (f : Fs T A h) (k : ∀ b o, h.get? b = some o → IsFrm o → ∃ o', h'.get? b = some o' ∧ IsFrm o') : Fs T A h' := by
  obtain ⟨l, e, x, y⟩ := f.fr
  have y' : ∀ b ∈ l.filterMap (·.frame), ∃ o, h'.get? b = some o ∧ IsFrm o := fun b hb => by
    obtain ⟨o, e1, n1⟩ := y b hb
    exact k b o e1 n1
  exact ⟨f.hd, l, e, funFrames_frm x y', y'⟩
theorem Fs.mono {T h h' : Heap} {S : List Addr} {A : Around} (f : Fs T A h) (k : KpX T S h h') : Fs T A h' := f.by k.nf

noncomputable def Has (h : Heap) (D : Led) : Prop := ∀ p ∈ D, h.get? p.1 = some p.2 ∧ p.2.cls ≠ .type "frame"
theorem Has.nil {h : Heap} : Has h [] := fun _ hp => nomatch hp
theorem Has.mono {T h h' : Heap} {S : List Addr} {D : Led} (x : Has h D) (k : KpX T S h h') (off : ∀ p ∈ D, p.1 ∉ S) : Has h' D := fun p hp => ⟨k.get (x p hp).1 (off p hp) (x p hp).2, (x p hp).2⟩
theorem Has.mono0 {T h h' : Heap} {D : Led} (x : Has h D) (k : Kp T h h') : Has h' D := x.mono k fun _ _ => by simp
theorem Has.append {h : Heap} {D D' : Led} (x : Has h D) (y : Has h D') : Has h (D ++ D') := fun p hp => (List.mem_append.mp hp).elim (x p) (y p)
theorem Has.cons {h : Heap} {D : Led} {a : Addr} {o : Obj} (e : h.get? a = some o) (c : o.cls ≠ .type "frame") (x : Has h D) : Has h ((a, o) :: D) := fun p hp => by
  rcases List.mem_cons.mp hp with rfl | hp
  · exact ⟨e, c⟩
  · exact x p hp
theorem Has.sub {h : Heap} {D D' : Led} (x : Has h D) (k : ∀ p ∈ D', p ∈ D) : Has h D' := fun p hp => x p (k p hp)
noncomputable def New (h : Heap) (D D' : Led) : Prop := ∀ p ∈ D', p ∈ D ∨ h.get? p.1 = none
noncomputable def Fresh (h : Heap) (D : Led) : Prop := ∀ p ∈ D, h.get? p.1 = none
/-- what a call wants of the state -/
structure Go (T : Heap) (A : Around) (D : Led) (h : Heap) : Prop where
  kT : ∀ b o, T.get? b = some o → h.get? b = some o
  fs : Fs T A h
  has : Has h D

/-- the variables of a scope -/
structure Vr (env : Env) (h : Heap) (m : Str → Option Value) : Prop where
  loc : ∃ m₀, h.Ns env.locals m₀ ∧ ∀ x, env.kindOf x = some .local → ∀ v, m x = some v → m₀ x = some v
  cel : ∀ x, (env.kindOf x = some .cell ∨ env.kindOf x = some .free) → ∃ c o k, env.cells.lookup x = some c ∧ h.get? c = some o ∧ o.data = .cell k ∧ ∀ v, m x = some v → k = some v
theorem ns_keep {T h h' : Heap} {S : List Addr} (k : KpX T S h h') {a : Addr} (ha : a ∉ S) {m : Str → Option Value} (x : h.Ns a m) : h'.Ns a m := by
  obtain ⟨o, es, ep, e, d, r⟩ := x
  obtain ⟨sl, e1, _⟩ := k.keep a o ha e
  exact ⟨_, es, ep, e1, d, r⟩
theorem Vr.mono {T h h' : Heap} {S : List Addr} {env : Env} {m : Str → Option Value} (v : Vr env h m) (k : KpX T S h h') (hl : env.locals ∉ S) (hc : ∀ c, c ∈ env.cells.map (·.2) → c ∉ S) : Vr env h' m := by
  refine ⟨?_, fun x hx => ?_⟩
  · obtain ⟨m₀, n, e⟩ := v.loc
    exact ⟨m₀, ns_keep k hl n, e⟩
  · obtain ⟨c, o, kk, e1, e2, e3, e5⟩ := v.cel x hx
    have hm : c ∈ env.cells.map (·.2) := List.mem_map.mpr ⟨(x, c), by
      have : ∀ (l : List (Str × Addr)), l.lookup x = some c → (x, c) ∈ l := by
        intro l
        induction l with
        | nil => intro h; cases h
        | cons y l ih =>
          intro h
          obtain ⟨n, a⟩ := y
          rw [List.lookup_cons] at h
          cases q : x == n with
          | true => rw [q] at h; cases h; rw [beq_iff_eq.mp q]; exact .head _
          | false => rw [q] at h; exact .tail _ (ih h)
      exact this _ e1, rfl⟩
    obtain ⟨sl, e4, _⟩ := k.keep c o (hc c hm) e2
    exact ⟨c, _, kk, e1, e4, e3, e5⟩

structure St (T h₀ : Heap) (B : Led) (O : List Addr) (env : Env) (A : Around) (m : Str → Option Value) (D M : Led) (h : Heap) : Prop where
  go : Go T A D h
  kT0 : ∀ b o, T.get? b = some o → h₀.get? b = some o
  kp : Kp T h₀ h
  vr : Vr env h m
  own : ∀ a ∈ O, h₀.get? a = none ∧ ∃ o, h.get? a = some o
  offL : (∃ o, h.get? env.locals = some o) ∧ ∀ q ∈ M, env.locals ≠ q.1
  mu : Has h M
  muNew : ∀ p ∈ M, h₀.get? p.1 = none
  gr : ∀ p ∈ D, p ∈ B ∨ h₀.get? p.1 = none
  offD : ∀ p ∈ D, p.1 ∉ O ∧ ∀ q ∈ M, p.1 ≠ q.1
  offM : ∀ q ∈ M, q.1 ∉ O
  ndM : (M.map (·.1)).Nodup
  offC : ∀ c ∈ env.cells.map (·.2), (∃ o, h.get? c = some o) ∧ ∀ q ∈ M, c ≠ q.1
  sep : env.locals ∉ env.cells.map (·.2) ∧ (env.cells.map (·.2)).Nodup ∧ (env.cells.map (·.1)).Nodup

section
variable {T h₀ h h' : Heap} {O : List Addr} {env : Env} {A : Around} {m : Str → Option Value} {B D D' M : Led}
theorem mem_of_lookup {x : Str} {c : Addr} : ∀ {l : List (Str × Addr)}, l.lookup x = some c → (x, c) ∈ l
  | [], h => by cases h
  | (n, a) :: l, h => by
    rw [List.lookup_cons] at h
    cases q : x == n with
    | true => rw [q] at h; cases h; rw [beq_iff_eq.mp q]; exact .head _
    | false => rw [q] at h; exact .tail _ (mem_of_lookup h)

/-- a stretch that keeps all -/
theorem St.step (Z : St T h₀ B O env A m D M h) (k : Kp T h h') : St T h₀ B O env A m D M h' where
  go := ⟨fun b o e => k.top (Z.go.kT b o e) (by simp) e, Z.go.fs.mono k, Z.go.has.mono0 k⟩
  kT0 := Z.kT0
  kp := Z.kp.trans k
  vr := Z.vr.mono k (by simp) (fun _ _ => by simp)
  own := fun a ha => by
    obtain ⟨n, o, e⟩ := Z.own a ha
    obtain ⟨sl, e1, _⟩ := k.keep a o (by simp) e
    exact ⟨n, _, e1⟩
  offL := ⟨(by obtain ⟨⟨o, e⟩, _⟩ := Z.offL; obtain ⟨sl, e1, _⟩ := k.keep _ o (by simp) e; exact ⟨_, e1⟩), Z.offL.2⟩
  mu := Z.mu.mono0 k
  muNew := Z.muNew
  gr := Z.gr
  offD := Z.offD
  offM := Z.offM
  ndM := Z.ndM
  offC := fun c hc => by
    obtain ⟨⟨o, e⟩, r⟩ := Z.offC c hc
    obtain ⟨sl, e1, _⟩ := k.keep c o (by simp) e
    exact ⟨⟨_, e1⟩, r⟩
  sep := Z.sep

theorem St.ne_own (Z : St T h₀ B O env A m D M h) (f : New h D D') : ∀ p ∈ D', p.1 ∉ O ∧ ∀ q ∈ M, p.1 ≠ q.1 := fun p hp => by
  rcases f p hp with f | f
  · exact Z.offD p f
  · refine ⟨fun q => ?_, fun q hq e => ?_⟩
    · obtain ⟨_, o, e⟩ := Z.own _ q
      rw [f] at e; cases e
    · have := (Z.mu q hq).1
      rw [← e, f] at this; cases this
theorem St.weak {m' : Str → Option Value} (Z : St T h₀ B O env A m D M h) (k : ∀ x v, m' x = some v → m x = some v) : St T h₀ B O env A m' D M h :=
  { Z with vr := ⟨(by obtain ⟨m₀, n, e⟩ := Z.vr.loc; exact ⟨m₀, n, fun x hx v hv => e x hx v (k x v hv)⟩), fun x hx => by
      obtain ⟨c, o, kk, e1, e2, e3, e4⟩ := Z.vr.cel x hx
      exact ⟨c, o, kk, e1, e2, e3, fun v hv => e4 v (k x v hv)⟩⟩ }
/-- a stretch that keeps all and makes D' -/
theorem St.moreN (Z : St T h₀ B O env A m D M h) (k : Kp T h h') (hs : Has h' D') (f : New h D D') : St T h₀ B O env A m (D' ++ D) M h' :=
  { Z.step k with
    go := ⟨(Z.step k).go.kT, (Z.step k).go.fs, hs.append (Z.step k).go.has⟩
    gr := fun p hp => (List.mem_append.mp hp).elim (fun q => (f p q).elim (Z.gr p) fun q => .inr (Kp.back Z.kp q)) (Z.gr p)
    offD := fun p hp => (List.mem_append.mp hp).elim (Z.ne_own f p) (Z.offD p) }
theorem St.more (Z : St T h₀ B O env A m D M h) (k : Kp T h h') (hs : Has h' D') (f : Fresh h D') : St T h₀ B O env A m (D' ++ D) M h' := Z.moreN k hs fun p hp => .inr (f p hp)
theorem St.lessD (Z : St T h₀ B O env A m D M h) (k : ∀ p ∈ D', p ∈ D) : St T h₀ B O env A m D' M h :=
  { Z with go := ⟨Z.go.kT, Z.go.fs, Z.go.has.sub k⟩, gr := fun p hp => Z.gr p (k p hp), offD := fun p hp => Z.offD p (k p hp) }
end
end Mine
end
section
namespace Mine
section
variable {T h₀ h h' : Heap} {O : List Addr} {env : Env} {A : Around} {m m' : Str → Option Value} {B D D' M M' : Led}
theorem St.T_own (Z : St T h₀ B O env A m D M h) {a : Addr} (ha : a ∈ O) : T.get? a = none := by
  cases q : T.get? a with
  | none => rfl
  | some o => have := Z.kT0 a o q; rw [(Z.own a ha).1] at this; cases this
theorem St.T_mu (Z : St T h₀ B O env A m D M h) {p : Addr × Obj} (hp : p ∈ M) : T.get? p.1 = none := by
  cases q : T.get? p.1 with
  | none => rfl
  | some o => have := Z.kT0 _ o q; rw [Z.muNew p hp] at this; cases this

/-- own addresses turn -/
theorem St.turnO {S : List Addr} (Z : St T h₀ B O env A m D M h) (k : KpX T S h h') (hS : ∀ b ∈ S, b ∈ O) (ex : ∀ b ∈ S, ∃ o, h'.get? b = some o) (v : Vr env h' m') : St T h₀ B O env A m' D M h' where
  go := ⟨fun b o e => k.top (Z.go.kT b o e) (fun q => by rw [Z.T_own (hS b q)] at e; cases e) e, Z.go.fs.mono k, Z.go.has.mono k fun p hp q => (Z.offD p hp).1 (hS _ q)⟩
  kT0 := Z.kT0
  kp := KpX.drop Z.kp k fun b hb => (Z.own b (hS b hb)).1
  vr := v
  own := fun a ha => by
    obtain ⟨n, o, e⟩ := Z.own a ha
    by_cases q : a ∈ S
    · exact ⟨n, ex a q⟩
    · obtain ⟨sl, e1, _⟩ := k.keep a o q e
      exact ⟨n, _, e1⟩
  offL := ⟨(by
    obtain ⟨⟨o, e⟩, _⟩ := Z.offL
    by_cases q : env.locals ∈ S
    · exact ex _ q
    · obtain ⟨sl, e1, _⟩ := k.keep _ o q e
      exact ⟨_, e1⟩), Z.offL.2⟩
  mu := Z.mu.mono k fun p hp q => Z.offM p hp (hS _ q)
  muNew := Z.muNew
  gr := Z.gr
  offD := Z.offD
  offM := Z.offM
  ndM := Z.ndM
  offC := fun c hc => by
    obtain ⟨⟨o, e⟩, r⟩ := Z.offC c hc
    by_cases q : c ∈ S
    · exact ⟨ex c q, r⟩
    · obtain ⟨sl, e1, _⟩ := k.keep c o q e
      exact ⟨⟨_, e1⟩, r⟩
  sep := Z.sep

/-- mutable objects turn: the same addresses -/
theorem St.turnM {S : List Addr} (Z : St T h₀ B O env A m D M h) (k : KpX T S h h') (hS : ∀ b ∈ S, b ∈ M.map (·.1)) (hM : ∀ a ∈ M'.map (·.1), a ∈ M.map (·.1)) (nd : (M'.map (·.1)).Nodup) (hs : Has h' M') : St T h₀ B O env A m D M' h' := by
  have inM : ∀ b ∈ S, ∃ p ∈ M, p.1 = b := fun b hb => by obtain ⟨p, hp, e⟩ := List.mem_map.mp (hS b hb); exact ⟨p, hp, e⟩
  have back : ∀ p ∈ M', ∃ q ∈ M, q.1 = p.1 := fun p hp => by
    have : p.1 ∈ M'.map (·.1) := List.mem_map_of_mem hp
    obtain ⟨q, hq, e⟩ := List.mem_map.mp (hM _ this)
    exact ⟨q, hq, e⟩
  have offO : ∀ b ∈ S, b ∉ O := fun b hb => by obtain ⟨p, hp, e⟩ := inM b hb; exact e ▸ Z.offM p hp
  exact {
    go := ⟨fun b o e => k.top (Z.go.kT b o e) (fun q => by obtain ⟨p, hp, e'⟩ := inM b q; rw [← e', Z.T_mu hp] at e; cases e) e, Z.go.fs.mono k,
      Z.go.has.mono k fun p hp q => by obtain ⟨r, hr, e⟩ := inM _ q; exact (Z.offD p hp).2 r hr e.symm⟩
    kT0 := Z.kT0
    kp := KpX.drop Z.kp k fun b hb => by obtain ⟨p, hp, e⟩ := inM b hb; exact e ▸ Z.muNew p hp
    vr := Z.vr.mono k (fun q => by obtain ⟨p, hp, e⟩ := inM _ q; exact Z.offL.2 p hp e.symm) fun c hc q => by obtain ⟨p, hp, e⟩ := inM c q; exact (Z.offC c hc).2 p hp e.symm
    own := fun a ha => by
      obtain ⟨n, o, e⟩ := Z.own a ha
      obtain ⟨sl, e1, _⟩ := k.keep a o (fun q => offO a q ha) e
      exact ⟨n, _, e1⟩
    offL := ⟨(by
      obtain ⟨⟨o, e⟩, r⟩ := Z.offL
      obtain ⟨sl, e1, _⟩ := k.keep _ o (fun q => by obtain ⟨p, hp, e⟩ := inM _ q; exact r p hp e.symm) e
      exact ⟨_, e1⟩), fun p hp e => by obtain ⟨q, hq, e'⟩ := back p hp; exact Z.offL.2 q hq (e.trans e'.symm)⟩
    mu := hs
    muNew := fun p hp => by obtain ⟨q, hq, e⟩ := back p hp; exact e ▸ Z.muNew q hq
    gr := Z.gr
    offD := fun p hp => ⟨(Z.offD p hp).1, fun q hq e => by obtain ⟨r, hr, e'⟩ := back q hq; exact (Z.offD p hp).2 r hr (e.trans e'.symm)⟩
    offM := fun p hp => by obtain ⟨q, hq, e⟩ := back p hp; exact e ▸ Z.offM q hq
    ndM := nd
    offC := fun c hc => by
      obtain ⟨⟨o, e⟩, r⟩ := Z.offC c hc
      obtain ⟨sl, e1, _⟩ := k.keep c o (fun q => by obtain ⟨p, hp, e⟩ := inM c q; exact r p hp e.symm) e
      exact ⟨⟨_, e1⟩, fun p hp e => by obtain ⟨q, hq, e'⟩ := back p hp; exact r q hq (e.trans e'.symm)⟩
    sep := Z.sep }

/-- a mutable object more -/
theorem St.moreM {a : Addr} {o : Obj} (Z : St T h₀ B O env A m D M h) (k : Kp T h h') (e : h'.get? a = some o) (c : o.cls ≠ .type "frame") (f : h.get? a = none) : St T h₀ B O env A m D ((a, o) :: M) h' :=
  have Z' := Z.step k
  have nM : ∀ q ∈ M, a ≠ q.1 := fun q hq e' => by have := (Z.mu q hq).1; rw [← e', f] at this; cases this
  { Z' with
    mu := Has.cons e c Z'.mu
    muNew := fun p hp => by
      rcases List.mem_cons.mp hp with rfl | hp
      · exact Kp.back Z.kp f
      · exact Z.muNew p hp
    offD := fun p hp => ⟨(Z.offD p hp).1, fun q hq e' => by
      rcases List.mem_cons.mp hq with rfl | hq
      · have := (Z.go.has p hp).1; rw [e', f] at this; cases this
      · exact (Z.offD p hp).2 q hq e'⟩
    offM := fun q hq q' => by
      rcases List.mem_cons.mp hq with rfl | hq
      · obtain ⟨_, o', e'⟩ := Z.own _ q'; rw [f] at e'; cases e'
      · exact Z.offM q hq q'
    ndM := List.nodup_cons.mpr ⟨fun hm => by obtain ⟨q, hq, e'⟩ := List.mem_map.mp hm; exact nM q hq e'.symm, Z.ndM⟩
    offL := ⟨Z'.offL.1, fun q hq e' => by
      rcases List.mem_cons.mp hq with rfl | hq
      · obtain ⟨⟨o', e2⟩, _⟩ := Z.offL
        rw [e', f] at e2; cases e2
      · exact Z.offL.2 q hq e'⟩
    offC := fun c' hc => ⟨(Z'.offC c' hc).1, fun q hq e' => by
      rcases List.mem_cons.mp hq with rfl | hq
      · obtain ⟨⟨o', e2⟩, _⟩ := Z.offC c' hc
        rw [e', f] at e2; cases e2
      · exact (Z.offC c' hc).2 q hq e'⟩ }
end
end Mine
end
section
namespace Mine
theorem putName_cls (name : Str) (hs : Int) (k v : Value) (o : Obj) : (Obj.putName name hs k v o).cls = o.cls := by
  rw [Obj.putName_eq]
  obtain ⟨c, d, dt, sl⟩ := o
  cases dt <;> try rfl
  simp only [Obj.putNameByArray]
  split <;> rfl
theorem putName_freed (name : Str) (hs : Int) (k v : Value) (o : Obj) (es : Array DictEntry) (ep : Nat) (hd : o.data = .dict es ep) : ∃ es' ep', (Obj.putName name hs k v o).data = .dict es' ep' := by
  rw [Obj.putName_eq]
  obtain ⟨c, d, dt, sl⟩ := o
  subst hd
  simp only [Obj.putNameByArray]
  split <;> exact ⟨_, _, rfl⟩
open Sem in
theorem wp_nsSetC {M : Model} {Γ : Ctx} {E : Value → Pos → Shared → Prop} {p : Pos} {s : Shared} {a : Addr} {m} (hn : s.heap.Ns a m) (name : Str) (v : Value) (Q : Unit → Pos → Shared → Prop)
    (hQ : ∀ h', h'.Ns a (fun x => if x = name then some v else m x) → Heap.SameBut a s.heap h' → (∀ o, s.heap.get? a = some o → ∃ o', h'.get? a = some o' ∧ o'.cls = o.cls) → Q () p { s with heap := h', toks := s.toks + 1 }) : wp M Γ (nsSet a name v) Q E p s := by
  have h1 := Sem.wp_nsSet (M := M) (Γ := Γ) (E := E) (p := p) (s := s) hn name v (fun _ p' s' => p' = p ∧ s'.heap.Ns a (fun x => if x = name then some v else m x) ∧ Heap.SameBut a s.heap s'.heap) (fun h' a b => ⟨rfl, a, b⟩)
  obtain ⟨o, es, ep, ho, hd, hk, hm⟩ := hn
  have hany : es.any (·.refKey) = false := by
    rw [Array.any_eq_false']; intro e he; obtain ⟨n, t, h⟩ := hk e he; simp [DictEntry.refKey, h]
  simp only [nsSet, strHash, wp_bind', wp_cmd_ask, wp_pure', wp_cmd_mkText] at h1 ⊢
  rw [wp_loadPart_of M Γ E p { s with toks := s.toks + 1 } (o := o) _ ho] at h1 ⊢
  simp only [hd, aRefKeyMayBeTheName_eq, aRefKeyMayBeTheNameByArray, hany, Bool.and_false, Bool.false_eq_true, if_false, wp_cmd_updatePart] at h1 ⊢
  refine ⟨h1.1, hQ _ h1.2.2.1 h1.2.2.2 fun o' e => ?_⟩
  rw [ho] at e
  cases e
  obtain ⟨es', ep', hd'⟩ := putName_freed name (PyData.keyHash M.w.params name) (.str name s.toks) v o es ep hd
  have hf : ∀ q : Obj, q.data = .dict es' ep' → q.isFreed = false := fun q e => by obtain ⟨c, d, dt, sl⟩ := q; cases e; rfl
  exact ⟨_, Heap.get?_update_self _ ho (hf _ hd'), putName_cls _ _ _ _ _⟩
theorem storeNameC {M : Model} {A : Around} {E : Value → Shared → Prop} {s : Shared} {env : Env} {name : Str} {m : Str → Option Value} {v : Value} {Q : Unit → Shared → Prop} (hl : env.kindOf name = some .local) (hn : s.heap.Ns env.locals m)
    (h : ∀ h', h'.Ns env.locals (fun x => if x = name then some v else m x) → Heap.SameBut env.locals s.heap h' → (∀ o, s.heap.get? env.locals = some o → IsFrm o → ∃ o', h'.get? env.locals = some o' ∧ IsFrm o') → Q () { s with heap := h', toks := s.toks + 1 })
    (hp : (env.scope.kind == .class || (env.scope.kind == .module && env.locals != env.globals)) = false) : wpAny M A (storeName env name v) Q E s := by
  rw [storeName_local hl hp]
  exact fun Γ p _ => wp_nsSetC hn name v _ fun h' a b c => h h' a b fun o e f => by
    obtain ⟨o', e', c'⟩ := c o e
    obtain ⟨o2, es, ep, e2, d2, _⟩ := a
    rw [e'] at e2
    cases e2
    exact ⟨o', e', c'.trans f.1, es, ep, d2⟩

/-- what is known of the top -/
structure Cx (K : Frag) (T : Heap) : Prop where
  X : K.In T
  top : ∃ p loose mg mb, TopRead p loose mg mb T
  blt : ∃ mg, T.Ns mainGlobals mg ∧ ∃ bm ob, mg "__builtins__" = some (.ref bm) ∧ bm ≠ builtinsNs ∧ T.get? bm = some ob ∧ ob.cls = .type "module" ∧ ob.dict = some builtinsNs ∧ ob.data = .plain

section
variable {prog : Program} {w : World} {K : Frag} {T h₀ h : Heap} {O : List Addr} {env : Env} {A : Around} {m : Str → Option Value} {B D M : Led} {s : Shared} {tk : Nat} {E : Value → Shared → Prop}
theorem Cx.inn (C : Cx K T) (kT : ∀ b o, T.get? b = some o → h.get? b = some o) : K.In h := C.X.keeps kT
theorem Cx.noLimit (C : Cx K T) (kT : ∀ b o, T.get? b = some o → h.get? b = some o) : h.NoLimit := by
  obtain ⟨_, _, _, _, t⟩ := C.top
  exact t.nolimit.keeps kT

noncomputable abbrev upd (m : Str → Option Value) (x : Str) (v : Value) : Str → Option Value := fun y => if y = x then some v else m y

noncomputable def isVar : Option NameKind → Bool
  | some .local | some .cell | some .free => true
  | _ => false

theorem loadVar {x : Str} {v : Value} {Q : Value → Shared → Prop} (Z : St T h₀ B O env A m D M h) (hv : m x = some v) (hQ : Q v (sA s h tk))
    (hk : env.scope.kind = .function) (hx : isVar (env.kindOf x) = true) (hn : (x == ("__classdict__" : Str)) = false) :
    wpAny (model prog w) A (loadName env x) Q E (sA s h tk) := by
  cases q : env.kindOf x with
  | none => rw [q] at hx; cases hx
  | some k =>
    cases k with
    | «local» =>
      obtain ⟨m₀, n, e⟩ := Z.vr.loc
      exact wpAny_loadName_local hk q n (e x q v hv) hQ
    | cell =>
      obtain ⟨c, o, kk, e1, e2, e3, e4⟩ := Z.vr.cel x (.inl q)
      rw [e4 v hv] at e3
      exact wpAny_loadName_cell hk q e1 ⟨o, e2, e3⟩ hQ
    | free =>
      obtain ⟨c, o, kk, e1, e2, e3, e4⟩ := Z.vr.cel x (.inr q)
      rw [e4 v hv] at e3
      exact wpAny_loadName_free hk q e1 ⟨o, e2, e3⟩ hQ hn
    | _ => rw [q] at hx; cases hx

theorem nmV {x : Str} {pos : Pos} {v : Value} {Q : Value → Shared → Prop} (Z : St T h₀ B O env A m D M h) (hv : m x = some v) (hQ : Q v (sA s h tk))
    (hk : env.scope.kind = .function := by rfl) (hx : isVar (env.kindOf x) = true := by rfl) (hn : (x == ("__classdict__" : Str)) = false := by decide) (hd : (x == ("__debug__" : Str)) = false := by decide) :
    wpAny (model prog w) A (eval (.Name x pos) env) Q E (sA s h tk) := wpAny_Name (loadVar Z hv hQ hk hx hn) hd

theorem nmG {x : Str} {pos : Pos} {v : Value} {Q : Value → Shared → Prop} (C : Cx K T) (Z : St T h₀ B O env A m D M h) (e : nsIn K mainGlobals x = some (some v)) (hQ : Q v (sA s h tk))
    (hk : env.scope.kind = .function := by rfl) (hg : env.globals = mainGlobals := by rfl) (hx : env.kindOf x = some .globalImplicit := by rfl) (hd : (x == ("__debug__" : Str)) = false := by decide) :
    wpAny (model prog w) A (eval (.Name x pos) env) Q E (sA s h tk) := by
  obtain ⟨_, _, mg, mb, t⟩ := C.top
  exact Name_function_global hk hx (loadGlobal_global (by rw [hg]; exact t.g.keeps Z.go.kT) (mg_of C.X t.g e) hQ) hd

theorem nmB {x : Str} {pos : Pos} {v : Value} {Q : Value → Shared → Prop} (C : Cx K T) (Z : St T h₀ B O env A m D M h) (e : nsIn K mainGlobals x = some none) (hv : bootBuiltins x = some v) (hQ : Q v (sA s h tk))
    (hk : env.scope.kind = .function := by rfl) (hg : env.globals = mainGlobals := by rfl) (hb : env.builtins = builtinsNs := by rfl) (hx : env.kindOf x = some .globalImplicit := by rfl) (hd : (x == ("__debug__" : Str)) = false := by decide) (hn : x ≠ "__name__" := by decide) :
    wpAny (model prog w) A (eval (.Name x pos) env) Q E (sA s h tk) := by
  obtain ⟨_, _, mg, mb, t⟩ := C.top
  exact Name_function_global hk hx (loadGlobal_builtin (by rw [hg]; exact t.g.keeps Z.go.kT) (mg_none_of C.X t.g e) (by rw [hb]; exact t.b.keeps Z.go.kT) ((t.builtins x hn).trans hv) hQ) hd

theorem stV {x : Str} {v : Value} {Q : Unit → Shared → Prop} (Z : St T h₀ B O env A m D M h)
    (hQ : ∀ h' tk', St T h₀ B O env A (upd m x v) D M h' → KpX T O h h' → Q () (sA s h' tk'))
    (hk : env.scope.kind = .function) (hl : env.locals ∈ O) (hx : env.kindOf x = some .local ∨ (env.kindOf x = some .cell ∧ ∀ c, env.cells.lookup x = some c → c ∈ O)) :
    wpAny (model prog w) A (storeName env x v) Q E (sA s h tk) := by
  rcases hx with hx | ⟨hx, hO⟩
  · obtain ⟨m₀, n, e⟩ := Z.vr.loc
    refine storeNameC hx n (fun h' hn hs hfr => hQ h' _ (Z.turnO (S := [env.locals]) ?_ (fun b hb => by rw [List.mem_singleton.mp hb]; exact hl) (fun b hb => ?_) ?_) ((KpX.sameBut hs (.head _) hfr).mono fun b hb => by rw [List.mem_singleton.mp hb]; exact hl)) (by rw [hk]; rfl)
    · exact KpX.sameBut hs (.head _) hfr
    · rw [List.mem_singleton.mp hb]
      obtain ⟨o, es, ep, eo, _⟩ := hn
      exact ⟨o, eo⟩
    · refine ⟨⟨_, hn, fun y hy u hu => ?_⟩, fun y hy => ?_⟩
      · unfold upd at hu
        by_cases q : y = x
        · rw [if_pos q] at hu; rw [if_pos q]; exact hu
        · rw [if_neg q] at hu; rw [if_neg q]; exact e y hy u hu
      · obtain ⟨c, o, kk, e1, e2, e3, e4⟩ := Z.vr.cel y hy
        have hyx : y ≠ x := fun q => by subst q; rw [hx] at hy; rcases hy with hy | hy <;> cases hy
        refine ⟨c, o, kk, e1, (hs.2 c fun q => ?_).trans e2, e3, fun u hu => e4 u (by unfold upd at hu; rw [if_neg hyx] at hu; exact hu)⟩
        exact Z.sep.1 (q ▸ List.mem_map.mpr ⟨(y, c), mem_of_lookup e1, rfl⟩)
  · obtain ⟨c, o, kk, e1, e2, e3, e4⟩ := Z.vr.cel x (.inl hx)
    refine wpAny_storeName_cell hk hx e1 ⟨o, e2, e3⟩ fun h' hv hs => hQ h' _ (Z.turnO (S := [c]) ?_ (fun b hb => by rw [List.mem_singleton.mp hb]; exact hO c e1) (fun b hb => ?_) ?_) ((KpX.sameBut hs (.head _) fun o3 e3' f => absurd f (notFrm_cell (by rw [e2] at e3'; cases e3'; exact e3))).mono fun b hb => by rw [List.mem_singleton.mp hb]; exact hO c e1)
    · exact KpX.sameBut hs (.head _) fun o3 e3' f => absurd f (notFrm_cell (by rw [e2] at e3'; cases e3'; exact e3))
    · rw [List.mem_singleton.mp hb]
      obtain ⟨o', eo, _⟩ := hv
      exact ⟨o', eo⟩
    · refine ⟨?_, fun y hy => ?_⟩
      · obtain ⟨m₀, n, e⟩ := Z.vr.loc
        refine ⟨m₀, n.sameBut hs fun q => Z.sep.1 (q ▸ List.mem_map.mpr ⟨(x, c), mem_of_lookup e1, rfl⟩), fun y hy u hu => ?_⟩
        have hyx : y ≠ x := fun q => by subst q; rw [hx] at hy; cases hy
        unfold upd at hu; rw [if_neg hyx] at hu; exact e y hy u hu
      · by_cases q : y = x
        · subst q
          obtain ⟨o', eo, ed⟩ := hv
          exact ⟨c, o', _, e1, eo, ed, fun u hu => by unfold upd at hu; rw [if_pos rfl] at hu; exact hu⟩
        · obtain ⟨c', o', kk', e1', e2', e3', e4'⟩ := Z.vr.cel y hy
          refine ⟨c', o', kk', e1', (hs.2 c' fun r => ?_).trans e2', e3', fun u hu => e4' u (by unfold upd at hu; rw [if_neg q] at hu; exact hu)⟩
          subst r
          have m1 := mem_of_lookup e1
          have m2 := mem_of_lookup e1'
          have : ∀ (l : List (Str × Addr)), (l.map (·.2)).Nodup → (x, c') ∈ l → (y, c') ∈ l → x = y := by
            intro l
            induction l with
            | nil => intro _ h; cases h
            | cons z l ih =>
              intro nd h1 h2
              obtain ⟨n1, n2⟩ := List.nodup_cons.mp nd
              rcases List.mem_cons.mp h1 with g1 | g1 <;> rcases List.mem_cons.mp h2 with g2 | g2
              · rw [← g2] at g1; exact (Prod.mk.inj g1).1
              · exact absurd (List.mem_map.mpr ⟨_, g2, by rw [← g1]⟩) n1
              · exact absurd (List.mem_map.mpr ⟨_, g1, by rw [← g2]⟩) n1
              · exact ih n2 g1 g2
          exact q (this _ Z.sep.2.1 m1 m2).symm
end
end Mine
end
section
namespace Mine
section
variable {prog : Program} {w : World} {K : Frag} {T h₀ h : Heap} {O : List Addr} {env : Env} {A : Around} {m : Str → Option Value} {B D M : Led} {s : Shared} {tk : Nat} {E : Value → Shared → Prop}
noncomputable def bindAll (binds : List (Str × Value)) (m : Str → Option Value) : Str → Option Value := binds.foldl (fun m p => upd m p.1 p.2) m

theorem bindSt {env : Env} (f : Str × Value → PUnit → Sem (ForInStep PUnit)) (hf : ∀ n v u, f (n, v) u = (do storeName env n v; pure (.yield ⟨⟩))) (hk : env.scope.kind = .function) (hl : env.locals ∈ O) :
    ∀ (binds : List (Str × Value)) (m : Str → Option Value) (h : Heap) (tk : Nat) (Q : PUnit → Shared → Prop), St T h₀ B O env A m D M h →
      (∀ x ∈ binds, env.kindOf x.1 = some .local ∨ (env.kindOf x.1 = some .cell ∧ ∀ c, env.cells.lookup x.1 = some c → c ∈ O)) →
      (∀ h' tk', St T h₀ B O env A (bindAll binds m) D M h' → KpX T O h h' → Q ⟨⟩ (sA s h' tk')) → wpAny (model prog w) A (forIn binds ⟨⟩ f) Q E (sA s h tk)
  | [], m, h, tk, Q, Z, _, hQ => by rw [List.forIn_nil]; exact wpAny_pure (hQ h tk Z .refl)
  | (n, v) :: r, m, h, tk, Q, Z, hkind, hQ => by
    rw [List.forIn_cons, hf]
    refine wpAny_bind (wpAny_bind (stV Z (fun h' tk' Z' kx => wpAny_pure ?_) hk hl (hkind _ List.mem_cons_self)))
    exact bindSt f hf hk hl r _ h' tk' Q Z' (fun x hx => hkind x (List.mem_cons_of_mem _ hx)) fun h2 tk2 Z2 k2 => hQ h2 tk2 Z2 (kx.trans k2)

theorem cellsFrom_mem : ∀ (names : List (Str × NameKind)) (n : Nat) (acc : List (Str × Addr)) (x : Str) (c : Addr), (x, c) ∈ cellsFrom n names acc → (x, c) ∈ acc ∨ (n ≤ c ∧ names.lookup x ≠ none)
  | [], _, _, _, _, hm => .inl hm
  | (y, k) :: r, n, acc, x, c, hm => by
    unfold cellsFrom at hm
    have look : List.lookup x r ≠ none → List.lookup x ((y, k) :: r) ≠ none := fun h => by
      rw [List.lookup_cons]
      cases q : x == y with
      | true => simp
      | false => exact h
    split at hm
    · rcases cellsFrom_mem r (n + 1) _ x c hm with e | ⟨e1, e2⟩
      · rcases List.mem_cons.mp e with e | e
        · cases e
          exact .inr ⟨Nat.le_refl _, by rw [List.lookup_cons]; simp⟩
        · exact .inl e
      · exact .inr ⟨by omega, look e2⟩
    · rcases cellsFrom_mem r n acc x c hm with e | ⟨e1, e2⟩
      · exact .inl e
      · exact .inr ⟨e1, look e2⟩

noncomputable def nodupS : List Str → Bool
  | [] => true
  | x :: r => !(r.contains x) && nodupS r
theorem nodupS_iff : ∀ {l : List Str}, nodupS l = true → l.Nodup
  | [], _ => List.nodup_nil
  | x :: r, h => by
    simp only [nodupS, Bool.and_eq_true, Bool.not_eq_true'] at h
    refine List.nodup_cons.mpr ⟨fun hm => ?_, nodupS_iff h.2⟩
    rw [List.contains_iff_mem.mpr hm] at h
    cases h.1
theorem cellsFrom_names : ∀ (names : List (Str × NameKind)) (n k : Nat) (acc acc' : List (Str × Addr)), acc.map (·.1) = acc'.map (·.1) → (cellsFrom n names acc).map (·.1) = (cellsFrom k names acc').map (·.1)
  | [], _, _, _, _, h => h
  | (y, kd) :: r, n, k, acc, acc', h => by
    unfold cellsFrom
    split
    · exact cellsFrom_names r _ _ _ _ (by simp [h])
    · exact cellsFrom_names r _ _ _ _ h
theorem lookup_of_nodup {x : Str} {c : Addr} : ∀ {l : List (Str × Addr)}, (l.map (·.1)).Nodup → (x, c) ∈ l → l.lookup x = some c
  | (y, d) :: l, nd, hm => by
    obtain ⟨n1, n2⟩ := List.nodup_cons.mp nd
    rw [List.lookup_cons]
    rcases List.mem_cons.mp hm with e | e
    · cases e; simp
    · have hxy : (x == y) = false := beq_eq_false_iff_ne.mpr fun q => n1 (q ▸ List.mem_map.mpr ⟨_, e, rfl⟩)
      rw [hxy]; exact lookup_of_nodup n2 e

/-- the addresses of its own that a scope has -/
noncomputable abbrev ownOf (L : Addr) (cells : List (Str × Addr)) : List Addr := L :: (cells.map (·.2)).filter fun c => decide (L < c)
noncomputable abbrev newM (cl : List (Str × Addr)) (cm : Str → Option Value) : Str → Option Value := fun x => match cl.lookup x with | some _ => cm x | none => none
noncomputable def looksOk (names : List (Str × NameKind)) (cells : List (Str × Addr)) : Bool := names.all fun x => !(x.2 == .cell || x.2 == .free) || (cells.lookup x.1).isSome


theorem cellsFrom_app : ∀ (names : List (Str × NameKind)) (n : Nat) (acc : List (Str × Addr)), cellsFrom n names acc = cellsFrom n names [] ++ acc
  | [], _, _ => rfl
  | (y, kd) :: r, n, acc => by
    unfold cellsFrom
    split
    · rw [cellsFrom_app r (n + 1) ((y, n) :: acc), cellsFrom_app r (n + 1) [(y, n)], List.append_assoc]; rfl
    · exact cellsFrom_app r n acc
theorem looksOk_get {names : List (Str × NameKind)} {cells : List (Str × Addr)} (h : looksOk names cells = true) {x : Str} (hx : names.lookup x = some .cell ∨ names.lookup x = some .free) : ∃ c, cells.lookup x = some c := by
  have mem : ∀ {l : List (Str × NameKind)} {k : NameKind}, l.lookup x = some k → (x, k) ∈ l := by
    intro l k
    induction l with
    | nil => intro h; cases h
    | cons y l ih =>
      obtain ⟨n, a⟩ := y
      intro h
      rw [List.lookup_cons] at h
      cases q : x == n with
      | true => rw [q] at h; cases h; rw [beq_iff_eq.mp q]; exact .head _
      | false => rw [q] at h; exact .tail _ (ih h)
  have go : ∀ k : NameKind, (x, k) ∈ names → (k == .cell || k == .free) = true → ∃ c, cells.lookup x = some c := fun k hm hk => by
    have := List.all_eq_true.mp h _ hm
    simp only [hk, Bool.not_true, Bool.false_or] at this
    exact Option.isSome_iff_exists.mp this
  rcases hx with hx | hx
  · exact go _ (mem hx) rfl
  · exact go _ (mem hx) rfl

theorem openSt {names : List (Str × NameKind)} {lo : Obj} {cl : List (Str × Addr)} {cm : Str → Option Value} (hlo : ∃ c, lo = { cls := c, data := .dict #[] })
    (hloc : env.locals = h.objs.size) (hcel : env.cells = cellsFrom (h.objs.size + 1) names [] ++ cl)
    (go : Go T A D h) (kT0 : ∀ b o, T.get? b = some o → h₀.get? b = some o) (kp : Kp T h₀ h) (hgr : ∀ p ∈ D, p ∈ B ∨ h₀.get? p.1 = none) (mu : Has h M) (muNew : ∀ p ∈ M, h₀.get? p.1 = none) (ndM : (M.map (·.1)).Nodup) (offDM : ∀ p ∈ D, ∀ q ∈ M, p.1 ≠ q.1)
    (hcl : ∀ x c, (x, c) ∈ cl → (∃ o, h.get? c = some o ∧ o.data = .cell (cm x)) ∧ ∀ q ∈ M, c ≠ q.1) (hnd : (cl.map (·.2)).Nodup)
    (hnames : nodupS (env.cells.map (·.1)) = true) (hlook : looksOk env.scope.names env.cells = true) (hcll : (cl.all fun p => !(env.scope.names.lookup p.1 == some .local)) = true) :
    St T h₀ B (ownOf h.objs.size env.cells) env A (newM cl cm) D M (pushCells (h.push lo) names) := by
  obtain ⟨lc, rfl⟩ := hlo
  have hsz : (h.push { cls := lc, data := .dict #[] }).objs.size = h.objs.size + 1 := Heap.size_push ..
  have k : Kp T h (pushCells (h.push { cls := lc, data := .dict #[] }) names) := .of_keeps fun b o e => pushCells_keeps _ _ b o (Heap.get?_push_of_some _ e)
  have ok := cellsFrom_ok names (h.push { cls := lc, data := .dict #[] }) (h.objs.size + 1) [] ⟨fun _ _ hm => (nomatch hm), List.Pairwise.nil⟩ (by rw [hsz]; exact Nat.le_refl _)
  rw [hsz] at ok
  have hNs : (pushCells (h.push { cls := lc, data := .dict #[] }) names).Ns h.objs.size fun _ => none := (Heap.Ns.new h lc).keeps (pushCells_keeps _ _)
  have hN := nodupS_iff hnames
  have clOld : ∀ c, c ∈ cl.map (·.2) → c < h.objs.size := fun c hc => by
    obtain ⟨p, hp, rfl⟩ := List.mem_map.mp hc
    obtain ⟨⟨o, e, _⟩, _⟩ := hcl p.1 p.2 hp
    exact Heap.lt_size e
  have newer : ∀ p, p ∈ cellsFrom (h.objs.size + 1) names [] → h.objs.size < p.2 ∧ (pushCells (h.push { cls := lc, data := .dict #[] }) names).IsCell p.2 none := fun p hp => by
    have := ok.empty p.1 p.2 hp
    exact ⟨this.2, this.1⟩
  have none_ge : ∀ c, h.objs.size ≤ c → h.get? c = none := fun c hc => by
    cases q : h.get? c with
    | none => rfl
    | some o => exact absurd (Heap.lt_size q) (Nat.not_lt.mpr hc)
  have inCells : ∀ p, p ∈ env.cells → p ∈ cellsFrom (h.objs.size + 1) names [] ∨ p ∈ cl := fun p hp => by rw [hcel] at hp; exact List.mem_append.mp hp
  have cellAt : ∀ p, p ∈ env.cells → ∃ o, (pushCells (h.push { cls := lc, data := .dict #[] }) names).get? p.2 = some o ∧ o.data = .cell (newM cl cm p.1) := fun p hp => by
    rcases inCells p hp with hm | hm
    · have hn : cl.lookup p.1 = none := by
        cases q : cl.lookup p.1 with
        | none => rfl
        | some c =>
          exfalso
          rw [hcel, List.map_append] at hN
          exact (List.nodup_append.mp hN).2.2 p.1 (List.mem_map.mpr ⟨p, hm, rfl⟩) p.1 (List.mem_map.mpr ⟨_, mem_of_lookup q, rfl⟩) rfl
      obtain ⟨o, e, d⟩ := (newer p hm).2
      exact ⟨o, e, by unfold newM; rw [hn]; exact d⟩
    · have hnd' : (cl.map (·.1)).Nodup := by
        rw [hcel, List.map_append] at hN
        exact (List.nodup_append.mp hN).2.1
      have hl : cl.lookup p.1 = some p.2 := lookup_of_nodup hnd' hm
      obtain ⟨⟨o, e, d⟩, _⟩ := hcl p.1 p.2 hm
      exact ⟨o, pushCells_keeps _ _ _ _ (Heap.get?_push_of_some _ e), by unfold newM; rw [hl]; exact d⟩
  refine { go := ⟨fun b o e => k.top (go.kT b o e) (by simp) e, go.fs.mono k, go.has.mono0 k⟩, kT0 := kT0, kp := kp.trans k, vr := ⟨⟨_, hloc ▸ hNs, fun x hx u hu => ?_⟩, fun x hx => ?_⟩, own := fun a ha => ?_, offL := ⟨(by obtain ⟨o, _, _, e, _⟩ := hNs; rw [hloc]; exact ⟨o, e⟩), fun q hq e => by rw [hloc] at e; exact absurd (Heap.lt_size (mu q hq).1) (by rw [← e]; exact Nat.lt_irrefl _)⟩, mu := mu.mono0 k, muNew := muNew, gr := hgr, offD := fun p hp => ⟨fun q => ?_, offDM p hp⟩, offM := fun p hp q => ?_, ndM := ndM, offC := fun c hc => ?_, sep := ⟨fun q => ?_, ?_, hN⟩ }
  · unfold newM at hu
    cases q : cl.lookup x with
    | none => rw [q] at hu; cases hu
    | some c =>
      exfalso
      have := List.all_eq_true.mp hcll _ (mem_of_lookup q)
      have e : env.scope.names.lookup x = some .local := hx
      simp only [e] at this
      cases this
  · obtain ⟨c, hc⟩ := looksOk_get hlook (x := x) hx
    obtain ⟨o, e, d⟩ := cellAt _ (mem_of_lookup hc)
    exact ⟨c, o, _, hc, e, d, fun _ hu => hu⟩
  · rcases List.mem_cons.mp ha with rfl | ha
    · refine ⟨Kp.back kp (fresh_size h), ?_⟩
      obtain ⟨o, _, _, e, _⟩ := hNs
      exact ⟨o, e⟩
    · obtain ⟨hm, hlt⟩ := List.mem_filter.mp ha
      have hlt' : h.objs.size < a := of_decide_eq_true hlt
      refine ⟨Kp.back kp (none_ge a (Nat.le_of_lt hlt')), ?_⟩
      obtain ⟨p, hp, rfl⟩ := List.mem_map.mp hm
      obtain ⟨o, e, _⟩ := cellAt p hp
      exact ⟨o, e⟩
  · have e := (go.has p hp).1
    rcases List.mem_cons.mp q with q | q
    · exact absurd (Heap.lt_size e) (by rw [q]; exact Nat.lt_irrefl _)
    · have hlt' : h.objs.size < p.1 := of_decide_eq_true (List.mem_filter.mp q).2
      exact absurd (Heap.lt_size e) (Nat.lt_asymm hlt')
  · have e := (mu p hp).1
    rcases List.mem_cons.mp q with q | q
    · exact absurd (Heap.lt_size e) (by rw [q]; exact Nat.lt_irrefl _)
    · have hlt' : h.objs.size < p.1 := of_decide_eq_true (List.mem_filter.mp q).2
      exact absurd (Heap.lt_size e) (Nat.lt_asymm hlt')
  · obtain ⟨p, hp, rfl⟩ := List.mem_map.mp hc
    obtain ⟨o, e, _⟩ := cellAt p hp
    refine ⟨⟨o, e⟩, fun q hq e' => ?_⟩
    rcases inCells p hp with hm | hm
    · have h1 := (newer p hm).1
      rw [e'] at h1
      exact absurd (Heap.lt_size (mu q hq).1) (Nat.lt_asymm h1)
    · exact (hcl p.1 p.2 hm).2 q hq e'
  · rw [hloc] at q
    obtain ⟨p, hp, e⟩ := List.mem_map.mp q
    have e3 : (p.2 : Nat) = h.objs.size := e
    rcases inCells p hp with hm | hm
    · exact absurd e3 (Nat.ne_of_gt (newer p hm).1)
    · exact absurd e3 (Nat.ne_of_lt (clOld p.2 (List.mem_map.mpr ⟨p, hm, rfl⟩)))
  · rw [hcel, List.map_append]
    refine List.nodup_append.mpr ⟨?_, hnd, fun a ha b hb e => ?_⟩
    · have := ok.apart
      rw [List.Nodup, List.pairwise_map]
      exact this
    · obtain ⟨p, hp, rfl⟩ := List.mem_map.mp ha
      have e1 := (newer p hp).1
      rw [e] at e1
      exact absurd (clOld b hb) (Nat.lt_asymm e1)

noncomputable abbrev reScope (e : Env) (rs : Scope) : Env := { scope := rs, locals := e.locals, globals := e.globals, cells := e.cells, qual := e.qual, func := e.func, code := e.code, frame := e.frame, builtins := e.builtins }

/-- a scope is opened: closure cl; its parameters bound; the scope's own table may be relabelled (rs) behind that -/
theorem newScope {scope rs : Scope} {globals : Addr} {cl : List (Str × Addr)} {binds : List (Str × Value)} {qual : Str} {func : Option Addr} {code : Value} {around : Option Env} {builtins : Addr} {cm : Str → Option Value} {Q : Env → Shared → Prop}
    (go : Go T A D h) (kT0 : ∀ b o, T.get? b = some o → h₀.get? b = some o) (kp : Kp T h₀ h) (hgr : ∀ p ∈ D, p ∈ B ∨ h₀.get? p.1 = none) (mu : Has h M) (muNew : ∀ p ∈ M, h₀.get? p.1 = none) (ndM : (M.map (·.1)).Nodup) (offDM : ∀ p ∈ D, ∀ q ∈ M, p.1 ≠ q.1)
    (hcl : ∀ x c, (x, c) ∈ cl → (∃ o, h.get? c = some o ∧ o.data = .cell (cm x)) ∧ ∀ q ∈ M, c ≠ q.1) (hnd : (cl.map (·.2)).Nodup)
    (hQ : ∀ h' tk', St T h₀ B (ownOf h.objs.size (cellsFrom (h.objs.size + 1) scope.names cl)) (reScope (newEnv scope h.objs.size globals (cellsFrom (h.objs.size + 1) scope.names cl) qual func code around builtins) rs) A (bindAll binds (newM cl cm)) D M h' → (around = none → ∃ o, h'.get? h.objs.size = some o ∧ IsFrm o) →
      Q (newEnv scope h.objs.size globals (cellsFrom (h.objs.size + 1) scope.names cl) qual func code around builtins) (sA s h' tk'))
    (hk : scope.kind = .function)
    (hnames : nodupS ((cellsFrom 0 scope.names cl).map (·.1)) = true)
    (hlook : looksOk rs.names (cellsFrom (h.objs.size + 1) scope.names cl) = true) (hcll : (cl.all fun p => !(rs.names.lookup p.1 == some .local)) = true)
    (hb : binds = [] ∨ (rs = scope ∧ ∀ x ∈ binds, scope.names.lookup x.1 = some .local ∨ (scope.names.lookup x.1 = some .cell ∧ cl.lookup x.1 = none))) :
    wpAny (model prog w) A (newFunctionEnv scope globals cl binds qual func code around builtins) Q E (sA s h tk) := by
  have base : ∀ lo : Obj, (∃ c, lo = { cls := c, data := .dict #[] }) → St T h₀ B (ownOf h.objs.size (cellsFrom (h.objs.size + 1) scope.names cl)) (reScope (newEnv scope h.objs.size globals (cellsFrom (h.objs.size + 1) scope.names cl) qual func code around builtins) rs) A (newM cl cm) D M (pushCells (h.push lo) scope.names) := fun lo hlo => by
    have hc : (newEnv scope h.objs.size globals (cellsFrom (h.objs.size + 1) scope.names cl) qual func code around builtins).cells = cellsFrom (h.objs.size + 1) scope.names cl := by cases around <;> rfl
    have := openSt (env := reScope (newEnv scope h.objs.size globals (cellsFrom (h.objs.size + 1) scope.names cl) qual func code around builtins) rs) (names := scope.names) (cl := cl) (cm := cm) hlo (by cases around <;> rfl)
      (by show (newEnv _ _ _ _ _ _ _ _ _).cells = _; rw [hc, cellsFrom_app]) go kT0 kp hgr mu muNew ndM offDM hcl hnd
      (by show nodupS ((newEnv _ _ _ _ _ _ _ _ _).cells.map (·.1)) = true; rw [hc, cellsFrom_names scope.names (h.objs.size + 1) 0 cl cl rfl]; exact hnames)
      (by show looksOk rs.names (newEnv _ _ _ _ _ _ _ _ _).cells = true; rw [hc]; exact hlook) hcll
    have e : (reScope (newEnv scope h.objs.size globals (cellsFrom (h.objs.size + 1) scope.names cl) qual func code around builtins) rs).cells = cellsFrom (h.objs.size + 1) scope.names cl := hc
    rw [e] at this
    exact this
  have own_new : ∀ x c, (cellsFrom (h.objs.size + 1) scope.names cl).lookup x = some c → cl.lookup x = none → c ∈ ownOf h.objs.size (cellsFrom (h.objs.size + 1) scope.names cl) := fun x c hx hn => by
    have hm := mem_of_lookup hx
    refine List.mem_cons_of_mem _ (List.mem_filter.mpr ⟨List.mem_map.mpr ⟨_, hm, rfl⟩, decide_eq_true ?_⟩)
    rcases cellsFrom_mem _ _ _ _ _ hm with e | ⟨e, _⟩
    · exfalso
      have : ∀ {l : List (Str × Addr)}, (x, c) ∈ l → l.lookup x ≠ none := by
        intro l
        induction l with
        | nil => intro h; cases h
        | cons y l ih =>
          obtain ⟨n, a⟩ := y
          intro h
          rw [List.lookup_cons]
          cases q : x == n with
          | true => simp
          | false =>
            rcases List.mem_cons.mp h with h | h
            · cases h; simp at q
            · exact ih h
      exact this e hn
    · exact e
  have fin : ∀ lo : Obj, (∃ c, lo = { cls := c, data := .dict #[] }) → (around = none → lo.cls = .type "frame") → ∀ f : Str × Value → PUnit → Sem (ForInStep PUnit),
      (∀ n v u, f (n, v) u = (do storeName (newEnv scope h.objs.size globals (cellsFrom (h.objs.size + 1) scope.names cl) qual func code around builtins) n v; pure (.yield ⟨⟩))) →
      wpAny (model prog w) A (forIn binds ⟨⟩ f) (fun _ s' => Q (newEnv scope h.objs.size globals (cellsFrom (h.objs.size + 1) scope.names cl) qual func code around builtins) s') E (sA s (pushCells (h.push lo) scope.names) tk) := fun lo hlo hfr f hf => by
    have B := base lo hlo
    have frm : around = none → ∃ o, (pushCells (h.push lo) scope.names).get? h.objs.size = some o ∧ IsFrm o := fun e => by
      obtain ⟨c, rfl⟩ := hlo
      have hc := hfr e
      exact ⟨_, pushCells_keeps _ _ _ _ (Heap.get?_push_size _ rfl), hc, _, _, rfl⟩
    rcases hb with rfl | ⟨rfl, hb⟩
    · rw [List.forIn_nil]; exact wpAny_pure (hQ _ _ B frm)
    · have he : reScope (newEnv rs h.objs.size globals (cellsFrom (h.objs.size + 1) rs.names cl) qual func code around builtins) rs = newEnv rs h.objs.size globals (cellsFrom (h.objs.size + 1) rs.names cl) qual func code around builtins := by cases around <;> rfl
      rw [he] at B hQ
      have hkk : ∀ x, (newEnv rs h.objs.size globals (cellsFrom (h.objs.size + 1) rs.names cl) qual func code around builtins).kindOf x = rs.names.lookup x := fun x => by cases around <;> rfl
      have hcc : (newEnv rs h.objs.size globals (cellsFrom (h.objs.size + 1) rs.names cl) qual func code around builtins).cells = cellsFrom (h.objs.size + 1) rs.names cl := by cases around <;> rfl
      refine bindSt f hf (by cases around <;> exact hk) (by cases around <;> exact .head _) binds _ _ _ _ B (fun x hx => ?_) fun h2 tk2 Z2 k2 => hQ h2 tk2 Z2 fun e => by obtain ⟨o, e1, n1⟩ := frm e; exact k2.nf _ o e1 n1
      rcases hb x hx with e | ⟨e, e2⟩
      · exact .inl ((hkk _).trans e)
      · exact .inr ⟨(hkk _).trans e, fun c hc => own_new x.1 c (by rw [← hcc]; exact hc) e2⟩
  have lay : ∀ lo : Obj, (∃ c, lo = { cls := c, data := .dict #[] }) → (h.push lo).objs.size = h.objs.size + 1 := fun lo _ => Heap.size_push ..
  cases around with
  | none =>
    simp only [newFunctionEnv, Option.isSome_none, Bool.false_eq_true, if_false]
    refine wpAny_bind (wpAny_alloc (wpAny_bind (wpAny_layCells _ (fun name kind cells => by cases kind == NameKind.cell <;> simp) _ _ _ _ ?_)))
    show wpAny _ _ (forIn binds _ _ >>= _) _ _ (sA s (pushCells (h.push _) scope.names) tk)
    rw [show ({ sA s h tk with heap := (sA s h tk).heap.push { cls := .type "frame", data := .dict #[] } } : Shared).heap.objs.size = h.objs.size + 1 from lay _ ⟨_, rfl⟩]
    exact wpAny_bind (wpAny_mono (fin _ ⟨_, rfl⟩ (fun _ => rfl) _ fun _ _ _ => rfl) (fun _ _ q => wpAny_pure q) fun _ _ e => e)
  | some outer =>
    simp only [newFunctionEnv, Option.isSome_some, if_true]
    refine wpAny_bind (wpAny_alloc (wpAny_bind (wpAny_layCells _ (fun name kind cells => by cases kind == NameKind.cell <;> simp) _ _ _ _ ?_)))
    show wpAny _ _ (forIn binds _ _ >>= _) _ _ (sA s (pushCells (h.push _) scope.names) tk)
    rw [show ({ sA s h tk with heap := (sA s h tk).heap.push { cls := .type "dict", data := .dict #[] } } : Shared).heap.objs.size = h.objs.size + 1 from lay _ ⟨_, rfl⟩]
    exact wpAny_bind (wpAny_mono (fin _ ⟨_, rfl⟩ (fun e => nomatch e) _ fun _ _ _ => rfl) (fun _ _ q => wpAny_pure q) fun _ _ e => e)
end
end Mine
end
section
namespace Mine
section
variable {prog : Program} {w : World} {K : Frag} {T h₀ h : Heap} {O : List Addr} {env : Env} {A A' : Around} {m : Str → Option Value} {B D M : Led} {s : Shared} {tk : Nat} {E : Value → Shared → Prop}
theorem St.around (Z : St T h₀ B O env A m D M h) (f : Fs T A' h) : St T h₀ B O env A' m D M h := { Z with go := ⟨Z.go.kT, f, Z.go.has⟩ }
theorem Fs.in1 (f : Fs T A h) : Fs T A.in1 h := ⟨f.hd, f.fr⟩
theorem Fs.deeper (f : Fs T A h) (hk : env.scope.kind ≠ .module) {L : Addr} (hf : env.frame = some L) (hT : T.get? L = none) (ho : ∃ o, h.get? L = some o ∧ IsFrm o) : Fs T (A.deeper env) h := by
  obtain ⟨l, e, x, y⟩ := f.fr
  obtain ⟨o, e2, n⟩ := ho
  refine ⟨f.hd, env :: l, Around.frames_deeper e, ⟨hk, ⟨L, o, hf, hT, e2, fun vs q => notFrm_fields q n⟩, x⟩, fun b hb => ?_⟩
  rw [List.filterMap_cons, hf] at hb
  rcases List.mem_cons.mp hb with rfl | hb
  · exact ⟨o, e2, n⟩
  · exact y b hb

noncomputable abbrev retOf : Flow → Value
  | .ret v => v
  | _ => .none

noncomputable abbrev fnEnv (fd : FuncData) (L f : Addr) : Env := newEnv fd.scope L fd.globals (cellsFrom (L + 1) fd.scope.names fd.closure) (fd.qualname ++ ".<locals>.") (some f) fd.code none fd.builtins

/-- a call of a def: its body in a scope of its own -/
theorem codeFn {R : Result → Shared → Prop} {fd : FuncData} {f : Addr} {fo : Obj} {args : Args} {binds : List (Str × Value)} {body : List Stmt} {cm : Str → Option Value}
    (C : Cx K T) (go : Go T A D h) (kT : ∀ b o, T.get? b = some o → h.get? b = some o) (hroom : A.depth < recursionLimit)
    (ho : h.get? f = some fo) (hd : fo.data = .func fd) (hbody : fd.body = .stmts body) (hcd : h.CodeRec fd.code fd.qualname)
    (hbind : BindsTo (sA s h tk) fd args binds)
    (hcl : ∀ x c, (x, c) ∈ fd.closure → ∃ o, h.get? c = some o ∧ o.data = .cell (cm x)) (hnd : (fd.closure.map (·.2)).Nodup)
    (hB : ∀ h' tk' E', St T h D (ownOf h.objs.size (cellsFrom (h.objs.size + 1) fd.scope.names fd.closure)) (fnEnv fd h.objs.size f) (A.deeper (fnEnv fd h.objs.size f)) (bindAll binds (newM fd.closure cm)) D [] h' →
      wpAny (model prog w) (A.deeper (fnEnv fd h.objs.size f)) (execs body (fnEnv fd h.objs.size f)) (fun fl s' => R (.ok (.ret (retOf fl))) s') E' (sA s h' tk'))
    (hk : fd.scope.kind = .function) (hco : fd.scope.isCoroutine = false) (hgen : fd.scope.isGenerator = false)
    (hnames : nodupS ((cellsFrom 0 fd.scope.names fd.closure).map (·.1)) = true)
    (hlook : looksOk fd.scope.names (cellsFrom (h.objs.size + 1) fd.scope.names fd.closure) = true) (hcll : (fd.closure.all fun p => !(fd.scope.names.lookup p.1 == some .local)) = true)
    (hbs : ∀ x ∈ binds, fd.scope.names.lookup x.1 = some .local ∨ (fd.scope.names.lookup x.1 = some .cell ∧ fd.closure.lookup x.1 = none)) :
    codeAny (model prog w) A (.call (.ref f) args) R (sA s h tk) := by
  refine codeAny_call_function hroom ho hd hco hgen hbody hcd (hbind _ _ _ _ ?_)
  refine newScope (rs := fd.scope) (h₀ := h) (M := []) (A := A.in1) ⟨go.kT, go.fs.in1, go.has⟩ kT .refl (fun _ q => .inl q) .nil (fun _ q => nomatch q) .nil (fun _ _ _ q => nomatch q)
    (fun x c hm => ⟨hcl x c hm, fun _ q => nomatch q⟩) hnd (fun h' tk' Z frm => ?_) hk hnames hlook hcll (.inr ⟨rfl, hbs⟩)
  have Z1 : St T h D (ownOf h.objs.size (cellsFrom (h.objs.size + 1) fd.scope.names fd.closure)) (fnEnv fd h.objs.size f) A.in1 (bindAll binds (newM fd.closure cm)) D [] h' := Z
  refine ⟨C.noLimit Z1.go.kT, codeAny_func (hB h' tk' _ (Z1.around ?_))⟩
  have f0 : Fs T A h' := ⟨Z1.go.fs.hd, Z1.go.fs.fr⟩
  refine f0.deeper (L := h.objs.size) (by show fd.scope.kind ≠ .module; rw [hk]; decide) rfl (Z1.T_own (.head _)) (frm rfl)

theorem callFn {Q : Value → Shared → Prop} {fd : FuncData} {f : Addr} {fo : Obj} {pos : List Value} {kw : List (Str × Value)} {binds : List (Str × Value)} {body : List Stmt} {cm : Str → Option Value}
    (C : Cx K T) (go : Go T A D h) (hroom : A.depth < recursionLimit)
    (ho : K.lookup f = some fo) (hd : fo.data = .func fd) (hbody : fd.body = .stmts body) (hcd : codeIn K fd.code fd.qualname = true)
    (hbind : BindsTo (sA s h tk) fd ⟨pos, kw⟩ binds)
    (hcl : ∀ x c, (x, c) ∈ fd.closure → ∃ o, h.get? c = some o ∧ o.data = .cell (cm x)) (hnd : (fd.closure.map (·.2)).Nodup)
    (hB : ∀ h' tk' E', St T h D (ownOf h.objs.size (cellsFrom (h.objs.size + 1) fd.scope.names fd.closure)) (fnEnv fd h.objs.size f) (A.deeper (fnEnv fd h.objs.size f)) (bindAll binds (newM fd.closure cm)) D [] h' →
      wpAny (model prog w) (A.deeper (fnEnv fd h.objs.size f)) (execs body (fnEnv fd h.objs.size f)) (fun fl s' => Q (retOf fl) s') E' (sA s h' tk'))
    (hk : fd.scope.kind = .function := by rfl) (hco : fd.scope.isCoroutine = false := by rfl) (hgen : fd.scope.isGenerator = false := by rfl)
    (hnames : nodupS ((cellsFrom 0 fd.scope.names fd.closure).map (·.1)) = true := by rfl)
    (hlook : looksOk fd.scope.names (cellsFrom (h.objs.size + 1) fd.scope.names fd.closure) = true := by rfl) (hcll : (fd.closure.all fun p => !(fd.scope.names.lookup p.1 == some .local)) = true := by rfl)
    (hbs : (binds.all fun x => fd.scope.names.lookup x.1 == some .local || (fd.scope.names.lookup x.1 == some .cell && (fd.closure.lookup x.1).isNone)) = true := by rfl) :
    wpAny (model prog w) A (call (.ref f) pos kw) Q E (sA s h tk) := by
  refine wpAny_call (codeFn C go go.kT hroom (C.inn go.kT _ _ ho) hd hbody (codeRec_of (C.inn go.kT) hcd) hbind hcl hnd (fun h' tk' E' Z => hB h' tk' E' Z) hk hco hgen hnames hlook hcll fun x hx => ?_)
  have := List.all_eq_true.mp hbs x hx
  simp only [Bool.or_eq_true, Bool.and_eq_true, beq_iff_eq, Option.isNone_iff_eq_none] at this
  exact this

theorem callFn0 {Q : Value → Shared → Prop} {fd : FuncData} {f : Addr} {fo : Obj} {pos : List Value} {kw : List (Str × Value)} {binds : List (Str × Value)} {body : List Stmt}
    (C : Cx K T) (go : Go T A D h) (hroom : A.depth < recursionLimit)
    (ho : K.lookup f = some fo) (hd : fo.data = .func fd) (hbody : fd.body = .stmts body) (hcd : codeIn K fd.code fd.qualname = true)
    (hbind : BindsTo (sA s h tk) fd ⟨pos, kw⟩ binds) (hcl : fd.closure = [])
    (hk : fd.scope.kind = .function) (hco : fd.scope.isCoroutine = false) (hgen : fd.scope.isGenerator = false)
    (hnames : nodupS ((cellsFrom 0 fd.scope.names []).map (·.1)) = true)
    (hlook : looksOk fd.scope.names (cellsFrom (h.objs.size + 1) fd.scope.names []) = true)
    (hbs : (binds.all fun x => fd.scope.names.lookup x.1 == some .local || fd.scope.names.lookup x.1 == some .cell) = true)
    (hB : ∀ L O h' tk' E', L = h.objs.size → O = ownOf L (cellsFrom (L + 1) fd.scope.names []) → St T h D O (newEnv fd.scope L fd.globals (cellsFrom (L + 1) fd.scope.names []) (fd.qualname ++ ".<locals>.") (some f) fd.code none fd.builtins) (A.deeper (newEnv fd.scope L fd.globals (cellsFrom (L + 1) fd.scope.names []) (fd.qualname ++ ".<locals>.") (some f) fd.code none fd.builtins)) (bindAll binds fun _ => none) D [] h' →
      wpAny (model prog w) (A.deeper (newEnv fd.scope L fd.globals (cellsFrom (L + 1) fd.scope.names []) (fd.qualname ++ ".<locals>.") (some f) fd.code none fd.builtins)) (execs body (newEnv fd.scope L fd.globals (cellsFrom (L + 1) fd.scope.names []) (fd.qualname ++ ".<locals>.") (some f) fd.code none fd.builtins)) (fun fl s' => Q (retOf fl) s') E' (sA s h' tk')) :
    wpAny (model prog w) A (call (.ref f) pos kw) Q E (sA s h tk) := by
  refine callFn (cm := fun _ => none) C go hroom ho hd hbody hcd hbind (by rw [hcl]; intro _ _ q; cases q) (by rw [hcl]; exact List.nodup_nil) (fun h' tk' E' Z => ?_) hk hco hgen (by rw [hcl]; exact hnames) (by rw [hcl]; exact hlook) (by rw [hcl]; rfl) ?_
  · have e : (newM fd.closure fun _ => none) = fun _ => none := by rw [hcl]; rfl
    rw [e] at Z
    have := hB h.objs.size _ h' tk' E' rfl rfl
    rw [← hcl] at this
    exact this Z
  · refine List.all_eq_true.mpr fun x hx => ?_
    have := List.all_eq_true.mp hbs x hx
    rw [hcl]
    simpa using this
end
end Mine
end
section
namespace Mine
section
variable {prog : Program} {w : World} {K : Frag} {T h₀ h : Heap} {O : List Addr} {env : Env} {A A' : Around} {m : Str → Option Value} {B D M : Led} {s : Shared} {tk : Nat} {E : Value → Shared → Prop}
theorem cI {i : Int} {k : Nat} {pos : Pos} {Q : Value → Shared → Prop} (hQ : ∀ t tk', Q (.int i t) (sA s h tk')) : wpAny (model prog w) A (eval (.Constant (.int i) k pos) env) Q E (sA s h tk) := wpAny_Constant_int (hQ _ _)
theorem cS {x : Str} {k : Nat} {pos : Pos} {Q : Value → Shared → Prop} (hQ : ∀ t tk', Q (.str x t) (sA s h tk')) : wpAny (model prog w) A (eval (.Constant (.str x) k pos) env) Q E (sA s h tk) := Constant_str (hQ _ _)
theorem cN {k : Nat} {pos : Pos} {Q : Value → Shared → Prop} (hQ : Q .none (sA s h tk)) : wpAny (model prog w) A (eval (.Constant .none k pos) env) Q E (sA s h tk) := wpAny_pure hQ
theorem cB {b : Bool} {k : Nat} {pos : Pos} {Q : Value → Shared → Prop} (hQ : Q (.bool b) (sA s h tk)) : wpAny (model prog w) A (eval (.Constant (.bool b) k pos) env) Q E (sA s h tk) := wpAny_pure hQ
theorem fdivI {a b : Int} {t u : Tok} {Q : Value → Shared → Prop} (hb : 0 < b) (hb2 : b < 1000) (hQ : ∀ t' tk', Q (.int (a / b) t') (sA s h tk')) : wpAny (model prog w) A (binaryOp .FloorDiv (.int a t) (.int b u)) Q E (sA s h tk) := by
  rw [← Int.fdiv_eq_ediv_of_nonneg a (by omega : 0 ≤ b)] at hQ
  exact floordiv_int (by omega) (hQ _ _) (.inl (PyProof.noPylong_small (by omega)))
theorem modI {a b : Int} {t u : Tok} {Q : Value → Shared → Prop} (hb : 0 < b) (hb2 : b < 1000) (hQ : ∀ t' tk', Q (.int (a % b) t') (sA s h tk')) : wpAny (model prog w) A (binaryOp .Mod (.int a t) (.int b u)) Q E (sA s h tk) := by
  rw [← Int.fmod_eq_emod_of_nonneg a (by omega : 0 ≤ b)] at hQ
  exact PyProof.Rows.mod_int' (by omega) (hQ _ _)
theorem addS {x y : Str} {t u : Tok} {Q : Value → Shared → Prop} (hsz : x.length + y.length ≤ sizeLine) (hQ : ∀ t' tk', Q (.str (x ++ y) t') (sA s h tk')) : wpAny (model prog w) A (binaryOp .Add (.str x t) (.str y u)) Q E (sA s h tk) := add_str (fun t' tk' => hQ t' tk') hsz
/-- an item of a list of texts -/
theorem itLS {value slice : Expr} {a : Addr} {vs : List Value} {ws : List Str} {n : Nat} {u : Tok} {i : Int} {Q : Value → Shared → Prop} (ho : h.get? a = some (listOf vs.toArray n)) (hw : StrsAre vs ws) (h0 : 0 ≤ i) (h1 : i < ws.length) (hx : ws.length ≤ 1000)
    (hQ : ∀ t', Q (.str (ws.getD i.toNat Str.empty) t') (sA s h tk))
    (hs : subscripted slice false (.ref a) (.int i u) = operate [.ref a, .int i u] (getItem (.ref a) (.int i u)) := by with_unfolding_all rfl) :
    wpAny (model prog w) A (subscriptTail value slice (.ref a) (.int i u)) Q E (sA s h tk) :=
  KTb.item_list (s := sA s h tk) ⟨_, ho, rfl, n, rfl⟩ hw h0 h1 (by omega) (fun t' _ => hQ t') hs
/-- an item of a list of texts in the ledger -/
theorem itLZ {value slice : Expr} {a : Addr} {vs : List Value} {ws : List Str} {n : Nat} {u : Tok} {i : Int} {Q : Value → Shared → Prop} (Z : St T h₀ B O env A' m D M h) (ho : (a, listOf vs.toArray n) ∈ D) (hw : StrsAre vs ws) (h0 : 0 ≤ i) (h1 : i < ws.length) (hx : ws.length ≤ 1000)
    (hQ : ∀ t', Q (.str (ws.getD i.toNat Str.empty) t') (sA s h tk))
    (hs : subscripted slice false (.ref a) (.int i u) = operate [.ref a, .int i u] (getItem (.ref a) (.int i u))) :
    wpAny (model prog w) A (subscriptTail value slice (.ref a) (.int i u)) Q E (sA s h tk) := itLS (Z.go.has _ ho).1 hw h0 h1 hx hQ hs
/-- a new list in the ledger -/
theorem nwL {vs : List Value} {Q : Value → Shared → Prop} (Z : St T h₀ B O env A m D M h) (hsz : vs.length ≤ sizeLine) (hQ : ∀ a h' tk', St T h₀ B O env A m ((a, listOf vs.toArray 0) :: D) M h' → Q (.ref a) (sA s h' tk')) :
    wpAny (model prog w) A' (newList vs) Q E (sA s h tk) := by
  refine wpAny_newObj_type (hQ _ _ _ ?_) (by show vs.toArray.size ≤ sizeLine; rw [List.size_toArray]; exact hsz)
  exact Z.more (D' := [(h.objs.size, listOf vs.toArray 0)]) (.push _) (fun p hp => by rw [List.mem_singleton.mp hp]; exact ⟨Heap.get?_push_size _ rfl, by show Value.type "list" ≠ _; decide⟩) (fun p hp => by rw [List.mem_singleton.mp hp]; exact fresh_size h)
/-- a new list that is to be turned -/
theorem nwLM {vs : List Value} {Q : Value → Shared → Prop} (Z : St T h₀ B O env A m D M h) (hsz : vs.length ≤ sizeLine) (hQ : ∀ a h' tk', St T h₀ B O env A m D ((a, listOf vs.toArray 0) :: M) h' → Q (.ref a) (sA s h' tk')) :
    wpAny (model prog w) A' (newList vs) Q E (sA s h tk) := by
  refine wpAny_newObj_type (hQ _ _ _ ?_) (by show vs.toArray.size ≤ sizeLine; rw [List.size_toArray]; exact hsz)
  exact Z.moreM (.push _) (Heap.get?_push_size _ rfl) (by show Value.type "list" ≠ _; decide) (fresh_size h)
theorem nwT {vs : List Value} {Q : Value → Shared → Prop} (Z : St T h₀ B O env A m D M h) (hsz : vs.length ≤ sizeLine) (hQ : ∀ a h' tk', St T h₀ B O env A m ((a, ({ cls := .type "tuple", data := .seq vs.toArray 0 } : Obj)) :: D) M h' → Q (.ref a) (sA s h' tk')) :
    wpAny (model prog w) A' (newTuple vs) Q E (sA s h tk) := by
  refine wpAny_newObj_type (hQ _ _ _ ?_) (by show vs.toArray.size ≤ sizeLine; rw [List.size_toArray]; exact hsz)
  exact Z.more (D' := [(h.objs.size, _)]) (.push _) (fun p hp => by rw [List.mem_singleton.mp hp]; exact ⟨Heap.get?_push_size _ rfl, by show Value.type "tuple" ≠ _; decide⟩) (fun p hp => by rw [List.mem_singleton.mp hp]; exact fresh_size h)

theorem asN {x : Str} {pos pos' : Pos} {value : Expr} {Q : Flow → Shared → Prop} 
    (hh : wpAny (model prog w) A (eval value env) (fun v s₁ => wpAny (model prog w) A (storeName env x v) (fun _ => Q .next) E s₁) E (sA s h tk))
    (hs : swapsWith value (some (.Name x pos')) pos.line env = pure false := by rfl) : wpAny (model prog w) A (exec (.Assign [.Name x pos'] value pos) env) Q E (sA s h tk) := PySem.wpAny_Assign_Name hh hs
theorem stL {x : Str} {v : Value} {Q : Unit → Shared → Prop} (Z : St T h₀ B O env A m D M h) (hQ : ∀ h' tk', St T h₀ B O env A (upd m x v) D M h' → Q () (sA s h' tk'))
    (hk : env.scope.kind = .function := by rfl) (hl : env.locals ∈ O := by exact List.mem_cons_self) (hx : env.kindOf x = some .local := by rfl) : wpAny (model prog w) A (storeName env x v) Q E (sA s h tk) := stV Z (fun h' tk' Z' _ => hQ h' tk' Z') hk hl (.inl hx)
end
end Mine
end
section
namespace Mine
section
variable {prog : Program} {w : World} {K : Frag} {T h₀ h h' : Heap} {O : List Addr} {env : Env} {A A' : Around} {m : Str → Option Value} {B D D' M L L' : Led} {s : Shared} {tk : Nat} {E : Value → Shared → Prop}
theorem Has.left {h : Heap} {D D' : Led} (x : Has h (D ++ D')) : Has h D := fun p hp => x p (List.mem_append_left _ hp)
theorem Has.right {h : Heap} {D D' : Led} (x : Has h (D ++ D')) : Has h D' := fun p hp => x p (List.mem_append_right _ hp)
theorem nd_left {L M : Led} (x : ((L ++ M).map (·.1)).Nodup) : (L.map (·.1)).Nodup := by rw [List.map_append] at x; exact (List.nodup_append.mp x).1
theorem nd_right {L M : Led} (x : ((L ++ M).map (·.1)).Nodup) : (M.map (·.1)).Nodup := by rw [List.map_append] at x; exact (List.nodup_append.mp x).2.1
theorem nd_off {L M : Led} (x : ((L ++ M).map (·.1)).Nodup) : ∀ p ∈ M, p.1 ∉ L.map (·.1) := fun p hp q => by
  rw [List.map_append] at x
  exact (List.nodup_append.mp x).2.2 _ q _ (List.mem_map_of_mem hp) rfl

theorem St.goL (Z : St T h₀ B O env A m D (L ++ M) h) : Has h L := Z.mu.left
/-- the first mutable objects turn -/
theorem St.turnL (Z : St T h₀ B O env A m D (L ++ M) h) (k : KpX T (L.map (·.1)) h h') (hM : L'.map (·.1) = L.map (·.1)) (hs : Has h' L') : St T h₀ B O env A m D (L' ++ M) h' :=
  Z.turnM k (fun b hb => by rw [List.map_append]; exact List.mem_append_left _ hb) (fun a ha => by rw [List.map_append] at ha ⊢; rw [hM] at ha; exact ha)
    (by rw [List.map_append, hM, ← List.map_append]; exact Z.ndM) (hs.append (Z.mu.right.mono k (nd_off Z.ndM)))
/-- the first mutable objects go -/
theorem St.goneL (Z : St T h₀ B O env A m D (L ++ M) h) (k : KpX T (L.map (·.1)) h h') : St T h₀ B O env A m D M h' :=
  Z.turnM k (fun b hb => by rw [List.map_append]; exact List.mem_append_left _ hb) (fun a ha => by rw [List.map_append]; exact List.mem_append_right _ ha)
    (nd_right Z.ndM) (Z.mu.right.mono k (nd_off Z.ndM))
/-- a mutable object becomes a settled one -/
theorem St.settle (Z : St T h₀ B O env A m D (L ++ M) h) : St T h₀ B O env A m (L ++ D) M h :=
  { Z with
    go := ⟨Z.go.kT, Z.go.fs, Z.mu.left.append Z.go.has⟩
    offL := ⟨Z.offL.1, fun q hq => Z.offL.2 q (List.mem_append_right _ hq)⟩
    mu := Z.mu.right
    muNew := fun p hp => Z.muNew p (List.mem_append_right _ hp)
    gr := fun p hp => (List.mem_append.mp hp).elim (fun hp => .inr (Z.muNew p (List.mem_append_left _ hp))) (Z.gr p)
    offD := fun p hp => (List.mem_append.mp hp).elim
      (fun hp => ⟨Z.offM p (List.mem_append_left _ hp), fun q hq e => nd_off Z.ndM q hq (e ▸ List.mem_map_of_mem hp)⟩)
      (fun hp => ⟨(Z.offD p hp).1, fun q hq => (Z.offD p hp).2 q (List.mem_append_right _ hq)⟩)
    offM := fun q hq => Z.offM q (List.mem_append_right _ hq)
    ndM := nd_right Z.ndM
    offC := fun c hc => ⟨(Z.offC c hc).1, fun q hq => (Z.offC c hc).2 q (List.mem_append_right _ hq)⟩ }

/-- what a step of an iterator does -/
structure Itr (prog : Program) (w : World) (T : Heap) (D : Led) (it : Addr) (n : Nat) (Mi : Nat → Led → Prop) (Val : Nat → Value → Prop) : Prop where
  item : ∀ {A : Around} {s : Shared} {h : Heap} {tk i : Nat} {L : Led} {Q : Option Value → Shared → Prop} {E : Value → Shared → Prop}, i < n → Go T A D h → Room 8 A → Has h L → Mi i L → (L.map (·.1)).Nodup → (∀ p ∈ L, T.get? p.1 = none ∧ ∀ q ∈ D, q.1 ≠ p.1) →
    (∀ v h' tk' L', Mi (i + 1) L' → L'.map (·.1) = L.map (·.1) → KpX T (L.map (·.1)) h h' → Has h' L' → Val i v → Q (some v) (sA s h' tk')) → wpAny (model prog w) A (pyNext (.ref it)) Q E (sA s h tk)
  done : ∀ {A : Around} {s : Shared} {h : Heap} {tk : Nat} {L : Led} {Q : Option Value → Shared → Prop} {E : Value → Shared → Prop}, Go T A D h → Room 8 A → Has h L → Mi n L → (L.map (·.1)).Nodup → (∀ p ∈ L, T.get? p.1 = none ∧ ∀ q ∈ D, q.1 ≠ p.1) →
    (∀ h' tk', KpX T (L.map (·.1)) h h' → Q none (sA s h' tk')) → wpAny (model prog w) A (pyNext (.ref it)) Q E (sA s h tk)
  self : ∀ {A : Around} {s : Shared} {h : Heap} {tk i : Nat} {L : Led} {Q : Value → Shared → Prop} {E : Value → Shared → Prop}, Go T A D h → Room 8 A → Has h L → Mi i L →
    (∀ h' tk', Kp T h h' → Q (.ref it) (sA s h' tk')) → wpAny (model prog w) A (pyIter (.ref it)) Q E (sA s h tk)
  lg : ∀ {A : Around} {s : Shared} {h : Heap} {tk i : Nat} {L : Led} {Q : Unit → Shared → Prop} {E : Value → Shared → Prop} {target : Expr} {v : Value}, Has h L → Mi i L → Has h D → Q () (sA s h tk) → wpAny (model prog w) A (letOwnedTupleGo target (.ref it) v) Q E (sA s h tk)

theorem lgo {prog : Program} {w : World} {A : Around} {E : Value → Shared → Prop} {s : Shared} {target : Expr} {it : Addr} {v : Value} {o : Obj} {Q : Unit → Shared → Prop} (ho : s.heap.get? it = some o)
    (hc : ∀ n, o.cls = .type n → (["enumerate", "zip", "dict_itemiterator", "dict_reverseitemiterator", "odict_iterator", "itertools.zip_longest", "itertools.pairwise"].contains n) = false) (hQ : Q () s) :
    wpAny (model prog w) A (letOwnedTupleGo target (.ref it) v) Q E s := by
  have key : ∀ a : Addr, wpAny (model prog w) A (do
      let o ← load it
      match o.cls, o.data with
      | .type n, .fields vs =>
        if ["enumerate", "zip", "dict_itemiterator", "dict_reverseitemiterator", "odict_iterator", "itertools.zip_longest", "itertools.pairwise"].contains n && vs[0]? == some (rawInt a) then
          rule "for.unpacks-the-owned-tuple"
          updateField it 0 .none
      | _, _ => pure ()) Q E s := fun a => by
    refine wpAny_bind (wpAny_load ho ?_)
    split
    · rename_i n vs hn _
      rw [hc n hn, Bool.false_and, if_neg (by decide)]
      exact wpAny_pure hQ
    · exact wpAny_pure hQ
  unfold letOwnedTupleGo
  cases target <;> first
    | exact wpAny_pure hQ
    | (cases v <;> first
        | exact key _
        | exact wpAny_pure hQ)

theorem Go.sub {D D' : Led} (x : Go T A D h) (k : ∀ p ∈ D', p ∈ D) : Go T A D' h := ⟨x.kT, x.fs, x.has.sub k⟩
theorem Itr.mono {it : Addr} {n : Nat} {Mi : Nat → Led → Prop} {Val : Nat → Value → Prop} (I : Itr prog w T D it n Mi Val) (k : ∀ p ∈ D, p ∈ D') : Itr prog w T D' it n Mi Val :=
  ⟨fun hi g d hL hM nd off hQ => I.item hi (g.sub k) d hL hM nd (fun p hp => ⟨(off p hp).1, fun q hq => (off p hp).2 q (k q hq)⟩) hQ,
   fun g d hL hM nd off hQ => I.done (g.sub k) d hL hM nd (fun p hp => ⟨(off p hp).1, fun q hq => (off p hp).2 q (k q hq)⟩) hQ,
   fun g d hL hM hQ => I.self (g.sub k) d hL hM hQ, fun hL hM hD hQ => I.lg hL hM (hD.sub k) hQ⟩

theorem St.itOff (Z : St T h₀ B O env A m D (L ++ M) h) : ∀ p ∈ L, T.get? p.1 = none ∧ ∀ q ∈ D, q.1 ≠ p.1 := fun p hp => ⟨Z.T_mu (List.mem_append_left _ hp), fun q hq => (Z.offD q hq).2 p (List.mem_append_left _ hp)⟩

theorem St.item {it : Addr} {n i : Nat} {Mi : Nat → Led → Prop} {Val : Nat → Value → Prop} {Q : Option Value → Shared → Prop} (I : Itr prog w T D it n Mi Val) (Z : St T h₀ B O env A m D (L ++ M) h) (hi : i < n) (hd : Room 8 A) (hM : Mi i L)
    (hQ : ∀ v h' tk' L', Mi (i + 1) L' → Val i v → St T h₀ B O env A m D (L' ++ M) h' → Q (some v) (sA s h' tk')) : wpAny (model prog w) A (pyNext (.ref it)) Q E (sA s h tk) :=
  I.item hi Z.go hd Z.goL hM (nd_left Z.ndM) Z.itOff fun v h' tk' L' hM' hm k hs hv => hQ v h' tk' L' hM' hv (Z.turnL k hm hs)
theorem St.done {it : Addr} {n : Nat} {Mi : Nat → Led → Prop} {Val : Nat → Value → Prop} {Q : Option Value → Shared → Prop} (I : Itr prog w T D it n Mi Val) (Z : St T h₀ B O env A m D (L ++ M) h) (hd : Room 8 A) (hM : Mi n L)
    (hQ : ∀ h' tk', St T h₀ B O env A m D M h' → Q none (sA s h' tk')) : wpAny (model prog w) A (pyNext (.ref it)) Q E (sA s h tk) :=
  I.done Z.go hd Z.goL hM (nd_left Z.ndM) Z.itOff fun h' tk' k => hQ h' tk' (Z.goneL k)

/-- a list's iterator -/
noncomputable def MiL (it l : Addr) (i : Nat) (L : Led) : Prop := ∃ o : Obj, L = [(it, o)] ∧ o.cls = .type "list_iterator" ∧ o.data = .fields #[.ref l, .int (i : Int) 0]
theorem itrL {it l : Addr} {vs : List Value} {k : Nat} (hl : (l, listOf vs.toArray k) ∈ D) : Itr prog w T D it vs.length (MiL it l) (fun i v => vs[i]? = some v) where
  item := fun {A s h tk i L Q E} hi g d hL hM nd off hQ => by
    obtain ⟨o, rfl, hc, hd⟩ := hM
    have hit : h.IsListIter it l i := ⟨o, (hL _ (.head _)).1, hc, hd⟩
    have hll : h.IsList l vs.toArray := ⟨_, (g.has _ hl).1, rfl, k, rfl⟩
    refine wpAny_pyNext_list_item (s := sA s h tk) hit hll (x := vs[i]) (by simp [hi]) fun h' hit' hs' => ?_
    obtain ⟨o', e', c', d'⟩ := hit'
    exact hQ _ h' tk [(it, o')] ⟨o', rfl, c', d'⟩ rfl (.extBut hs'.extBut (.head _) ⟨o, (hL _ (.head _)).1, notFrm_fields hd⟩) (Has.cons e' (by rw [c']; decide) .nil) (by simp [hi])
  done := fun {A s h tk L Q E} g d hL hM nd off hQ => by
    obtain ⟨o, rfl, hc, hd⟩ := hM
    have hit : h.IsListIter it l vs.length := ⟨o, (hL _ (.head _)).1, hc, hd⟩
    have hll : h.IsList l vs.toArray := ⟨_, (g.has _ hl).1, rfl, k, rfl⟩
    exact wpAny_pyNext_list_end (s := sA s h tk) g.fs.hd hit hll (by simp) fun h' he' => hQ h' tk (.extBut he' (.head _) ⟨o, (hL _ (.head _)).1, notFrm_fields hd⟩)
  self := fun {A s h tk i L Q E} g d hL hM hQ => by
    obtain ⟨o, rfl, hc, hd⟩ := hM
    have hit : h.IsListIter it l i := ⟨o, (hL _ (.head _)).1, hc, hd⟩
    exact wpAny_pyIter_listiter (s := sA s h tk) hit (hQ h tk .refl)
  lg := fun {A s h tk i L Q E target v} hL hM _ hQ => by
    obtain ⟨o, rfl, hc, hd⟩ := hM
    exact lgo (s := sA s h tk) (hL _ (.head _)).1 (fun n e => by rw [hc] at e; cases e; decide) hQ
theorem iterL {l : Addr} {vs : List Value} {k : Nat} {Q : Value → Shared → Prop} (Z : St T h₀ B O env A m D M h) (hl : (l, listOf vs.toArray k) ∈ D)
    (hQ : ∀ it h' tk' L, MiL it l 0 L → h.get? it = none → Itr prog w T D it vs.length (MiL it l) (fun i v => vs[i]? = some v) → Kp T h h' → Has h' L → St T h₀ B O env A m D (L ++ M) h' → Q (.ref it) (sA s h' tk')) :
    wpAny (model prog w) A (pyIter (.ref l)) Q E (sA s h tk) := by
  have hll : h.IsList l vs.toArray := ⟨_, (Z.go.has _ hl).1, rfl, k, rfl⟩
  have e := Heap.get?_push_size (o := ({ cls := .type "list_iterator", data := .fields #[.ref l, .int 0 0] } : Obj)) h rfl
  exact wpAny_pyIter_list (s := sA s h tk) hll (hQ _ _ tk [(h.objs.size, _)] ⟨_, rfl, rfl, rfl⟩ (fresh_size h) (itrL hl) (.push _) (Has.cons e (by show Value.type _ ≠ Value.type _; decide) .nil) (Z.moreM (.push _) e (by show Value.type _ ≠ Value.type _; decide) (fresh_size h)))

noncomputable abbrev tupOf (vs : List Value) (k : Nat) : Obj := { cls := .type "tuple", data := .seq vs.toArray k }
/-- a range's iterator -/
noncomputable abbrev rngIt (x left : Int) : Obj := { cls := .type "range_iterator", dict := none, data := .fields #[rawInt x, rawInt left, rawInt 1], slots := #[] }
noncomputable def MiR (it : Addr) (n : Nat) (i : Nat) (L : Led) : Prop := L = [(it, rngIt (i : Int) ((n : Int) - (i : Int)))]
theorem itrR {it : Addr} {n : Nat} : Itr prog w T D it n (MiR it n) (fun i v => ∃ t, v = .int (i : Int) t) where
  item := fun {A s h tk i L Q E} hi g d hL hM nd off hQ => by
    subst hM
    refine wpAny_pyNext_range_item (s := sA s h tk) (hL _ (.head _)).1 (by omega) fun h' hit' hs' => ?_
    have e1 : (i : Int) + 1 = ((i + 1 : Nat) : Int) := by push_cast; rfl
    have e2 : (n : Int) - (i : Int) - 1 = (n : Int) - ((i + 1 : Nat) : Int) := by push_cast; omega
    rw [e1, e2] at hit'
    exact hQ _ h' _ [(it, _)] rfl rfl (.extBut hs'.extBut (.head _) ⟨_, (hL _ (.head _)).1, notFrm_fields rfl⟩) (Has.cons hit' (by show Value.type _ ≠ Value.type _; decide) .nil) ⟨_, rfl⟩
  done := fun {A s h tk L Q E} g d hL hM nd off hQ => by
    subst hM
    exact wpAny_pyNext_range_end (s := sA s h tk) g.fs.hd (hL _ (.head _)).1 (by omega) fun h' he' => hQ h' tk (.extBut he' (.head _) ⟨_, (hL _ (.head _)).1, notFrm_fields rfl⟩)
  self := fun {A s h tk i L Q E} g d hL hM hQ => by
    subst hM
    exact wpAny_pyIter_rangeiter (s := sA s h tk) (hL _ (.head _)).1 (hQ h tk .refl)
  lg := fun {A s h tk i L Q E target v} hL hM _ hQ => by
    subst hM
    exact lgo (s := sA s h tk) (hL _ (.head _)).1 (fun n e => by cases e; decide) hQ
theorem callR {N : Int} {t : Tok} {Q : Value → Shared → Prop} (Z : St T h₀ B O env A m D M h) 
    (hQ : ∀ r t₁ t₂ t₃ h' tk', St T h₀ B O env A m ((r, ({ cls := .type "range", data := .fields #[.int 0 t₁, .int N t₂, .int 1 t₃] } : Obj)) :: D) M h' → Q (.ref r) (sA s h' tk')) :
    wpAny (model prog w) A' (call (.type "range") [.int N t]) Q E (sA s h tk) :=
  call_range_1 (s := sA s h tk) (hQ h.objs.size _ _ _ _ _ (Z.more (D' := [(h.objs.size, _)]) (.push _) (Has.cons (Heap.get?_push_size _ rfl) (by show Value.type _ ≠ Value.type _; decide) .nil) (fun p hp => by rw [List.mem_singleton.mp hp]; exact fresh_size h)))
theorem iterR {r : Addr} {n : Nat} {t₁ t₂ t₃ : Tok} {Q : Value → Shared → Prop} (Z : St T h₀ B O env A m D M h) (hr : (r, ({ cls := .type "range", data := .fields #[.int 0 t₁, .int (n : Int) t₂, .int 1 t₃] } : Obj)) ∈ D) (hn : n < 1000)
    (hQ : ∀ it h' tk' L, MiR it n 0 L → h.get? it = none → Itr prog w T D it n (MiR it n) (fun i v => ∃ t, v = .int (i : Int) t) → Kp T h h' → Has h' L → St T h₀ B O env A m D (L ++ M) h' → Q (.ref it) (sA s h' tk')) :
    wpAny (model prog w) A (pyIter (.ref r)) Q E (sA s h tk) := by
  have e2 : Builtin.Range.rangeSize 0 (n : Int) 1 = (n : Int) := by rw [rangeSize_one]; split <;> omega
  refine wpAny_pyIter_range (s := sA s h tk) (Z.go.has _ hr).1 (small_one (by omega) (by omega) (by omega) (by omega)) ?_
  rw [e2]
  have e := Heap.get?_push_size (o := rngIt 0 (n : Int)) h rfl
  exact hQ _ _ tk [(h.objs.size, rngIt 0 (n : Int))] (by unfold MiR; simp) (fresh_size h) itrR (.push _) (Has.cons e (by show Value.type _ ≠ Value.type _; decide) .nil) (Z.moreM (.push _) e (by show Value.type _ ≠ Value.type _; decide) (fresh_size h))

/-- a for loop -/
theorem forI {target : Expr} {body : List Stmt} {it : Addr} {n : Nat} {Mi : Nat → Led → Prop} {Val : Nat → Value → Prop} {R : Result → Shared → Prop} {L₀ : Led}
    (I : Itr prog w T D it n Mi Val) (J : Nat → (Str → Option Value) → Led → Led → Prop) (Z : St T h₀ B O env A m D (L₀ ++ M) h) (hM₀ : Mi 0 L₀) (h0 : J 0 m D M) (hd : Room 8 A)
    (step : ∀ i v m₁ D₁ M₁ L₁ h₁ tk₁ E₁, i < n → Val i v → J i m₁ D₁ M₁ → (∀ p ∈ D, p ∈ D₁) → St T h₀ B O env A m₁ D₁ (L₁ ++ M₁) h₁ →
      wpAny (model prog w) A (assign target env v) (fun _ s₂ => wpAny (model prog w) A (execs body env)
        (fun f s₃ => (f = .next ∨ f = .cont) ∧ ∃ h₂ tk₂ m₂ D₂ M₂, s₃ = sA s h₂ tk₂ ∧ (∀ p ∈ D₁, p ∈ D₂) ∧ St T h₀ B O env A m₂ D₂ (L₁ ++ M₂) h₂ ∧ J (i + 1) m₂ D₂ M₂) E₁ s₂) E₁ (sA s h₁ tk₁))
    (hQ : ∀ h' tk' m' D' M', (∀ p ∈ D, p ∈ D') → J n m' D' M' → St T h₀ B O env A m' D' M' h' → R (.ok .next) (sA s h' tk')) :
    codeAny (model prog w) A (.forLoop target (.ref it) body [] env) R (sA s h tk) := by
  refine codeAny_forLoop_any
    (fun k s' => ∃ h' tk' m' D' M' L' i, s' = sA s h' tk' ∧ St T h₀ B O env A m' D' (L' ++ M') h' ∧ (∀ p ∈ D, p ∈ D') ∧ Mi i L' ∧ J i m' D' M' ∧ i ≤ n ∧ k = n + 1 - i) ?_ (n + 1)
    ⟨h, tk, m, D, M, L₀, 0, rfl, Z, fun _ q => q, hM₀, h0, Nat.zero_le _, rfl⟩
  rintro k s' ⟨h', tk', m', D', M', L', i, rfl, Z', hD', hM', hJ, hi, rfl⟩
  by_cases hlt : i < n
  · refine Z'.item (I.mono hD') hlt hd hM' fun v h₁ tk₁ L₁ hM₁ hv Z₁ => ?_
    refine (I.mono hD').lg Z₁.goL hM₁ Z₁.go.has ?_
    refine wpAny_mono (step i v m' D' M' L₁ h₁ tk₁ _ hlt hv hJ hD' Z₁) (fun _ s₂ h₂' => wpAny_mono h₂' (fun f s₃ h₃ => ?_) fun _ _ e => e) fun _ _ e => e
    obtain ⟨hf, h₂, tk₂, m₂, D₂, M₂, rfl, hD₂, Z₂, hJ₂⟩ := h₃
    have done : ∃ j, j < n + 1 - i ∧ ∃ h' tk' m' D' M' L' i, sA s h₂ tk₂ = sA s h' tk' ∧ St T h₀ B O env A m' D' (L' ++ M') h' ∧ (∀ p ∈ D, p ∈ D') ∧ Mi i L' ∧ J i m' D' M' ∧ i ≤ n ∧ j = n + 1 - i :=
      ⟨n + 1 - (i + 1), by omega, h₂, tk₂, m₂, D₂, M₂, L₁, i + 1, rfl, Z₂, fun p hp => hD₂ p (hD' p hp), hM₁, hJ₂, hlt, rfl⟩
    rcases hf with rfl | rfl
    · exact done
    · exact done
  · have hin : i = n := by omega
    subst hin
    refine Z'.done (I.mono hD') hd hM' fun h₁ tk₁ Z₁ => wpAny_execs_nil ?_
    exact hQ h₁ tk₁ m' D' M' hD' hJ Z₁
end
end Mine
end
section
namespace Mine
section
variable {prog : Program} {w : World} {K : Frag} {T h₀ h h' : Heap} {O : List Addr} {env : Env} {A A' : Around} {m : Str → Option Value} {B D D' M L L' : Led} {s : Shared} {tk : Nat} {E : Value → Shared → Prop}
noncomputable abbrev testsOf (ifs : List Expr) (env : Env) : Sem Bool := forIn ifs true fun c r => if r = true then do let ok ← isTrue c env (eval c env); pure (ForInStep.yield ok) else pure (ForInStep.yield r)

theorem compTurn_last {elt : Expr} {gens : List Comprehension} {scope : Scope} {pos : Pos} {k : Nat} {target iter : Expr} {ifs : List Expr} {it acc : Value} {env : Env} (hg : gens[k]? = some ⟨target, iter, ifs, 0⟩) (hl : gens[k + 1]? = none) :
    compTurn (.ListComp elt gens scope pos) k it acc env = (do
      standAt iter.pos
      match ← pyNext it with
      | none => pure (.done .next)
      | some v =>
        letOwnedTupleGo target it v
        assign target env v
        let ok ← testsOf ifs env
        if ok = true then
          (do let _ ← call (.builtin "list.append") [acc, ← eval elt env])
        again (.compLoop (.ListComp elt gens scope pos) k it acc env)) := by
  unfold compTurn; simp only [hg, hl]; rfl

theorem compTurn_mid {elt : Expr} {gens : List Comprehension} {scope : Scope} {pos : Pos} {k : Nat} {target iter target' iter' : Expr} {ifs ifs' : List Expr} {it acc : Value} {env : Env} (hg : gens[k]? = some ⟨target, iter, ifs, 0⟩) (hl : gens[k + 1]? = some ⟨target', iter', ifs', 0⟩) :
    compTurn (.ListComp elt gens scope pos) k it acc env = (do
      standAt iter.pos
      match ← pyNext it with
      | none => pure (.done .next)
      | some v =>
        letOwnedTupleGo target it v
        assign target env v
        let ok ← testsOf ifs env
        if ok = true then do
            let x ← eval iter' env
            standAt iter'.pos
            let x ← foldedSetIterable iter' env x
            let _ ← runOwn (.compStart (.ListComp elt gens scope pos) (k + 1) (← holding [x] (pyIter x)) acc env) env
            again (.compLoop (.ListComp elt gens scope pos) k it acc env)
        else again (.compLoop (.ListComp elt gens scope pos) k it acc env)) := by
  unfold compTurn; simp only [hg, hl]; rfl

theorem tests0 {env : Env} {Q : Bool → Shared → Prop} {s : Shared} (h : Q true s) : wpAny (model prog w) A (testsOf [] env) Q E s := wpAny_pure h
theorem tests1 {env : Env} {c : Expr} {Q : Bool → Shared → Prop} {s : Shared} (h : wpAny (model prog w) A (isTrue c env (eval c env)) Q E s) : wpAny (model prog w) A (testsOf [c] env) Q E s := PySem.wpAny_tests_one h

theorem compStartAt {R : Result → Shared → Prop} {elt : Expr} {gens : List Comprehension} {scope : Scope} {pos : Pos} {k : Nat} {target iter : Expr} {ifs : List Expr} {it acc : Value} {env : Env} {s : Shared} (hg : gens[k]? = some ⟨target, iter, ifs, 0⟩)
    (h0 : codeAny (model prog w) A (.compLoop (.ListComp elt gens scope pos) k it acc env) R s)
    (h : wpAny (model prog w) A (pyIter it) (fun it' s' => codeAny (model prog w) A (.compLoop (.ListComp elt gens scope pos) k it' acc env) R s') (notedBy (model prog w) A env fun x s' => R (.error x) s') s) :
    codeAny (model prog w) A (.compStart (.ListComp elt gens scope pos) k it acc env) R s := by
  refine codeAny_of_tree ?_
  show wpAny _ _ ((compStart (.ListComp elt gens scope pos) k it acc env).onRaise (fun x => do noteFrame x env; standAt theWindowsPlace)) _ _ s
  refine wpAny_notedAt ?_
  unfold compStart
  simp only [clausesOf, hg, Option.elim]
  show wpAny _ _ (ask >>= _) _ _ s
  refine wpAny_bind (wpAny_askSetting (wpAny_ite ?_))
  split
  · first
      | exact wpAny_bind (wpAny_pure (wpAny_pure (And.intro rfl h0)))
      | exact wpAny_pure (And.intro rfl h0)
  · first
      | exact wpAny_bind (wpAny_rule (wpAny_bind (wpAny_standAt (wpAny_bind (wpAny_mono h (fun it' s' h' => wpAny_pure (And.intro rfl h')) fun _ _ x => x)))))
      | (refine wpAny_bind (wpAny_rule ?_); show wpAny _ _ (standAt iter.pos >>= _) _ _ s; exact wpAny_bind (wpAny_standAt (wpAny_bind (wpAny_mono h (fun it' s' h' => wpAny_pure (And.intro rfl h')) fun _ _ x => x))))

noncomputable abbrev lsOf (vs : List Value) (k : Nat) : Obj := listOf vs.toArray k

theorem appendL {a : Addr} {vs : List Value} {k : Nat} {x : Value} {Q : Value → Shared → Prop} (Z : St T h₀ B O env A m D (L ++ (a, lsOf vs k) :: M) h) (hsz : vs.length ≤ sizeLine)
    (hQ : ∀ h' tk' k', St T h₀ B O env A m D (L ++ (a, lsOf (vs ++ [x]) k') :: M) h' → Q .none (sA s h' tk')) :
    wpAny (model prog w) A' (call (.builtin "list.append") [.ref a, x]) Q E (sA s h tk) := by
  have e : h.get? a = some (lsOf vs k) := (Z.mu _ (List.mem_append_right _ (.head _))).1
  refine wpAny_list_append_plain (s := sA s h tk) (items := vs.toArray) ⟨k, e⟩ (fun h' hp hs => ?_) (by simpa using hsz)
  obtain ⟨k', e'⟩ := hp
  rw [List.push_toArray] at e'
  have nd := Z.ndM
  have ha : ∀ p ∈ L ++ M, p.1 ≠ a := fun p hp q => by
    rw [List.map_append, List.map_cons] at nd
    obtain ⟨n1, n2, n3⟩ := List.nodup_append.mp nd
    rcases List.mem_append.mp hp with hp | hp
    · exact n3 _ (List.mem_map_of_mem hp) _ (.head _) q
    · exact (List.nodup_cons.mp n2).1 (List.mem_map.mpr ⟨p, hp, q⟩)
  refine hQ h' tk k' (Z.turnM (S := [a]) (.sameBut hs (.head _) fun o2 e2 f => absurd f (notFrm_cls (by rw [e] at e2; cases e2; show Value.type _ ≠ Value.type _; decide))) (fun b hb => by rw [List.mem_singleton.mp hb]; simp) (fun b hb => by simpa using hb) (by simpa using nd) fun p hp => ?_)
  rcases List.mem_append.mp hp with hp | hp
  · exact ⟨(hs.2 _ (ha p (List.mem_append_left _ hp))).trans (Z.mu p (List.mem_append_left _ hp)).1, (Z.mu p (List.mem_append_left _ hp)).2⟩
  · rcases List.mem_cons.mp hp with rfl | hp
    · exact ⟨e', by show Value.type _ ≠ Value.type _; decide⟩
    · have hm : p ∈ L ++ (a, lsOf vs k) :: M := List.mem_append_right _ (.tail _ hp)
      exact ⟨(hs.2 _ (ha p (List.mem_append_right _ hp))).trans (Z.mu p hm).1, (Z.mu p hm).2⟩

/-- the last clause of a comprehension, turn by turn -/
theorem compLast {elt : Expr} {gens : List Comprehension} {scope : Scope} {pos : Pos} {k : Nat} {target iter : Expr} {ifs : List Expr} {it acc : Addr} {n c : Nat} {Mi : Nat → Led → Prop} {Val : Nat → Value → Prop} {R : Result → Shared → Prop} {L₀ : Led} {vs₀ : List Value}
    (hg : gens[k]? = some ⟨target, iter, ifs, 0⟩) (hl : gens[k + 1]? = none)
    (I : Itr prog w T D it n Mi Val) (J : Nat → Led → List Value → Prop) (Z : St T h₀ B O env A m D (L₀ ++ (acc, lsOf vs₀ c) :: M) h) (hM₀ : Mi 0 L₀) (h0 : J 0 D vs₀) (hd : Room 8 A)
    (hJ : ∀ i D₁ vs, i ≤ n → J i D₁ vs → vs.length ≤ sizeLine)
    (step : ∀ i v D₁ L₁ vs c h₁ tk₁ E₁, i < n → Val i v → J i D₁ vs → (∀ p ∈ D, p ∈ D₁) → St T h₀ B O env A m D₁ (L₁ ++ (acc, lsOf vs c) :: M) h₁ →
      wpAny (model prog w) A (assign target env v) (fun _ s₂ => wpAny (model prog w) A (testsOf ifs env) (fun ok s₃ =>
        if ok = true then wpAny (model prog w) A (eval elt env) (fun y s₄ => ∃ h₂ tk₂ m₂ D₂, s₄ = sA s h₂ tk₂ ∧ (∀ p ∈ D₁, p ∈ D₂) ∧ (∀ x u, m x = some u → m₂ x = some u) ∧ St T h₀ B O env A m₂ D₂ (L₁ ++ (acc, lsOf vs c) :: M) h₂ ∧ J (i + 1) D₂ (vs ++ [y])) E₁ s₃
        else ∃ h₂ tk₂ m₂ D₂, s₃ = sA s h₂ tk₂ ∧ (∀ p ∈ D₁, p ∈ D₂) ∧ (∀ x u, m x = some u → m₂ x = some u) ∧ St T h₀ B O env A m₂ D₂ (L₁ ++ (acc, lsOf vs c) :: M) h₂ ∧ J (i + 1) D₂ vs) E₁ s₂) E₁ (sA s h₁ tk₁))
    (hQ : ∀ h' tk' D' vs c', (∀ p ∈ D, p ∈ D') → J n D' vs → St T h₀ B O env A m D' ((acc, lsOf vs c') :: M) h' → R (.ok .next) (sA s h' tk')) :
    codeAny (model prog w) A (.compLoop (.ListComp elt gens scope pos) k (.ref it) (.ref acc) env) R (sA s h tk) := by
  refine codeAny_loop rfl (fun j s' => ∃ h' tk' D' vs c' L' i, s' = sA s h' tk' ∧ St T h₀ B O env A m D' (L' ++ (acc, lsOf vs c') :: M) h' ∧ (∀ p ∈ D, p ∈ D') ∧ Mi i L' ∧ J i D' vs ∧ i ≤ n ∧ j = n + 1 - i) ?_ (n + 1)
    ⟨h, tk, D, vs₀, c, L₀, 0, rfl, Z, fun _ q => q, hM₀, h0, Nat.zero_le _, rfl⟩
  rintro j s' ⟨h', tk', D', vs, c', L', i, rfl, Z', hD', hM', hJi, hi, rfl⟩
  show wpAny _ A ((compTurn (.ListComp elt gens scope pos) k (.ref it) (.ref acc) env).onRaise (fun x => do noteFrame x env; theTreesLotGoes x)) _ _ _
  refine wpAny_noted ?_
  rw [compTurn_last hg hl]
  refine wpAny_bind (wpAny_standAt (wpAny_bind ?_))
  by_cases hlt : i < n
  · refine Z'.item (I.mono hD') hlt hd hM' fun v h₁ tk₁ L₁ hM₁ hv Z₁ => ?_
    refine wpAny_bind ((I.mono hD').lg Z₁.goL hM₁ Z₁.go.has ?_)
    refine wpAny_bind (wpAny_mono (step i v D' L₁ vs c' h₁ tk₁ _ hlt hv hJi hD' Z₁) (fun _ s₂ h₂' => wpAny_bind (wpAny_mono h₂' (fun ok s₃ h₃ => ?_) fun _ _ e => e)) fun _ _ e => e)
    have fin : ∀ {h₂ : Heap} {tk₂ : Nat} {m₂ : Str → Option Value} {D₂ : Led} {vs₂ : List Value} {c₂ : Nat}, (∀ p ∈ D', p ∈ D₂) → (∀ x u, m x = some u → m₂ x = some u) → St T h₀ B O env A m₂ D₂ (L₁ ++ (acc, lsOf vs₂ c₂) :: M) h₂ → J (i + 1) D₂ vs₂ →
        ∃ j, j < n + 1 - i ∧ ∃ h' tk' D' vs c' L' i, sA s h₂ tk₂ = sA s h' tk' ∧ St T h₀ B O env A m D' (L' ++ (acc, lsOf vs c') :: M) h' ∧ (∀ p ∈ D, p ∈ D') ∧ Mi i L' ∧ J i D' vs ∧ i ≤ n ∧ j = n + 1 - i := fun {h₂ tk₂ m₂ D₂ vs₂ c₂} hD₂ hm Z₂ hJ₂ =>
      ⟨n + 1 - (i + 1), by omega, h₂, tk₂, D₂, vs₂, c₂, L₁, i + 1, rfl, Z₂.weak hm, fun p hp => hD₂ p (hD' p hp), hM₁, hJ₂, hlt, rfl⟩
    cases ok with
    | false =>
      rw [if_neg (by decide)] at h₃
      obtain ⟨h₂, tk₂, m₂, D₂, rfl, hD₂, hm, Z₂, hJ₂⟩ := h₃
      exact wpAny_pure ⟨rfl, fin hD₂ hm Z₂ hJ₂⟩
    | true =>
      rw [if_pos rfl] at h₃
      refine wpAny_bind (wpAny_bind (wpAny_mono h₃ (fun y s₄ h₄ => ?_) fun _ _ e => e))
      obtain ⟨h₂, tk₂, m₂, D₂, rfl, hD₂, hm, Z₂, hJ₂⟩ := h₄
      exact wpAny_bind (appendL Z₂ (hJ i D' vs hi hJi) fun h₅ tk₅ k₅ Z₅ => wpAny_pure (wpAny_pure ⟨rfl, fin hD₂ hm Z₅ hJ₂⟩))
  · have hin : i = n := by omega
    subst hin
    refine Z'.done (I.mono hD') hd hM' fun h₁ tk₁ Z₁ => wpAny_pure ?_
    exact hQ h₁ tk₁ D' vs c' hD' hJi Z₁
end
end Mine
end
section
namespace Mine
section
variable {prog : Program} {w : World} {K : Frag} {T h₀ h h' : Heap} {O : List Addr} {env : Env} {A A' : Around} {m : Str → Option Value} {B D D' M M' L L' : Led} {s : Shared} {tk : Nat} {E : Value → Shared → Prop}
theorem St.permM (Z : St T h₀ B O env A m D M h) (k : ∀ p ∈ M', p ∈ M) (nd : (M'.map (·.1)).Nodup) : St T h₀ B O env A m D M' h :=
  { Z with
    offL := ⟨Z.offL.1, fun q hq => Z.offL.2 q (k q hq)⟩
    mu := Z.mu.sub k
    muNew := fun p hp => Z.muNew p (k p hp)
    offD := fun p hp => ⟨(Z.offD p hp).1, fun q hq => (Z.offD p hp).2 q (k q hq)⟩
    offM := fun q hq => Z.offM q (k q hq)
    ndM := nd
    offC := fun c hc => ⟨(Z.offC c hc).1, fun q hq => (Z.offC c hc).2 q (k q hq)⟩ }
theorem St.bring {p : Addr × Obj} (Z : St T h₀ B O env A m D (L ++ (L' ++ p :: M)) h) : St T h₀ B O env A m D (L ++ p :: (L' ++ M)) h :=
  Z.permM (fun q hq => by simp at hq ⊢; rcases hq with h | h | h | h <;> simp [h]) (by
    have h := Z.ndM
    have : ((L ++ p :: (L' ++ M)).map (·.1)).Perm ((L ++ (L' ++ p :: M)).map (·.1)) := List.Perm.map _ (List.Perm.append_left _ List.perm_middle.symm)
    exact this.nodup_iff.mpr h)
theorem St.bringBack {p : Addr × Obj} (Z : St T h₀ B O env A m D (p :: (L' ++ M)) h) : St T h₀ B O env A m D (L' ++ p :: M) h :=
  Z.permM (fun q hq => by simp at hq ⊢; rcases hq with h | h | h <;> simp [h]) (by
    have h := Z.ndM
    have : ((L' ++ p :: M).map (·.1)).Perm ((p :: (L' ++ M)).map (·.1)) := List.Perm.map _ List.perm_middle
    exact this.nodup_iff.mpr h)

theorem compStartI {R : Result → Shared → Prop} {elt : Expr} {gens : List Comprehension} {scope : Scope} {pos : Pos} {k n i : Nat} {target iter : Expr} {ifs : List Expr} {it : Addr} {acc : Value} {Mi : Nat → Led → Prop} {Val : Nat → Value → Prop}
    (hg : gens[k]? = some ⟨target, iter, ifs, 0⟩) (I : Itr prog w T D it n Mi Val) (Z : St T h₀ B O env A m D (L ++ M) h) (hM : Mi i L) (hd : Room 8 A)
    (hl : ∀ h' tk', St T h₀ B O env A m D (L ++ M) h' → codeAny (model prog w) A (.compLoop (.ListComp elt gens scope pos) k (.ref it) acc env) R (sA s h' tk')) :
    codeAny (model prog w) A (.compStart (.ListComp elt gens scope pos) k (.ref it) acc env) R (sA s h tk) :=
  compStartAt hg (hl h tk Z) (I.self Z.go hd Z.goL hM fun h' tk' k => hl h' tk' (Z.step k))

/-- a clause ahead of the last -/
theorem compMid {elt : Expr} {gens : List Comprehension} {scope : Scope} {pos : Pos} {k : Nat} {target iter target' iter' : Expr} {ifs ifs' : List Expr} {it acc : Addr} {n c : Nat} {Mi : Nat → Led → Prop} {Val : Nat → Value → Prop} {R : Result → Shared → Prop} {L₀ : Led} {vs₀ : List Value}
    (hg : gens[k]? = some ⟨target, iter, ifs, 0⟩) (hl : gens[k + 1]? = some ⟨target', iter', ifs', 0⟩)
    (I : Itr prog w T D it n Mi Val) (J : Nat → Led → List Value → Prop) (Z : St T h₀ B O env A m D (L₀ ++ (acc, lsOf vs₀ c) :: M) h) (hM₀ : Mi 0 L₀) (h0 : J 0 D vs₀) (hd : Room 8 A)
    (hs : ∀ x, foldedSetIterable iter' env x = pure x)
    (step : ∀ i v D₁ L₁ vs c h₁ tk₁ E₁, i < n → Val i v → J i D₁ vs → (∀ p ∈ D, p ∈ D₁) → St T h₀ B O env A m D₁ (L₁ ++ (acc, lsOf vs c) :: M) h₁ →
      wpAny (model prog w) A (assign target env v) (fun _ s₂ => wpAny (model prog w) A (testsOf ifs env) (fun ok s₃ =>
        if ok = true then wpAny (model prog w) A (eval iter' env) (fun x s₄ => wpAny (model prog w) A (pyIter x) (fun itv s₅ => codeAny (model prog w) A (.compStart (.ListComp elt gens scope pos) (k + 1) itv (.ref acc) env)
          (fun r s₆ => r = .ok .next ∧ ∃ h₂ tk₂ m₂ D₂ vs₂ c₂, s₆ = sA s h₂ tk₂ ∧ (∀ p ∈ D₁, p ∈ D₂) ∧ (∀ x u, m x = some u → m₂ x = some u) ∧ St T h₀ B O env A m₂ D₂ (L₁ ++ (acc, lsOf vs₂ c₂) :: M) h₂ ∧ J (i + 1) D₂ vs₂) s₅) E₁ s₄) E₁ s₃
        else ∃ h₂ tk₂ m₂ D₂, s₃ = sA s h₂ tk₂ ∧ (∀ p ∈ D₁, p ∈ D₂) ∧ (∀ x u, m x = some u → m₂ x = some u) ∧ St T h₀ B O env A m₂ D₂ (L₁ ++ (acc, lsOf vs c) :: M) h₂ ∧ J (i + 1) D₂ vs) E₁ s₂) E₁ (sA s h₁ tk₁))
    (hQ : ∀ h' tk' D' vs c', (∀ p ∈ D, p ∈ D') → J n D' vs → St T h₀ B O env A m D' ((acc, lsOf vs c') :: M) h' → R (.ok .next) (sA s h' tk')) :
    codeAny (model prog w) A (.compLoop (.ListComp elt gens scope pos) k (.ref it) (.ref acc) env) R (sA s h tk) := by
  refine codeAny_loop rfl (fun j s' => ∃ h' tk' D' vs c' L' i, s' = sA s h' tk' ∧ St T h₀ B O env A m D' (L' ++ (acc, lsOf vs c') :: M) h' ∧ (∀ p ∈ D, p ∈ D') ∧ Mi i L' ∧ J i D' vs ∧ i ≤ n ∧ j = n + 1 - i) ?_ (n + 1)
    ⟨h, tk, D, vs₀, c, L₀, 0, rfl, Z, fun _ q => q, hM₀, h0, Nat.zero_le _, rfl⟩
  rintro j s' ⟨h', tk', D', vs, c', L', i, rfl, Z', hD', hM', hJi, hi, rfl⟩
  show wpAny _ A ((compTurn (.ListComp elt gens scope pos) k (.ref it) (.ref acc) env).onRaise (fun x => do noteFrame x env; theTreesLotGoes x)) _ _ _
  refine wpAny_noted ?_
  rw [compTurn_mid hg hl]
  refine wpAny_bind (wpAny_standAt (wpAny_bind ?_))
  by_cases hlt : i < n
  · refine Z'.item (I.mono hD') hlt hd hM' fun v h₁ tk₁ L₁ hM₁ hv Z₁ => ?_
    refine wpAny_bind ((I.mono hD').lg Z₁.goL hM₁ Z₁.go.has ?_)
    refine wpAny_bind (wpAny_mono (step i v D' L₁ vs c' h₁ tk₁ _ hlt hv hJi hD' Z₁) (fun _ s₂ h₂' => wpAny_bind (wpAny_mono h₂' (fun ok s₃ h₃ => ?_) fun _ _ e => e)) fun _ _ e => e)
    have fin : ∀ {h₂ : Heap} {tk₂ : Nat} {m₂ : Str → Option Value} {D₂ : Led} {vs₂ : List Value} {c₂ : Nat}, (∀ p ∈ D', p ∈ D₂) → (∀ x u, m x = some u → m₂ x = some u) → St T h₀ B O env A m₂ D₂ (L₁ ++ (acc, lsOf vs₂ c₂) :: M) h₂ → J (i + 1) D₂ vs₂ →
        ∃ j, j < n + 1 - i ∧ ∃ h' tk' D' vs c' L' i, sA s h₂ tk₂ = sA s h' tk' ∧ St T h₀ B O env A m D' (L' ++ (acc, lsOf vs c') :: M) h' ∧ (∀ p ∈ D, p ∈ D') ∧ Mi i L' ∧ J i D' vs ∧ i ≤ n ∧ j = n + 1 - i := fun {h₂ tk₂ m₂ D₂ vs₂ c₂} hD₂ hm Z₂ hJ₂ =>
      ⟨n + 1 - (i + 1), by omega, h₂, tk₂, D₂, vs₂, c₂, L₁, i + 1, rfl, Z₂.weak hm, fun p hp => hD₂ p (hD' p hp), hM₁, hJ₂, hlt, rfl⟩
    cases ok with
    | false =>
      rw [if_neg (by decide)] at h₃
      obtain ⟨h₂, tk₂, m₂, D₂, rfl, hD₂, hm, Z₂, hJ₂⟩ := h₃
      exact wpAny_pure ⟨rfl, fin hD₂ hm Z₂ hJ₂⟩
    | true =>
      rw [if_pos rfl] at h₃
      refine wpAny_bind (wpAny_mono h₃ (fun x s₄ h₄ => ?_) fun _ _ e => e)
      refine wpAny_bind (wpAny_standAt (wpAny_bind (wpAny_of_eq (hs x) (wpAny_bind (wpAny_holding (wpAny_mono h₄ (fun itv s₅ h₅ => ?_) fun _ _ e => e))))))
      refine wpAny_bind (wpAny_runOwn (codeAny_mono h₅ fun r s₆ h₆ => ?_))
      obtain ⟨rfl, h₂, tk₂, m₂, D₂, vs₂, c₂, rfl, hD₂, hm, Z₂, hJ₂⟩ := h₆
      exact wpAny_pure ⟨rfl, fin hD₂ hm Z₂ hJ₂⟩
  · have hin : i = n := by omega
    subst hin
    refine Z'.done (I.mono hD') hd hM' fun h₁ tk₁ Z₁ => wpAny_pure ?_
    exact hQ h₁ tk₁ D' vs c' hD' hJi Z₁

/-- the view of an expression that stores nothing -/
theorem St.sub (Z : St T h₀ B O env A m D M h) : St T h D [] env A m D [] h where
  go := Z.go
  kT0 := Z.go.kT
  kp := .refl
  vr := Z.vr
  own := fun _ q => nomatch q
  offL := ⟨Z.offL.1, fun _ q => nomatch q⟩
  mu := .nil
  muNew := fun _ q => nomatch q
  gr := fun _ q => .inl q
  offD := fun _ _ => ⟨fun q => (nomatch q), fun _ q => (nomatch q)⟩
  offM := fun _ q => nomatch q
  ndM := .nil
  offC := fun c hc => ⟨(Z.offC c hc).1, fun _ q => nomatch q⟩
  sep := Z.sep
/-- back from a call or an expression -/
theorem St.ret {h₁ : Heap} {O' : List Addr} {env' : Env} {A' : Around} {m' : Str → Option Value} (Z : St T h₀ B O env A m D M h) (Y : St T h D O' env' A' m' D' M' h₁) : St T h₀ B O env A m (D' ++ D) M h₁ := Z.moreN Y.kp Y.go.has Y.gr

inductive ClOk (env : Env) : List (Str × Addr) → Prop
  | nil : ClOk env []
  | cons {x : Str} {c : Addr} {r : List (Str × Addr)} : env.cells.lookup x = some c → (env.kindOf x = some .cell ∨ env.kindOf x = some .free) → ClOk env r → ClOk env ((x, c) :: r)
theorem ClOk.mem {cl : List (Str × Addr)} (x : ClOk env cl) : ∀ p ∈ cl, env.cells.lookup p.1 = some p.2 ∧ (env.kindOf p.1 = some .cell ∨ env.kindOf p.1 = some .free) := by
  induction x with
  | nil => intro _ q; cases q
  | cons a b _ ih =>
    intro p hp
    rcases List.mem_cons.mp hp with rfl | hp
    · exact ⟨a, b⟩
    · exact ih p hp
theorem ClOk.nodup {cl : List (Str × Addr)} (x : ClOk env cl) (nd : (env.cells.map (·.2)).Nodup) (hn : nodupS (cl.map (·.1)) = true) : (cl.map (·.2)).Nodup := by
  have inj : ∀ (l : List (Str × Addr)), (l.map (·.2)).Nodup → ∀ a b c, (a, c) ∈ l → (b, c) ∈ l → a = b := by
    intro l
    induction l with
    | nil => intro _ _ _ _ h; cases h
    | cons z l ih =>
      intro nd a b c h1 h2
      obtain ⟨n1, n2⟩ := List.nodup_cons.mp nd
      rcases List.mem_cons.mp h1 with g1 | g1 <;> rcases List.mem_cons.mp h2 with g2 | g2
      · rw [← g2] at g1; exact (Prod.mk.inj g1).1
      · exact absurd (List.mem_map.mpr ⟨_, g2, by rw [← g1]⟩) n1
      · exact absurd (List.mem_map.mpr ⟨_, g1, by rw [← g2]⟩) n1
      · exact ih n2 a b c g1 g2
  induction x with
  | nil => exact .nil
  | @cons y c r a b k ih =>
    simp only [List.map_cons, nodupS, Bool.and_eq_true, Bool.not_eq_true'] at hn
    refine List.nodup_cons.mpr ⟨fun hm => ?_, ih hn.2⟩
    obtain ⟨p, hp, e⟩ := List.mem_map.mp hm
    have m1 := mem_of_lookup a
    have m2 := mem_of_lookup (k.mem p hp).1
    have e' : p.2 = c := e
    rw [e'] at m2
    have := inj _ nd _ _ _ m1 m2
    have hc : (r.map (·.1)).contains y = true := List.contains_iff_mem.mpr (List.mem_map.mpr ⟨p, hp, this.symm⟩)
    rw [hc] at hn
    cases hn.1

/-- an environment of a comprehension -/
noncomputable abbrev cpEnv (scope rs : Scope) (cl : List (Str × Addr)) (L : Addr) (env : Env) : Env := { scope := rs, locals := L, globals := env.globals, cells := cellsFrom (L + 1) scope.names cl, qual := env.qual, func := none, code := env.code, frame := env.frame, builtins := env.builtins }

/-- what is to be shown at the start of a list comprehension -/
noncomputable def CompIn (prog : Program) (w : World) (T h : Heap) (D : Led) (env : Env) (A : Around) (m : Str → Option Value) (s : Shared) (elt : Expr) (gens : List Comprehension) (scope rs : Scope) (pos : Pos) (cl : List (Str × Addr)) (P : Addr → List Value → Nat → Led → Prop) (itv : Value) (s₂ : Shared) : Prop :=
  ∃ it n Mi Val D₁ L₁ h₂ tk₂, itv = .ref it ∧ s₂ = sA s h₂ tk₂ ∧ Itr prog w T D₁ it n Mi Val ∧ Mi 0 L₁ ∧ St T h D [] env A m D₁ L₁ h₂ ∧ Room 8 A ∧
    ∀ acc c h₄ tk₄ L, St T h D (ownOf L (cellsFrom (L + 1) scope.names cl)) (cpEnv scope rs cl L env) A (newM cl m) D₁ (L₁ ++ (acc, lsOf [] c) :: []) h₄ →
      codeAny (model prog w) A (.compLoop (.ListComp elt gens scope pos) 0 (.ref it) (.ref acc) (cpEnv scope rs cl L env)) (fun r s₅ => r = .ok .next ∧ ∃ h₅ tk₅ D₅ vs c₅ m₅ M₅, s₅ = sA s h₅ tk₅ ∧ St T h D (ownOf L (cellsFrom (L + 1) scope.names cl)) (cpEnv scope rs cl L env) A m₅ D₅ ((acc, lsOf vs c₅) :: M₅) h₅ ∧ P acc vs c₅ D₅) (sA s h₄ tk₄)

theorem newM_weak {cl : List (Str × Addr)} (hcl : ClOk env cl) (v : Vr env h m) : ∃ cm : Str → Option Value, (∀ x c, (x, c) ∈ cl → ∃ o, h.get? c = some o ∧ o.data = .cell (cm x)) ∧ ∀ x u, newM cl m x = some u → newM cl cm x = some u := by
  have key : ∀ x, ∃ k : Option Value, (∀ c, (x, c) ∈ cl → ∃ o, h.get? c = some o ∧ o.data = .cell k) ∧ ((∃ c, (x, c) ∈ cl) → ∀ u, m x = some u → k = some u) := fun x => by
    by_cases q : ∃ c, (x, c) ∈ cl
    · obtain ⟨c, hc⟩ := q
      obtain ⟨e1, e2⟩ := hcl.mem _ hc
      obtain ⟨c', o, k, l, g, d, hk⟩ := v.cel x e2
      refine ⟨k, fun c₂ hc₂ => ?_, fun _ => hk⟩
      have l2 := (hcl.mem _ hc₂).1
      rw [l] at l2
      cases l2
      exact ⟨o, g, d⟩
    · exact ⟨none, fun c hc => absurd ⟨c, hc⟩ q, fun r => absurd r q⟩
  refine ⟨fun x => (key x).choose, fun x c hc => (key x).choose_spec.1 c hc, fun x u hu => ?_⟩
  unfold newM at hu ⊢
  cases q : cl.lookup x with
  | none => rw [q] at hu; cases hu
  | some c =>
    rw [q] at hu
    exact (key x).choose_spec.2 ⟨c, mem_of_lookup q⟩ u hu

theorem compCore {elt : Expr} {gens : List Comprehension} {target iter : Expr} {ifs : List Expr} {gs : List Comprehension} {scope rs : Scope} {pos spos : Pos} {cl : List (Str × Addr)} {use : Option (Value → Sem Unit)} {Q : Value → Shared → Prop} {P : Addr → List Value → Nat → Led → Prop}
    (hgens : gens = ⟨target, iter, ifs, 0⟩ :: gs) (Z : St T h₀ B O env A m D M h)
    (hs : ∀ x, foldedSetIterable iter env x = pure x) (hrs : relabel scope env = rs) (hclos : closureFor scope env = pure cl) (hkind : scope.kind = .function) (hnames : ∀ x ∈ scope.names, x.2 = .local → scope.names.lookup x.1 = some .local)
    (hcl : ClOk env cl) (hclN : nodupS (cl.map (·.1)) = true) (hnm : nodupS ((cellsFrom 0 scope.names cl).map (·.1)) = true)
    (hlook : ∀ L : Nat, looksOk rs.names (cellsFrom (L + 1) scope.names cl) = true) (hcll : (cl.all fun p => !(rs.names.lookup p.1 == some .local)) = true)
    (hh : ∀ E', wpAny (model prog w) A (eval iter env) (fun x s₁ => wpAny (model prog w) A (pyIter x) (CompIn prog w T h D env A m s elt gens scope rs pos cl P) E' s₁) E' (sA s h tk))
    (fin : ∀ acc vs c₅ D₅ h₅ tk₅ C, h.get? C = none → (∀ p ∈ (acc, lsOf vs c₅) :: D₅, p.1 ≠ C) → (∃ m, h₅.Ns C m) → Kp T h h₅ → Has h₅ ((acc, lsOf vs c₅) :: D₅) → New h D ((acc, lsOf vs c₅) :: D₅) → P acc vs c₅ D₅ → compPost (model prog w) A E use Q (.ref acc) C (.ok .next) (sA s h₅ tk₅)) :
    wpAny (model prog w) A (comprehension (.ListComp elt gens scope pos) scope env spos (newList []) false (eval iter env) use) Q E (sA s h tk) := by
  subst hgens hrs
  refine wpAny_comprehension_free rfl hs hclos hkind hnames (wpAny_mono (hh E) (fun x s₁ h₁ => wpAny_mono h₁ (fun itv s₂ h₂ => ?_) fun _ _ e => e) fun _ _ e => e)
  obtain ⟨it, n, Mi, Val, D₁, L₁, h₂, tk₂, rfl, rfl, I, hM₀, Z₂, hd, body⟩ := h₂
  refine nwLM Z₂ (by show (0 : Nat) ≤ sizeLine; exact Nat.zero_le _) fun acc h₃ tk₃ Z₃ => ?_
  have Z₃' : St T h D [] env A m D₁ (L₁ ++ (acc, lsOf [] 0) :: []) h₃ := by
    have := Z₃
    rw [show (acc, listOf ([] : List Value).toArray 0) :: L₁ = (acc, lsOf [] 0) :: (L₁ ++ []) by simp] at this
    exact this.bringBack
  obtain ⟨cm, hcm, hweak⟩ := newM_weak hcl Z₃'.vr
  have hnd := hcl.nodup Z₃'.sep.2.1 hclN
  refine newScope (rs := relabel scope env) (cm := cm) Z₃'.go Z₃'.kT0 Z₃'.kp Z₃'.gr Z₃'.mu Z₃'.muNew Z₃'.ndM (fun p hp => (Z₃'.offD p hp).2)
    (fun x c hc => ⟨hcm x c hc, (Z₃'.offC c (List.mem_map.mpr ⟨_, mem_of_lookup (hcl.mem _ hc).1, rfl⟩)).2⟩) hnd (fun h₄ tk₄ Z₄ _ => ?_) hkind hnm (hlook _) hcll (.inl rfl)
  have Z₄' := Z₄.weak hweak
  have goal := body acc 0 h₄ tk₄ h₃.objs.size Z₄'
  have after : ∀ r s₅, (r = .ok .next ∧ ∃ h₅ tk₅ D₅ vs c₅ m₅ M₅, s₅ = sA s h₅ tk₅ ∧ St T h D (ownOf h₃.objs.size (cellsFrom (h₃.objs.size + 1) scope.names cl)) (cpEnv scope (relabel scope env) cl h₃.objs.size env) A m₅ D₅ ((acc, lsOf vs c₅) :: M₅) h₅ ∧ P acc vs c₅ D₅) →
      compPost (model prog w) A E use Q (.ref acc) h₃.objs.size r s₅ := by
    rintro r s₅ ⟨rfl, h₅, tk₅, D₅, vs, c₅, m₅, M₅, rfl, Z₅, hP⟩
    obtain ⟨m₀, n₀, _⟩ := Z₅.vr.loc
    refine fin acc vs c₅ D₅ h₅ tk₅ _ (Kp.back Z₃'.kp (fresh_size h₃)) (fun p hp => ?_) ⟨m₀, n₀⟩ Z₅.kp (fun p hp => ?_) (fun p hp => ?_) hP
    · rcases List.mem_cons.mp hp with rfl | hp
      · exact fun q => Z₅.offM _ (.head _) (q ▸ .head _)
      · exact fun q => (Z₅.offD p hp).1 (q ▸ .head _)
    · rcases List.mem_cons.mp hp with rfl | hp
      · exact Z₅.mu _ (.head _)
      · exact Z₅.go.has p hp
    · rcases List.mem_cons.mp hp with rfl | hp
      · exact .inr (Z₅.muNew _ (.head _))
      · exact Z₅.gr p hp
  refine compStartI (L := L₁) (M := [(acc, lsOf [] 0)]) rfl I Z₄' hM₀ hd fun h₄' tk₄' Z₄'' => ?_
  exact codeAny_mono (body acc 0 h₄' tk₄' h₃.objs.size Z₄'') after

/-- a list comprehension -/
theorem compI {elt : Expr} {gens : List Comprehension} {target iter : Expr} {ifs : List Expr} {gs : List Comprehension} {scope rs : Scope} {pos : Pos} {cl : List (Str × Addr)} {Q : Value → Shared → Prop}
    (Z : St T h₀ B O env A m D M h)
    (hgens : gens = ⟨target, iter, ifs, 0⟩ :: gs)
    (hs : ∀ x, foldedSetIterable iter env x = pure x) (hrs : relabel scope env = rs) (hclos : closureFor scope env = pure cl) (hkind : scope.kind = .function) (hnames : ∀ x ∈ scope.names, x.2 = .local → scope.names.lookup x.1 = some .local)
    (hcl : ClOk env cl) (hclN : nodupS (cl.map (·.1)) = true) (hnm : nodupS ((cellsFrom 0 scope.names cl).map (·.1)) = true)
    (hlook : ∀ L : Nat, looksOk rs.names (cellsFrom (L + 1) scope.names cl) = true) (hcll : (cl.all fun p => !(rs.names.lookup p.1 == some .local)) = true)
    (hh : ∀ E', wpAny (model prog w) A (eval iter env) (fun x s₁ => wpAny (model prog w) A (pyIter x) (CompIn prog w T h D env A m s elt gens scope rs pos cl fun acc vs c D₅ => ∀ h₆ tk₆, Kp T h h₆ → St T h₀ B O env A m ((acc, lsOf vs c) :: D₅ ++ D) M h₆ → Q (.ref acc) (sA s h₆ tk₆)) E' s₁) E' (sA s h tk)) :
    wpAny (model prog w) A (eval (.ListComp elt gens scope pos) env) Q E (sA s h tk) := by
  have e := eval_ListComp (env := env) elt gens scope pos
  rw [e]
  subst hgens
  refine compCore rfl Z hs hrs hclos hkind hnames hcl hclN hnm hlook hcll hh fun acc vs c₅ D₅ h₅ tk₅ C hC hne ⟨m₀, n₀⟩ kp hHas hNew hP => ?_
  refine ⟨m₀, n₀, fun h' hs' => ?_⟩
  have kp' : Kp T h h' := ⟨fun b o _ e => by
      obtain ⟨sl, e1, k1⟩ := kp.keep b o (by simp) e
      exact ⟨sl, (hs'.2 b fun q => by rw [q, hC] at e; cases e).trans e1, k1⟩, fun b o e n => by
      obtain ⟨o1, e1, n1⟩ := kp.nf b o e n
      exact ⟨o1, (hs'.2 b fun q => by rw [q, hC] at e; cases e).trans e1, n1⟩⟩
  have hHas' : Has h' ((acc, lsOf vs c₅) :: D₅) := fun p hp => ⟨(hs'.2 _ (hne p hp)).trans (hHas p hp).1, (hHas p hp).2⟩
  exact hP h' tk₅ kp' (Z.moreN kp' hHas' hNew)

/-- what came up behind h and is none of ours may turn -/
theorem St.forget {C : Addr} {h₂ h₃ : Heap} {m₀ : Str → Option Value} {D₀ : Led} (Z₀ : St T h₀ B O env A m₀ D₀ M h) (Z : St T h₀ B O env A m D M h₂) (hC : h.get? C = none) (hs : Heap.SameBut C h₂ h₃) (hD : ∀ p ∈ D, p.1 ≠ C)
    (nf : ∀ b o, h.get? b = some o → IsFrm o → ∃ o', h₂.get? b = some o' ∧ IsFrm o') : St T h₀ B O env A m D M h₃ := by
  have ne : ∀ {b : Addr} {o : Obj}, h.get? b = some o → b ≠ C := fun e q => by rw [q, hC] at e; cases e
  have same : ∀ {b : Addr} {o : Obj}, h.get? b = some o → h₃.get? b = h₂.get? b := fun e => hs.2 _ (ne e)
  have hL : env.locals ≠ C := by obtain ⟨⟨o, e⟩, _⟩ := Z₀.offL; exact ne e
  have hcell : ∀ c ∈ env.cells.map (·.2), c ≠ C := fun c hc => by obtain ⟨⟨o, e⟩, _⟩ := Z₀.offC c hc; exact ne e
  exact {
    go := ⟨fun b o e => (same (Z₀.go.kT b o e)).trans (Z.go.kT b o e), Z₀.go.fs.by fun b o eb n => by
      obtain ⟨o', e', n'⟩ := nf b o eb n
      exact ⟨o', (same eb).trans e', n'⟩, fun p hp => ⟨(hs.2 _ (hD p hp)).trans (Z.go.has p hp).1, (Z.go.has p hp).2⟩⟩
    kT0 := Z.kT0
    kp := ⟨fun b o _ e => by
      obtain ⟨_, e0, _⟩ := Z₀.kp.keep b o (by simp) e
      obtain ⟨sl, e1, k⟩ := Z.kp.keep b o (by simp) e
      exact ⟨sl, (same e0).trans e1, k⟩, fun b o e n => by
      obtain ⟨_, e0, _⟩ := Z₀.kp.nf b o e n
      obtain ⟨o1, e1, n1⟩ := Z.kp.nf b o e n
      exact ⟨o1, (same e0).trans e1, n1⟩⟩
    vr := ⟨by
      obtain ⟨m₁, n, e⟩ := Z.vr.loc
      exact ⟨m₁, n.sameBut hs hL, e⟩, fun x hx => by
      obtain ⟨c, o, kk, e1, e2, e3, e4⟩ := Z.vr.cel x hx
      exact ⟨c, o, kk, e1, (hs.2 _ (hcell c (List.mem_map.mpr ⟨_, mem_of_lookup e1, rfl⟩))).trans e2, e3, e4⟩⟩
    own := fun a ha => by
      obtain ⟨n, o, e⟩ := Z.own a ha
      obtain ⟨_, o0, e0⟩ := Z₀.own a ha
      exact ⟨n, o, (same e0).trans e⟩
    offL := ⟨by obtain ⟨⟨o, e⟩, _⟩ := Z.offL; exact ⟨o, (hs.2 _ hL).trans e⟩, Z.offL.2⟩
    mu := fun p hp => ⟨(same (Z₀.mu p hp).1).trans (Z.mu p hp).1, (Z.mu p hp).2⟩
    muNew := Z.muNew
    gr := Z.gr
    offD := Z.offD
    offM := Z.offM
    ndM := Z.ndM
    offC := fun c hc => ⟨by obtain ⟨⟨o, e⟩, _⟩ := Z.offC c hc; exact ⟨o, (hs.2 _ (hcell c hc)).trans e⟩, (Z.offC c hc).2⟩
    sep := Z.sep }

/-- a list comprehension that is stored into a local variable at its end -/
theorem compU {elt : Expr} {gens : List Comprehension} {target iter : Expr} {ifs : List Expr} {gs : List Comprehension} {scope rs : Scope} {pos : Pos} {cl : List (Str × Addr)} {Q : Flow → Shared → Prop} {y : Str} {py apos : Pos}
    (Z : St T h₀ B O env A m D M h)
    (hsw : swapsWith (.ListComp elt gens scope pos) (some (.Name y py)) apos.line env = pure true)
    (hy : env.kindOf y = some .local) (hl : env.locals ∈ O) (hk : env.scope.kind = .function)
    (hgens : gens = ⟨target, iter, ifs, 0⟩ :: gs)
    (hs : ∀ x, foldedSetIterable iter env x = pure x) (hrs : relabel scope env = rs) (hclos : closureFor scope env = pure cl) (hkind : scope.kind = .function) (hnames : ∀ x ∈ scope.names, x.2 = .local → scope.names.lookup x.1 = some .local)
    (hcl : ClOk env cl) (hclN : nodupS (cl.map (·.1)) = true) (hnm : nodupS ((cellsFrom 0 scope.names cl).map (·.1)) = true)
    (hlook : ∀ L : Nat, looksOk rs.names (cellsFrom (L + 1) scope.names cl) = true) (hcll : (cl.all fun p => !(rs.names.lookup p.1 == some .local)) = true)
    (hh : ∀ E', wpAny (model prog w) A (eval iter env) (fun x s₁ => wpAny (model prog w) A (pyIter x) (CompIn prog w T h D env A m s elt gens scope rs pos cl fun acc vs c D₅ => ∀ h₆ tk₆, St T h₀ B O env A (upd m y (.ref acc)) ((acc, lsOf vs c) :: D₅ ++ D) M h₆ → Q .next (sA s h₆ tk₆)) E' s₁) E' (sA s h tk)) :
    wpAny (model prog w) A (exec (.Assign [.Name y py] (.ListComp elt gens scope pos) apos) env) Q E (sA s h tk) := by
  rw [exec_Assign_Name_used _ _ _ _ hsw]
  refine wpAny_bind (wpAny_standAt (wpAny_bind ?_))
  subst hgens
  show wpAny _ A (do let _ ← comprehension (.ListComp elt (⟨target, iter, ifs, 0⟩ :: gs) scope pos) scope env _ (newList []) false (eval iter env) (some (assign (.Name y py) env))) _ _ _
  refine wpAny_bind (wpAny_mono (compCore (use := some (assign (.Name y py) env)) (Q := fun _ s' => Q .next s') rfl Z hs hrs hclos hkind hnames hcl hclN hnm hlook hcll hh fun acc vs c₅ D₅ h₅ tk₅ C hC hne ⟨m₀, n₀⟩ kp hHas hNew hP => ?_) (fun _ s' hq => wpAny_pure (wpAny_pure hq)) fun _ _ e => e)
  show wpAny _ A (assign (.Name y py) env (.ref acc)) _ _ _
  have Z₅ := Z.moreN kp hHas hNew
  obtain ⟨m₁, n₁, hm₁⟩ := Z₅.vr.loc
  have hLC : env.locals ≠ C := fun q => by obtain ⟨⟨o, e⟩, _⟩ := Z.offL; rw [q, hC] at e; cases e
  refine PySem.wpAny_assign_Name (storeNameC hy n₁ (fun h₂ hn₂ hs₂ hfr₂ => ?_) (by rw [hk]; rfl))
  refine ⟨m₀, n₀.sameBut hs₂ (Ne.symm hLC), fun h₃ hs₃ => ?_⟩
  -- the store, then the letting go
  have Z₆ : St T h₀ B O env A (upd m y (.ref acc)) ((acc, lsOf vs c₅) :: D₅ ++ D) M h₂ := by
    refine Z₅.turnO (S := [env.locals]) ?_ (fun b hb => by rw [List.mem_singleton.mp hb]; exact hl) (fun b hb => ?_) ?_
    · exact KpX.sameBut hs₂ (.head _) hfr₂
    · rw [List.mem_singleton.mp hb]
      obtain ⟨o, es, ep, eo, _⟩ := hn₂
      exact ⟨o, eo⟩
    · refine ⟨⟨_, hn₂, fun z hz u hu => ?_⟩, fun z hz => ?_⟩
      · unfold upd at hu
        by_cases q : z = y
        · rw [if_pos q] at hu; rw [if_pos q]; exact hu
        · rw [if_neg q] at hu; rw [if_neg q]; exact hm₁ z hz u hu
      · obtain ⟨c, o, kk, e1, e2, e3, e4⟩ := Z₅.vr.cel z hz
        have hyx : z ≠ y := fun q => by subst q; rw [hy] at hz; rcases hz with hz | hz <;> cases hz
        refine ⟨c, o, kk, e1, (hs₂.2 c fun q => ?_).trans e2, e3, fun u hu => e4 u (by unfold upd at hu; rw [if_neg hyx] at hu; exact hu)⟩
        exact Z₅.sep.1 (q ▸ List.mem_map.mpr ⟨(z, c), mem_of_lookup e1, rfl⟩)
  refine hP h₃ _ (St.forget Z Z₆ hC hs₃ (fun p hp => ?_) fun b o e n => ?_)
  · rcases List.mem_append.mp hp with hp | hp
    · exact hne p hp
    · exact fun q => by have := (Z.go.has p hp).1; rw [q, hC] at this; cases this
  · obtain ⟨o1, e1, n1⟩ := kp.nf b o e n
    by_cases q : b = env.locals
    · subst q
      exact hfr₂ o1 e1 n1
    · exact ⟨o1, (hs₂.2 b q).trans e1, n1⟩
end
end Mine
end
section
namespace Mine
section
variable {prog : Program} {w : World} {K : Frag} {T h₀ h h' : Heap} {O : List Addr} {env : Env} {A A' : Around} {m : Str → Option Value} {B D D' M L L' X : Led} {s : Shared} {tk : Nat} {E : Value → Shared → Prop}
theorem Has.news {h : Heap} {X : Led} (x : Has h X) : News (default : Heap) h.objs.size h X := fun p hp => ⟨(x p hp).1, fun q => by have := Heap.lt_size (x p hp).1; rw [q] at this; exact Nat.lt_irrefl _ this, rfl⟩

theorem datS {vs : List Value} {ws : List Str} (h : StrsAre vs ws) : DatAll [] vs (ws.map Dat.str) := by
  induction h with
  | nil => exact .nil
  | cons y t _ ih => exact .cons (.str y t) ih
theorem strs_snoc {vs : List Value} {ws : List Str} {x : Str} {t : Tok} (h : StrsAre vs ws) : StrsAre (vs ++ [.str x t]) (ws ++ [x]) := by
  induction h with
  | nil => exact .cons _ _ .nil
  | cons y t _ ih => exact .cons _ _ ih
theorem strs_len {vs : List Value} {ws : List Str} (h : StrsAre vs ws) : vs.length = ws.length := by
  induction h with
  | nil => rfl
  | cons y t _ ih => simp [ih]
theorem strs_get {vs : List Value} {ws : List Str} (h : StrsAre vs ws) : ∀ {i : Nat} {v : Value}, vs[i]? = some v → ∃ x t, ws[i]? = some x ∧ v = .str x t := by
  induction h with
  | nil => intro i v q; cases q
  | cons y t _ ih =>
    intro i v q
    cases i with
    | zero => cases q; exact ⟨y, t, rfl, rfl⟩
    | succ i => exact ih q
theorem strs_app {vs us : List Value} {ws xs : List Str} (h : StrsAre vs ws) (k : StrsAre us xs) : StrsAre (vs ++ us) (ws ++ xs) := by
  induction h with
  | nil => exact k
  | cons y t _ ih => exact .cons y t ih
noncomputable def okS (ws : List Str) : Prop := ∀ x ∈ ws, PyData.strOk x = true
theorem up_none {m : Str → Option Value} {x : Str} {v : Value} (h : m x = none) : ∀ y u, m y = some u → upd m x v y = some u := fun y u hy => by
  unfold upd
  by_cases q : y = x
  · subst q; rw [h] at hy; cases hy
  · rw [if_neg q]; exact hy
theorem truB {b : Bool} {Q : Bool → Shared → Prop} {s : Shared} (hQ : Q b s) : wpAny (model prog w) A (truthy (.bool b)) Q E s := wpAny_pure hQ
theorem iteB {b : Bool} {a c : Prop} (h1 : b = true → a) (h2 : b = false → c) : if b = true then a else c := by cases b <;> simp_all
/-- two variables take a pair's items -/
theorem asT2 {x y : Str} {px py pos : Pos} {c : Nat} {t : Addr} {u v : Value} {k : Nat} {Q : Unit → Shared → Prop} (Z : St T h₀ B O env A m D M h) (ht : (t, tupOf [u, v] k) ∈ D) (hQ : ∀ h' tk', St T h₀ B O env A (upd (upd m x u) y v) D M h' → Q () (sA s h' tk'))
    (hk : env.scope.kind = .function := by rfl) (hl : env.locals ∈ O := by exact List.mem_cons_self) (hx : env.kindOf x = some .local := by rfl) (hy : env.kindOf y = some .local := by rfl) :
    wpAny (model prog w) A (assign (.Tuple [.Name x px, .Name y py] c pos) env (.ref t)) Q E (sA s h tk) := by
  have e := (Z.go.has _ ht).1
  refine PySem.wpAny_assign_Tuple (s := sA s h tk) Z.go.fs.hd (items := #[u, v]) ⟨_, e, rfl, k, rfl⟩ rfl rfl fun h' he => ?_
  have k : Kp T h h' := .of_keeps fun b o eb => he b o (fun q => by rw [q, show (sA s h tk).heap.objs.size = h.objs.size from rfl, fresh_size h] at eb; cases eb) eb
  refine assignInOrder_cons (PySem.wpAny_assign_Name (stL (s := s) (tk := tk) (Z.step k) (fun h₁ tk₁ Z₁ => ?_) hk hl hx))
  exact assignInOrder_cons (PySem.wpAny_assign_Name (stL Z₁ (fun h₂ tk₂ Z₂ => assignInOrder_nil (hQ h₂ tk₂ Z₂)) hk hl hy))
end
end Mine
end
section
namespace Mine
section
variable {β : Type} {R R' : Value → β → Prop}
inductive KV (R : Value → β → Prop) : List (Str × Value) → List (Str × β) → Prop
  | nil : KV R [] []
  | cons {x : Str} {v : Value} {b : β} {kvs : List (Str × Value)} {nds : List (Str × β)} : R v b → KV R kvs nds → KV R ((x, v) :: kvs) ((x, b) :: nds)
noncomputable def look (l : List (Str × β)) (x : Str) : Option β := (l.find? fun p => p.1 = x).map (·.2)
noncomputable def put (l : List (Str × β)) (x : Str) (b : β) : List (Str × β) := if l.any (fun p => p.1 = x) then l.map (fun p => if p.1 = x then (p.1, b) else p) else l ++ [(x, b)]
theorem KV.keys {kvs : List (Str × Value)} {nds : List (Str × β)} (h : KV R kvs nds) : kvs.map (·.1) = nds.map (·.1) := by
  induction h with
  | nil => rfl
  | cons _ _ ih => simp [ih]
theorem KV.len {kvs : List (Str × Value)} {nds : List (Str × β)} (h : KV R kvs nds) : kvs.length = nds.length := by
  have := congrArg List.length h.keys
  simpa using this
theorem KV.value {kvs : List (Str × Value)} {nds : List (Str × β)} (h : KV R kvs nds) (x : Str) : (valueAt kvs x = none ∧ look nds x = none) ∨ ∃ v b, valueAt kvs x = some v ∧ look nds x = some b ∧ R v b := by
  induction h with
  | nil => exact .inl ⟨rfl, rfl⟩
  | @cons y v b kvs nds a _ ih =>
    unfold valueAt look at ih ⊢
    by_cases q : y = x
    · refine .inr ⟨v, b, ?_, ?_, a⟩ <;> simp [q]
    · simpa [List.find?_cons, q] using ih
theorem KV.any {kvs : List (Str × Value)} {nds : List (Str × β)} (h : KV R kvs nds) (x : Str) : (kvs.any fun kv => kv.1 = x) = (nds.any fun p => p.1 = x) := by
  induction h with
  | nil => rfl
  | cons _ _ ih => simp only [List.any_cons, ih]
theorem KV.snoc {kvs : List (Str × Value)} {nds : List (Str × β)} {x : Str} {v : Value} {b : β} (h : KV R kvs nds) (a : R v b) : KV R (kvs ++ [(x, v)]) (nds ++ [(x, b)]) := by
  induction h with
  | nil => exact .cons a .nil
  | cons c _ ih => exact .cons c ih
theorem KV.set {kvs : List (Str × Value)} {nds : List (Str × β)} {x : Str} {v : Value} {b : β} (h : KV R kvs nds) (a : R v b) : KV R (kvs.map fun kv => if kv.1 = x then (kv.1, v) else kv) (nds.map fun p => if p.1 = x then (p.1, b) else p) := by
  induction h with
  | nil => exact .nil
  | @cons y _ _ _ _ c _ ih =>
    simp only [List.map_cons]
    by_cases q : y = x
    · simp only [q, if_true]; exact .cons a ih
    · simp only [q, if_false]; exact .cons c ih
theorem KV.stored {kvs : List (Str × Value)} {nds : List (Str × β)} {x : Str} {v : Value} {b : β} (h : KV R kvs nds) (a : R v b) : KV R (stored kvs x v) (put nds x b) := by
  unfold PySem.stored put
  rw [h.any x]
  split
  · exact h.set a
  · exact h.snoc a
theorem KV.get {kvs : List (Str × Value)} {nds : List (Str × β)} (h : KV R kvs nds) : ∀ {i : Nat} {p : Str × Value}, kvs[i]? = some p → ∃ b, nds[i]? = some (p.1, b) ∧ R p.2 b := by
  induction h with
  | nil => intro i p q; cases q
  | cons a _ ih =>
    intro i p q
    cases i with
    | zero => cases q; exact ⟨_, rfl, a⟩
    | succ i => exact ih q
theorem put_len (l : List (Str × β)) (x : Str) (b : β) : (put l x b).length ≤ l.length + 1 := by
  unfold put; split <;> simp
end
section
variable {prog : Program} {w : World} {K : Frag} {T h₀ h h' : Heap} {O : List Addr} {env : Env} {A A' : Around} {m : Str → Option Value} {B D D' M L L' X : Led} {s : Shared} {tk : Nat} {E : Value → Shared → Prop}
theorem St.all (Z : St T h₀ B O env A m D M h) : Has h (D ++ M) := Z.go.has.append Z.mu

/-- the sum of two lists -/
theorem addL {l b : Addr} {vs ws : List Value} {k k' : Nat} {Q : Value → Shared → Prop} (Z : St T h₀ B O env A m D M h) (ml : (l, lsOf vs k) ∈ D ++ M) (mb : (b, lsOf ws k') ∈ D ++ M) (hsz : vs.length + ws.length ≤ sizeLine)
    (hQ : ∀ a h' tk', St T h₀ B O env A m ((a, lsOf (vs ++ ws) 0) :: D) M h' → Q (.ref a) (sA s h' tk')) : wpAny (model prog w) A (binaryOp .Add (.ref l) (.ref b)) Q E (sA s h tk) := by
  have ho := (Z.all _ ml).1
  have ho2 := (Z.all _ mb).1
  refine concat_meets (s := sA s h tk) ⟨_, ho, rfl⟩ ⟨_, ho2, rfl⟩ noFill_list_add seq_list_add PySem.F.slot_list_add PySem.F.entry_list_add (PySem.F.args_list_add_2 _ _) (list_addW l b vs.toArray ws.toArray k k' _ _ _ _ (by simpa using hsz)) ⟨ho, ho2, ?_⟩
  rw [show vs.toArray ++ ws.toArray = (vs ++ ws).toArray by simp]
  exact hQ h.objs.size _ _ (Z.more (D' := [(h.objs.size, lsOf (vs ++ ws) 0)]) (.push _) (Has.cons (Heap.get?_push_size _ rfl) (by show Value.type _ ≠ Value.type _; decide) .nil) (fun p hp => by rw [List.mem_singleton.mp hp]; exact fresh_size h))

/-- a new dict that is to be turned -/
theorem nwD {pos : Pos} {Q : Value → Shared → Prop} (C : Cx K T) (Z : St T h₀ B O env A m D M h)
    (hQ : ∀ d o h' tk', St T h₀ B O env A m D ((d, o) :: M) h' → (d == sysModules) = false → o.IsDictOf (strKind prog w) [] → Q (.ref d) (sA s h' tk')) : wpAny (model prog w) A (eval (.Dict [] [] pos) env) Q E (sA s h tk) := by
  refine wpAny_Dict_empty (s := sA s h tk) (hQ h.objs.size _ _ _ (Z.moreM (.push _) (Heap.get?_push_size _ rfl) (by show Value.type _ ≠ Value.type _; decide) (fresh_size h)) ?_ ?_)
  · have := modules_low (C.noLimit Z.go.kT)
    exact beq_eq_false_iff_ne.mpr fun q => absurd this (by rw [← q]; exact Nat.lt_irrefl _)
  · obtain ⟨o, ho, hd⟩ := Heap.dictOf_iff.mp (Heap.DictOf.new (knd := strKind prog w) h)
    rw [Heap.get?_push_size _ rfl] at ho
    exact (Option.some.inj ho) ▸ hd

theorem nd_mid {a : Addr} {o : Obj} (nd : ((L ++ (a, o) :: M).map (·.1)).Nodup) : ∀ p ∈ L ++ M, p.1 ≠ a := fun p hp q => by
  rw [List.map_append, List.map_cons] at nd
  obtain ⟨n1, n2, n3⟩ := List.nodup_append.mp nd
  rcases List.mem_append.mp hp with hp | hp
  · exact n3 _ (List.mem_map_of_mem hp) _ (.head _) q
  · exact (List.nodup_cons.mp n2).1 (List.mem_map.mpr ⟨p, hp, q⟩)
/-- one mutable object turns -/
theorem St.turn1 {a : Addr} {o o' : Obj} (Z : St T h₀ B O env A m D (L ++ (a, o) :: M) h) (hs : Heap.SameBut a h h') (e : h'.get? a = some o') (c : o'.cls ≠ .type "frame") (_nf : ∀ vs, o'.data ≠ .fields vs) : St T h₀ B O env A m D (L ++ (a, o') :: M) h' := by
  have ha := nd_mid Z.ndM
  refine Z.turnM (S := [a]) (.sameBut hs (.head _) fun o2 e2 f => absurd f (notFrm_cls (by have hm := Z.mu _ (List.mem_append_right _ (.head _)); rw [hm.1] at e2; cases e2; exact hm.2))) (fun b hb => by rw [List.mem_singleton.mp hb]; simp) (fun b hb => by simpa using hb) (by simpa using Z.ndM) fun p hp => ?_
  rcases List.mem_append.mp hp with hp | hp
  · exact ⟨(hs.2 _ (ha p (List.mem_append_left _ hp))).trans (Z.mu p (List.mem_append_left _ hp)).1, (Z.mu p (List.mem_append_left _ hp)).2⟩
  · rcases List.mem_cons.mp hp with rfl | hp
    · exact ⟨e, c⟩
    · have hm : p ∈ L ++ (a, o) :: M := List.mem_append_right _ (.tail _ hp)
      exact ⟨(hs.2 _ (ha p (List.mem_append_right _ hp))).trans (Z.mu p hm).1, (Z.mu p hm).2⟩

theorem isDict_nf {o : Obj} {kvs : List (Str × Value)} (hd : o.IsDictOf (strKind prog w) kvs) : o.cls ≠ .type "frame" ∧ ∀ vs, o.data ≠ .fields vs := by
  obtain ⟨es, ep, e, d, _⟩ := hd
  exact ⟨by rw [e.1]; decide, fun vs q => by rw [d] at q; cases q⟩

theorem setD {d : Addr} {o : Obj} {kvs : List (Str × Value)} {x : Str} {t : Tok} {v : Value} {Q : Unit → Shared → Prop} (Z : St T h₀ B O env A m D (L ++ (d, o) :: M) h) (hd : o.IsDictOf (strKind prog w) kvs) (hsz : kvs.length ≤ sizeLine)
    (hQ : ∀ o' h' tk', o'.IsDictOf (strKind prog w) (stored kvs x v) → St T h₀ B O env A m D (L ++ (d, o') :: M) h' → Q () (sA s h' tk')) : wpAny (model prog w) A' (setItem (.ref d) (.str x t) v) Q E (sA s h tk) := by
  refine wpAny_setItem_pairs (s := sA s h tk) (hsz := hsz) (strKind_is prog w x t) (Heap.dictOf_iff.mpr ⟨o, (Z.mu _ (List.mem_append_right _ (.head _))).1, hd⟩) fun h' hm hs => ?_
  obtain ⟨o', e', hd'⟩ := Heap.dictOf_iff.mp hm
  exact hQ o' h' _ hd' (Z.turn1 hs e' (isDict_nf hd').1 (isDict_nf hd').2)
theorem mtGet {d : Addr} {o : Obj} {kvs : List (Str × Value)} {pl : Sem Bool} {Q : Value × List Value → Shared → Prop} (hX : Has h X) (hm : (d, o) ∈ X) (hd : o.IsDictOf (strKind prog w) kvs) (hQ : Q (.builtin "dict.get", [.ref d]) (sA s h tk)) :
    wpAny (model prog w) A (getMethod (.ref d) "get" pl) Q E (sA s h tk) := kdg_method (s := sA s h tk) hX.news hm hd hQ
theorem getD {d : Addr} {o : Obj} {kvs : List (Str × Value)} {x : Str} {t : Tok} {v : Value} {Q : Value → Shared → Prop} (hX : Has h X) (hm : (d, o) ∈ X) (lo : (d == sysModules) = false) (hd : o.IsDictOf (strKind prog w) kvs)
    (hQ : ∀ tk', Q ((valueAt kvs x).getD v) (sA s h tk')) : wpAny (model prog w) A (call (.builtin "dict.get") [.ref d, .str x t, v]) Q E (sA s h tk) :=
  kdg_get2 (s := sA s h tk) hX.news hm hd lo (strKind_is prog w x t) _ rfl (hQ _)
theorem getD1 {d : Addr} {o : Obj} {kvs : List (Str × Value)} {x : Str} {t : Tok} {Q : Value → Shared → Prop} (hX : Has h X) (hm : (d, o) ∈ X) (lo : (d == sysModules) = false) (hd : o.IsDictOf (strKind prog w) kvs)
    (hQ : ∀ tk', Q ((valueAt kvs x).getD .none) (sA s h tk')) : wpAny (model prog w) A (call (.builtin "dict.get") [.ref d, .str x t]) Q E (sA s h tk) :=
  kdg_get1 (s := sA s h tk) hX.news hm hd lo (strKind_is prog w x t) _ rfl (hQ _)
theorem notInD {d : Addr} {o : Obj} {kvs : List (Str × Value)} {x : Str} {t : Tok} {Q : Value → Shared → Prop} (hX : Has h X) (hm : (d, o) ∈ X) (lo : (d == sysModules) = false) (hd : o.IsDictOf (strKind prog w) kvs)
    (hQ : ∀ tk', Q (.bool (!(valueAt kvs x).isSome)) (sA s h tk')) : wpAny (model prog w) A (compareOp .NotIn (.str x t) (.ref d)) Q E (sA s h tk) :=
  kdg_notin (s := sA s h tk) hX.news hm hd lo (strKind_is prog w x t) _ rfl (hQ _)
theorem itemD {value slice : Expr} {d : Addr} {o : Obj} {kvs : List (Str × Value)} {x : Str} {t : Tok} {v : Value} {Q : Value → Shared → Prop} (hX : Has h X) (hm : (d, o) ∈ X) (hd : o.IsDictOf (strKind prog w) kvs) (hv : valueAt kvs x = some v)
    (hQ : ∀ tk', Q v (sA s h tk')) (hs : subscripted slice false (.ref d) (.str x t) = operate [.ref d, .str x t] (getItem (.ref d) (.str x t))) (hg : ∀ r, letTemporaryGo value (.ref d) r = pure ()) : wpAny (model prog w) A (subscriptTail value slice (.ref d) (.str x t)) Q E (sA s h tk) :=
  kda_item (s := sA s h tk) hX.news hm hd (strKind_is prog w x t) hv (hQ _) hs hg
end
end Mine
end
section
namespace Mine
namespace F
theorem slot_md_get : Slot "method_descriptor" "__get__" "method_descriptor.__get__" :=
  .of (owner := "method_descriptor") (n := "__get__") (by rw [typeLookup_type, builtinLookup_eq_fast]; kernel_rfl) (by decide +kernel) (by decide +kernel) (by decide +kernel)
    (by first | exact .inl (by decide +kernel) | exact .inr (by decide +kernel)) (by rw [isSubtype_type]; kernel_rfl)
theorem entry_md_get : entryFor table "method_descriptor.__get__" = some Builtin.«method_descriptor.__get__» := entryFor_of_tree (by kernel_rfl)
theorem args_md_get (a b c : Value) : argsOk "method_descriptor.__get__" ⟨[a, b, c], []⟩ := by unfold argsOk; kernel_rfl
theorem md_set : typeLookup (.type "method_descriptor") "__set__" = pure none := by rw [typeLookup_type, builtinLookup_eq_fast]; kernel_rfl
theorem md_delete : typeLookup (.type "method_descriptor") "__delete__" = pure none := by rw [typeLookup_type, builtinLookup_eq_fast]; kernel_rfl
end F
noncomputable abbrev boundObj (a : Addr) : Obj := { cls := .type "builtin_function_or_method", data := .fields #[.builtin "set.__contains__", .ref a] }
section
variable {prog : Program} {w : World} {A : Around} {E : Value → Shared → Prop} {h : Heap} {g : Array GenState} {d : Drawn} {t : Nat} {os : OsState} {a : Addr} {o : Obj}
theorem contains_get {R : Result → Shared → Prop} (hx : h.get? a = some o) (hc : o.cls = .type "set") (hq : R (.ok (.ret (.ref h.objs.size))) ⟨h.push (boundObj a), g, d, t, os⟩) :
    codeAny (model prog w) A (.call (.builtin "method_descriptor.__get__") ⟨[.builtin "set.__contains__", .ref a, .type "set"], []⟩) R ⟨h, g, d, t, os⟩ := by
  have hT : (⟨h, g, d, t, os⟩ : Shared).TypeIs (.ref a) "set" := ⟨_, hx, hc⟩
  have hT5 : (⟨h, g, d, t, os⟩ : Shared).TypeIs (.builtin "set.__contains__") "method_descriptor" := PySem.F.type_set_contains
  have f8 : isSubtype (.type "set") (.type (".".intercalate ("set.__contains__".cutAt '.').dropLast)) = pure true := by
    rw [show (".".intercalate ("set.__contains__".cutAt '.').dropLast) = "set" from by decide +kernel]; exact sub_set_self
  refine codeAny_call_builtin F.slot_md_get.plain F.entry_md_get (F.slot_md_get.check _ _ _ _ _ _ _ _ hT5 (F.args_md_get _ _ _) ?_)
  repeat (any_goals (first | assumption | wp_step))
theorem contains_entry {tk : Tok} {es ep tb sl} {Q : Fin → Shared → Prop} (hx : h.get? a = some { cls := .type "set", dict := none, data := .set es ep tb, slots := sl }) (hq : Q (.done (.ret (.ref h.objs.size))) ⟨h.push (boundObj a), g, d, t, os⟩) :
    wpAny (model prog w) A (Builtin.«object.__getattribute__» ⟨[.ref a, .str "__contains__" tk], []⟩) Q E ⟨h, g, d, t, os⟩ := by
  have hT : (⟨h, g, d, t, os⟩ : Shared).TypeIs (.ref a) "set" := ⟨_, hx, rfl⟩
  have hT5 : (⟨h, g, d, t, os⟩ : Shared).TypeIs (.builtin "set.__contains__") "method_descriptor" := PySem.F.type_set_contains
  have f4 := PySem.F.slot_set_contains.lookup
  have f5 := PySem.F.type_set_contains
  have f6 := F.slot_md_get.lookup
  have f7 := F.md_set
  have f9 := F.md_delete
  repeat (any_goals (first | assumption | wp_step))
  refine contains_get hx rfl ?_
  repeat (any_goals (first | assumption | wp_step))

theorem contains_call {tk : Tok} {es ep tb sl} {R : Result → Shared → Prop} (hx : h.get? a = some { cls := .type "set", dict := none, data := .set es ep tb, slots := sl }) (hq : R (.ok (.ret (.ref h.objs.size))) ⟨h.push (boundObj a), g, d, t, os⟩) :
    codeAny (model prog w) A (.call (.builtin "set.__getattribute__") ⟨[.ref a, .str "__contains__" tk], []⟩) R ⟨h, g, d, t, os⟩ :=
  codeAny_call_builtin PySem.F.slot_set_getattribute.plain PySem.F.entry_set_ga (PySem.F.slot_set_getattribute.check _ _ _ _ _ _ _ _ (show (⟨h, g, d, t, os⟩ : Shared).TypeIs (.ref a) "set" from ⟨_, hx, rfl⟩) (PySem.F.args_set_getattribute_2 _ _) (contains_entry hx hq))

theorem contains_attr {es ep tb sl} {expr : Bool} {Q : Value → Shared → Prop} (hx : h.get? a = some { cls := .type "set", dict := none, data := .set es ep tb, slots := sl }) (hq : Q (.ref h.objs.size) ⟨h.push (boundObj a), g, d, t + 1, os⟩) :
    wpAny (model prog w) A (getAttr (.ref a) "__contains__" expr) Q E ⟨h, g, d, t, os⟩ := by
  have hT : (⟨h, g, d, t + 1, os⟩ : Shared).TypeIs (.ref a) "set" := ⟨_, hx, rfl⟩
  have f2 := PySem.F.slot_set_getattribute.lookup
  have f3 := PySem.F.slot_set_getattribute.bind (.ref a)
  unfold getAttr getAttrBy
  repeat (any_goals (first | assumption | wp_step))
  rw [show (expr && onTheHeap (Value.builtin "set.__getattribute__")) = false from by cases expr <;> rfl, if_neg Bool.false_ne_true]
  repeat (any_goals (first | assumption | wp_step))
  refine contains_call hx ?_
  repeat (any_goals (first | assumption | wp_step))

/-- the bound method is called -/
theorem contains_at {q : Addr} {key : Value} {R : Result → Shared → Prop} {sh : Shared} (hq : sh.heap.get? q = some (boundObj a)) {es ep tb sl} (hxo : sh.heap.get? a = some { cls := .type "set", dict := none, data := .set es ep tb, slots := sl })
    (h : codeAny (model prog w) A (.builtin "set.__contains__" ⟨[.ref a, key], []⟩) R sh) : codeAny (model prog w) A (.call (.ref q) ⟨[key], []⟩) R sh := by
  obtain ⟨hh, g, dr, t, os⟩ := sh
  refine codeAny_of_tree ?_
  show wpAny _ _ (callAny (.ref q) _) _ _ _
  dsimp only at hq hxo
  have hx : (⟨hh, g, dr, t, os⟩ : Shared).TypeIs (.ref a) "set" := ⟨_, hxo, rfl⟩
  refine nd_load hq ?_
  show wpAny _ _ (checkBoundCall "set.__contains__" ⟨[.ref a, key], []⟩ >>= _) _ _ _
  have hs : Manifest.signature? "set.__contains__" = some ⟨.oneArg, "set.__contains__", "__contains__", .self, [⟨"object", .posOnly, true⟩]⟩ := by
    rw [signature?_of (id := "set.__contains__") (n := ['_', '_', 's', 'n', 'i', 'a', 't', 'n', 'o', 'c', '_', '_']) (o := ['t', 'e', 's']) (by kernel_rfl) PySem.F.owner_set]; kernel_rfl
  have hk : builtinKind "set.__contains__" = some .method := by decide +kernel
  have hv : Manifest.varargsMethods.contains "set.__contains__" = false := by decide +kernel
  have hl : Bind.lastOf "set.__contains__" = "__contains__" := by decide +kernel
  have hl2 : Bind.lastOf "set" = "set" := by decide +kernel
  have hm : isSubtype (.type "set") (.type "module") = pure false := by rw [isSubtype_type]; kernel_rfl
  have ht : isSubtype (.type "set") (.type "type") = pure false := by rw [isSubtype_type]; kernel_rfl
  have hck : Bind.checkArgs "set.__contains__" ⟨.oneArg, "set" ++ "." ++ "__contains__", "__contains__", .self, [⟨"object", .posOnly, true⟩]⟩ ⟨[.ref a, key], []⟩ = pure () := by kernel_rfl
  refine wpAny_bind ?_
  unfold checkBoundCall
  simp only [hs, hk, hv, hl]
  refine wpAny_bind (wpAny_isInstance hx hm ?_)
  rw [if_neg (by decide)]
  refine wpAny_bind (wpAny_bind (wpAny_loadPart hxo (wpAny_pure ?_)))
  simp only [Bool.false_eq_true, if_false]
  have t1 : Looks (model prog w) hh (typeOf (.ref a)) (.type "set") := (Looks.ld hxo).andThen .now
  refine wpAny_bind (t1.at ?_)
  dsimp only
  rw [hl2]
  refine wpAny_of_eq hck (wpAny_pure ⟨Code.quiet_builtin _ (by decide +kernel), ?_⟩)
  exact h
end
end Mine
end
section
namespace Mine
section
variable {prog : Program} {w : World} {A : Around} {E : Value → Shared → Prop} {h : Heap} {g : Array GenState} {d : Drawn} {t : Nat} {os : OsState} {a : Addr} {o : Obj}
theorem contains_run {x : Str} {tx : Tok} {S : Str → Bool} {n : Nat} {R : Result → Shared → Prop} {sh : Shared} (hS : sh.heap.SetOf (strKind prog w) a S n) (hR : R (.ok (.ret (.bool (S x)))) { sh with toks := sh.toks + 1 }) :
    codeAny (model prog w) A (.builtin "set.__contains__" ⟨[.ref a, .str x tx], []⟩) R sh := by
  refine codeAny_builtin entry_set_contains ?_
  unfold Builtin.«frozenset.__contains__» Builtin.Frozenset.oneOther
  simp only [List.isEmpty_nil, bind_assoc]
  unfold Builtin.Frozenset.addrOf Builtin.Frozenset.withSetAsKey setContains
  refine wpAny_bind (wpAny_pure ?_)
  try dsimp only
  refine wpAny_bind (wpAny_pure ?_)
  try dsimp only
  refine wpAny_bind (wpAny_tryCatch ?_)
  refine wpAny_holding ?_
  refine wpAny_bind ((strKind prog w).pyHash (strKind_is prog w x tx) ?_)
  refine wpAny_bind (wpAny_setFind_of (s := { sh with toks := sh.toks + 1 }) (strKind_is prog w x tx) rfl hS fun r hr => ?_)
  refine wpAny_pure ?_
  show wpAny _ _ (ret (Value.bool r.isSome)) _ _ _
  rw [hr]
  exact wpAny_pure hR

noncomputable abbrev newSetObj (led : Bool) : Obj := { cls := .type "set", dict := none, data := .set #[] 0 (.fresh 0 0 led) }
set_option maxHeartbeats 3200000 in
theorem call_set_by {other T : Value} {s : Shared} {Q : Value → Shared → Prop} (h1 : Looks (model prog w) s.heap (Builtin.Frozenset.isAnySet other) false) (h2 : Looks (model prog w) s.heap (typeOf other) T) (hT : (T == .type "dict") = false)
    (hit : ∀ led E', wpAny (model prog w) A.in1.in1 (pyIter other) (fun it s' => codeAny (model prog w) A.in1.in1 (.builtin "set.update.loop" ⟨[.ref s.heap.objs.size, it], []⟩) (fun r s₂ => r = .ok (.ret .none) ∧ (∃ o, s₂.heap.get? s.heap.objs.size = some o ∧ o.cls = .type "set") ∧ Q (.ref s.heap.objs.size) s₂) s') E' { s with heap := s.heap.push (newSetObj led) }) :
    wpAny (model prog w) A (call (.type "set") [other]) Q E s := by
  obtain ⟨c, tl, hmro⟩ := PySem.F.called_set.mro
  have hmade := PySem.F.called_set.made
  have hsub := PySem.F.called_set.sub
  refine wpAny_call (codeAny_of_tree ?_)
  show wpAny _ _ (callAny (.type "set") _) _ _ _
  refine wpAny_pure ⟨Code.quiet_builtin _ (by decide +kernel), codeAny_builtin PySem.F.entry_type_call ?_⟩
  rw [Around.under_plain (weight_type_call_type "set" [other] []) rfl]
  have h1' := PySem.F.called_set.notType
  have h2' := PySem.F.called_set.canCreate
  have hct := PySem.F.typeCall_set_1 other
  repeat (any_goals (first | assumption | wp_step))
  refine codeAny_mono (code_set_new_1 other (E := E) (Q₁ := fun obj s₁ => ∃ led : Bool, obj = .ref s.heap.objs.size ∧ s₁ = { s with heap := s.heap.push (newSetObj led) }) fun led => ⟨led, rfl, rfl⟩) fun r s₁ hr => ?_
  cases r with
  | error e => exact hr
  | ok fl =>
    cases fl with
    | ret obj =>
      obtain ⟨led, rfl, rfl⟩ := hr
      have hS : (s.heap.push (newSetObj led)).get? s.heap.objs.size = some (newSetObj led) := Heap.get?_push_size _ rfl
      have hT0 : Shared.TypeIs { s with heap := s.heap.push (newSetObj led) } (.ref s.heap.objs.size) "set" := ⟨_, hS, rfl⟩
      have hli := PySem.F.called_set.init.lookup
      have hbi := PySem.F.called_set.init.bind (.ref s.heap.objs.size)
      repeat (any_goals (first | assumption | wp_step))
      refine codeAny_mono (codeAny_call_builtin (R := wants (fun r s₂ => r = .none ∧ (∃ o, s₂.heap.get? s.heap.objs.size = some o ∧ o.cls = .type "set") ∧ Q (.ref s.heap.objs.size) s₂) E) PySem.F.called_set.init.plain PySem.F.entry_set_init (check_set_init_1 hT0 ?_)) fun r₂ s₂ hr₂ => ?_
      · have k : ∀ b o, s.heap.get? b = some o → (s.heap.push (newSetObj led)).get? b = some o := fun b o e => Heap.get?_push_of_some _ e
        have h1k := h1.keeps k
        have h2k := h2.keeps k
        unfold Builtin.«set.__init__» noKeywords Builtin.Frozenset.updateFrom
        generalize hPI : pyIter = PI
        generalize hAS : Builtin.Frozenset.isAnySet = AS
        rw [hAS] at h1k
        repeat (any_goals (first | assumption | wp_step))
        refine h1k.here ?_
        rw [if_neg Bool.false_ne_true]
        refine wpAny_bind (h2k.here ?_)
        rw [hT, if_neg Bool.false_ne_true]
        subst hPI
        refine wpAny_bind (wpAny_mono (hit led _) (fun it s' hl => ?_) fun _ _ e => e)
        refine wpAny_bind (wpAny_runValue (codeAny_mono hl fun r s₂ hr => ?_))
        obtain ⟨rfl, ho, hq⟩ := hr
        exact wpAny_pure (wpAny_pure ⟨rfl, ho, hq⟩)
      · cases r₂ with
        | error e => exact hr₂
        | ok fl₂ =>
          cases fl₂ with
          | ret r =>
            obtain ⟨rfl, ⟨o, ho, hc⟩, hq⟩ := hr₂
            repeat (any_goals (first | assumption | wp_step))
          | _ => exact hr₂.elim
    | _ => exact hr.elim
end
end Mine
end
section
namespace Mine
section
variable {prog : Program} {w : World} {K : Frag} {T h₀ h h' : Heap} {O : List Addr} {env : Env} {A A' : Around} {m : Str → Option Value} {B D D' M M' L L' : Led} {s : Shared} {tk : Nat} {E : Value → Shared → Prop}
noncomputable def upTo (f : Nat → Str) (i : Nat) : Str → Bool := fun x => ((List.range i).map f).any (· == x)
theorem upTo_succ (f : Nat → Str) (i : Nat) (x : Str) : upTo f (i + 1) x = (upTo f i x || decide (x = f i)) := by
  unfold upTo
  rw [List.range_succ, List.map_append, List.any_append]
  simp only [List.map_cons, List.map_nil, List.any_cons, List.any_nil, Bool.or_false]
  congr 1
  by_cases q : x = f i
  · simp [q]
  · have : ¬ f i = x := fun e => q e.symm
    simp [q, this]

theorem setObj_nf {o : Obj} {S : Str → Bool} {n : Nat} (hs : o.SetObjOf (strKind prog w) S n) : (o.cls ≠ .type "frame" ∧ ∀ vs, o.data ≠ .fields vs) ∧ ∃ es ep tb, o = { cls := .type "set", dict := none, data := .set es ep tb, slots := #[] } := by
  obtain ⟨e, es, ep, t, d, _⟩ := hs
  obtain ⟨c, dd, da, sl⟩ := o
  obtain ⟨e1, e2, e3⟩ := e
  dsimp only at e1 e2 e3 d
  subst e1 e2 e3 d
  exact ⟨⟨by show Value.type _ ≠ Value.type _; decide, fun vs q => by cases q⟩, es, ep, t, rfl⟩

theorem setLoop {it S : Addr} {n : Nat} {Mi : Nat → Led → Prop} {Val : Nat → Value → Prop} {R : Result → Shared → Prop} (f : Nat → Str) (hf : ∀ i v, Val i v → ∃ t, v = .str (f i) t) (hn : n + 1 < scanBound) (hd : Room 8 A.in1)
    (I : Itr prog w T D it n Mi Val)
    (hR : ∀ h' tk' so' c, so'.SetObjOf (strKind prog w) (upTo f n) c → c ≤ n → St T h₀ B O env A.in1 m D ((S, so') :: M) h' → R (.ok (.ret .none)) (sA s h' tk')) :
    ∀ (k i c : Nat) (h : Heap) (tk : Nat) (L : Led) (so : Obj), n - i = k → i ≤ n → c ≤ i → Mi i L → so.SetObjOf (strKind prog w) (upTo f i) c → St T h₀ B O env A.in1 m D (L ++ (S, so) :: M) h →
      codeAny (model prog w) A (.builtin "set.update.loop" ⟨[.ref S, .ref it], []⟩) R (sA s h tk) := by
  intro k
  induction k with
  | zero =>
    intro i c h tk L so hk hi hc hM hso Z
    have hin : i = n := by omega
    subst hin
    refine codeAny_builtin PyProof.Rows.F.entry_set_update_loop ?_
    rw [Around.under_plainId PyProof.Rows.F.plain_set_update_loop _]
    show wpAny _ A.in1 (pyNext (.ref it) >>= _) _ _ _
    refine wpAny_bind (Z.done I hd hM fun h' tk' Z' => ?_)
    show wpAny _ A.in1 (ret Value.none) _ _ _
    exact wpAny_pure (hR h' tk' so c hso hc Z')
  | succ k ih =>
    intro i c h tk L so hk hi hc hM hso Z
    have hlt : i < n := by omega
    refine codeAny_builtin PyProof.Rows.F.entry_set_update_loop ?_
    rw [Around.under_plainId PyProof.Rows.F.plain_set_update_loop _]
    show wpAny _ A.in1 (pyNext (.ref it) >>= _) _ _ _
    refine wpAny_bind (Z.item I hlt hd hM fun v h₁ tk₁ L₁ hM₁ hv Z₁ => ?_)
    obtain ⟨t, rfl⟩ := hf i v hv
    show wpAny _ A.in1 (holding [Value.str (f i) t] (setAdd S (.str (f i) t)) >>= _) _ _ _
    refine wpAny_bind (wpAny_holding ?_)
    unfold setAdd
    refine wpAny_holding ?_
    refine wpAny_bind ((strKind prog w).pyHash (k := f i) (strKind_is _ _ _ _) ?_)
    have hS : h₁.SetOf (strKind prog w) S (upTo f i) c := hso.setOf (Z₁.mu _ (List.mem_append_right _ (.head _))).1 (by omega)
    refine wpAny_setAddHashed_of (knd := strKind prog w) (s := sA s h₁ (tk₁ + 1)) (strKind_is _ _ _ _) rfl hS (by omega) fun h₂ hsb hS2 => ?_
    obtain ⟨so', e', hso'⟩ := hS2.objOf
    have hso'' : so'.SetObjOf (strKind prog w) (upTo f (i + 1)) (if upTo f i (f i) then c else c + 1) := by
      have : (fun k' => upTo f i k' || decide (k' = f i)) = upTo f (i + 1) := by funext x; rw [upTo_succ]
      rw [← this]; exact hso'
    have Z₂ := Z₁.turn1 hsb e' (setObj_nf hso').1.1 (setObj_nf hso').1.2
    exact wpAny_pure ⟨plainId_quiet PyProof.Rows.F.plain_set_update_loop _, ih (i + 1) _ h₂ _ L₁ so' (by omega) hlt (by split <;> omega) hM₁ hso'' Z₂⟩

theorem isi_list_set {h : Heap} {l : Addr} {o : Obj} (e : h.get? l = some o) (c : o.cls = .type "list") : Looks (model prog w) h (Builtin.Frozenset.isAnySet (.ref l)) false := by
  have t1 : Looks (model prog w) h (typeOf (.ref l)) (.type "list") := c ▸ (Looks.ld e).andThen .now
  have s1 : Looks (model prog w) h (isInstance (.ref l) (.type "set")) false := t1.andThen (Looks.of_pure PySem.F.sub_list_set)
  have s2 : Looks (model prog w) h (isInstance (.ref l) (.type "frozenset")) false := t1.andThen (Looks.of_pure PySem.F.sub_list_frozenset)
  exact s1.andThen s2
/-- a set of a list's texts -/
theorem setOfL {l : Addr} {vs : List Value} {ws : List Str} {k : Nat} {Q : Value → Shared → Prop} (Z : St T h₀ B O env A m D M h) (hl : (l, lsOf vs k) ∈ D) (hw : StrsAre vs ws) (hn : ws.length < 1000) (hd : Room 14 A)
    (hQ : ∀ S so c h' tk', so.SetObjOf (strKind prog w) (fun x => decide (x ∈ ws)) c → c < scanBound → St T h₀ B O env A m ((S, so) :: D) M h' → Q (.ref S) (sA s h' tk')) :
    wpAny (model prog w) A (call (.type "set") [.ref l]) Q E (sA s h tk) := by
  have e := (Z.go.has _ hl).1
  have hlen := strs_len hw
  refine call_set_by (s := sA s h tk) (T := .type "list") (isi_list_set e rfl) ((Looks.ld e).andThen .now) (by decide) fun led E' => ?_
  have en := Heap.get?_push_size (o := newSetObj led) h rfl
  have Z₁ : St T h₀ B O env A.in1.in1 m D ((h.objs.size, newSetObj led) :: M) (h.push (newSetObj led)) :=
    (Z.moreM (.push _) en (by show Value.type _ ≠ Value.type _; decide) (fresh_size h)).around ((Z.go.fs.mono (.push _ (S := []))).in1.in1)
  refine iterL (s := s) (tk := tk) Z₁ hl fun it h₂ tk₂ L hM _ I _ _ Z₂ => ?_
  have Z₃ := Z₂.around (A' := A.in1.in1.in1) Z₂.go.fs.in1
  refine setLoop (fun i => ws.getD i Str.empty) (fun i v hv => ?_) (by rw [hlen]; show _ < 4096; omega) ((hd.in1.in1.in1).le (by decide)) I (fun h' tk' so' c hso hcn Z₄ => ?_) (vs.length - 0) 0 0 h₂ tk₂ L _ rfl (Nat.zero_le _) (Nat.le_refl _) hM (setObjOf_fresh (knd := strKind prog w) led) Z₃
  · obtain ⟨x, t, hx, rfl⟩ := strs_get hw hv
    refine ⟨t, ?_⟩
    rw [List.getD_eq_getElem?_getD, hx]; rfl
  · refine ⟨rfl, ⟨_, (Z₄.mu _ (.head _)).1, ?_⟩, ?_⟩
    · obtain ⟨es, ep, tb, rfl⟩ := (setObj_nf hso).2
      rfl
    · have Z₅ := (Z₄.settle (L := [(h.objs.size, so')]) (M := M)).around (A' := A) ⟨Z₄.go.fs.hd, Z₄.go.fs.fr⟩
      refine hQ _ so' c h' tk' ?_ ?_ Z₅
      · have e2 : upTo (fun i => ws.getD i Str.empty) vs.length = fun x => decide (x ∈ ws) := by
          funext x
          unfold upTo
          have : (List.range vs.length).map (fun i => ws.getD i Str.empty) = ws := by
            rw [hlen]
            refine List.ext_getElem (by simp) fun i h1 h2 => ?_
            simp at h1
            simp [h1]
          rw [this]
          rw [Bool.eq_iff_iff]
          simp
        rw [← e2]; exact hso
      · show c < 4096
        omega
end
end Mine
end
section
namespace Mine
noncomputable def without (h : Heap) (S : List Addr) : Heap := ⟨h.objs.mapIdx fun i o => if i ∈ S then { cls := .none, data := .freed } else o, h.life⟩
theorem without_get (h : Heap) (S : List Addr) (b : Addr) : (without h S).get? b = if b ∈ S then none else h.get? b := by
  unfold without Heap.get?
  dsimp only
  rw [Array.getElem?_mapIdx]
  cases q : h.objs[b]? with
  | none => split <;> simp
  | some o =>
    simp only [Option.map_some]
    by_cases hb : b ∈ S
    · simp [hb]
    · simp [hb]

section
variable {prog : Program} {w : World} {K : Frag} {T h₀ h h' : Heap} {O : List Addr} {env : Env} {A A' : Around} {m : Str → Option Value} {B D D' M M' L L' : Led} {s : Shared} {tk : Nat} {E : Value → Shared → Prop}
/-- a call of a def that may turn the objects of M: its body in a scope of its own -/
theorem codeFnM {R : Result → Shared → Prop} {fd : FuncData} {f : Addr} {fo : Obj} {args : Args} {binds : List (Str × Value)} {body : List Stmt} {cm : Str → Option Value}
    (C : Cx K T) (go : Go T A D h) (kT0 : ∀ b o, T.get? b = some o → h₀.get? b = some o) (kp : Kp T h₀ h) (hgr : ∀ p ∈ D, p ∈ B ∨ h₀.get? p.1 = none) (mu : Has h M) (muNew : ∀ p ∈ M, h₀.get? p.1 = none) (ndM : (M.map (·.1)).Nodup) (offDM : ∀ p ∈ D, ∀ q ∈ M, p.1 ≠ q.1)
    (hroom : A.depth < recursionLimit)
    (ho : h.get? f = some fo) (hd : fo.data = .func fd) (hbody : fd.body = .stmts body) (hcd : h.CodeRec fd.code fd.qualname)
    (hbind : BindsTo (sA s h tk) fd args binds)
    (hcl : ∀ x c, (x, c) ∈ fd.closure → (∃ o, h.get? c = some o ∧ o.data = .cell (cm x)) ∧ ∀ q ∈ M, c ≠ q.1) (hnd : (fd.closure.map (·.2)).Nodup)
    (hB : ∀ h' tk' E', St T h₀ B (ownOf h.objs.size (cellsFrom (h.objs.size + 1) fd.scope.names fd.closure)) (fnEnv fd h.objs.size f) (A.deeper (fnEnv fd h.objs.size f)) (bindAll binds (newM fd.closure cm)) D M h' →
      wpAny (model prog w) (A.deeper (fnEnv fd h.objs.size f)) (execs body (fnEnv fd h.objs.size f)) (fun fl s' => R (.ok (.ret (retOf fl))) s') E' (sA s h' tk'))
    (hk : fd.scope.kind = .function) (hco : fd.scope.isCoroutine = false) (hgen : fd.scope.isGenerator = false)
    (hnames : nodupS ((cellsFrom 0 fd.scope.names fd.closure).map (·.1)) = true)
    (hlook : looksOk fd.scope.names (cellsFrom (h.objs.size + 1) fd.scope.names fd.closure) = true) (hcll : (fd.closure.all fun p => !(fd.scope.names.lookup p.1 == some .local)) = true)
    (hbs : ∀ x ∈ binds, fd.scope.names.lookup x.1 = some .local ∨ (fd.scope.names.lookup x.1 = some .cell ∧ fd.closure.lookup x.1 = none)) :
    codeAny (model prog w) A (.call (.ref f) args) R (sA s h tk) := by
  refine codeAny_call_function hroom ho hd hco hgen hbody hcd (hbind _ _ _ _ ?_)
  refine newScope (rs := fd.scope) (h₀ := h₀) (M := M) (A := A.in1) ⟨go.kT, go.fs.in1, go.has⟩ kT0 kp hgr mu muNew ndM offDM hcl hnd (fun h' tk' Z frm => ?_) hk hnames hlook hcll (.inr ⟨rfl, hbs⟩)
  have Z1 : St T h₀ B (ownOf h.objs.size (cellsFrom (h.objs.size + 1) fd.scope.names fd.closure)) (fnEnv fd h.objs.size f) A.in1 (bindAll binds (newM fd.closure cm)) D M h' := Z
  refine ⟨C.noLimit Z1.go.kT, codeAny_func (hB h' tk' _ (Z1.around ?_))⟩
  have f0 : Fs T A h' := ⟨Z1.go.fs.hd, Z1.go.fs.fr⟩
  refine f0.deeper (L := h.objs.size) (by show fd.scope.kind ≠ .module; rw [hk]; decide) rfl (Z1.T_own (.head _)) (frm rfl)

/-- the same with no closure, in terms of a state -/
theorem codeFnM0 {env₀ : Env} {A₀ : Around} {O₀ : List Addr} {m₀ : Str → Option Value} {R : Result → Shared → Prop} {fd : FuncData} {f : Addr} {fo : Obj} {args : Args} {binds : List (Str × Value)} {body : List Stmt}
    (C : Cx K T) (Y : St T h₀ B O₀ env₀ A₀ m₀ D M h) (fs : Fs T A h) (hroom : A.depth < recursionLimit)
    (ho : K.lookup f = some fo) (hd : fo.data = .func fd) (hbody : fd.body = .stmts body) (hcd : codeIn K fd.code fd.qualname = true)
    (hbind : BindsTo (sA s h tk) fd args binds) (hcl : fd.closure = [])
    (hk : fd.scope.kind = .function) (hco : fd.scope.isCoroutine = false) (hgen : fd.scope.isGenerator = false)
    (hnames : nodupS ((cellsFrom 0 fd.scope.names []).map (·.1)) = true)
    (hlook : looksOk fd.scope.names (cellsFrom (h.objs.size + 1) fd.scope.names []) = true)
    (hbs : (binds.all fun x => fd.scope.names.lookup x.1 == some .local || fd.scope.names.lookup x.1 == some .cell) = true)
    (hB : ∀ L O h' tk' E', L = h.objs.size → O = ownOf L (cellsFrom (L + 1) fd.scope.names []) → St T h₀ B O (newEnv fd.scope L fd.globals (cellsFrom (L + 1) fd.scope.names []) (fd.qualname ++ ".<locals>.") (some f) fd.code none fd.builtins) (A.deeper (newEnv fd.scope L fd.globals (cellsFrom (L + 1) fd.scope.names []) (fd.qualname ++ ".<locals>.") (some f) fd.code none fd.builtins)) (bindAll binds fun _ => none) D M h' →
      wpAny (model prog w) (A.deeper (newEnv fd.scope L fd.globals (cellsFrom (L + 1) fd.scope.names []) (fd.qualname ++ ".<locals>.") (some f) fd.code none fd.builtins)) (execs body (newEnv fd.scope L fd.globals (cellsFrom (L + 1) fd.scope.names []) (fd.qualname ++ ".<locals>.") (some f) fd.code none fd.builtins)) (fun fl s' => R (.ok (.ret (retOf fl))) s') E' (sA s h' tk')) :
    codeAny (model prog w) A (.call (.ref f) args) R (sA s h tk) := by
  refine codeFnM (h₀ := h₀) (B := B) (D := D) (M := M) (cm := fun _ => none) C ⟨Y.go.kT, fs, Y.go.has⟩ Y.kT0 Y.kp Y.gr Y.mu Y.muNew Y.ndM (fun p hp => (Y.offD p hp).2) hroom (C.inn Y.go.kT _ _ ho) hd hbody (codeRec_of (C.inn Y.go.kT) hcd) hbind (by rw [hcl]; intro _ _ q; cases q) (by rw [hcl]; exact List.nodup_nil) (fun h' tk' E' Z => ?_) hk hco hgen (by rw [hcl]; exact hnames) (by rw [hcl]; exact hlook) (by rw [hcl]; rfl) fun x hx => ?_
  · have e : (newM fd.closure fun _ => none) = fun _ => none := by rw [hcl]; rfl
    rw [e] at Z
    have := hB h.objs.size _ h' tk' E' rfl rfl
    rw [← hcl] at this
    exact this Z
  · have := List.all_eq_true.mp hbs x hx
    rw [hcl]
    simpa using this

/-- an exception leaves the frame env -/
noncomputable abbrev EL (prog : Program) (w : World) (A : Around) (env : Env) (R : Result → Shared → Prop) : Value → Shared → Prop := fun e s' => wpAny (model prog w) (A.deeper env) (leaving env e) (fun _ s'' => R (.error e) s'') (fun e' s'' => R (.error e') s'') s'
/-- a call of a def that may turn the objects of M: its body in a scope of its own -/
theorem codeFnME {R : Result → Shared → Prop} {fd : FuncData} {f : Addr} {fo : Obj} {args : Args} {binds : List (Str × Value)} {body : List Stmt} {cm : Str → Option Value}
    (C : Cx K T) (go : Go T A D h) (kT0 : ∀ b o, T.get? b = some o → h₀.get? b = some o) (kp : Kp T h₀ h) (hgr : ∀ p ∈ D, p ∈ B ∨ h₀.get? p.1 = none) (mu : Has h M) (muNew : ∀ p ∈ M, h₀.get? p.1 = none) (ndM : (M.map (·.1)).Nodup) (offDM : ∀ p ∈ D, ∀ q ∈ M, p.1 ≠ q.1)
    (hroom : A.depth < recursionLimit)
    (ho : h.get? f = some fo) (hd : fo.data = .func fd) (hbody : fd.body = .stmts body) (hcd : h.CodeRec fd.code fd.qualname)
    (hbind : BindsTo (sA s h tk) fd args binds)
    (hcl : ∀ x c, (x, c) ∈ fd.closure → (∃ o, h.get? c = some o ∧ o.data = .cell (cm x)) ∧ ∀ q ∈ M, c ≠ q.1) (hnd : (fd.closure.map (·.2)).Nodup)
    (hB : ∀ h' tk', St T h₀ B (ownOf h.objs.size (cellsFrom (h.objs.size + 1) fd.scope.names fd.closure)) (fnEnv fd h.objs.size f) (A.deeper (fnEnv fd h.objs.size f)) (bindAll binds (newM fd.closure cm)) D M h' →
      wpAny (model prog w) (A.deeper (fnEnv fd h.objs.size f)) (execs body (fnEnv fd h.objs.size f)) (fun fl s' => R (.ok (.ret (retOf fl))) s') (EL prog w A (fnEnv fd h.objs.size f) R) (sA s h' tk'))
    (hk : fd.scope.kind = .function) (hco : fd.scope.isCoroutine = false) (hgen : fd.scope.isGenerator = false)
    (hnames : nodupS ((cellsFrom 0 fd.scope.names fd.closure).map (·.1)) = true)
    (hlook : looksOk fd.scope.names (cellsFrom (h.objs.size + 1) fd.scope.names fd.closure) = true) (hcll : (fd.closure.all fun p => !(fd.scope.names.lookup p.1 == some .local)) = true)
    (hbs : ∀ x ∈ binds, fd.scope.names.lookup x.1 = some .local ∨ (fd.scope.names.lookup x.1 = some .cell ∧ fd.closure.lookup x.1 = none)) :
    codeAny (model prog w) A (.call (.ref f) args) R (sA s h tk) := by
  refine codeAny_call_function hroom ho hd hco hgen hbody hcd (hbind _ _ _ _ ?_)
  refine newScope (rs := fd.scope) (h₀ := h₀) (M := M) (A := A.in1) ⟨go.kT, go.fs.in1, go.has⟩ kT0 kp hgr mu muNew ndM offDM hcl hnd (fun h' tk' Z frm => ?_) hk hnames hlook hcll (.inr ⟨rfl, hbs⟩)
  have Z1 : St T h₀ B (ownOf h.objs.size (cellsFrom (h.objs.size + 1) fd.scope.names fd.closure)) (fnEnv fd h.objs.size f) A.in1 (bindAll binds (newM fd.closure cm)) D M h' := Z
  refine ⟨C.noLimit Z1.go.kT, codeAny_func (hB h' tk' (Z1.around ?_))⟩
  have f0 : Fs T A h' := ⟨Z1.go.fs.hd, Z1.go.fs.fr⟩
  refine f0.deeper (L := h.objs.size) (by show fd.scope.kind ≠ .module; rw [hk]; decide) rfl (Z1.T_own (.head _)) (frm rfl)

/-- the same, of a state's parts -/
theorem codeFnEH {R : Result → Shared → Prop} {fd : FuncData} {f : Addr} {fo : Obj} {args : Args} {binds : List (Str × Value)} {body : List Stmt}
    (C : Cx K T) (go : Go T A D h) (kT0 : ∀ b o, T.get? b = some o → h₀.get? b = some o) (kp : Kp T h₀ h) (hgr : ∀ p ∈ D, p ∈ B ∨ h₀.get? p.1 = none) (mu : Has h M) (muNew : ∀ p ∈ M, h₀.get? p.1 = none) (ndM : (M.map (·.1)).Nodup) (offDM : ∀ p ∈ D, ∀ q ∈ M, p.1 ≠ q.1) (hroom : A.depth < recursionLimit)
    (ho : K.lookup f = some fo) (hd : fo.data = .func fd) (hbody : fd.body = .stmts body) (hcd : codeIn K fd.code fd.qualname = true)
    (hbind : BindsTo (sA s h tk) fd args binds) (hcl : fd.closure = [])
    (hk : fd.scope.kind = .function) (hco : fd.scope.isCoroutine = false) (hgen : fd.scope.isGenerator = false)
    (hnames : nodupS ((cellsFrom 0 fd.scope.names []).map (·.1)) = true)
    (hlook : looksOk fd.scope.names (cellsFrom (h.objs.size + 1) fd.scope.names []) = true)
    (hbs : (binds.all fun x => fd.scope.names.lookup x.1 == some .local || fd.scope.names.lookup x.1 == some .cell) = true)
    (hB : ∀ L O h' tk', L = h.objs.size → O = ownOf L (cellsFrom (L + 1) fd.scope.names []) → St T h₀ B O (newEnv fd.scope L fd.globals (cellsFrom (L + 1) fd.scope.names []) (fd.qualname ++ ".<locals>.") (some f) fd.code none fd.builtins) (A.deeper (newEnv fd.scope L fd.globals (cellsFrom (L + 1) fd.scope.names []) (fd.qualname ++ ".<locals>.") (some f) fd.code none fd.builtins)) (bindAll binds fun _ => none) D M h' →
      wpAny (model prog w) (A.deeper (newEnv fd.scope L fd.globals (cellsFrom (L + 1) fd.scope.names []) (fd.qualname ++ ".<locals>.") (some f) fd.code none fd.builtins)) (execs body (newEnv fd.scope L fd.globals (cellsFrom (L + 1) fd.scope.names []) (fd.qualname ++ ".<locals>.") (some f) fd.code none fd.builtins)) (fun fl s' => R (.ok (.ret (retOf fl))) s') (EL prog w A (newEnv fd.scope L fd.globals (cellsFrom (L + 1) fd.scope.names []) (fd.qualname ++ ".<locals>.") (some f) fd.code none fd.builtins) R) (sA s h' tk')) :
    codeAny (model prog w) A (.call (.ref f) args) R (sA s h tk) := by
  refine codeFnME (h₀ := h₀) (B := B) (D := D) (M := M) (cm := fun _ => none) C go kT0 kp hgr mu muNew ndM offDM hroom (C.inn go.kT _ _ ho) hd hbody (codeRec_of (C.inn go.kT) hcd) hbind (by rw [hcl]; intro _ _ q; cases q) (by rw [hcl]; exact List.nodup_nil) (fun h' tk' Z => ?_) hk hco hgen (by rw [hcl]; exact hnames) (by rw [hcl]; exact hlook) (by rw [hcl]; rfl) fun x hx => ?_
  · have e : (newM fd.closure fun _ => none) = fun _ => none := by rw [hcl]; rfl
    rw [e] at Z
    have := hB h.objs.size _ h' tk' rfl rfl
    rw [← hcl] at this
    exact this Z
  · have := List.all_eq_true.mp hbs x hx
    rw [hcl]
    simpa using this

/-- the mutable objects are lent -/
theorem St.lend (Z : St T h₀ B O env A m D M h) : St T (without h (M.map (·.1))) D [] env A m D M h where
  go := Z.go
  kT0 := fun b o e => by
    rw [without_get, if_neg (fun q => ?_)]
    · exact Z.go.kT b o e
    · obtain ⟨p, hp, e'⟩ := List.mem_map.mp q
      rw [← e', Z.T_mu hp] at e; cases e
  kp := ⟨fun b o _ e => by
      rw [without_get] at e
      split at e
      · cases e
      · exact ⟨o.slots, e, fun _ => rfl⟩, fun b o e n => by
      rw [without_get] at e
      split at e
      · cases e
      · exact ⟨o, e, n⟩⟩
  vr := Z.vr
  own := fun _ q => nomatch q
  offL := Z.offL
  mu := Z.mu
  muNew := fun p hp => by rw [without_get, if_pos (List.mem_map_of_mem hp)]
  gr := fun _ q => .inl q
  offD := fun p hp => ⟨fun q => (nomatch q), (Z.offD p hp).2⟩
  offM := fun _ _ q => nomatch q
  ndM := Z.ndM
  offC := Z.offC
  sep := Z.sep
/-- and come back -/
theorem St.retM {O' : List Addr} {env' : Env} {A' : Around} {m' : Str → Option Value} (Z : St T h₀ B O env A m D M h) (Y : St T (without h (M.map (·.1))) D O' env' A' m' D' M' h') (hM : M'.map (·.1) = M.map (·.1)) :
    St T h₀ B O env A m (D' ++ D) M' h' := by
  have k : KpX T (M.map (·.1)) h h' := ⟨fun b o hb e => Y.kp.keep b o (by simp) (by rw [without_get, if_neg hb]; exact e), fun b o e n => by
    by_cases hb : b ∈ M.map (·.1)
    · obtain ⟨p, hp, rfl⟩ := List.mem_map.mp hb
      have hc := (Z.mu p hp).2
      have := (Z.mu p hp).1
      rw [e] at this
      cases this
      exact absurd n (notFrm_cls hc)
    · exact Y.kp.nf b o (by rw [without_get, if_neg hb]; exact e) n⟩
  have Z' := Z.turnM k (fun _ q => q) (fun a ha => hM ▸ ha) (hM ▸ Z.ndM) Y.mu
  have nw : ∀ p ∈ D', p ∈ D ∨ h.get? p.1 = none := fun p hp => by
    rcases Y.gr p hp with q | q
    · exact .inl q
    · rw [without_get] at q
      split at q
      · rename_i hb
        exfalso
        rw [← hM] at hb
        obtain ⟨r, hr, e⟩ := List.mem_map.mp hb
        exact (Y.offD p hp).2 r hr e.symm
      · exact .inr q
  exact { Z' with
    go := ⟨Z'.go.kT, Z'.go.fs, Y.go.has.append Z'.go.has⟩
    gr := fun p hp => (List.mem_append.mp hp).elim (fun q => (nw p q).elim (Z.gr p) fun q => .inr (Kp.back Z.kp q)) (Z.gr p)
    offD := fun p hp => (List.mem_append.mp hp).elim (fun q => ⟨(nw p q).elim (fun r => (Z'.offD p r).1) fun r ho => (by obtain ⟨_, o, e⟩ := Z.own _ ho; rw [r] at e; cases e), (Y.offD p q).2⟩) (Z'.offD p) }
/-- back from a call that left new mutable objects -/
theorem St.retL {O' : List Addr} {env' : Env} {A' : Around} {m' : Str → Option Value} (Z : St T h₀ B O env A m D M h) (Y : St T h D O' env' A' m' D' L h') : St T h₀ B O env A m (D' ++ D) (L ++ M) h' :=
  have Z' := Z.moreN Y.kp Y.go.has Y.gr
  have nL : ∀ {b : Addr} {o : Obj}, h.get? b = some o → ∀ q ∈ L, b ≠ q.1 := fun e q hq e' => by have := Y.muNew q hq; rw [← e', e] at this; cases this
  { Z' with
    offL := ⟨Z'.offL.1, fun q hq => by
      obtain ⟨⟨o, e⟩, r⟩ := Z.offL
      exact (List.mem_append.mp hq).elim (nL e q) (r q)⟩
    mu := Y.mu.append Z'.mu
    muNew := fun p hp => (List.mem_append.mp hp).elim (fun q => Kp.back Z.kp (Y.muNew p q)) (Z.muNew p)
    offD := fun p hp => ⟨(Z'.offD p hp).1, fun q hq => (List.mem_append.mp hq).elim (fun hq => (List.mem_append.mp hp).elim (fun hp => (Y.offD p hp).2 q hq) fun hp => nL (Z.go.has p hp).1 q hq) ((Z'.offD p hp).2 q)⟩
    offM := fun q hq => (List.mem_append.mp hq).elim (fun hq ho => by obtain ⟨_, o, e⟩ := Z.own _ ho; exact nL e q hq rfl) (Z.offM q)
    ndM := by
      rw [List.map_append]
      refine List.nodup_append.mpr ⟨Y.ndM, Z.ndM, fun a ha b hb e => ?_⟩
      obtain ⟨p, hp, rfl⟩ := List.mem_map.mp ha
      obtain ⟨q, hq, rfl⟩ := List.mem_map.mp hb
      exact nL (Z.mu q hq).1 p hp e.symm
    offC := fun c hc => ⟨(Z'.offC c hc).1, fun q hq => by
      obtain ⟨⟨o, e⟩, r⟩ := Z.offC c hc
      exact (List.mem_append.mp hq).elim (nL e q) (r q)⟩ }
theorem Fs.under (f : Fs T A h) {id : String} {args : Args} : Fs T (A.under (.builtin id args)) h := ⟨f.hd, f.fr⟩
theorem Room.under {n : Nat} (hr : Room (n + 2) A) (args : Args) : Room n (A.under (.builtin "type.__call__" args)) := by
  have h0 : (Code.builtin "type.__call__" args).frames = 0 := rfl
  have hg : (Code.builtin "type.__call__" args).isGuard = false := by show guardIds.contains "type.__call__" = false; decide
  have hc : (Code.builtin "type.__call__" args).isCaller = false := rfl
  have hw : (Code.builtin "type.__call__" args).weight ≤ 1 := by
    unfold Code.weight
    rw [h0, hg, hc]
    split <;> simp
  have hu : (Code.builtin "type.__call__" args).cUnits = 1 := by show 1 + 3 * (Code.builtin "type.__call__" args).frames = 1; rw [h0]
  refine ⟨?_, ?_⟩
  · have := hr.1
    show A.depth + (Code.builtin "type.__call__" args).weight + n < _
    omega
  · have := hr.2
    show A.units + (Code.builtin "type.__call__" args).cUnits + 10 * n < _
    omega
end
end Mine
end
section
open PySem PySem.W PyProof.Rows PySem.Calls Builtin Builtin.ObjectAttr Builtin.Getset_descriptor
namespace Mine
section
variable {prog : Program} {w : World} {A : Around} {s : Shared} {K : Frag} {p x C : Addr} {R : Result → Shared → Prop}
theorem slotSet {ox : Obj} {od : Option Obj} {v : Value} {i : Nat} (X : K.In s.heap) (I : InstAt s.heap x ox C od) (hp : slotIn K p C = some i) (hi : i < 1000)
    (h : ∀ h', Heap.SameBut x s.heap h' → (∀ ox', { ox with slots := (ox.slots ++ Array.replicate (i + 1 - ox.slots.size) none).setIfInBounds i (some v) } = ox' → ox'.isFreed = false → h'.get? x = some ox') → R (.ok (.ret .none)) { s with heap := h' }) :
    codeAny (model prog w) A (.call (.builtin "member_descriptor.__set__") ⟨[.ref p, .ref x, v], []⟩) R s := by
  obtain ⟨n, tn, owner, behind, tb, d, sl, cd, ho, hc, hm, hb, rfl⟩ := slot_of X hp
  obtain ⟨hh, g, dr, t, os⟩ := s
  have hx := I.at_
  have t1 := I.type (M := model prog w)
  have t2 := looks_mroIn (M := model prog w) X hm
  have t3 : Looks (model prog w) hh (Slots.slotNamesOf (.ref C)) cd.slotNames := (looks_clsIn X hc).andThen .now
  dsimp only at ho hx t1 t2 h
  have g0 := looks_field (M := model prog w) ho 0 (v := .str n tn) rfl
  have g1 := looks_field (M := model prog w) ho 1 (v := owner) rfl
  have g3 := looks_field (M := model prog w) ho 3 (v := .builtin "proto.slot#set") rfl
  have g4 := looks_field (M := model prog w) ho 4 (v := .int behind tb) rfl
  refine codeAny_call_builtin KF.slot_mset.plain KF.entry_mset (KF.slot_mset.check _ _ _ _ _ _ _ _ ⟨_, ho, rfl⟩ (KF.args_mset _ _ _) ?_)
  unfold Builtin.«member_descriptor.__set__» descrSet descrStoreThrough descrCheckInstance descrNameAndClass isInstance
  have g5 : Looks (model prog w) hh (descrItself (.ref p)) [.ref p] := ((Looks.ld (part := none) ho).andThen .now).andThen (Looks.of_pure (by kernel_rfl))
  repeat lk
  refine ⟨Code.quiet_builtin _ (by decide +kernel), codeAny_builtin KF.entry_slotset ?_⟩
  unfold Builtin.«proto.slot#set» Slots.target
  repeat lk
  rw [if_neg hb]
  refine wpAny_pure (wpAny_bind ?_)
  unfold setSlotAt
  dsimp only
  rw [if_neg (by rw [sizeLine_eq]; omega)]
  refine wpAny_updatePart hx (wpAny_pure (h _ (Heap.SameBut.update ..) fun ox' e hf => ?_))
  exact e ▸ Heap.get?_update_self _ hx (e ▸ hf)
end
section
variable {prog : Program} {w : World} {K : Frag} {T h₀ h h' : Heap} {O : List Addr} {env : Env} {A A' : Around} {m : Str → Option Value} {B D D' M M' L L' : Led} {s : Shared} {tk : Nat} {E : Value → Shared → Prop}
noncomputable abbrev instOf (C dx : Addr) (sl : Array (Option Value)) : Obj := { cls := .ref C, dict := some dx, data := .plain, slots := sl }
theorem instAt {x C dx : Addr} {sl : Array (Option Value)} {od : Obj} (e : h.get? x = some (instOf C dx sl)) (e2 : h.get? dx = some od) : InstAt h x (instOf C dx sl) C (some od) := ⟨e, rfl, rfl, e2⟩

/-- a slot of an own object is set -/
theorem stSlot {x C dx p : Addr} {name : Str} {i : Nat} {sl : Array (Option Value)} {v : Value} {od : Obj} {Q : Unit → Shared → Prop} (C0 : Cx K T) (Z : St T h₀ B O env A m D (L ++ (x, instOf C dx sl) :: M) h) (hdx : (dx, od) ∈ D)
    (hs : findIn K (.ref C) "__setattr__" = some (some (.builtin "object.__setattr__"))) (hp : plainOver K C = true) (ht : takerIn K C name = some (some (.ref p))) (hT : typeIn K (.ref p) = some (.type "member_descriptor")) (hsl : slotIn K p C = some i) (hi : i < 1000)
    (hQ : ∀ h' tk', St T h₀ B O env A m D (L ++ (x, instOf C dx ((sl ++ Array.replicate (i + 1 - sl.size) none).setIfInBounds i (some v))) :: M) h' → Q () (sA s h' tk')) : wpAny (model prog w) A' (setAttr (.ref x) name v) Q E (sA s h tk) := by
  have hx := (Z.mu _ (List.mem_append_right _ (.head _))).1
  have hd := (Z.go.has _ hdx).1
  have X := C0.inn Z.go.kT
  have I := instAt hx hd
  refine set_plain (s := sA s h tk) X I hs (osa_descr (s := sA s h (tk + 1)) KF.slot_mset X I hp ht hT (slotSet (s := sA s h (tk + 1)) X I hsl hi fun h' hsb hx' => ?_))
  have e := hx' _ rfl rfl
  exact hQ h' _ (Z.turn1 hsb e (by show Value.ref _ ≠ Value.type _; simp) (fun vs q => by cases q))

theorem attrC {S : Addr} {so : Obj} {P : Str → Bool} {n : Nat} {expr : Bool} {Q : Value → Shared → Prop} (Z : St T h₀ B O env A m D M h) (hm : (S, so) ∈ D) (hso : so.SetObjOf (strKind prog w) P n)
    (hQ : ∀ q h' tk', St T h₀ B O env A m ((q, boundObj S) :: D) M h' → Q (.ref q) (sA s h' tk')) : wpAny (model prog w) A' (getAttr (.ref S) "__contains__" expr) Q E (sA s h tk) := by
  obtain ⟨es, ep, tb, rfl⟩ := (setObj_nf hso).2
  refine contains_attr (Z.go.has _ hm).1 (hQ h.objs.size _ _ (Z.more (D' := [(h.objs.size, boundObj S)]) (.push _) (Has.cons (Heap.get?_push_size _ rfl) (by show Value.type _ ≠ Value.type _; decide) .nil) (fun p hp => by rw [List.mem_singleton.mp hp]; exact fresh_size h)))
theorem callC {S q : Addr} {so : Obj} {P : Str → Bool} {n : Nat} {x : Str} {t : Tok} {X : Led} {Q : Value → Shared → Prop} (hX : Has h X) (hm : (S, so) ∈ X) (hq : (q, boundObj S) ∈ X) (hso : so.SetObjOf (strKind prog w) P n) (hn : n < scanBound)
    (hQ : ∀ tk', Q (.bool (P x)) (sA s h tk')) : wpAny (model prog w) A (call (.ref q) [.str x t]) Q E (sA s h tk) := by
  have hS := hso.setOf (hX _ hm).1 hn
  obtain ⟨es, ep, tb, e⟩ := (setObj_nf hso).2
  have hx := (hX _ hm).1
  rw [e] at hx
  exact wpAny_call (contains_at (sh := sA s h tk) (hX _ hq).1 hx (contains_run hS (hQ _)))
end
end Mine
end
section
namespace Mine
section
variable {prog : Program} {w : World} {K : Frag} {T h₀ h h' : Heap} {O : List Addr} {env : Env} {A A' : Around} {m : Str → Option Value} {B D D' M M' L L' : Led} {s : Shared} {tk : Nat} {E : Value → Shared → Prop}
/-- an exception leaves a while and the frame around it -/
theorem outOfWhile {outer : List Env} {Lf e : Addr} {oe : Obj} {vs : Array Value} {R E₂ E₃ : Value → Shared → Prop} (hfr : A.frames = some (env :: outer)) (fs : Fs T A h) (hf : env.frame = some Lf)
    (he : h.get? e = some oe) (hd : oe.data = .fields vs) (h1 : vs[1]? = some .none)
    (hQ : ∀ h' tk', KpX T [e] h h' → (∃ o', h'.get? e = some o' ∧ o'.cls = oe.cls) → R (.ref e) (sA s h' tk')) :
    notedBy (model prog w) A env (fun x s' => cameBackBy (model prog w) A env (fun x s' => wpAny (model prog w) A (leaving env x) (fun _ s'' => R x s'') E₂ s') x s') (.ref e) (sA s h tk) := by
  obtain ⟨l, el, hl, hfrm⟩ := fs.fr
  rw [hfr] at el
  cases el
  have hsz : 1 < vs.size := (Array.getElem?_eq_some_iff.mp h1).1
  have hene : e ∉ (env :: outer).filterMap (·.frame) := fun hm => by
    obtain ⟨o, ho, hn⟩ := hfrm _ hm
    rw [he] at ho; cases ho; exact notFrm_fields hd hn
  unfold notedBy noteFrame
  simp only [hf]
  refine wpAny_bind (wpAny_field (s := sA s h tk) he hd h1 ?_)
  rw [if_neg (by decide)]
  refine wpAny_bind (wpAny_frameOf_fun (s := sA s h tk) hfr hl hf fun h₁ hs₁ => ?_)
  refine wpAny_bind (wpAny_entryPlaceOf fun pl hpl => ?_)
  unfold EntryCells.newEntry newFields
  refine wpAny_bind (wpAny_newObj_type ?_ (hpl.sizeOk5 _ _ _ _ _))
  have he₁ : h₁.get? e = some oe := (hs₁.2.1 e hene).trans he
  generalize hto : ({ cls := .type "traceback", dict := none, data := .fields ([Value.none, .ref Lf, .none, rawInt Lf, .none] ++ (if pl.isEmpty then List.replicate 6 Value.none else pl)).toArray } : Obj) = to
  have hto3 : ∃ ts : Array Value, to.data = .fields ts ∧ ts[3]? = some (rawInt Lf) ∧ 3 < ts.size := by
    subst hto
    refine ⟨_, rfl, by simp, by simp only [List.size_toArray, List.length_append, List.length_cons, List.length_nil] <;> omega⟩
  obtain ⟨ts, hdt, ht3, hts⟩ := hto3
  have he₂ := Heap.get?_push_of_some (h := h₁) to he₁
  refine wpAny_setField he₂ hd hsz ?_
  have hTe : h₁.objs.size ≠ e := Nat.ne_of_gt (Heap.lt_size he₁)
  have hd₃ := Obj.data_mapFields hd (·.setIfInBounds 1 (Value.ref h₁.objs.size))
  have he₃ := Heap.get?_update_self (Obj.mapFields (·.setIfInBounds 1 (Value.ref h₁.objs.size))) he₂ (Obj.isFreed_of_fields hd₃)
  have hT₃ := (Heap.get?_update_other (h₁.push to) (Obj.mapFields (·.setIfInBounds 1 (Value.ref h₁.objs.size))) (Ne.symm hTe)).trans (Heap.get?_push_size h₁ (Obj.isFreed_of_fields hdt))
  unfold cameBackBy
  refine wpAny_bind (wpAny_field he₃ hd₃ (x := .ref h₁.objs.size) (by simp [hsz]) ?_)
  rw [if_neg (show ¬ ((Value.ref h₁.objs.size == Value.none) = true) from by simp)]
  rw [hf]
  unfold setFlight
  refine wpAny_bind (wpAny_field he₃ hd₃ (x := .ref h₁.objs.size) (by simp [hsz]) ?_)
  rw [if_pos (show (Value.ref h₁.objs.size != Value.none) = true from by simp)]
  refine wpAny_setField hT₃ hdt hts ?_
  have hd₄ := Obj.data_mapFields hdt (·.setIfInBounds 3 (rawInt Lf))
  have hT₄ := Heap.get?_update_self (Obj.mapFields (·.setIfInBounds 3 (rawInt Lf))) hT₃ (Obj.isFreed_of_fields hd₄)
  have he₄ := (Heap.get?_update_other ((h₁.push to).update e (Obj.mapFields (·.setIfInBounds 1 (Value.ref h₁.objs.size)))) (Obj.mapFields (·.setIfInBounds 3 (rawInt Lf))) hTe).trans he₃
  unfold leaving noteFrame
  simp only [hf]
  refine wpAny_bind (wpAny_bind (wpAny_field he₄ hd₃ (x := .ref h₁.objs.size) (by simp [hsz]) ?_))
  rw [if_pos (show (Value.ref h₁.objs.size != Value.none) = true from by simp)]
  refine wpAny_bind (wpAny_field hT₄ hd₄ (x := rawInt Lf) (by simp [hts]) ?_)
  rw [if_pos (by simp [rawInt])]
  refine wpAny_pure ?_
  unfold setFlight
  refine wpAny_bind (wpAny_field he₄ hd₃ (x := .ref h₁.objs.size) (by simp [hsz]) ?_)
  rw [if_pos (show (Value.ref h₁.objs.size != Value.none) = true from by simp)]
  refine wpAny_setField hT₄ hd₄ (by simpa using hts) ?_
  have keep : ∀ b o, b ≠ e → h₁.get? b = some o → ((((h₁.push to).update e (Obj.mapFields (·.setIfInBounds 1 (Value.ref h₁.objs.size)))).update h₁.objs.size (Obj.mapFields (·.setIfInBounds 3 (rawInt Lf)))).update h₁.objs.size
        (Obj.mapFields (·.setIfInBounds 3 ((none : Option Addr).elim Value.none fun f => rawInt f)))).get? b = some o := fun b o hbe hb => by
    have hbT : h₁.objs.size ≠ b := Nat.ne_of_gt (Heap.lt_size hb)
    rw [Heap.get?_update_other _ _ hbT, Heap.get?_update_other _ _ hbT, Heap.get?_update_other _ _ (Ne.symm hbe)]
    exact Heap.get?_push_of_some _ hb
  have ke : ∀ b o, b ≠ e → h.get? b = some o → ∃ sl, ((((h₁.push to).update e (Obj.mapFields (·.setIfInBounds 1 (Value.ref h₁.objs.size)))).update h₁.objs.size (Obj.mapFields (·.setIfInBounds 3 (rawInt Lf)))).update h₁.objs.size
        (Obj.mapFields (·.setIfInBounds 3 ((none : Option Addr).elim Value.none fun f => rawInt f)))).get? b = some { o with slots := sl } ∧ ((o.cls ≠ .type "frame" ∨ (T.get? b).isSome = true) → sl = o.slots) := fun b o hb eb => by
    by_cases hm : b ∈ (env :: outer).filterMap (·.frame)
    · obtain ⟨sl, e1⟩ := hs₁.2.2 b o eb
      refine ⟨sl, keep b _ hb e1, fun hc => ?_⟩
      exfalso
      obtain ⟨o2, e2, n2⟩ := hfrm b hm
      rw [eb] at e2
      cases e2
      rcases hc with hc | hc
      · exact hc n2.1
      · rw [(hl.mem hm).1] at hc; cases hc
    · exact ⟨o.slots, keep b o hb ((hs₁.2.1 b hm).trans eb), fun _ => rfl⟩
  refine hQ _ _ ⟨fun b o hb eb => ke b o (fun q => hb (by rw [q]; exact .head _)) eb, fun b o eb n => ?_⟩ ?_
  · have hb : b ≠ e := fun q => by rw [q, he] at eb; cases eb; exact notFrm_fields hd n
    obtain ⟨sl, e1, _⟩ := ke b o hb eb
    exact ⟨_, e1, n.1, n.2⟩
  · exact ⟨_, (Heap.get?_update_other _ _ hTe).trans he₄, Obj.cls_mapFields _ _⟩

/-- what a bare __next__ of an iterator does -/
structure ItrN (prog : Program) (w : World) (T : Heap) (D : Led) (it : Addr) (n : Nat) (Mi : Nat → Led → Prop) (Val : Nat → Value → Prop) : Prop where
  spec : ∀ {A : Around} {s : Shared} {h : Heap} {tk i : Nat} {L : Led} {Q : Option Value → Shared → Prop} {E : Value → Shared → Prop}, Has h L → Mi i L → (∀ v, Q (some v) (sA s h tk)) → wpAny (model prog w) A (specialOf (.ref it) "__next__") Q E (sA s h tk)
  item : ∀ {A : Around} {s : Shared} {h : Heap} {tk i : Nat} {L : Led} {Q : Option Value → Shared → Prop} {E : Value → Shared → Prop}, i < n → Go T A D h → Has h L → Mi i L → (L.map (·.1)).Nodup → (∀ p ∈ L, T.get? p.1 = none ∧ ∀ q ∈ D, q.1 ≠ p.1) →
    (∀ v h' tk' L', Mi (i + 1) L' → L'.map (·.1) = L.map (·.1) → KpX T (L.map (·.1)) h h' → Has h' L' → Val i v → Q (some v) (sA s h' tk')) → wpAny (model prog w) A (callSpecial? (.ref it) "__next__") Q E (sA s h tk)
  stop : ∀ {A : Around} {s : Shared} {h : Heap} {tk : Nat} {L : Led} {Q : Option Value → Shared → Prop} {E : Value → Shared → Prop}, Go T A D h → Has h L → Mi n L → (L.map (·.1)).Nodup → (∀ p ∈ L, T.get? p.1 = none ∧ ∀ q ∈ D, q.1 ≠ p.1) →
    (∀ e oe vs h' tk', h.get? e = none → h'.get? e = some oe → oe.cls = .type "StopIteration" → oe.data = .fields vs → vs[1]? = some .none → KpX T (L.map (·.1)) h h' → E (.ref e) (sA s h' tk')) → wpAny (model prog w) A (callSpecial? (.ref it) "__next__") Q E (sA s h tk)

theorem itrNL {it l : Addr} {vs : List Value} {k : Nat} (hl : (l, listOf vs.toArray k) ∈ D) : ItrN prog w T D it vs.length (MiL it l) (fun i v => vs[i]? = some v) where
  spec := fun {A s h tk i L Q E} hL hM hQ => by
    obtain ⟨o, rfl, hc, hd⟩ := hM
    have hit : h.IsListIter it l i := ⟨o, (hL _ (.head _)).1, hc, hd⟩
    exact wpAny_specialOf (s := sA s h tk) hit.typeIs slot_listiter_next.lookup (hQ _)
  item := fun {A s h tk i L Q E} hi g hL hM nd off hQ => by
    obtain ⟨o, rfl, hc, hd⟩ := hM
    have ho := (hL _ (.head _)).1
    have hit : h.IsListIter it l i := ⟨o, ho, hc, hd⟩
    have hol := (g.has _ hl).1
    refine wpAny_callSpecial?_slot (s := sA s h tk) (name := Str.ofString "__next__") hit.typeIs slot_listiter_next
      (wpAny_call_entry slot_listiter_next hit.typeIs entry_listiter_next ?_ (args_listiter_next _))
    show wpAny _ _ (field (.ref it) 0 >>= _) _ _ (sA s h tk)
    refine wpAny_bind (wpAny_field (s := sA s h tk) ho hd (x := .ref l) rfl ?_)
    show wpAny _ _ (if (Value.ref l == Value.none) = true then _ else _) _ _ _
    rw [if_neg (show ¬ ((Value.ref l == Value.none) = true) from Bool.false_ne_true)]
    show wpAny _ _ (field (.ref it) 1 >>= _) _ _ (sA s h tk)
    refine wpAny_bind (wpAny_field (s := sA s h tk) ho hd (x := .int i 0) rfl ?_)
    show wpAny _ _ (seqItems? (.ref l) >>= _) _ _ (sA s h tk)
    refine wpAny_bind (wpAny_seqItems (s := sA s h tk) hol rfl ?_)
    have hx : vs.toArray[i]? = some vs[i] := by simp [hi]
    simp only [Int.toNat_natCast, hx]
    refine wpAny_bind (wpAny_setField (s := sA s h tk) ho hd (by simp) (wpAny_pure ⟨vs[i], rfl, ?_⟩))
    have e' := Heap.get?_update_self (Obj.mapFields (·.setIfInBounds 1 (rawInt ((i : Int) + 1)))) ho (Obj.isFreed_of_fields (Obj.data_mapFields hd _))
    refine hQ vs[i] _ tk [(it, _)] ⟨_, rfl, (Obj.cls_mapFields ..).trans hc, by rw [Obj.data_mapFields hd]; simp [rawInt]⟩ rfl (.extBut (Heap.SameBut.update ..).extBut (.head _) ⟨o, ho, notFrm_fields hd⟩) (Has.cons e' (by rw [Obj.cls_mapFields, hc]; decide) .nil) (by simp [hi])
  stop := fun {A s h tk L Q E} g hL hM nd off hQ => by
    obtain ⟨o, rfl, hc, hd⟩ := hM
    have ho := (hL _ (.head _)).1
    have hit : h.IsListIter it l vs.length := ⟨o, ho, hc, hd⟩
    have hol := (g.has _ hl).1
    have hh := g.fs.hd
    refine wpAny_callSpecial?_slot (s := sA s h tk) (name := Str.ofString "__next__") hit.typeIs slot_listiter_next
      (wpAny_call_entry slot_listiter_next hit.typeIs entry_listiter_next ?_ (args_listiter_next _))
    show wpAny _ _ (field (.ref it) 0 >>= _) _ _ (sA s h tk)
    refine wpAny_bind (wpAny_field (s := sA s h tk) ho hd (x := .ref l) rfl ?_)
    show wpAny _ _ (if (Value.ref l == Value.none) = true then _ else _) _ _ _
    rw [if_neg (show ¬ ((Value.ref l == Value.none) = true) from Bool.false_ne_true)]
    show wpAny _ _ (field (.ref it) 1 >>= _) _ _ (sA s h tk)
    refine wpAny_bind (wpAny_field (s := sA s h tk) ho hd (x := .int vs.length 0) rfl ?_)
    show wpAny _ _ (seqItems? (.ref l) >>= _) _ _ (sA s h tk)
    refine wpAny_bind (wpAny_seqItems (s := sA s h tk) hol rfl ?_)
    have hx : vs.toArray[vs.length]? = none := by simp
    simp only [Int.toNat_natCast, hx]
    refine wpAny_bind (wpAny_rule (wpAny_bind (wpAny_setField (s := sA s h tk) ho hd (by simp) ?_)))
    show wpAny _ _ (newExc (.type "StopIteration") [] >>= _) _ _ _
    refine wpAny_bind ?_
    simp only [newExc, newTuple]
    refine wpAny_bind (wpAny_newObj_type ?_ (by size_fits))
    refine wpAny_bind (m := firstArgMember _ _) (wpAny_of_eq (a := Value.none) (by first | rfl | (simp only [firstArgMember]; rfl)) ?_)
    refine wpAny_newObj_type ?_ (by size_fits)
    simp only [raiseNew]
    refine wpAny_bind (wpAny_handled ?_)
    rw [show A.in1.handled = none from hh]
    refine wpAny_bind (wpAny_pure (wpAny_throw ?_))
    have k := (((Heap.SameBut.update h it (Obj.mapFields (·.setIfInBounds 0 Value.none))).extBut.push ({ cls := .type "tuple", dict := none, data := .seq ([] : List Value).toArray } : Obj)))
    refine hQ _ _ _ _ tk ?_ (Heap.get?_push_size _ rfl) rfl rfl (by rw [Array.getElem?_append_left (by simp)]; rfl) (.extBut (k.push _) (.head _) ⟨o, ho, notFrm_fields hd⟩)
    cases q : h.get? ((h.update it (Obj.mapFields fun x => x.setIfInBounds 0 Value.none)).push ({ cls := .type "tuple", dict := none, data := .seq ([] : List Value).toArray } : Obj)).objs.size with
    | none => rfl
    | some o' =>
      have := Heap.lt_size q
      rw [Heap.size_push, Heap.size_after_update] at this
      exact absurd this (Nat.not_lt.mpr (Nat.le_succ _))

/-- next(it) -/
theorem nextItem {it : Addr} {n i : Nat} {Mi : Nat → Led → Prop} {Val : Nat → Value → Prop} {Q : Value → Shared → Prop} (I : ItrN prog w T D it n Mi Val) (Z : St T h₀ B O env A m D (L ++ M) h) (hi : i < n) (hM : Mi i L)
    (hQ : ∀ v h' tk' L', Mi (i + 1) L' → L'.map (·.1) = L.map (·.1) → Val i v → St T h₀ B O env A m D (L' ++ M) h' → Q v (sA s h' tk')) : wpAny (model prog w) A (call (.builtin "next") [.ref it]) Q E (sA s h tk) := by
  refine call_function_entry (by decide +kernel) (by decide +kernel) kdk_entry_next (kdk_args_next _) ?_
  unfold Builtin.«next»
  refine wpAny_bind (m := someArgs "next" 1 2 _) (wpAny_of_eq (a := [Value.ref it]) (by first | rfl | kernel_rfl!) ?_)
  dsimp only
  refine wpAny_bind (I.spec Z.goL hM fun v => ?_)
  refine wpAny_ite_split (fun hab => absurd hab (by simp)) (fun _ => ?_)
  refine wpAny_bind (I.item hi ⟨Z.go.kT, ⟨Z.go.fs.hd, Z.go.fs.fr⟩, Z.go.has⟩ Z.goL hM (nd_left Z.ndM) Z.itOff fun v h' tk' L' hM' hm k hs hv => ?_)
  exact wpAny_pure ⟨_, rfl, hQ v h' tk' L' hM' hm hv (Z.turnL k hm hs)⟩
theorem nextStop {it : Addr} {n : Nat} {Mi : Nat → Led → Prop} {Val : Nat → Value → Prop} {Q : Value → Shared → Prop} (I : ItrN prog w T D it n Mi Val) (Z : St T h₀ B O env A m D (L ++ M) h) (hM : Mi n L)
    (hE : ∀ e oe vs h' tk', h.get? e = none → h'.get? e = some oe → oe.cls = .type "StopIteration" → oe.data = .fields vs → vs[1]? = some .none → KpX T (L.map (·.1)) h h' → E (.ref e) (sA s h' tk')) : wpAny (model prog w) A (call (.builtin "next") [.ref it]) Q E (sA s h tk) := by
  refine call_function_entry (by decide +kernel) (by decide +kernel) kdk_entry_next (kdk_args_next _) ?_
  unfold Builtin.«next»
  refine wpAny_bind (m := someArgs "next" 1 2 _) (wpAny_of_eq (a := [Value.ref it]) (by first | rfl | kernel_rfl!) ?_)
  dsimp only
  refine wpAny_bind (I.spec Z.goL hM fun v => ?_)
  refine wpAny_ite_split (fun hab => absurd hab (by simp)) (fun _ => ?_)
  refine wpAny_bind (I.stop ⟨Z.go.kT, ⟨Z.go.fs.hd, Z.go.fs.fr⟩, Z.go.has⟩ Z.goL hM (nd_left Z.ndM) Z.itOff fun e oe vs h' tk' e1 e2 e3 e4 e5 k => ?_)
  exact hE e oe vs h' tk' e1 e2 e3 e4 e5 k
theorem callIter {v : Value} {Q : Value → Shared → Prop} {s : Shared} (h : wpAny (model prog w) A.in1 (pyIter v) Q E s) : wpAny (model prog w) A (call (.builtin "iter") [v]) Q E s := by
  refine call_function_entry (by decide +kernel) (by decide +kernel) kdk_entry_iter (kdk_args_iter _) ?_
  unfold Builtin.«iter»
  refine wpAny_bind (m := someArgs "iter" 1 2 _) (wpAny_of_eq (a := [v]) (by first | rfl | kernel_rfl!) ?_)
  show wpAny _ _ (pyIter v >>= _) _ _ _
  exact wpAny_bind (wpAny_mono h (fun v s' hq => wpAny_pure ⟨_, rfl, hq⟩) fun _ _ e => e)
theorem St.in1 (Z : St T h₀ B O env A m D M h) : St T h₀ B O env A.in1 m D M h := Z.around Z.go.fs.in1
theorem St.un1 (Z : St T h₀ B O env A.in1 m D M h) : St T h₀ B O env A m D M h := Z.around ⟨Z.go.fs.hd, Z.go.fs.fr⟩
end
end Mine
end
section
namespace Mine
section
variable {prog : Program} {w : World} {K : Frag} {T h₀ h h' : Heap} {O : List Addr} {env : Env} {A A' : Around} {m : Str → Option Value} {B D D' M M' L L' : Led} {s : Shared} {tk : Nat} {E : Value → Shared → Prop}
theorem attrSlot {x C dx p : Addr} {sl : Array (Option Value)} {od : Obj} {name : Str} {v : Value} {i : Nat} {expr : Bool} {Q : Value → Shared → Prop} (C0 : Cx K T) (go : Go T A' D h) (hx : (x, instOf C dx sl) ∈ D) (hdx : (dx, od) ∈ D)
    (hg : plainGet K C name = true) (hc : (clsIn K C).isSome = true) (ha : findIn K (.ref C) name = some (some (.ref p))) (hn : specialIn K (.ref p) "__get__" = some (some (.builtin "member_descriptor.__get__"))) (ht : takesIn K (.ref p) = some true)
    (hp : slotIn K p C = some i) (hv : (sl[i]?).join = some v) (hh : handedIn v = true) (hQ : ∀ tk', Q v (sA s h tk')) : wpAny (model prog w) A (getAttr (.ref x) name expr) Q E (sA s h tk) := by
  have X := C0.inn go.kT
  have I := instAt (go.has _ hx).1 (go.has _ hdx).1
  exact get_bind (s := sA s h tk) X I (plainGet_of hg).1 (findObj_data hc ha hn ht) (plainGet_of hg).2 (wpAny_call (slot_get (s := sA s h (tk + 1)) X I hp hv (handed_on hh (hQ _))))

noncomputable def kept (f : Nat → Str) (P : Str → Bool) (n : Nat) : List Str := ((List.range n).map f).filter fun x => !P x
theorem kept_succ (f : Nat → Str) (P : Str → Bool) (n : Nat) : kept f P (n + 1) = kept f P n ++ (if P (f n) then [] else [f n]) := by
  unfold kept
  rw [List.range_succ, List.map_append, List.filter_append]
  congr 1
  cases h : P (f n) <;> simp [h]
theorem kept_le (f : Nat → Str) (P : Str → Bool) {i n : Nat} (h : i ≤ n) : ∃ l, kept f P n = kept f P i ++ l := by
  induction n with
  | zero => obtain rfl : i = 0 := by omega
            exact ⟨[], by simp⟩
  | succ n ih =>
    by_cases q : i = n + 1
    · subst q; exact ⟨[], by simp⟩
    · obtain ⟨l, e⟩ := ih (by omega)
      exact ⟨l ++ _, by rw [kept_succ, e, List.append_assoc]⟩
theorem isX {v u : Value} {b : Bool} {Q : Value → Shared → Prop} {s : Shared} (h : compareOp .Is v u = (pure (.bool b) : Sem Value)) (hQ : Q (.bool b) s) : wpAny (model prog w) A (compareOp .Is v u) Q E s := by rw [h]; exact wpAny_pure hQ
theorem iteF {c : Prop} [Decidable c] {a b : Prop} (h : ¬ c) (hb : b) : if c then a else b := by rw [if_neg h]; exact hb
theorem iteT {c : Prop} [Decidable c] {a b : Prop} (h : c) (ha : a) : if c then a else b := by rw [if_pos h]; exact ha
theorem keeps_B {M : Model} {q a : Addr} (h : Heap) (X : h.get? q = some (boundObj a)) : ∃ k, (k = Keeper.frame ∨ k = Keeper.machine ∨ k = Keeper.boundFrame) ∧ Looks M h (keeperOf (.ref q)) k := by
  refine ⟨.machine, .inr (.inl rfl), (Looks.ld (part := none) X).andThen .now⟩
theorem callWith_B {M : Model} {q a : Addr} {first : List Value} {e : Expr} {rest : List Expr} {pos : Pos} {Q : Value → Shared → Prop} {s : Shared} (h : wpAny M A (spliced (backTo pos (starEach (e :: rest) env))) (fun vs s₁ => s₁.heap.get? q = some (boundObj a) ∧ wpAny M A (call (.ref q) (first ++ vs)) Q E s₁) E s)
    (he : starEach (e :: rest) env = (false, eval e env) :: starEach rest env := by rfl) (hplain : (backTo pos (starEach rest env)).any (·.1) = false := by rfl) :
    wpAny M A (callWith pos (.ref q) first (backTo pos (starEach (e :: rest) env)) []) Q E s := by
  rw [he] at h ⊢
  exact callWith_of (by show ((false || (backTo pos (starEach rest env)).any (·.1)) || false) = false; rw [hplain]; rfl) keeps_B (evalArgs_plain h)
/-- an own iterator's step -/
theorem nextOwn {x C f : Addr} {ox : Obj} {od : Option Obj} {Q : Option Value → Shared → Prop} {s : Shared} (X : K.In s.heap) (I : InstAt s.heap x ox C od) (hs : findIn K (.ref C) "__next__" = some (some (.ref f))) (hf : typeIn K (.ref f) = some (.type "function"))
    (h : wpAny (model prog w) A (call (.ref f) [.ref x]) (fun v s' => Q (some v) s') (fun e s' => wpAny (model prog w) A (isInstance e (.type "StopIteration")) (fun b s₂ => b = true ∧ Q none s₂) E s') s) : wpAny (model prog w) A (pyNext (.ref x)) Q E s := by
  unfold pyNext
  refine wpAny_bind (wpAny_attempt (special_fn (name := "__next__") (args := []) X I hs hf (wpAny_mono h (fun v s' hq => wpAny_pure hq) (fun e s' he => ?_))))
  refine wpAny_bind (wpAny_mono he (fun b s₂ hb => ?_) fun _ _ z => z)
  obtain ⟨rfl, hq⟩ := hb
  exact wpAny_pure hq
/-- iter of an own iterator whose __iter__ gives itself -/
theorem iterOwn {x C f : Addr} {ox : Obj} {od : Option Obj} {g : Value} {Q : Value → Shared → Prop} {s : Shared} (X : K.In s.heap) (I : InstAt s.heap x ox C od) (hs : findIn K (.ref C) "__iter__" = some (some (.ref f))) (hf : typeIn K (.ref f) = some (.type "function"))
    (hn : findIn K (.ref C) "__next__" = some (some g))
    (h : wpAny (model prog w) A (call (.ref f) [.ref x]) (fun v s' => v = .ref x ∧ K.In s'.heap ∧ InstAt s'.heap x ox C od ∧ Q (.ref x) s') E s) : wpAny (model prog w) A (pyIter (.ref x)) Q E s := by
  have called : wpAny (model prog w) A (call (.ref f) [.ref x] >>= fun v => pure (some v)) (fun r s' => r = some (.ref x) ∧ K.In s'.heap ∧ InstAt s'.heap x ox C od ∧ Q (.ref x) s') E s :=
    wpAny_bind (wpAny_mono h (fun v s' q => wpAny_pure ⟨by rw [q.1], q.2⟩) fun _ _ z => z)
  have one : ∀ refuse : Sem Value, wpAny (model prog w) A (callSpecialIfBoundUnlessNone? (.ref x) "__iter__" refuse) (fun r s' => r = some (.ref x) ∧ K.In s'.heap ∧ InstAt s'.heap x ox C od ∧ Q (.ref x) s') E s := by
    intro refuse
    simp only [callSpecialIfBoundUnlessNone?, bindSpecialIfBound?]
    refine wpAny_holding (wpAny_bind (wpAny_bind (wpAny_bind (I.type.here ((looks_findIn X hs).here ?_)))))
    refine wpAny_bind (wpAny_askSetting (wpAny_ite ?_))
    have fin2 : wpAny (model prog w) A (if (Value.ref f == Value.none) = true then (refuse >>= fun v => pure (some v)) else (call (.ref f) [.ref x] >>= fun v => pure (some v))) (fun r s' => r = some (.ref x) ∧ K.In s'.heap ∧ InstAt s'.heap x ox C od ∧ Q (.ref x) s') E s := by
      rw [if_neg (show ¬ ((Value.ref f == Value.none) = true) from Bool.false_ne_true)]
      exact called
    split
    · exact wpAny_bind ((bind_fn X _ hf).here (wpAny_pure (by exact fin2)))
    · exact wpAny_tryCatch (wpAny_bind ((bind_fn X _ hf).here (wpAny_pure (by exact fin2))))
  unfold pyIter
  refine wpAny_bind (wpAny_bind (I.type.here ((looks_findIn X hs).here ?_)))
  show wpAny (model prog w) A (callSpecialIfBoundUnlessNone? (.ref x) "__iter__" _ >>= _) Q E s
  refine wpAny_bind (wpAny_mono (one _) (fun r s' hr => ?_) fun _ _ z => z)
  obtain ⟨rfl, X', I', hq⟩ := hr
  refine wpAny_bind (wpAny_bind (I'.type.here ((looks_findIn X' hn).here ?_)))
  exact wpAny_pure hq
end
end Mine
end
section
namespace Mine
section
variable {prog : Program} {w : World} {K : Frag} {T h₀ h h' : Heap} {O : List Addr} {env : Env} {A A' : Around} {m : Str → Option Value} {B D D' M M' L L' : Led} {s : Shared} {tk : Nat} {E : Value → Shared → Prop}
theorem listLoop {x S : Addr} {n : Nat} {Mi : Nat → Led → Prop} {Val : Nat → Value → Prop} {R : Result → Shared → Prop} (I : Itr prog w T D x n Mi Val) (hd : Room 8 A.in1) (hn : n ≤ 10000)
    (hR : ∀ h' tk' vs c, vs.length = n → (∀ j v, vs[j]? = some v → Val j v) → St T h₀ B O env A.in1 m D ((S, lsOf vs c) :: M) h' → R (.ok (.ret .none)) (sA s h' tk')) :
    ∀ (k i : Nat) (h : Heap) (tk : Nat) (L : Led) (vs : List Value) (c : Nat), n - i = k → i ≤ n → Mi i L → vs.length = i → (∀ j v, vs[j]? = some v → Val j v) → St T h₀ B O env A.in1 m D (L ++ (S, lsOf vs c) :: M) h →
      codeAny (model prog w) A (.builtin "list.extend.loop" ⟨[.ref S, .ref x, .none], []⟩) R (sA s h tk) := by
  intro k
  induction k with
  | zero =>
    intro i h tk L vs c hk hi hM hl hv Z
    have hin : i = n := by omega
    subst hin
    refine codeAny_builtin PySem.F.entry_extend_loop ?_
    rw [Around.under_plainId PySem.F.plain_extend_loop _]
    show wpAny _ A.in1 (pyNext (.ref x) >>= _) _ _ _
    refine wpAny_bind (Z.done I hd hM fun h' tk' Z' => ?_)
    exact wpAny_pure (hR h' tk' vs c hl hv Z')
  | succ k ih =>
    intro i h tk L vs c hk hi hM hl hv Z
    have hlt : i < n := by omega
    refine codeAny_builtin PySem.F.entry_extend_loop ?_
    rw [Around.under_plainId PySem.F.plain_extend_loop _]
    show wpAny _ A.in1 (pyNext (.ref x) >>= _) _ _ _
    refine wpAny_bind (Z.item I hlt hd hM fun v h₁ tk₁ L₁ hM₁ hv₁ Z₁ => ?_)
    have hS := (Z₁.mu _ (List.mem_append_right _ (.head _))).1
    show wpAny _ A.in1 (updateSeq S (·.push v) >>= _) _ _ _
    refine wpAny_bind ?_
    have e' := Heap.get?_update_self (Obj.mapSeq (·.push v)) hS (by rw [Obj.mapSeq_push_plain]; rfl)
    rw [Obj.mapSeq_push_plain, List.push_toArray] at e'
    have Z₂ := Z₁.turn1 (Heap.SameBut.update ..) e' (by show Value.type _ ≠ Value.type _; decide) (fun vs q => by cases q)
    refine wpAny_updateSeq (s := sA s h₁ tk₁) hS rfl (wpAny_pure ⟨plainId_quiet PySem.F.plain_extend_loop _, ih (i + 1) _ tk₁ L₁ (vs ++ [v]) _ (by omega) hlt hM₁ (by simp [hl]) (fun j u hu => ?_) Z₂⟩)
      (by show vs.toArray.size ≤ 16777216; rw [List.size_toArray]; omega) (by show (vs.toArray.push v).size ≤ 16777216 + 1; rw [Array.size_push, List.size_toArray]; omega)
    rcases Nat.lt_trichotomy j vs.length with hj | hj | hj
    · rw [List.getElem?_append_left hj] at hu; exact hv j u hu
    · subst hj
      rw [List.getElem?_append_right (Nat.le_refl _)] at hu
      simp at hu
      subst hu
      rw [hl]; exact hv₁
    · rw [List.getElem?_eq_none (by simp; omega)] at hu; cases hu

/-- list(own iterator) -/
theorem listOwn {x C dx : Addr} {sl : Array (Option Value)} {od : Obj} {n : Nat} {Mi : Nat → Led → Prop} {Val : Nat → Value → Prop} {Q : Value → Shared → Prop} (C0 : Cx K T) (Z : St T h₀ B O env A m D (L ++ M) h) (I : Itr prog w T D x n Mi Val) (hM : Mi 0 L) (hd : Room 14 A) (hn : n ≤ 10000)
    (hx : (x, instOf C dx sl) ∈ D) (hdx : (dx, od) ∈ D) (hlen : findIn K (.ref C) "__len__" = some none) (hhint : findIn K (.ref C) "__length_hint__" = some none)
    (hQ : ∀ a h' tk' vs c, vs.length = n → (∀ j v, vs[j]? = some v → Val j v) → St T h₀ B O env A m ((a, lsOf vs c) :: D) M h' → Q (.ref a) (sA s h' tk')) :
    wpAny (model prog w) A (call (.type "list") [.ref x]) Q E (sA s h tk) := by
  refine callType_codes (s := sA s h tk) (Q₁ := fun obj s₁ => obj = .ref h.objs.size ∧ s₁ = sA s (h.push { cls := .type "list", data := .seq #[] }) tk) PySem.F.called_list (PySem.F.typeCall_list_1 _) PySem.F.entry_list_init
    (code_list_new _ ⟨rfl, rfl⟩) fun obj s₁ h₁ => ?_
  obtain ⟨rfl, rfl⟩ := h₁
  have e0 := Heap.get?_push_size (o := lsOf [] 0) h rfl
  refine ⟨⟨_, e0, rfl⟩, PySem.F.args_list_init_2 _ _, ?_⟩
  have Z₁ := (Z.moreM (.push (lsOf [] 0)) e0 (by show Value.type _ ≠ Value.type _; decide) (fresh_size h)).bringBack
  have hSx : h.objs.size ≠ x := fun q => by have := Heap.lt_size (Z.go.has _ hx).1; rw [q] at this; exact Nat.lt_irrefl _ this
  show wpAny _ A.in1.in1 (do let old ← Builtin.List.listItems (.ref h.objs.size); Builtin.List.listUpdate (.ref h.objs.size) (fun _ => #[]); letGo old.toList.reverse; Builtin.List.listExtendWith (.ref h.objs.size) (.ref x) .none) _ _ (sA s (h.push (lsOf [] 0)) tk)
  refine wpAny_bind ?_
  unfold Builtin.List.listItems
  refine wpAny_bind (wpAny_seqItems (s := sA s (h.push (lsOf [] 0)) tk) e0 rfl (wpAny_pure ?_))
  show wpAny _ A.in1.in1 (updateSeq h.objs.size (fun _ => #[]) >>= fun _ => letGo (#[] : Array Value).toList.reverse >>= fun _ => Builtin.List.listExtendWith (.ref h.objs.size) (.ref x) .none) _ _ (sA s (h.push (lsOf [] 0)) tk)
  refine wpAny_bind (wpAny_updateSeq (s := sA s (h.push (lsOf [] 0)) tk) e0 rfl ?_)
  have e1 := Heap.get?_update_self (Obj.mapSeq (fun _ => (#[] : Array Value))) e0 rfl
  have e2 : ∃ c, Obj.mapSeq (fun _ => (#[] : Array Value)) (lsOf [] 0) = lsOf [] c := ⟨_, by simp [Obj.mapSeq, W.listOf]; rfl⟩
  obtain ⟨c, e2⟩ := e2
  rw [e2] at e1
  have Z₂ := Z₁.turn1 (Heap.SameBut.update ..) e1 (by show Value.type _ ≠ Value.type _; decide) (fun vs q => by cases q)
  refine wpAny_bind (wpAny_letGo ?_)
  unfold Builtin.List.listExtendWith
  have I2 := instAt (Z₂.go.has _ hx).1 (Z₂.go.has _ hdx).1
  refine wpAny_bind (I2.type.here ?_)
  have h1 : Builtin.List.listSameRef (.ref h.objs.size) (.ref x) = false := by simp [Builtin.List.listSameRef, hSx]
  have h2 : (Value.ref C == Value.type "list") = false := rfl
  have h3 : (Value.ref C == Value.type "tuple") = false := rfl
  simp only [h1, h2, h3, Bool.or_false, Bool.false_eq_true, if_false]
  refine wpAny_bind (I.self (A := A.in1.in1) (Z₂.in1.in1).go ((hd.in1.in1).le (by decide)) Z₂.goL hM fun h₃ tk₃ k₃ => ?_)
  have Z₃ := Z₂.step k₃
  have I3 := instAt (Z₃.go.has _ hx).1 (Z₃.go.has _ hdx).1
  have X3 := C0.inn Z₃.go.kT
  refine wpAny_bind (wpAny_holding ?_)
  unfold Builtin.List.listLengthHint
  refine wpAny_bind (wpAny_bind (I3.type.here ((looks_findIn X3 hlen).here ?_)))
  show wpAny _ A.in1.in1 (specialOf (Value.ref x) (Str.ofString "__length_hint__") >>= _) _ _ _
  refine wpAny_bind (wpAny_bind (I3.type.here ((looks_findIn X3 hhint).here ?_)))
  refine wpAny_pure ?_
  show wpAny _ A.in1.in1 (rule "list.extend.makes-room" >>= fun _ => Builtin.List.listTouch (.ref h.objs.size) >>= fun _ => again (.builtin "list.extend.loop" ⟨[.ref h.objs.size, .ref x, .none], []⟩)) _ _ _
  refine wpAny_bind (wpAny_rule ?_)
  refine wpAny_bind ?_
  show wpAny _ A.in1.in1 (updateSeq h.objs.size (·.push .none) >>= fun _ => updateSeq h.objs.size (·.pop)) _ _ _
  have e3 := (Z₃.mu _ (List.mem_append_right _ (.head _))).1
  refine wpAny_bind (wpAny_updateSeq (s := sA s h₃ tk₃) e3 rfl ?_)
  have e4 := Heap.get?_update_self (Obj.mapSeq (·.push Value.none)) e3 rfl
  have e5' : Obj.mapSeq (·.push Value.none) (lsOf [] c) = lsOf [.none] (c + 1) := by rw [Obj.mapSeq_push_plain]; rfl
  rw [e5'] at e4
  have Z₄ := Z₃.turn1 (Heap.SameBut.update ..) e4 (by show Value.type _ ≠ Value.type _; decide) (fun vs q => by cases q)
  refine wpAny_updateSeq (s := sA s (h₃.update h.objs.size (Obj.mapSeq (·.push Value.none))) tk₃) e4 rfl ?_ 
  have e6 := Heap.get?_update_self (Obj.mapSeq (·.pop)) e4 rfl
  have e7 : ∃ c', Obj.mapSeq (·.pop) (lsOf [.none] (c + 1)) = lsOf [] c' := ⟨_, by simp [Obj.mapSeq]; rfl⟩
  obtain ⟨c', e7⟩ := e7
  rw [e7] at e6
  have Z₅ := Z₄.turn1 (Heap.SameBut.update ..) e6 (by show Value.type _ ≠ Value.type _; decide) (fun vs q => by cases q)
  refine wpAny_pure ⟨plainId_quiet PySem.F.plain_extend_loop _, ?_⟩
  refine listLoop (A := A.in1) (B := B) (h₀ := h₀) (O := O) (env := env) (m := m) (M := M) I ((hd.in1.in1).le (by decide)) hn (fun h' tk' vs c hl hv Z₆ => ?_) n 0 _ tk₃ L [] c' (by omega) (Nat.zero_le _) hM rfl (fun j v q => by simp at q) Z₅.in1.in1
  exact ⟨rfl, hQ _ h' tk' vs c hl hv ((Z₆.settle (L := [(h.objs.size, lsOf vs c)]) (M := M)).around ⟨Z₆.go.fs.hd, Z₆.go.fs.fr⟩)⟩
theorem lookup_some {x : Str} {c : Addr} : ∀ {l : List (Str × Addr)}, (x, c) ∈ l → l.lookup x ≠ none := by
  intro l
  induction l with
  | nil => intro h; cases h
  | cons y l ih =>
    obtain ⟨n, a⟩ := y
    intro h
    rw [List.lookup_cons]
    cases q : x == n with
    | true => simp
    | false =>
      rcases List.mem_cons.mp h with h | h
      · cases h; simp at q
      · exact ih h
/-- a store into a cell of one's own -/
theorem stC {x : Str} {v : Value} {Lf : Addr} {names : List (Str × NameKind)} {cl : List (Str × Addr)} {Q : Unit → Shared → Prop} (Z : St T h₀ B (ownOf Lf (cellsFrom (Lf + 1) names cl)) env A m D M h)
    (hQ : ∀ h' tk', St T h₀ B (ownOf Lf (cellsFrom (Lf + 1) names cl)) env A (upd m x v) D M h' → Q () (sA s h' tk'))
    (hce : env.cells = cellsFrom (Lf + 1) names cl := by rfl) (hk : env.scope.kind = .function := by rfl) (hl : env.locals = Lf := by rfl) (hx : env.kindOf x = some .cell := by rfl) (hcl : cl.lookup x = none := by rfl) :
    wpAny (model prog w) A (storeName env x v) Q E (sA s h tk) := by
  refine stV Z (fun h' tk' Z' _ => hQ h' tk' Z') hk (by rw [hl]; exact .head _) (.inr ⟨hx, fun c hc => ?_⟩)
  rw [hce] at hc
  have hm := mem_of_lookup hc
  refine List.mem_cons_of_mem _ (List.mem_filter.mpr ⟨List.mem_map.mpr ⟨_, hm, rfl⟩, decide_eq_true ?_⟩)
  rcases cellsFrom_mem _ _ _ _ _ hm with e | ⟨e, _⟩
  · exact absurd hcl (lookup_some e)
  · exact e
theorem eqS {x y : Str} {t u : Tok} {Q : Value → Shared → Prop} {s : Shared} (hQ : Q (.bool (decide (x = y))) s) : wpAny (model prog w) A (compareOp .Eq (.str x t) (.str y u)) Q E s := by
  refine PyProof.Rows.eq_str ?_
  have : (x == y) = decide (x = y) := by
    by_cases h : x = y
    · simp [h]
    · simp [h]
  rw [this]; exact hQ
/-- an item of a list in the ledger -/
theorem itLV {value slice : Expr} {a : Addr} {vs : List Value} {k i : Nat} {u : Tok} {v : Value} {X : Led} {Q : Value → Shared → Prop} (hX : Has h X) (hm : (a, lsOf vs k) ∈ X) (hi : i < 1000) (hv : vs[i]? = some v) (hQ : Q v (sA s h tk))
    (hs : subscripted slice false (.ref a) (.int (i : Int) u) = operate [.ref a, .int (i : Int) u] (getItem (.ref a) (.int (i : Int) u))) (hg : ∀ r, letTemporaryGo value (.ref a) r = pure ()) :
    wpAny (model prog w) A (subscriptTail value slice (.ref a) (.int (i : Int) u)) Q E (sA s h tk) := by
  have hl : (sA s h tk).heap.IsList a vs.toArray := ⟨_, (hX _ hm).1, rfl, k, rfl⟩
  exact subscriptTail_builtin hl.typeIs PySem.F.slot_list_getitem.lookup (wpAny_getItem_list hl (by omega) (by omega) (by simpa using hv) hQ) hs hg
end
end Mine
end
section
namespace Mine
theorem datX {X : Led} {vs : List Value} {ws : List Str} (h : StrsAre vs ws) : DatAll X vs (ws.map Dat.str) := (datS h).mono fun p q => absurd q List.not_mem_nil
section
variable {prog : Program} {w : World} {K : Frag} {T h₀ h h' : Heap} {O : List Addr} {env : Env} {A A' : Around} {m : Str → Option Value} {B D D' M M' L L' : Led} {s : Shared} {tk : Nat} {E : Value → Shared → Prop}
end
end Mine
end
local macro_rules | `(tactic| walk_at "cl") => `(tactic| repeat (first | exact Mine.ClOk.nil | refine Mine.ClOk.cons rfl (by first | exact Or.inl rfl | exact Or.inr rfl) ?_))
local macro_rules | `(tactic| walk_at "enter") => `(tactic| (
  (case C | go => assumption)
  (case room => exact (Mine.Room.le (by assumption) (Nat.zero_le _)).1)
  (case ho => k_is)
  (case hd | hbody => exact rfl)
  (case hcd => k_is)
  (case hbind => exact BindsTo.of_eq rfl)
  (case hcl | hk | hco | hgen | hnames | hlook | hbs => exact rfl)))
local macro_rules | `(tactic| walk_at "enterM") => `(tactic| (
  (case C => assumption)
  (case ho => k_is)
  (case hd | hbody => exact rfl)
  (case hcd => k_is)
  (case hbind => exact BindsTo.of_eq rfl)
  (case hcl | hk | hco | hgen | hnames | hlook | hbs => exact rfl)))
local macro_rules | `(tactic| walk_at "name") => `(tactic| first
  | (refine' Mine.nmV ?Z ?hv ?_ ?a ?b ?c ?d; (case Z => assumption); (case hv | a | b => exact rfl); (case c | d => decide))
  | (refine' Mine.nmG ?C ?Z ?e ?_ ?a ?b ?c ?d; (case C | Z => assumption); (case e => k_is); (case a | b | c => exact rfl); (case d => decide))
  | (refine' Mine.nmB (v := Value.type _) ?C ?Z ?e ?hv ?_ ?a ?b ?c ?d ?f ?g; (case C | Z => assumption); (case e => k_is); (case hv | a => exact rfl); (case b | c | d => exact rfl); (case f | g => decide))
  | (refine' Mine.nmB (v := Value.builtin _) ?C ?Z ?e ?hv ?_ ?a ?b ?c ?d ?f ?g; (case C | Z => assumption); (case e => k_is); (case hv | a => exact rfl); (case b | c | d => exact rfl); (case f | g => decide)))
local macro_rules | `(tactic| walk_at "sz") => `(tactic| (simp only [List.length_cons, List.length_nil]; decide))
local macro_rules | `(tactic| walk_at "comp") => `(tactic| (
  (case hgens => exact rfl)
  (case hs => (intro _; exact rfl))
  (case hrs | hclos | hkind => exact rfl)
  (case hnames => decide)
  (case hcl => walk_at "cl")
  (case hclN | hnm | hcll => exact rfl)
  (case hlook => (intro _; exact rfl))))
local macro_rules | `(tactic| walk_at "comp2") => `(tactic| (
  (case hgens2 => exact rfl)
  (case hs2 => (intro _; exact rfl))
  (case hrs2 | hclos2 | hkind2 => exact rfl)
  (case hnames2 => decide)
  (case hcl2 => walk_at "cl")
  (case hclN2 | hnm2 | hcll2 => exact rfl)
  (case hlook2 => (intro _; exact rfl))))
local macro_rules | `(tactic| walk_at "comp3") => `(tactic| (
  (case hgens3 => exact rfl)
  (case hs3 => (intro _; exact rfl))
  (case hrs3 | hclos3 | hkind3 => exact rfl)
  (case hnames3 => decide)
  (case hcl3 => walk_at "cl")
  (case hclN3 | hnm3 | hcll3 => exact rfl)
  (case hlook3 => (intro _; exact rfl))))
local macro_rules | `(tactic| walk_at "comp4") => `(tactic| (
  (case hgens4 => exact rfl)
  (case hs4 => (intro _; exact rfl))
  (case hrs4 | hclos4 | hkind4 => exact rfl)
  (case hnames4 => decide)
  (case hcl4 => walk_at "cl")
  (case hclN4 | hnm4 | hcll4 => exact rfl)
  (case hlook4 => (intro _; exact rfl))))
local macro_rules | `(tactic| walk_at "mem") => `(tactic| first | exact List.Mem.head _ | (refine List.Mem.tail _ ?_; walk_at "mem") | assumption | (refine List.mem_append_left _ ?_; walk_at "mem") | (refine List.mem_append_right _ ?_; walk_at "mem"))
local macro_rules | `(tactic| walk_at "strs") => `(tactic| repeat (first | exact StrsAre.nil | refine StrsAre.cons _ _ ?_))
local macro_rules | `(tactic| walk_at "s") => `(tactic| first
  | ((with_reducible show wpAny _ _ (execs (_ :: _) _) _ _ _); refine wpAny_execs_cons ?_)
  | ((with_reducible show wpAny _ _ (execs [] _) _ _ _); refine wpAny_execs_nil ?_)
  | ((with_reducible show wpAny _ _ (exec (Stmt.Assign [Expr.Name _ _] (Expr.ListComp _ _ _ _) _) _) _ _ _); fail)
  | ((with_reducible show wpAny _ _ (exec (Stmt.Assign [Expr.Subscript _ _ _] _ _) _) _ _ _); refine wpAny_Assign_Subscript ?_ ?_; rotate_left; with_unfolding_all rfl)
  | ((with_reducible show wpAny _ _ (exec (Stmt.Assign [Expr.Name _ _] _ _) _) _ _ _); refine Mine.asN ?_)
  | ((with_reducible show wpAny _ _ (exec (Stmt.Return (some _) _) _) _ _ _); refine wpAny_Return_some ?_)
  | ((with_reducible show wpAny _ _ (exec (Stmt.Expr _ _) _) _ _ _); refine wpAny_Expr ?_)
  | ((with_reducible show wpAny _ _ (exec (Stmt.If _ _ _ _) _) _ _ _); refine wpAny_If ?_)
  | ((with_reducible show wpAny _ _ (isTrue (Expr.Compare _ _ _ _) _ _) _ _ _); refine wpAny_isTrue_Compare1 ?_)
  | ((with_reducible show wpAny _ _ (isTrue (Expr.BoolOp _ _ _) _ _) _ _ _); first | with_reducible refine isTrue_and_nil ?_ | with_reducible refine isTrue_or_nil ?_ | with_reducible refine isTrue_and ?_ | with_reducible refine isTrue_or ?_)
  | ((with_reducible show wpAny _ _ (isTrue (Expr.UnaryOp _ _ _) _ _) _ _ _); with_reducible refine isTrue_not ?_)
  | ((with_reducible show wpAny _ _ (isTrue (Expr.Name _ _) _ _) _ _ _); refine isTrue_plain ?_)
  | ((with_reducible show wpAny _ _ (isTrue (Expr.Call _ _ _ _) _ _) _ _ _); refine isTrue_plain ?_)
  | ((with_reducible show wpAny _ _ (isTrue (Expr.ListComp _ _ _ _) _ _) _ _ _); refine isTrue_plain ?_)
  | ((with_reducible show wpAny _ _ (isTrue (Expr.Subscript _ _ _) _ _) _ _ _); refine isTrue_plain ?_)
  | ((with_reducible show wpAny _ _ (compareOp CmpOp.Eq (Value.str _ _) (Value.str _ _)) _ _ _); refine Mine.eqS ?_)
  | ((with_reducible show wpAny _ _ (compareOp CmpOp.Is _ _) _ _ _); refine Mine.isX rfl ?_)
  | ((with_reducible show wpAny _ _ (eval (Expr.Compare _ _ _ _) _) _ _ _); refine wpAny_Compare1 ?_)
  | ((with_reducible show wpAny _ _ (eval (Expr.BinOp _ _ _ _) _) _ _ _); refine wpAny_BinOp ?_)
  | ((with_reducible show wpAny _ _ (eval (Expr.Subscript _ _ _) _) _ _ _); refine Subscript_ ?_)
  | ((with_reducible show wpAny _ _ (eval (Expr.List _ _) _) _ _ _); refine List_ ?_)
  | ((with_reducible show wpAny _ _ (eval (Expr.Tuple _ _ _) _) _ _ _); refine Tuple_ ?_)
  | ((with_reducible show wpAny _ _ (eval (Expr.Call (Expr.Attribute _ _ _) _ _ _) _) _ _ _); refine MethodCall_ ?_)
  | ((with_reducible show wpAny _ _ (eval (Expr.Call _ _ _ _) _) _ _ _); refine Call_ ?_)
  | ((with_reducible show wpAny _ _ (eval (Expr.Constant (Const.str _) _ _) _) _ _ _); refine Mine.cS ?_; intro _ _)
  | ((with_reducible show wpAny _ _ (eval (Expr.Constant (Const.int _) _ _) _) _ _ _); refine Mine.cI ?_; intro _ _)
  | ((with_reducible show wpAny _ _ (eval (Expr.Constant Const.none _ _) _) _ _ _); refine Mine.cN ?_)
  | ((with_reducible show wpAny _ _ (spliced _) _ _ _); first | refine spliced_cons ?_ | refine spliced_nil ?_)
  | ((with_reducible show wpAny _ _ (callWith _ (Value.ref _) _ _ _) _ _ _); refine' callWith_K ?X ?k ?_; (case X => exact Mine.Cx.X (by assumption)); (case k => k_is))
  | ((with_reducible show Frag.In _ _ ∧ _); refine ⟨Mine.Cx.inn (by assumption) (Mine.Go.kT (Mine.St.go (by assumption))), ?_⟩)
  | ((with_reducible show wpAny _ _ (callWith _ (Value.type _) _ _ _) _ _ _); refine PySem.Pv.callWith_type1 ?_)
  | ((with_reducible show wpAny _ _ (callWith _ (Value.builtin _) _ _ _) _ _ _); first | with_reducible refine callWith_method0 ?_ | refine callWith_builtin1 ?_ | refine callWith_method1 ?_)
  | ((with_reducible show wpAny _ _ (eval (Expr.Attribute _ _ _) _) _ _ _); refine Attribute_any_ ?_)
  | ((with_reducible show wpAny _ _ (exec (Stmt.Assign [Expr.Attribute _ _ _] _ _) _) _ _ _); refine plainObj_wpAny_Assign_Attribute ?_ ?_; rotate_left; with_unfolding_all rfl)
  | ((with_reducible show wpAny _ _ (truthy (Value.bool _)) _ _ _); refine Mine.truB ?_)
  | ((with_reducible show ite (false = true) _ _); refine Mine.iteF Bool.false_ne_true ?_)
  | ((with_reducible show ite (true = true) _ _); refine Mine.iteT rfl ?_)
  | ((with_reducible show wpAny _ _ (if false = true then _ else _) _ _ _); rw [if_neg Bool.false_ne_true])
  | ((with_reducible show wpAny _ _ (if true = true then _ else _) _ _ _); rw [if_pos rfl])
  | ((with_reducible show wpAny _ _ (eval (Expr.Name _ _) _) _ _ _); walk_at "name")
  | ((with_reducible show wpAny _ _ (subscriptTail _ _ (Value.str (Str.ofString "abcdef") _) (Value.int _ _)) _ _ _); refine' Mine.itABC ?w3 ?w4 ?w6 ?w7 ?w8; (case w3 => omega); (case w4 => omega); (case w7 => with_unfolding_all rfl); (case w8 => (intro _; with_unfolding_all rfl)); intro _ _)
  | ((with_reducible show wpAny _ _ (binaryOp Operator.Add (Value.str _ _) (Value.str _ _)) _ _ _); refine' Mine.addS ?w3 ?w6; (case w3 => ((try simp only [Str.length_append]); show _ ≤ 16777216; omega)); intro _ _)
  | ((with_reducible show wpAny _ _ (storeName _ _ _) _ _ _); refine Mine.stL (by assumption) ?_; intro _ _ _)
  | ((with_reducible show wpAny _ _ (storeName _ _ _) _ _ _); refine Mine.stC (by assumption) ?_; intro _ _ _)
  | ((with_reducible show wpAny _ _ (assign (Expr.Name _ _) _ _) _ _ _); refine wpAny_assign_Name (Mine.stL (by assumption) ?_); intro _ _ _)
  | ((with_reducible show wpAny _ _ (assign (Expr.Name _ _) _ _) _ _ _); refine wpAny_assign_Name (Mine.stC (by assumption) ?_); intro _ _ _)
  | ((with_reducible show wpAny _ _ (binaryOp Operator.FloorDiv (Value.int _ _) (Value.int _ _)) _ _ _); refine Mine.fdivI (by decide) (by decide) ?_; intro _ _)
  | ((with_reducible show wpAny _ _ (binaryOp Operator.Add (Value.int _ _) (Value.int _ _)) _ _ _); refine Mine.addI ?_; intro _ _)
  | ((with_reducible show wpAny _ _ (binaryOp Operator.Mod (Value.int _ _) (Value.int _ _)) _ _ _); refine Mine.modI (by decide) (by decide) ?_; intro _ _))
local macro_rules | `(tactic| walk_at "l") => `(tactic| first
  | ((with_reducible show wpAny _ _ (newList _) _ _ _); refine Mine.nwL (by assumption) (by walk_at "sz") ?_; intro _ _ _ _)
  | ((with_reducible show wpAny _ _ (newTuple _) _ _ _); refine Mine.nwT (by assumption) (by walk_at "sz") ?_; intro _ _ _ _))
local macro_rules | `(tactic| walk_at "e") => `(tactic| first | walk_at "s" | walk_at "l")
local macro_rules | `(tactic| walk_at "ss") => `(tactic| repeat (walk_at "s"))
local macro_rules | `(tactic| walk_at "es") => `(tactic| repeat (walk_at "e"))
section
namespace Mine
def importEndsT (tb : String → Option Builtin) (p : Program) (w : World) : Nat → SharedT → Thread → Option SharedT
  | 0, _, _ => none
  | n + 1, s, t => match t.atExitBegin with
    | some [] => some s
    | some (_ :: _) => none
    | none => match stepT (denote tb) p w s t with
      | some (s', t') => importEndsT tb p w n s' t'
      | none => none
theorem importEndsT_of {tb : String → Option Builtin} {p : Program} {w : World} : ∀ {n : Nat} {s s' : SharedT} {t : Thread}, importEndsT tb p w n s t = some s' → importEnds tb p w n s.abs t = some s'.abs
  | 0, _, _, _, h => by cases h
  | n + 1, s, s', t, h => by
    unfold importEndsT at h
    unfold importEnds
    cases he : t.atExitBegin with
    | some x =>
      rw [he] at h
      cases x with
      | nil => cases h; rfl
      | cons => cases h
    | none =>
      rw [he] at h
      cases hs : stepT (denote tb) p w s t with
      | none => rw [hs] at h; cases h
      | some r => obtain ⟨s₂, t₂⟩ := r; rw [hs] at h; dsimp only; rw [stepT_spec hs]; exact importEndsT_of h
def growT : List Obj → Nat → BT → Option BT
  | [], _, t => some t
  | o :: r, n, t => match ((t.ins n o).get n).isSome with
    | true => growT r (n + 1) (t.ins n o)
    | false => none
theorem growT_of {life : Life} : ∀ {l : List Obj} {n : Nat} {t t' : BT}, growT l n t = some t' → absHeap t' (n + l.length) life = ⟨(absHeap t n life).objs ++ l.toArray, life⟩
  | [], n, t, t', h => by
    cases h
    show absHeap t n life = _
    have : (absHeap t n life).objs ++ (#[] : Array Obj) = (absHeap t n life).objs := by simp
    rw [this]; rfl
  | o :: r, n, t, t', h => by
    unfold growT at h
    cases q : ((t.ins n o).get n).isSome with
    | false => rw [q] at h; cases h
    | true =>
      rw [q] at h
      have := growT_of (life := life) h
      rw [absHeap_ins q] at this
      rw [List.length_cons, show n + (r.length + 1) = n + 1 + r.length by omega, this]
      show Heap.mk ((absHeap t n life).objs.push o ++ r.toArray) life = _
      congr 1
      simp
theorem growT_all {h : Heap} {t : BT} (e : growT h.objs.toList 0 .nil = some t) : absHeap t h.objs.size h.life = h := by
  have := growT_of (life := h.life) e
  rw [Nat.zero_add, Array.length_toList] at this
  rw [this]
  obtain ⟨o, l⟩ := h
  show Heap.mk ((absHeap .nil 0 l).objs ++ o.toList.toArray) l = _
  have : (absHeap .nil 0 l).objs = #[] := rfl
  rw [this]
  simp

def fenceT (tb : String → Option Builtin) (p : Program) (w : World) (N : Nat) : Option Shared :=
  match importEndsT tb (opening p) w N ⟨.nil, 0, {}, #[], (start (opening p)).1.drawn, (start (opening p)).1.toks, (start (opening p)).1.os⟩ (start (opening p)).2 with
  | some s => fenceModules? p s.abs
  | none => none
theorem fence_ofT {tb : String → Option Builtin} {p : Program} {w : World} {N : Nat} {s : Shared} (h : fenceT tb p w N = some s) : fencedOpening tb p w N = some s := by
  unfold fenceT at h
  unfold fencedOpening
  split at h
  · rename_i s' e
    have := importEndsT_of e
    rw [show (start (opening p)).1 = SharedT.abs ⟨.nil, 0, {}, #[], (start (opening p)).1.drawn, (start (opening p)).1.toks, (start (opening p)).1.os⟩ from rfl, this]
    exact h
  · cases h
section
variable {tb : String → Option Builtin} {p : Program} {w : World} {n₀ : Nat} {ann : Option Value}
/-- a stretch, run on the heap as a tree -/
def segRunH (tb : String → Option Builtin) (p : Program) (w : World) (n₀ : Nat) (ann : Option Value) (b n : Nat) (s : Shared) (t : Thread) : Option (Flow × Shared × Code × Pos) :=
  match growT s.heap.objs.toList 0 .nil with
  | some T => match segRunT tb p w n₀ ann b n ⟨T, s.heap.objs.size, s.heap.life, s.gens, s.drawn, s.toks, s.os⟩ t with
    | some (f, s', c, q) => some (f, s'.abs, c, q)
    | none => none
  | none => none
theorem segRunH_of {b n : Nat} {s s' : Shared} {t : Thread} {f : Flow} {c : Code} {q : Pos} (h : segRunH tb p w n₀ ann b n s t = some (f, s', c, q)) : segRun tb p w n₀ ann b n s t = some (f, s', c, q) := by
  unfold segRunH at h
  split at h
  · rename_i T eT
    split at h
    · rename_i f' s₂ c' q' e
      have := segRun_of e
      have e2 : SharedT.abs ⟨T, s.heap.objs.size, s.heap.life, s.gens, s.drawn, s.toks, s.os⟩ = s := by
        show Shared.mk (absHeap T s.heap.objs.size s.heap.life) _ _ _ _ = s
        rw [growT_all eT]
      rw [e2] at this
      rw [this]; exact h
    · cases h
  · cases h
theorem tb_take {env : Env} {q : Pos} {n N k : Nat} {s s' r : Shared} {l : List Stmt} {c : Code} {pos p' : Pos} (h : segRun tb p w n₀ ann 1 n s (piecesOf (l.take k) env c pos [topFrame q]) = some (.next, s', c, p'))
    (kk : topRun tb p w n₀ ann N s' (restOf (l.drop k) env c p' [topFrame q]) = some r) : topRun tb p w n₀ ann (n + N) s (restOf l env c pos [topFrame q]) = some r := by
  have := piece_app h kk
  rwa [List.take_append_drop] at this
theorem tb_more {env : Env} {q : Pos} {n N i k : Nat} {s s' r : Shared} {l : List Stmt} {c : Code} {pos p' : Pos} (h : segRun tb p w n₀ ann 1 n s (piecesOf ((l.drop i).take k) env c pos [topFrame q]) = some (.next, s', c, p'))
    (kk : topRun tb p w n₀ ann N s' (restOf (l.drop (i + k)) env c p' [topFrame q]) = some r) : topRun tb p w n₀ ann (n + N) s (restOf (l.drop i) env c pos [topFrame q]) = some r := by
  refine tb_take h ?_
  rw [List.drop_drop]; exact kk
theorem tb_end {env : Env} {q : Pos} {N i : Nat} {s r : Shared} {l : List Stmt} {c : Code} {pos : Pos} (e : l.length = i) (k : topRun tb p w n₀ ann N s ⟨doneF .next, c, pos, [topFrame q]⟩ = some r) :
    topRun tb p w n₀ ann N s (restOf (l.drop i) env c pos [topFrame q]) = some r := by
  rw [← e, List.drop_length]; exact piece_nil k
theorem open_ofT {w : World} {N : Nat} {α : Type} {f : Shared → α} {x : α} (h : (fenceT tb p w N).map f = some x) : (fencedOpening tb p w N).map f = some x := by
  obtain ⟨s, e, e'⟩ := Option.map_eq_some_iff.mp h
  rw [fence_ofT e]; exact congrArg some e'
end
def nth (l : List Stmt) (i : Nat) : Stmt := l.getD i (.Pass default)
def fA : Stmt → Arguments
  | .FunctionDef _ a _ _ _ _ _ _ _ _ => a
  | _ => default
def fB : Stmt → FuncBody
  | .FunctionDef _ _ b _ _ _ _ _ _ _ => .stmts b
  | _ => .stmts []
def fS : Stmt → Scope
  | .FunctionDef _ _ _ _ _ _ s _ _ _ => s
  | _ => default
def clB : Stmt → List Stmt
  | .ClassDef _ _ _ b _ _ _ _ _ _ _ => b
  | _ => []
def rf (a : Nat) : Value := .ref a
def vS (x : String) (t : Nat) : Value := .str (Str.ofString x) t
def eS (P : Params) (x : String) (t : Nat) (v : Value) : DictEntry := ⟨PyData.keyHash P (Str.ofString x), .str (Str.ofString x) t, v⟩
end Mine
end
section
namespace Mine
abbrev pb := PySem.Challenge.pw_il0126_02.main.body
noncomputable def fA0 : Arguments := by
  refine (fun (_ : fA (nth (clB (nth pb 10)) 0) = ?k) => ?k) ?h
  case h => (conv => lhs; whnf)
noncomputable def fB0 : FuncBody := by
  refine (fun (_ : fB (nth (clB (nth pb 10)) 0) = ?k) => ?k) ?h
  case h => (conv => lhs; whnf)
noncomputable def fS0 : Scope := by
  refine (fun (_ : fS (nth (clB (nth pb 10)) 0) = ?k) => ?k) ?h
  case h => (conv => lhs; whnf)
noncomputable def fA1 : Arguments := by
  refine (fun (_ : fA (nth (clB (nth pb 3)) 1) = ?k) => ?k) ?h
  case h => (conv => lhs; whnf)
noncomputable def fB1 : FuncBody := by
  refine (fun (_ : fB (nth (clB (nth pb 3)) 1) = ?k) => ?k) ?h
  case h => (conv => lhs; whnf)
noncomputable def fS1 : Scope := by
  refine (fun (_ : fS (nth (clB (nth pb 3)) 1) = ?k) => ?k) ?h
  case h => (conv => lhs; whnf)
noncomputable def fA2 : Arguments := by
  refine (fun (_ : fA (nth (clB (nth pb 3)) 2) = ?k) => ?k) ?h
  case h => (conv => lhs; whnf)
noncomputable def fB2 : FuncBody := by
  refine (fun (_ : fB (nth (clB (nth pb 3)) 2) = ?k) => ?k) ?h
  case h => (conv => lhs; whnf)
noncomputable def fS2 : Scope := by
  refine (fun (_ : fS (nth (clB (nth pb 3)) 2) = ?k) => ?k) ?h
  case h => (conv => lhs; whnf)
noncomputable def fA3 : Arguments := by
  refine (fun (_ : fA (nth (clB (nth pb 3)) 3) = ?k) => ?k) ?h
  case h => (conv => lhs; whnf)
noncomputable def fB3 : FuncBody := by
  refine (fun (_ : fB (nth (clB (nth pb 3)) 3) = ?k) => ?k) ?h
  case h => (conv => lhs; whnf)
noncomputable def fS3 : Scope := by
  refine (fun (_ : fS (nth (clB (nth pb 3)) 3) = ?k) => ?k) ?h
  case h => (conv => lhs; whnf)
noncomputable def fA4 : Arguments := by
  refine (fun (_ : fA (nth (clB (nth pb 7)) 0) = ?k) => ?k) ?h
  case h => (conv => lhs; whnf)
noncomputable def fB4 : FuncBody := by
  refine (fun (_ : fB (nth (clB (nth pb 7)) 0) = ?k) => ?k) ?h
  case h => (conv => lhs; whnf)
noncomputable def fS4 : Scope := by
  refine (fun (_ : fS (nth (clB (nth pb 7)) 0) = ?k) => ?k) ?h
  case h => (conv => lhs; whnf)
noncomputable def fA5 : Arguments := by
  refine (fun (_ : fA (nth (clB (nth pb 7)) 1) = ?k) => ?k) ?h
  case h => (conv => lhs; whnf)
noncomputable def fB5 : FuncBody := by
  refine (fun (_ : fB (nth (clB (nth pb 7)) 1) = ?k) => ?k) ?h
  case h => (conv => lhs; whnf)
noncomputable def fS5 : Scope := by
  refine (fun (_ : fS (nth (clB (nth pb 7)) 1) = ?k) => ?k) ?h
  case h => (conv => lhs; whnf)
noncomputable def fA6 : Arguments := by
  refine (fun (_ : fA (nth (clB (nth pb 7)) 2) = ?k) => ?k) ?h
  case h => (conv => lhs; whnf)
noncomputable def fB6 : FuncBody := by
  refine (fun (_ : fB (nth (clB (nth pb 7)) 2) = ?k) => ?k) ?h
  case h => (conv => lhs; whnf)
noncomputable def fS6 : Scope := by
  refine (fun (_ : fS (nth (clB (nth pb 7)) 2) = ?k) => ?k) ?h
  case h => (conv => lhs; whnf)
noncomputable def fA7 : Arguments := by
  refine (fun (_ : fA (nth (clB (nth pb 7)) 3) = ?k) => ?k) ?h
  case h => (conv => lhs; whnf)
noncomputable def fB7 : FuncBody := by
  refine (fun (_ : fB (nth (clB (nth pb 7)) 3) = ?k) => ?k) ?h
  case h => (conv => lhs; whnf)
noncomputable def fS7 : Scope := by
  refine (fun (_ : fS (nth (clB (nth pb 7)) 3) = ?k) => ?k) ?h
  case h => (conv => lhs; whnf)
noncomputable def fA8 : Arguments := by
  refine (fun (_ : fA (nth (clB (nth pb 8)) 1) = ?k) => ?k) ?h
  case h => (conv => lhs; whnf)
noncomputable def fB8 : FuncBody := by
  refine (fun (_ : fB (nth (clB (nth pb 8)) 1) = ?k) => ?k) ?h
  case h => (conv => lhs; whnf)
noncomputable def fS8 : Scope := by
  refine (fun (_ : fS (nth (clB (nth pb 8)) 1) = ?k) => ?k) ?h
  case h => (conv => lhs; whnf)
noncomputable def fA9 : Arguments := by
  refine (fun (_ : fA (nth (clB (nth pb 8)) 2) = ?k) => ?k) ?h
  case h => (conv => lhs; whnf)
noncomputable def fB9 : FuncBody := by
  refine (fun (_ : fB (nth (clB (nth pb 8)) 2) = ?k) => ?k) ?h
  case h => (conv => lhs; whnf)
noncomputable def fS9 : Scope := by
  refine (fun (_ : fS (nth (clB (nth pb 8)) 2) = ?k) => ?k) ?h
  case h => (conv => lhs; whnf)
noncomputable def fA10 : Arguments := by
  refine (fun (_ : fA (nth (clB (nth pb 9)) 10) = ?k) => ?k) ?h
  case h => (conv => lhs; whnf)
noncomputable def fB10 : FuncBody := by
  refine (fun (_ : fB (nth (clB (nth pb 9)) 10) = ?k) => ?k) ?h
  case h => (conv => lhs; whnf)
noncomputable def fS10 : Scope := by
  refine (fun (_ : fS (nth (clB (nth pb 9)) 10) = ?k) => ?k) ?h
  case h => (conv => lhs; whnf)
noncomputable def fA11 : Arguments := by
  refine (fun (_ : fA (nth (clB (nth pb 9)) 4) = ?k) => ?k) ?h
  case h => (conv => lhs; whnf)
noncomputable def fB11 : FuncBody := by
  refine (fun (_ : fB (nth (clB (nth pb 9)) 4) = ?k) => ?k) ?h
  case h => (conv => lhs; whnf)
noncomputable def fS11 : Scope := by
  refine (fun (_ : fS (nth (clB (nth pb 9)) 4) = ?k) => ?k) ?h
  case h => (conv => lhs; whnf)
noncomputable def fA12 : Arguments := by
  refine (fun (_ : fA (nth (clB (nth pb 9)) 5) = ?k) => ?k) ?h
  case h => (conv => lhs; whnf)
noncomputable def fB12 : FuncBody := by
  refine (fun (_ : fB (nth (clB (nth pb 9)) 5) = ?k) => ?k) ?h
  case h => (conv => lhs; whnf)
noncomputable def fS12 : Scope := by
  refine (fun (_ : fS (nth (clB (nth pb 9)) 5) = ?k) => ?k) ?h
  case h => (conv => lhs; whnf)
noncomputable def fA13 : Arguments := by
  refine (fun (_ : fA (nth (clB (nth pb 9)) 6) = ?k) => ?k) ?h
  case h => (conv => lhs; whnf)
noncomputable def fB13 : FuncBody := by
  refine (fun (_ : fB (nth (clB (nth pb 9)) 6) = ?k) => ?k) ?h
  case h => (conv => lhs; whnf)
noncomputable def fS13 : Scope := by
  refine (fun (_ : fS (nth (clB (nth pb 9)) 6) = ?k) => ?k) ?h
  case h => (conv => lhs; whnf)
noncomputable def fA14 : Arguments := by
  refine (fun (_ : fA (nth (clB (nth pb 9)) 8) = ?k) => ?k) ?h
  case h => (conv => lhs; whnf)
noncomputable def fB14 : FuncBody := by
  refine (fun (_ : fB (nth (clB (nth pb 9)) 8) = ?k) => ?k) ?h
  case h => (conv => lhs; whnf)
noncomputable def fS14 : Scope := by
  refine (fun (_ : fS (nth (clB (nth pb 9)) 8) = ?k) => ?k) ?h
  case h => (conv => lhs; whnf)
noncomputable def fA15 : Arguments := by
  refine (fun (_ : fA (nth (clB (nth pb 9)) 9) = ?k) => ?k) ?h
  case h => (conv => lhs; whnf)
noncomputable def fB15 : FuncBody := by
  refine (fun (_ : fB (nth (clB (nth pb 9)) 9) = ?k) => ?k) ?h
  case h => (conv => lhs; whnf)
noncomputable def fS15 : Scope := by
  refine (fun (_ : fS (nth (clB (nth pb 9)) 9) = ?k) => ?k) ?h
  case h => (conv => lhs; whnf)
noncomputable def fA16 : Arguments := by
  refine (fun (_ : fA (nth pb 1) = ?k) => ?k) ?h
  case h => (conv => lhs; whnf)
noncomputable def fB16 : FuncBody := by
  refine (fun (_ : fB (nth pb 1) = ?k) => ?k) ?h
  case h => (conv => lhs; whnf)
noncomputable def fS16 : Scope := by
  refine (fun (_ : fS (nth pb 1) = ?k) => ?k) ?h
  case h => (conv => lhs; whnf)
noncomputable def fA17 : Arguments := by
  refine (fun (_ : fA (nth pb 12) = ?k) => ?k) ?h
  case h => (conv => lhs; whnf)
noncomputable def fB17 : FuncBody := by
  refine (fun (_ : fB (nth pb 12) = ?k) => ?k) ?h
  case h => (conv => lhs; whnf)
noncomputable def fS17 : Scope := by
  refine (fun (_ : fS (nth pb 12) = ?k) => ?k) ?h
  case h => (conv => lhs; whnf)
noncomputable def fA18 : Arguments := by
  refine (fun (_ : fA (nth pb 13) = ?k) => ?k) ?h
  case h => (conv => lhs; whnf)
noncomputable def fB18 : FuncBody := by
  refine (fun (_ : fB (nth pb 13) = ?k) => ?k) ?h
  case h => (conv => lhs; whnf)
noncomputable def fS18 : Scope := by
  refine (fun (_ : fS (nth pb 13) = ?k) => ?k) ?h
  case h => (conv => lhs; whnf)
noncomputable def fA19 : Arguments := by
  refine (fun (_ : fA (nth pb 14) = ?k) => ?k) ?h
  case h => (conv => lhs; whnf)
noncomputable def fB19 : FuncBody := by
  refine (fun (_ : fB (nth pb 14) = ?k) => ?k) ?h
  case h => (conv => lhs; whnf)
noncomputable def fS19 : Scope := by
  refine (fun (_ : fS (nth pb 14) = ?k) => ?k) ?h
  case h => (conv => lhs; whnf)
noncomputable def fA20 : Arguments := by
  refine (fun (_ : fA (nth pb 15) = ?k) => ?k) ?h
  case h => (conv => lhs; whnf)
noncomputable def fB20 : FuncBody := by
  refine (fun (_ : fB (nth pb 15) = ?k) => ?k) ?h
  case h => (conv => lhs; whnf)
noncomputable def fS20 : Scope := by
  refine (fun (_ : fS (nth pb 15) = ?k) => ?k) ?h
  case h => (conv => lhs; whnf)
noncomputable def fA21 : Arguments := by
  refine (fun (_ : fA (nth pb 16) = ?k) => ?k) ?h
  case h => (conv => lhs; whnf)
noncomputable def fB21 : FuncBody := by
  refine (fun (_ : fB (nth pb 16) = ?k) => ?k) ?h
  case h => (conv => lhs; whnf)
noncomputable def fS21 : Scope := by
  refine (fun (_ : fS (nth pb 16) = ?k) => ?k) ?h
  case h => (conv => lhs; whnf)
noncomputable def fA22 : Arguments := by
  refine (fun (_ : fA (nth pb 17) = ?k) => ?k) ?h
  case h => (conv => lhs; whnf)
noncomputable def fB22 : FuncBody := by
  refine (fun (_ : fB (nth pb 17) = ?k) => ?k) ?h
  case h => (conv => lhs; whnf)
noncomputable def fS22 : Scope := by
  refine (fun (_ : fS (nth pb 17) = ?k) => ?k) ?h
  case h => (conv => lhs; whnf)
noncomputable def fA23 : Arguments := by
  refine (fun (_ : fA (nth pb 18) = ?k) => ?k) ?h
  case h => (conv => lhs; whnf)
noncomputable def fB23 : FuncBody := by
  refine (fun (_ : fB (nth pb 18) = ?k) => ?k) ?h
  case h => (conv => lhs; whnf)
noncomputable def fS23 : Scope := by
  refine (fun (_ : fS (nth pb 18) = ?k) => ?k) ?h
  case h => (conv => lhs; whnf)
noncomputable def fA24 : Arguments := by
  refine (fun (_ : fA (nth pb 19) = ?k) => ?k) ?h
  case h => (conv => lhs; whnf)
noncomputable def fB24 : FuncBody := by
  refine (fun (_ : fB (nth pb 19) = ?k) => ?k) ?h
  case h => (conv => lhs; whnf)
noncomputable def fS24 : Scope := by
  refine (fun (_ : fS (nth pb 19) = ?k) => ?k) ?h
  case h => (conv => lhs; whnf)
noncomputable def fA25 : Arguments := by
  refine (fun (_ : fA (nth pb 20) = ?k) => ?k) ?h
  case h => (conv => lhs; whnf)
noncomputable def fB25 : FuncBody := by
  refine (fun (_ : fB (nth pb 20) = ?k) => ?k) ?h
  case h => (conv => lhs; whnf)
noncomputable def fS25 : Scope := by
  refine (fun (_ : fS (nth pb 20) = ?k) => ?k) ?h
  case h => (conv => lhs; whnf)
noncomputable def fA26 : Arguments := by
  refine (fun (_ : fA (nth pb 21) = ?k) => ?k) ?h
  case h => (conv => lhs; whnf)
noncomputable def fB26 : FuncBody := by
  refine (fun (_ : fB (nth pb 21) = ?k) => ?k) ?h
  case h => (conv => lhs; whnf)
noncomputable def fS26 : Scope := by
  refine (fun (_ : fS (nth pb 21) = ?k) => ?k) ?h
  case h => (conv => lhs; whnf)
noncomputable def fA27 : Arguments := by
  refine (fun (_ : fA (nth pb 22) = ?k) => ?k) ?h
  case h => (conv => lhs; whnf)
noncomputable def fB27 : FuncBody := by
  refine (fun (_ : fB (nth pb 22) = ?k) => ?k) ?h
  case h => (conv => lhs; whnf)
noncomputable def fS27 : Scope := by
  refine (fun (_ : fS (nth pb 22) = ?k) => ?k) ?h
  case h => (conv => lhs; whnf)
noncomputable def fA28 : Arguments := by
  refine (fun (_ : fA (nth pb 5) = ?k) => ?k) ?h
  case h => (conv => lhs; whnf)
noncomputable def fB28 : FuncBody := by
  refine (fun (_ : fB (nth pb 5) = ?k) => ?k) ?h
  case h => (conv => lhs; whnf)
noncomputable def fS28 : Scope := by
  refine (fun (_ : fS (nth pb 5) = ?k) => ?k) ?h
  case h => (conv => lhs; whnf)
noncomputable def o0 (P : Params) : Obj := ⟨(.type "dict"), none, (.dict #[eS P "__name__" 1 (vS "builtins" 160), eS P "__doc__" 2 (.builtin "builtins.__doc__:str#opaque"), eS P "__package__" 3 (.builtin "builtins.__package__:str#opaque"), eS P "__loader__" 4 (.builtin "builtins.__loader__:shared#opaque"), eS P "__spec__" 5 (.builtin "builtins.__spec__#opaque"), eS P "__build_class__" 6 (.builtin "__build_class__"), eS P "__import__" 7 (.builtin "__import__"), eS P "abs" 8 (.builtin "abs"), eS P "all" 9 (.builtin "all"), eS P "any" 10 (.builtin "any"), eS P "ascii" 11 (.builtin "ascii"), eS P "bin" 12 (.builtin "bin"), eS P "breakpoint" 13 (.builtin "breakpoint"), eS P "callable" 14 (.builtin "callable"), eS P "chr" 15 (.builtin "chr"), eS P "compile" 16 (.builtin "compile"), eS P "delattr" 17 (.builtin "delattr"), eS P "dir" 18 (.builtin "dir"), eS P "divmod" 19 (.builtin "divmod"), eS P "eval" 20 (.builtin "eval"), eS P "exec" 21 (.builtin "exec"), eS P "format" 22 (.builtin "format"), eS P "getattr" 23 (.builtin "getattr"), eS P "globals" 24 (.builtin "globals"), eS P "hasattr" 25 (.builtin "hasattr"), eS P "hash" 26 (.builtin "hash"), eS P "hex" 27 (.builtin "hex"), eS P "id" 28 (.builtin "id"), eS P "input" 29 (.builtin "input"), eS P "isinstance" 30 (.builtin "isinstance"), eS P "issubclass" 31 (.builtin "issubclass"), eS P "iter" 32 (.builtin "iter"), eS P "aiter" 33 (.builtin "aiter"), eS P "len" 34 (.builtin "len"), eS P "locals" 35 (.builtin "locals"), eS P "max" 36 (.builtin "max"), eS P "min" 37 (.builtin "min"), eS P "next" 38 (.builtin "next"), eS P "anext" 39 (.builtin "anext"), eS P "oct" 40 (.builtin "oct"), eS P "ord" 41 (.builtin "ord"), eS P "pow" 42 (.builtin "pow"), eS P "print" 43 (.builtin "print"), eS P "repr" 44 (.builtin "repr"), eS P "round" 45 (.builtin "round"), eS P "setattr" 46 (.builtin "setattr"), eS P "sorted" 47 (.builtin "sorted"), eS P "sum" 48 (.builtin "sum"), eS P "vars" 49 (.builtin "vars"), eS P "None" 50 .none, eS P "Ellipsis" 51 .ellipsis, eS P "NotImplemented" 52 .notImplemented, eS P "False" 53 (.bool false), eS P "True" 54 (.bool true), eS P "bool" 55 (.type "bool"), eS P "memoryview" 56 (.type "memoryview"), eS P "bytearray" 57 (.type "bytearray"), eS P "bytes" 58 (.type "bytes"), eS P "classmethod" 59 (.type "classmethod"), eS P "complex" 60 (.type "complex"), eS P "dict" 61 (.type "dict"), eS P "enumerate" 62 (.type "enumerate"), eS P "filter" 63 (.type "filter"), eS P "float" 64 (.type "float"), eS P "frozenset" 65 (.type "frozenset"), eS P "property" 66 (.type "property"), eS P "int" 67 (.type "int"), eS P "list" 68 (.type "list"), eS P "map" 69 (.type "map"), eS P "object" 70 (.type "object"), eS P "range" 71 (.type "range"), eS P "reversed" 72 (.type "reversed"), eS P "set" 73 (.type "set"), eS P "slice" 74 (.type "slice"), eS P "staticmethod" 75 (.type "staticmethod"), eS P "str" 76 (.type "str"), eS P "super" 77 (.type "super"), eS P "tuple" 78 (.type "tuple"), eS P "type" 79 (.type "type"), eS P "zip" 80 (.type "zip"), eS P "__debug__" 81 (.bool true), eS P "BaseException" 82 (.type "BaseException"), eS P "BaseExceptionGroup" 83 (.type "BaseExceptionGroup"), eS P "Exception" 84 (.type "Exception"), eS P "GeneratorExit" 85 (.type "GeneratorExit"), eS P "KeyboardInterrupt" 86 (.type "KeyboardInterrupt"), eS P "SystemExit" 87 (.type "SystemExit"), eS P "ArithmeticError" 88 (.type "ArithmeticError"), eS P "AssertionError" 89 (.type "AssertionError"), eS P "AttributeError" 90 (.type "AttributeError"), eS P "BufferError" 91 (.type "BufferError"), eS P "EOFError" 92 (.type "EOFError"), eS P "ImportError" 93 (.type "ImportError"), eS P "LookupError" 94 (.type "LookupError"), eS P "MemoryError" 95 (.type "MemoryError"), eS P "NameError" 96 (.type "NameError"), eS P "OSError" 97 (.type "OSError"), eS P "ReferenceError" 98 (.type "ReferenceError"), eS P "RuntimeError" 99 (.type "RuntimeError"), eS P "StopAsyncIteration" 100 (.type "StopAsyncIteration"), eS P "StopIteration" 101 (.type "StopIteration"), eS P "SyntaxError" 102 (.type "SyntaxError"), eS P "SystemError" 103 (.type "SystemError"), eS P "TypeError" 104 (.type "TypeError"), eS P "ValueError" 105 (.type "ValueError"), eS P "Warning" 106 (.type "Warning"), eS P "FloatingPointError" 107 (.type "FloatingPointError"), eS P "OverflowError" 108 (.type "OverflowError"), eS P "ZeroDivisionError" 109 (.type "ZeroDivisionError"), eS P "BytesWarning" 110 (.type "BytesWarning"), eS P "DeprecationWarning" 111 (.type "DeprecationWarning"), eS P "EncodingWarning" 112 (.type "EncodingWarning"), eS P "FutureWarning" 113 (.type "FutureWarning"), eS P "ImportWarning" 114 (.type "ImportWarning"), eS P "PendingDeprecationWarning" 115 (.type "PendingDeprecationWarning"), eS P "ResourceWarning" 116 (.type "ResourceWarning"), eS P "RuntimeWarning" 117 (.type "RuntimeWarning"), eS P "SyntaxWarning" 118 (.type "SyntaxWarning"), eS P "UnicodeWarning" 119 (.type "UnicodeWarning"), eS P "UserWarning" 120 (.type "UserWarning"), eS P "BlockingIOError" 121 (.type "BlockingIOError"), eS P "ChildProcessError" 122 (.type "ChildProcessError"), eS P "ConnectionError" 123 (.type "ConnectionError"), eS P "FileExistsError" 124 (.type "FileExistsError"), eS P "FileNotFoundError" 125 (.type "FileNotFoundError"), eS P "InterruptedError" 126 (.type "InterruptedError"), eS P "IsADirectoryError" 127 (.type "IsADirectoryError"), eS P "NotADirectoryError" 128 (.type "NotADirectoryError"), eS P "PermissionError" 129 (.type "PermissionError"), eS P "ProcessLookupError" 130 (.type "ProcessLookupError"), eS P "TimeoutError" 131 (.type "TimeoutError"), eS P "IndentationError" 132 (.type "IndentationError"), eS P "_IncompleteInputError" 133 (.type "_IncompleteInputError"), eS P "IndexError" 134 (.type "IndexError"), eS P "KeyError" 135 (.type "KeyError"), eS P "ModuleNotFoundError" 136 (.type "ModuleNotFoundError"), eS P "NotImplementedError" 137 (.type "NotImplementedError"), eS P "PythonFinalizationError" 138 (.type "PythonFinalizationError"), eS P "RecursionError" 139 (.type "RecursionError"), eS P "UnboundLocalError" 140 (.type "UnboundLocalError"), eS P "UnicodeError" 141 (.type "UnicodeError"), eS P "BrokenPipeError" 142 (.type "BrokenPipeError"), eS P "ConnectionAbortedError" 143 (.type "ConnectionAbortedError"), eS P "ConnectionRefusedError" 144 (.type "ConnectionRefusedError"), eS P "ConnectionResetError" 145 (.type "ConnectionResetError"), eS P "TabError" 146 (.type "TabError"), eS P "UnicodeDecodeError" 147 (.type "UnicodeDecodeError"), eS P "UnicodeEncodeError" 148 (.type "UnicodeEncodeError"), eS P "UnicodeTranslateError" 149 (.type "UnicodeTranslateError"), eS P "ExceptionGroup" 150 (.type "ExceptionGroup"), eS P "EnvironmentError" 151 (.type "OSError"), eS P "IOError" 152 (.type "OSError"), eS P "open" 153 (.builtin "open"), eS P "quit" 154 (.builtin "builtins.quit#opaque"), eS P "exit" 155 (.builtin "builtins.exit#opaque"), eS P "copyright" 156 (.builtin "builtins.copyright#opaque"), eS P "credits" 157 (.builtin "builtins.credits#opaque"), eS P "license" 158 (.builtin "builtins.license#opaque"), eS P "help" 159 (.builtin "builtins.help#opaque")] 159), #[]⟩
noncomputable def o1 (P : Params) : Obj := ⟨(.type "dict"), none, (.dict #[eS P "builtins" 162 (rf 4), eS P "__main__" 163 (rf 5), eS P "_collections" 246 (rf 13)] 3), #[]⟩
noncomputable def o2 (P : Params) : Obj := ⟨.none, none, (.dict #[eS P "\x69mport.loaded._collections" 185 (.bool true), eS P "class._frozen_importlib.BuiltinImporter" 187 (rf 15), eS P "watched.\x69mport" 208 (rf 19), eS P "class._frozen_importlib.ModuleSpec" 218 (rf 23), eS P "sys.modules.booked-epoch" 247 (.int 3 0), eS P "sys.modules.landed._collections" 248 (.bool true), eS P "\x69mport.later-laid._collections" 263 (.bool true), eS P "watched.library" 265 (rf 28), eS P "watched.library-objects" 0 (vS "\x0d" 0), eS P "watched.library-deep._collections" 266 (vS "\x04\x00\x00\x0c\x04\x00\x00\x0c\x04\x00\x00\x03\x04\x00\x00\x0c\x08\x04dict\x02" 0)] 10), #[]⟩
noncomputable def o3 (P : Params) : Obj := ⟨(.type "dict"), none, (.dict #[eS P "__name__" 165 (vS "__main__" 164), eS P "__doc__" 166 .none, eS P "__package__" 167 .none, eS P "__loader__" 168 (.builtin "__main__.__loader__#opaque"), eS P "__spec__" 169 .none, eS P "__annotations__" 170 (rf 6), eS P "__builtins__" 171 (rf 4), eS P "__file__" 173 (vS "/claim/cut.py" 172), eS P "__cached__" 174 .none, eS P "defaultdict" 272 (.type "collections.defaultdict")] 10), #[]⟩
noncomputable def o4 (P : Params) : Obj := ⟨(.type "module"), (some 0), .plain, #[]⟩
noncomputable def o5 (P : Params) : Obj := ⟨(.type "module"), (some 3), .plain, #[]⟩
noncomputable def o6 (P : Params) : Obj := ⟨(.type "dict"), none, (.dict #[] 0), #[]⟩
noncomputable def o7 (P : Params) : Obj := ⟨(.type "tuple"), none, (.seq #[] 0), #[]⟩
noncomputable def o8 (P : Params) : Obj := ⟨.none, none, (.fields #[]), #[]⟩
noncomputable def o9 (P : Params) : Obj := ⟨(.type "code"), none, (.fields #[(vS "<module>" 176), (vS "<module>" 177), (vS "/claim/cut.py" 178), (.int 1 0), (.int 0 0), (.int 0 0), (.int 0 0), (.int 0 0), (rf 7), (.bool false), (.int 175 0), (rf 8), .none, .none, .none, .none, (.int 179 0), (.int 1 0), (vS "/claim/cut.py" 180)]), #[]⟩
noncomputable def o10 (P : Params) : Obj := ⟨(.type "frame"), none, .plain, #[(some (rf 9)), (some (rf 3)), (some (rf 3)), none, (some (vS "__main__" 164)), none, (some (rf 0))]⟩
noncomputable def o11 (P : Params) : Obj := ⟨(.type "tuple"), none, (.seq #[(vS "defaultdict" 182)] 0), #[]⟩
noncomputable def o12 (P : Params) : Obj := ⟨(.type "dict"), none, (.dict #[eS P "__name__" 250 (vS "_collections" 249), eS P "__doc__" 251 (.builtin "off-the-table:_collections.__doc__:shared#opaque"), eS P "__package__" 253 (vS "" 252), eS P "__loader__" 254 (.builtin "off-the-table:_collections.__loader__:shared#opaque"), eS P "__spec__" 255 (.builtin "off-the-table:_collections.__spec__:shared#opaque"), eS P "_count_elements" 256 (.builtin "_collections._count_elements"), eS P "deque" 257 (.type "collections.deque"), eS P "defaultdict" 258 (.type "collections.defaultdict"), eS P "_deque_iterator" 259 (.builtin "off-the-table:_collections._deque_iterator:shared#opaque"), eS P "_deque_reverse_iterator" 260 (.builtin "off-the-table:_collections._deque_reverse_iterator:shared#opaque"), eS P "_tuplegetter" 261 (.type "collections._tuplegetter"), eS P "OrderedDict" 262 (.type "collections.OrderedDict")] 12), #[]⟩
noncomputable def o13 (P : Params) : Obj := ⟨(.type "module"), (some 12), .plain, #[]⟩
noncomputable def o14 (P : Params) : Obj := ⟨(.type "dict"), none, (.dict #[eS P "__module__" 191 (vS "_frozen_importlib" 188), eS P "__firstlineno__" 192 (.int 971 189), eS P "__doc__" 193 (.builtin "_frozen_importlib.BuiltinImporter.__doc__:str#opaque"), eS P "_ORIGIN" 194 (vS "built-in" 190), eS P "find_spec" 195 (.builtin "_frozen_importlib.BuiltinImporter.find_spec#opaque"), eS P "create_module" 196 (.builtin "_frozen_importlib.BuiltinImporter.create_module#opaque"), eS P "exec_module" 197 (.builtin "_frozen_importlib.BuiltinImporter.exec_module#opaque"), eS P "get_code" 198 (.builtin "_frozen_importlib.BuiltinImporter.get_code#opaque"), eS P "get_source" 199 (.builtin "_frozen_importlib.BuiltinImporter.get_source#opaque"), eS P "is_package" 200 (.builtin "_frozen_importlib.BuiltinImporter.is_package#opaque"), eS P "load_module" 201 (.builtin "_frozen_importlib.BuiltinImporter.load_module#opaque"), eS P "__static_attributes__" 202 (rf 16), eS P "__dict__" 204 (rf 17), eS P "__weakref__" 206 (rf 18)] 14), #[]⟩
noncomputable def o15 (P : Params) : Obj := ⟨(.type "type"), none, (.cls ⟨(Str.ofString "BuiltinImporter"), [(.type "object")], [(rf 15), (.type "object")], 14, (Str.ofString "BuiltinImporter"), true, [], [], false, none, false⟩), #[]⟩
noncomputable def o16 (P : Params) : Obj := ⟨(.type "getset_descriptor"), none, (.fields #[(vS "__dict__" 203), (rf 15), (.builtin "function.__dict__"), (.builtin "function.__dict__#set")]), #[]⟩
noncomputable def o17 (P : Params) : Obj := ⟨(.type "getset_descriptor"), none, (.fields #[(vS "__weakref__" 205), (rf 15), (.builtin "ExceptionGroup.__weakref__"), .none]), #[]⟩
noncomputable def o18 (P : Params) : Obj := ⟨.none, none, (.seq #[(.int 14 0), (.str ⟨#[6, 191, 10, 95, 95, 109, 111, 100, 117, 108, 101, 95, 95, 6, 188, 17, 95, 102, 114, 111, 122, 101, 110, 95, 105, 109, 112, 111, 114, 116, 108, 105, 98, 6, 192, 15, 95, 95, 102, 105, 114, 115, 116, 108, 105, 110, 101, 110, 111, 95, 95, 4, 189, 0, 971, 6, 193, 7, 95, 95, 100, 111, 99, 95, 95, 9, 52, 95, 102, 114, 111, 122, 101, 110, 95, 105, 109, 112, 111, 114, 116, 108, 105, 98, 46, 66, 117, 105, 108, 116, 105, 110, 73, 109, 112, 111, 114, 116, 101, 114, 46, 95, 95, 100, 111, 99, 95, 95, 58, 115, 116, 114, 35, 111, 112, 97, 113, 117, 101, 6, 194, 7, 95, 79, 82, 73, 71, 73, 78, 6, 190, 8, 98, 117, 105, 108, 116, 45, 105, 110, 6, 195, 9, 102, 105, 110, 100, 95, 115, 112, 101, 99, 9, 50, 95, 102, 114, 111, 122, 101, 110, 95, 105, 109, 112, 111, 114, 116, 108, 105, 98, 46, 66, 117, 105, 108, 116, 105, 110, 73, 109, 112, 111, 114, 116, 101, 114, 46, 102, 105, 110, 100, 95, 115, 112, 101, 99, 35, 111, 112, 97, 113, 117, 101, 6, 196, 13, 99, 114, 101, 97, 116, 101, 95, 109, 111, 100, 117, 108, 101, 9, 54, 95, 102, 114, 111, 122, 101, 110, 95, 105, 109, 112, 111, 114, 116, 108, 105, 98, 46, 66, 117, 105, 108, 116, 105, 110, 73, 109, 112, 111, 114, 116, 101, 114, 46, 99, 114, 101, 97, 116, 101, 95, 109, 111, 100, 117, 108, 101, 35, 111, 112, 97, 113, 117, 101, 6, 197, 11, 101, 120, 101, 99, 95, 109, 111, 100, 117, 108, 101, 9, 52, 95, 102, 114, 111, 122, 101, 110, 95, 105, 109, 112, 111, 114, 116, 108, 105, 98, 46, 66, 117, 105, 108, 116, 105, 110, 73, 109, 112, 111, 114, 116, 101, 114, 46, 101, 120, 101, 99, 95, 109, 111, 100, 117, 108, 101, 35, 111, 112, 97, 113, 117, 101, 6, 198, 8, 103, 101, 116, 95, 99, 111, 100, 101, 9, 49, 95, 102, 114, 111, 122, 101, 110, 95, 105, 109, 112, 111, 114, 116, 108, 105, 98, 46, 66, 117, 105, 108, 116, 105, 110, 73, 109, 112, 111, 114, 116, 101, 114, 46, 103, 101, 116, 95, 99, 111, 100, 101, 35, 111, 112, 97, 113, 117, 101, 6, 199, 10, 103, 101, 116, 95, 115, 111, 117, 114, 99, 101, 9, 51, 95, 102, 114, 111, 122, 101, 110, 95, 105, 109, 112, 111, 114, 116, 108, 105, 98, 46, 66, 117, 105, 108, 116, 105, 110, 73, 109, 112, 111, 114, 116, 101, 114, 46, 103, 101, 116, 95, 115, 111, 117, 114, 99, 101, 35, 111, 112, 97, 113, 117, 101, 6, 200, 10, 105, 115, 95, 112, 97, 99, 107, 97, 103, 101, 9, 51, 95, 102, 114, 111, 122, 101, 110, 95, 105, 109, 112, 111, 114, 116, 108, 105, 98, 46, 66, 117, 105, 108, 116, 105, 110, 73, 109, 112, 111, 114, 116, 101, 114, 46, 105, 115, 95, 112, 97, 99, 107, 97, 103, 101, 35, 111, 112, 97, 113, 117, 101, 6, 201, 11, 108, 111, 97, 100, 95, 109, 111, 100, 117, 108, 101, 9, 52, 95, 102, 114, 111, 122, 101, 110, 95, 105, 109, 112, 111, 114, 116, 108, 105, 98, 46, 66, 117, 105, 108, 116, 105, 110, 73, 109, 112, 111, 114, 116, 101, 114, 46, 108, 111, 97, 100, 95, 109, 111, 100, 117, 108, 101, 35, 111, 112, 97, 113, 117, 101, 6, 202, 21, 95, 95, 115, 116, 97, 116, 105, 99, 95, 97, 116, 116, 114, 105, 98, 117, 116, 101, 115, 95, 95, 4, 0, 0, 16, 6, 204, 8, 95, 95, 100, 105, 99, 116, 95, 95, 4, 0, 0, 17, 6, 206, 11, 95, 95, 119, 101, 97, 107, 114, 101, 102, 95, 95, 4, 0, 0, 18]⟩ 0), (.bool true), (.bool true), (vS "" 207), (.int 22 0), (.str ⟨#[6, 229, 10, 95, 95, 109, 111, 100, 117, 108, 101, 95, 95, 6, 219, 17, 95, 102, 114, 111, 122, 101, 110, 95, 105, 109, 112, 111, 114, 116, 108, 105, 98, 6, 230, 15, 95, 95, 102, 105, 114, 115, 116, 108, 105, 110, 101, 110, 111, 95, 95, 4, 220, 0, 562, 6, 231, 7, 95, 95, 100, 111, 99, 95, 95, 9, 47, 95, 102, 114, 111, 122, 101, 110, 95, 105, 109, 112, 111, 114, 116, 108, 105, 98, 46, 77, 111, 100, 117, 108, 101, 83, 112, 101, 99, 46, 95, 95, 100, 111, 99, 95, 95, 58, 115, 116, 114, 35, 111, 112, 97, 113, 117, 101, 6, 232, 8, 95, 95, 105, 110, 105, 116, 95, 95, 9, 44, 95, 102, 114, 111, 122, 101, 110, 95, 105, 109, 112, 111, 114, 116, 108, 105, 98, 46, 77, 111, 100, 117, 108, 101, 83, 112, 101, 99, 46, 95, 95, 105, 110, 105, 116, 95, 95, 35, 111, 112, 97, 113, 117, 101, 6, 233, 8, 95, 95, 114, 101, 112, 114, 95, 95, 9, 44, 95, 102, 114, 111, 122, 101, 110, 95, 105, 109, 112, 111, 114, 116, 108, 105, 98, 46, 77, 111, 100, 117, 108, 101, 83, 112, 101, 99, 46, 95, 95, 114, 101, 112, 114, 95, 95, 35, 111, 112, 97, 113, 117, 101, 6, 234, 6, 95, 95, 101, 113, 95, 95, 9, 42, 95, 102, 114, 111, 122, 101, 110, 95, 105, 109, 112, 111, 114, 116, 108, 105, 98, 46, 77, 111, 100, 117, 108, 101, 83, 112, 101, 99, 46, 95, 95, 101, 113, 95, 95, 35, 111, 112, 97, 113, 117, 101, 6, 235, 6, 99, 97, 99, 104, 101, 100, 9, 42, 95, 102, 114, 111, 122, 101, 110, 95, 105, 109, 112, 111, 114, 116, 108, 105, 98, 46, 77, 111, 100, 117, 108, 101, 83, 112, 101, 99, 46, 99, 97, 99, 104, 101, 100, 35, 111, 112, 97, 113, 117, 101, 6, 236, 6, 112, 97, 114, 101, 110, 116, 9, 42, 95, 102, 114, 111, 122, 101, 110, 95, 105, 109, 112, 111, 114, 116, 108, 105, 98, 46, 77, 111, 100, 117, 108, 101, 83, 112, 101, 99, 46, 112, 97, 114, 101, 110, 116, 35, 111, 112, 97, 113, 117, 101, 6, 237, 12, 104, 97, 115, 95, 108, 111, 99, 97, 116, 105, 111, 110, 9, 48, 95, 102, 114, 111, 122, 101, 110, 95, 105, 109, 112, 111, 114, 116, 108, 105, 98, 46, 77, 111, 100, 117, 108, 101, 83, 112, 101, 99, 46, 104, 97, 115, 95, 108, 111, 99, 97, 116, 105, 111, 110, 35, 111, 112, 97, 113, 117, 101, 6, 238, 21, 95, 95, 115, 116, 97, 116, 105, 99, 95, 97, 116, 116, 114, 105, 98, 117, 116, 101, 115, 95, 95, 4, 0, 0, 24, 6, 240, 8, 95, 95, 100, 105, 99, 116, 95, 95, 4, 0, 0, 25, 6, 242, 11, 95, 95, 119, 101, 97, 107, 114, 101, 102, 95, 95, 4, 0, 0, 26, 6, 243, 8, 95, 95, 104, 97, 115, 104, 95, 95, 0]⟩ 0), (.bool true), (.bool true), (vS "" 244)] 1), #[]⟩
noncomputable def o19 (P : Params) : Obj := ⟨(.type "list"), none, (.seq #[] 0), #[]⟩
noncomputable def o20 (P : Params) : Obj := ⟨(.type "dict"), none, (.dict #[eS P "name" 210 (vS "_collections" 209), eS P "loader" 211 (rf 15), eS P "origin" 212 (vS "built-in" 186), eS P "loader_state" 213 .none, eS P "submodule_search_locations" 214 .none, eS P "_uninitialized_submodules" 215 (rf 20), eS P "_set_fileattr" 216 (.bool false), eS P "_cached" 217 .none, eS P "_initializing" 245 (.bool false)] 9), #[]⟩
noncomputable def o21 (P : Params) : Obj := ⟨(.type "dict"), none, (.dict #[eS P "__module__" 229 (vS "_frozen_importlib" 219), eS P "__firstlineno__" 230 (.int 562 220), eS P "__doc__" 231 (.builtin "_frozen_importlib.ModuleSpec.__doc__:str#opaque"), eS P "__init__" 232 (.builtin "_frozen_importlib.ModuleSpec.__init__#opaque"), eS P "__repr__" 233 (.builtin "_frozen_importlib.ModuleSpec.__repr__#opaque"), eS P "__eq__" 234 (.builtin "_frozen_importlib.ModuleSpec.__eq__#opaque"), eS P "cached" 235 (.builtin "_frozen_importlib.ModuleSpec.cached#opaque"), eS P "parent" 236 (.builtin "_frozen_importlib.ModuleSpec.parent#opaque"), eS P "has_location" 237 (.builtin "_frozen_importlib.ModuleSpec.has_location#opaque"), eS P "__static_attributes__" 238 (rf 24), eS P "__dict__" 240 (rf 25), eS P "__weakref__" 242 (rf 26), eS P "__hash__" 243 .none] 13), #[]⟩
noncomputable def o22 (P : Params) : Obj := ⟨(.type "type"), none, (.cls ⟨(Str.ofString "ModuleSpec"), [(.type "object")], [(rf 23), (.type "object")], 22, (Str.ofString "ModuleSpec"), true, [], [], false, none, false⟩), #[]⟩
noncomputable def o23 (P : Params) : Obj := ⟨(.type "tuple"), none, (.seq #[(vS "_cached" 221), (vS "_set_fileattr" 222), (vS "_uninitialized_submodules" 223), (vS "loader" 224), (vS "loader_state" 225), (vS "name" 226), (vS "origin" 227), (vS "submodule_search_locations" 228)] 0), #[]⟩
noncomputable def o24 (P : Params) : Obj := ⟨(.type "getset_descriptor"), none, (.fields #[(vS "__dict__" 239), (rf 23), (.builtin "function.__dict__"), (.builtin "function.__dict__#set")]), #[]⟩
noncomputable def o25 (P : Params) : Obj := ⟨(.type "getset_descriptor"), none, (.fields #[(vS "__weakref__" 241), (rf 23), (.builtin "ExceptionGroup.__weakref__"), .none]), #[]⟩
noncomputable def o26 (P : Params) : Obj := ⟨(rf 23), (some 21), .plain, #[]⟩
noncomputable def o27 (P : Params) : Obj := ⟨.none, none, (.seq #[(.int 12 0), (.str ⟨#[6, 250, 8, 95, 95, 110, 97, 109, 101, 95, 95, 6, 249, 12, 95, 99, 111, 108, 108, 101, 99, 116, 105, 111, 110, 115, 6, 251, 7, 95, 95, 100, 111, 99, 95, 95, 9, 31, 95, 99, 111, 108, 108, 101, 99, 116, 105, 111, 110, 115, 46, 95, 95, 100, 111, 99, 95, 95, 58, 115, 116, 114, 35, 111, 112, 97, 113, 117, 101, 6, 253, 11, 95, 95, 112, 97, 99, 107, 97, 103, 101, 95, 95, 6, 252, 0, 6, 254, 10, 95, 95, 108, 111, 97, 100, 101, 114, 95, 95, 4, 0, 0, 15, 6, 255, 8, 95, 95, 115, 112, 101, 99, 95, 95, 4, 0, 0, 27, 6, 256, 15, 95, 99, 111, 117, 110, 116, 95, 101, 108, 101, 109, 101, 110, 116, 115, 9, 28, 95, 99, 111, 108, 108, 101, 99, 116, 105, 111, 110, 115, 46, 95, 99, 111, 117, 110, 116, 95, 101, 108, 101, 109, 101, 110, 116, 115, 6, 257, 5, 100, 101, 113, 117, 101, 8, 17, 99, 111, 108, 108, 101, 99, 116, 105, 111, 110, 115, 46, 100, 101, 113, 117, 101, 6, 258, 11, 100, 101, 102, 97, 117, 108, 116, 100, 105, 99, 116, 8, 23, 99, 111, 108, 108, 101, 99, 116, 105, 111, 110, 115, 46, 100, 101, 102, 97, 117, 108, 116, 100, 105, 99, 116, 6, 259, 15, 95, 100, 101, 113, 117, 101, 95, 105, 116, 101, 114, 97, 116, 111, 114, 8, 27, 99, 111, 108, 108, 101, 99, 116, 105, 111, 110, 115, 46, 95, 100, 101, 113, 117, 101, 95, 105, 116, 101, 114, 97, 116, 111, 114, 6, 260, 23, 95, 100, 101, 113, 117, 101, 95, 114, 101, 118, 101, 114, 115, 101, 95, 105, 116, 101, 114, 97, 116, 111, 114, 8, 35, 99, 111, 108, 108, 101, 99, 116, 105, 111, 110, 115, 46, 95, 100, 101, 113, 117, 101, 95, 114, 101, 118, 101, 114, 115, 101, 95, 105, 116, 101, 114, 97, 116, 111, 114, 6, 261, 12, 95, 116, 117, 112, 108, 101, 103, 101, 116, 116, 101, 114, 8, 24, 99, 111, 108, 108, 101, 99, 116, 105, 111, 110, 115, 46, 95, 116, 117, 112, 108, 101, 103, 101, 116, 116, 101, 114, 6, 262, 11, 79, 114, 100, 101, 114, 101, 100, 68, 105, 99, 116, 8, 23, 99, 111, 108, 108, 101, 99, 116, 105, 111, 110, 115, 46, 79, 114, 100, 101, 114, 101, 100, 68, 105, 99, 116]⟩ 0), (.bool true), (.bool false), (vS "_collections" 264)] 0), #[]⟩
noncomputable def o28 (P : Params) : Obj := ⟨(.type "code"), none, (.fields #[(vS "<module>" 274), (vS "<module>" 275), (vS "/claim/cut.py" 276), (.int 1 0), (.int 0 0), (.int 0 0), (.int 0 0), (.int 0 0), (rf 29), (.bool false), (.int 273 0), (rf 30), .none, .none, .none, .none, (.int 277 0), (.int 1 0), (vS "/claim/cut.py" 278)]), #[]⟩
noncomputable def o29 (P : Params) : Obj := ⟨(.type "frame"), none, .plain, #[(some (rf 31)), (some (rf 3)), (some (rf 3)), none, (some (vS "__main__" 164)), none, (some (rf 0))]⟩
noncomputable def o30 (P : Params) : Obj := ⟨(.type "dict"), none, (.dict #[eS P "__name__" 165 (vS "cpy313.importlib.metadata._collections" 349), eS P "__doc__" 166 .none, eS P "__package__" 167 .none, eS P "__loader__" 168 (.builtin "__main__.__loader__#opaque"), eS P "__spec__" 169 .none, eS P "__annotations__" 170 (rf 6), eS P "__builtins__" 171 (rf 4), eS P "__file__" 173 (vS "/claim/cut.py" 172), eS P "__cached__" 174 .none, eS P "defaultdict" 272 (.type "collections.defaultdict"), eS P "_wall" 285 (rf 39), eS P "filterfalse" 337 (rf 72), eS P "_difference" 348 (rf 83)] 13), #[]⟩
noncomputable def o31 (P : Params) : Obj := ⟨.none, none, (.fields #[(.int 2 0), (.int 0 0), (rf 38), (.int 6 0), (.int 0 0), (rf 45), (.int 26 0), (.int 0 0), (rf 82)]), #[]⟩
noncomputable def o32 (P : Params) : Obj := ⟨(.type "tuple"), none, (.seq #[(vS "k" 282)] 0), #[]⟩
noncomputable def o33 (P : Params) : Obj := ⟨.none, none, (.func ⟨(Str.ofString "_wall"), (Str.ofString "_wall"), fA16, fB16, fS16, 0, [], .none, .none, .none, .none, none, .none, .none, 0⟩), #[]⟩
noncomputable def o34 (P : Params) : Obj := ⟨(.type "code"), none, (.fields #[(vS "_wall" 279), (vS "_wall" 280), (vS "/claim/cut.py" 281), (.int 2 0), (.int 1 0), (.int 0 0), (.int 0 0), (.int 3 0), (rf 33), (.bool true), (.int 273 0), (rf 34), .none, (rf 35), (rf 36), (rf 37), (.int 283 0), (.int 2 0), (vS "/claim/cut.py" 284)]), #[]⟩
noncomputable def o35 (P : Params) : Obj := ⟨(.type "function"), none, (.func ⟨(Str.ofString "_wall"), (Str.ofString "_wall"), fA16, fB16, fS16, 3, [], .none, .none, .none, (vS "__main__" 164), none, (rf 38), .none, 0⟩), #[]⟩
noncomputable def o36 (P : Params) : Obj := ⟨(.type "builtin_function_or_method"), none, (.fields #[(.builtin "type.__prepare__"), (.type "type")]), #[]⟩
noncomputable def o37 (P : Params) : Obj := ⟨(.type "dict"), none, (.dict #[eS P "__module__" 295 (vS "itertools" 286), eS P "__qualname__" 297 (vS "filterfalse" 296), eS P "__firstlineno__" 299 (.int 6 298), eS P "__slots__" 302 (rf 47), eS P "__init__" 311 (rf 54), eS P "__iter__" 318 (rf 61), eS P "__next__" 327 (rf 68), eS P "__static_attributes__" 330 (rf 69)] 8), #[]⟩
noncomputable def o38 (P : Params) : Obj := ⟨.none, none, (.fields #[(.int 9 0), (.int 4 0), (rf 53), (.int 13 0), (.int 4 0), (rf 60), (.int 16 0), (.int 4 0), (rf 67)]), #[]⟩
noncomputable def o39 (P : Params) : Obj := ⟨(.type "code"), none, (.fields #[(vS "filterfalse" 290), (vS "filterfalse" 291), (vS "/claim/cut.py" 292), (.int 6 0), (.int 0 0), (.int 0 0), (.int 0 0), (.int 0 0), (rf 43), (.bool false), (.int 273 0), (rf 44), .none, .none, .none, .none, (.int 293 0), (.int 6 0), (vS "/claim/cut.py" 294)]), #[]⟩
noncomputable def o40 (P : Params) : Obj := ⟨(.type "frame"), none, .plain, #[(some (rf 45)), (some (rf 3)), (some (rf 42)), none, (some (vS "itertools" 286)), none, (some (rf 0))]⟩
noncomputable def o41 (P : Params) : Obj := ⟨(.type "tuple"), none, (.seq #[(vS "_it" 300), (vS "_func" 301)] 0), #[]⟩
noncomputable def o42 (P : Params) : Obj := ⟨(.type "tuple"), none, (.seq #[(vS "self" 306), (vS "function" 307), (vS "iterable" 308)] 0), #[]⟩
noncomputable def o43 (P : Params) : Obj := ⟨.none, none, (.func ⟨(Str.ofString "__init__"), (Str.ofString "filterfalse.__init__"), fA1, fB1, fS1, 0, [], .none, .none, .none, .none, none, .none, .none, 0⟩), #[]⟩
noncomputable def o44 (P : Params) : Obj := ⟨(.type "code"), none, (.fields #[(vS "__init__" 303), (vS "filterfalse.__init__" 304), (vS "/claim/cut.py" 305), (.int 9 0), (.int 3 0), (.int 3 0), (.int 0 0), (.int 3 0), (rf 48), (.bool true), (.int 273 0), (rf 49), .none, (rf 50), (rf 51), (rf 52), (.int 309 0), (.int 9 0), (vS "/claim/cut.py" 310)]), #[]⟩
noncomputable def o45 (P : Params) : Obj := ⟨(.type "function"), none, (.func ⟨(Str.ofString "__init__"), (Str.ofString "filterfalse.__init__"), fA1, fB1, fS1, 3, [], .none, .none, .none, (vS "itertools" 286), none, (rf 53), .none, 0⟩), #[]⟩
noncomputable def o46 (P : Params) : Obj := ⟨(.type "tuple"), none, (.seq #[(vS "self" 315)] 0), #[]⟩
noncomputable def o47 (P : Params) : Obj := ⟨.none, none, (.func ⟨(Str.ofString "__iter__"), (Str.ofString "filterfalse.__iter__"), fA2, fB2, fS2, 0, [], .none, .none, .none, .none, none, .none, .none, 0⟩), #[]⟩
noncomputable def o48 (P : Params) : Obj := ⟨(.type "code"), none, (.fields #[(vS "__iter__" 312), (vS "filterfalse.__iter__" 313), (vS "/claim/cut.py" 314), (.int 13 0), (.int 1 0), (.int 0 0), (.int 0 0), (.int 3 0), (rf 55), (.bool true), (.int 273 0), (rf 56), .none, (rf 57), (rf 58), (rf 59), (.int 316 0), (.int 13 0), (vS "/claim/cut.py" 317)]), #[]⟩
noncomputable def o49 (P : Params) : Obj := ⟨(.type "function"), none, (.func ⟨(Str.ofString "__iter__"), (Str.ofString "filterfalse.__iter__"), fA2, fB2, fS2, 3, [], .none, .none, .none, (vS "itertools" 286), none, (rf 60), .none, 0⟩), #[]⟩
noncomputable def o50 (P : Params) : Obj := ⟨(.type "tuple"), none, (.seq #[(vS "self" 322), (vS "func" 323), (vS "item" 324)] 0), #[]⟩
noncomputable def o51 (P : Params) : Obj := ⟨.none, none, (.func ⟨(Str.ofString "__next__"), (Str.ofString "filterfalse.__next__"), fA3, fB3, fS3, 0, [], .none, .none, .none, .none, none, .none, .none, 0⟩), #[]⟩
noncomputable def o52 (P : Params) : Obj := ⟨(.type "code"), none, (.fields #[(vS "__next__" 319), (vS "filterfalse.__next__" 320), (vS "/claim/cut.py" 321), (.int 16 0), (.int 1 0), (.int 0 0), (.int 0 0), (.int 3 0), (rf 62), (.bool true), (.int 273 0), (rf 63), .none, (rf 64), (rf 65), (rf 66), (.int 325 0), (.int 16 0), (vS "/claim/cut.py" 326)]), #[]⟩
noncomputable def o53 (P : Params) : Obj := ⟨(.type "function"), none, (.func ⟨(Str.ofString "__next__"), (Str.ofString "filterfalse.__next__"), fA3, fB3, fS3, 3, [], .none, .none, .none, (vS "itertools" 286), none, (rf 67), .none, 0⟩), #[]⟩
noncomputable def o54 (P : Params) : Obj := ⟨(.type "tuple"), none, (.seq #[(vS "_func" 328), (vS "_it" 329)] 0), #[]⟩
noncomputable def o55 (P : Params) : Obj := ⟨(.type "list"), none, (.seq #[(vS "_it" 300), (vS "_func" 301)] 1), #[]⟩
noncomputable def o56 (P : Params) : Obj := ⟨(.type "dict"), none, (.dict #[eS P "__module__" 295 (vS "itertools" 286), eS P "__firstlineno__" 299 (.int 6 298), eS P "__slots__" 302 (rf 47), eS P "__init__" 311 (rf 54), eS P "__iter__" 318 (rf 61), eS P "__next__" 327 (rf 68), eS P "__static_attributes__" 330 (rf 69), eS P "_func" 332 (rf 73), eS P "_it" 334 (rf 74), eS P "__doc__" 335 .none] 4), #[]⟩
noncomputable def o57 (P : Params) : Obj := ⟨(.type "type"), none, (.cls ⟨(Str.ofString "filterfalse"), [(.type "object")], [(rf 72), (.type "object")], 71, (Str.ofString "filterfalse"), false, [(Str.ofString "_func"), (Str.ofString "_it")], [], false, none, false⟩), #[none, none, (some (vS "filterfalse" 288)), (some (vS "filterfalse" 296)), (some (.builtin "object.__new__")), (some (.bool false))]⟩
noncomputable def o58 (P : Params) : Obj := ⟨(.type "member_descriptor"), none, (.fields #[(vS "_func" 331), (rf 72), (.builtin "proto.slot"), (.builtin "proto.slot#set"), (.int 1 0)]), #[]⟩
noncomputable def o59 (P : Params) : Obj := ⟨(.type "member_descriptor"), none, (.fields #[(vS "_it" 333), (rf 72), (.builtin "proto.slot"), (.builtin "proto.slot#set"), (.int 0 0)]), #[]⟩
noncomputable def o60 (P : Params) : Obj := ⟨(.type "super"), none, (.fields #[(rf 72), (rf 72), (rf 72)]), #[]⟩
noncomputable def o61 (P : Params) : Obj := ⟨(.type "builtin_function_or_method"), none, (.fields #[(.builtin "object.__init_subclass__"), (rf 72)]), #[]⟩
noncomputable def o62 (P : Params) : Obj := ⟨(.type "tuple"), none, (.seq #[(vS "minuend" 343), (vS "subtrahend" 344)] 0), #[]⟩
noncomputable def o63 (P : Params) : Obj := ⟨.none, none, (.func ⟨(Str.ofString "_difference"), (Str.ofString "_difference"), fA28, fB28, fS28, 0, [], .none, .none, .none, .none, none, .none, .none, 0⟩), #[]⟩
noncomputable def o64 (P : Params) : Obj := ⟨(.type "code"), none, (.fields #[(vS "_difference" 340), (vS "_difference" 341), (vS "/claim/cut.py" 342), (.int 26 0), (.int 2 0), (.int 0 0), (.int 0 0), (.int 3 0), (rf 77), (.bool true), (.int 273 0), (rf 78), .none, (rf 79), (rf 80), (rf 81), (.int 345 0), (.int 26 0), (vS "/claim/cut.py" 346)]), #[]⟩
noncomputable def o65 (P : Params) : Obj := ⟨(.type "function"), none, (.func ⟨(Str.ofString "_difference"), (Str.ofString "_difference"), fA28, fB28, fS28, 3, [], .none, .none, (.str ⟨#[10, 82, 101, 116, 117, 114, 110, 32, 105, 116, 101, 109, 115, 32, 105, 110, 32, 109, 105, 110, 117, 101, 110, 100, 32, 110, 111, 116, 32, 105, 110, 32, 115, 117, 98, 116, 114, 97, 104, 101, 110, 100, 44, 32, 114, 101, 116, 97, 105, 110, 105, 110, 103, 32, 111, 114, 100, 101, 114, 10, 119, 105, 116, 104, 32, 79, 40, 49, 41, 32, 108, 111, 111, 107, 117, 112, 46, 10]⟩ 347), (vS "cpy313.zipfile._path" 338), none, (rf 82), .none, 0⟩), #[]⟩
noncomputable def o66 (P : Params) : Obj := ⟨(.type "dict"), none, (.dict #[eS P "__name__" 165 (vS "cpy313.importlib.metadata._collections" 349), eS P "__doc__" 166 .none, eS P "__package__" 167 .none, eS P "__loader__" 168 (.builtin "__main__.__loader__#opaque"), eS P "__spec__" 169 .none, eS P "__annotations__" 170 (rf 6), eS P "__builtins__" 171 (rf 4), eS P "__file__" 173 (vS "/claim/cut.py" 172), eS P "__cached__" 174 .none, eS P "defaultdict" 272 (.type "collections.defaultdict"), eS P "_wall" 285 (rf 39), eS P "filterfalse" 337 (rf 72), eS P "_difference" 348 (rf 83), eS P "_tuplegetter" 407 (rf 122)] 14), #[]⟩
noncomputable def o67 (P : Params) : Obj := ⟨.none, none, (.fields #[(.int 2 0), (.int 0 0), (rf 38), (.int 6 0), (.int 0 0), (rf 45), (.int 26 0), (.int 0 0), (rf 82), (.int 33 0), (.int 0 0), (rf 89)]), #[]⟩
noncomputable def o68 (P : Params) : Obj := ⟨(.type "dict"), none, (.dict #[eS P "__module__" 358 (vS "cpy313.importlib.metadata._collections" 349), eS P "__qualname__" 360 (vS "_tuplegetter" 359), eS P "__firstlineno__" 362 (.int 33 361), eS P "__init__" 371 (rf 97), eS P "__get__" 380 (rf 105), eS P "__set__" 389 (rf 112), eS P "__delete__" 397 (rf 119), eS P "__static_attributes__" 400 (rf 120)] 8), #[]⟩
noncomputable def o69 (P : Params) : Obj := ⟨.none, none, (.fields #[(.int 35 0), (.int 4 0), (rf 96), (.int 39 0), (.int 4 0), (rf 104), (.int 46 0), (.int 4 0), (rf 111), (.int 49 0), (.int 4 0), (rf 118)]), #[]⟩
noncomputable def o70 (P : Params) : Obj := ⟨(.type "code"), none, (.fields #[(vS "_tuplegetter" 353), (vS "_tuplegetter" 354), (vS "/claim/cut.py" 355), (.int 33 0), (.int 0 0), (.int 0 0), (.int 0 0), (.int 0 0), (rf 87), (.bool false), (.int 273 0), (rf 88), .none, .none, .none, .none, (.int 356 0), (.int 33 0), (vS "/claim/cut.py" 357)]), #[]⟩
noncomputable def o71 (P : Params) : Obj := ⟨(.type "frame"), none, .plain, #[(some (rf 89)), (some (rf 3)), (some (rf 86)), none, (some (vS "cpy313.importlib.metadata._collections" 349)), none, (some (rf 0))]⟩
noncomputable def o72 (P : Params) : Obj := ⟨(.type "tuple"), none, (.seq #[(vS "self" 366), (vS "index" 367), (vS "doc" 368)] 0), #[]⟩
noncomputable def o73 (P : Params) : Obj := ⟨.none, none, (.func ⟨(Str.ofString "__init__"), (Str.ofString "_tuplegetter.__init__"), fA4, fB4, fS4, 0, [], .none, .none, .none, .none, none, .none, .none, 0⟩), #[]⟩
noncomputable def o74 (P : Params) : Obj := ⟨(.type "code"), none, (.fields #[(vS "__init__" 363), (vS "_tuplegetter.__init__" 364), (vS "/claim/cut.py" 365), (.int 35 0), (.int 3 0), (.int 0 0), (.int 0 0), (.int 3 0), (rf 91), (.bool true), (.int 273 0), (rf 92), .none, (rf 93), (rf 94), (rf 95), (.int 369 0), (.int 35 0), (vS "/claim/cut.py" 370)]), #[]⟩
noncomputable def o75 (P : Params) : Obj := ⟨(.type "function"), none, (.func ⟨(Str.ofString "__init__"), (Str.ofString "_tuplegetter.__init__"), fA4, fB4, fS4, 3, [], .none, .none, .none, (vS "cpy313.importlib.metadata._collections" 349), none, (rf 96), .none, 0⟩), #[]⟩
noncomputable def o76 (P : Params) : Obj := ⟨(.type "tuple"), none, (.seq #[.none] 0), #[]⟩
noncomputable def o77 (P : Params) : Obj := ⟨(.type "tuple"), none, (.seq #[(vS "self" 375), (vS "obj" 376), (vS "objtype" 377)] 0), #[]⟩
noncomputable def o78 (P : Params) : Obj := ⟨.none, none, (.func ⟨(Str.ofString "__get__"), (Str.ofString "_tuplegetter.__get__"), fA5, fB5, fS5, 0, [], .none, .none, .none, .none, none, .none, .none, 0⟩), #[]⟩
noncomputable def o79 (P : Params) : Obj := ⟨(.type "code"), none, (.fields #[(vS "__get__" 372), (vS "_tuplegetter.__get__" 373), (vS "/claim/cut.py" 374), (.int 39 0), (.int 3 0), (.int 0 0), (.int 0 0), (.int 3 0), (rf 99), (.bool true), (.int 273 0), (rf 100), .none, (rf 101), (rf 102), (rf 103), (.int 378 0), (.int 39 0), (vS "/claim/cut.py" 379)]), #[]⟩
noncomputable def o80 (P : Params) : Obj := ⟨(.type "function"), none, (.func ⟨(Str.ofString "__get__"), (Str.ofString "_tuplegetter.__get__"), fA5, fB5, fS5, 3, [], (rf 98), .none, .none, (vS "cpy313.importlib.metadata._collections" 349), none, (rf 104), .none, 0⟩), #[]⟩
noncomputable def o81 (P : Params) : Obj := ⟨(.type "tuple"), none, (.seq #[(vS "self" 384), (vS "obj" 385), (vS "value" 386)] 0), #[]⟩
noncomputable def o82 (P : Params) : Obj := ⟨.none, none, (.func ⟨(Str.ofString "__set__"), (Str.ofString "_tuplegetter.__set__"), fA6, fB6, fS6, 0, [], .none, .none, .none, .none, none, .none, .none, 0⟩), #[]⟩
noncomputable def o83 (P : Params) : Obj := ⟨(.type "code"), none, (.fields #[(vS "__set__" 381), (vS "_tuplegetter.__set__" 382), (vS "/claim/cut.py" 383), (.int 46 0), (.int 3 0), (.int 0 0), (.int 0 0), (.int 3 0), (rf 106), (.bool true), (.int 273 0), (rf 107), .none, (rf 108), (rf 109), (rf 110), (.int 387 0), (.int 46 0), (vS "/claim/cut.py" 388)]), #[]⟩
noncomputable def o84 (P : Params) : Obj := ⟨(.type "function"), none, (.func ⟨(Str.ofString "__set__"), (Str.ofString "_tuplegetter.__set__"), fA6, fB6, fS6, 3, [], .none, .none, .none, (vS "cpy313.importlib.metadata._collections" 349), none, (rf 111), .none, 0⟩), #[]⟩
noncomputable def o85 (P : Params) : Obj := ⟨(.type "tuple"), none, (.seq #[(vS "self" 393), (vS "obj" 394)] 0), #[]⟩
noncomputable def o86 (P : Params) : Obj := ⟨.none, none, (.func ⟨(Str.ofString "__delete__"), (Str.ofString "_tuplegetter.__delete__"), fA7, fB7, fS7, 0, [], .none, .none, .none, .none, none, .none, .none, 0⟩), #[]⟩
noncomputable def o87 (P : Params) : Obj := ⟨(.type "code"), none, (.fields #[(vS "__delete__" 390), (vS "_tuplegetter.__delete__" 391), (vS "/claim/cut.py" 392), (.int 49 0), (.int 2 0), (.int 0 0), (.int 0 0), (.int 3 0), (rf 113), (.bool true), (.int 273 0), (rf 114), .none, (rf 115), (rf 116), (rf 117), (.int 395 0), (.int 49 0), (vS "/claim/cut.py" 396)]), #[]⟩
noncomputable def o88 (P : Params) : Obj := ⟨(.type "function"), none, (.func ⟨(Str.ofString "__delete__"), (Str.ofString "_tuplegetter.__delete__"), fA7, fB7, fS7, 3, [], .none, .none, .none, (vS "cpy313.importlib.metadata._collections" 349), none, (rf 118), .none, 0⟩), #[]⟩
noncomputable def o89 (P : Params) : Obj := ⟨(.type "tuple"), none, (.seq #[(vS "__doc__" 398), (vS "index" 399)] 0), #[]⟩
noncomputable def o90 (P : Params) : Obj := ⟨(.type "dict"), none, (.dict #[eS P "__module__" 358 (vS "cpy313.importlib.metadata._collections" 349), eS P "__firstlineno__" 362 (.int 33 361), eS P "__init__" 371 (rf 97), eS P "__get__" 380 (rf 105), eS P "__set__" 389 (rf 112), eS P "__delete__" 397 (rf 119), eS P "__static_attributes__" 400 (rf 120), eS P "__dict__" 402 (rf 123), eS P "__weakref__" 404 (rf 124), eS P "__doc__" 405 .none] 4), #[]⟩
noncomputable def o91 (P : Params) : Obj := ⟨(.type "type"), none, (.cls ⟨(Str.ofString "_tuplegetter"), [(.type "object")], [(rf 122), (.type "object")], 121, (Str.ofString "_tuplegetter"), true, [], [], false, none, false⟩), #[none, none, (some (vS "_tuplegetter" 351)), (some (vS "_tuplegetter" 359)), (some (.builtin "object.__new__")), (some (.bool true))]⟩
noncomputable def o92 (P : Params) : Obj := ⟨(.type "getset_descriptor"), none, (.fields #[(vS "__dict__" 401), (rf 122), (.builtin "function.__dict__"), (.builtin "function.__dict__#set")]), #[]⟩
noncomputable def o93 (P : Params) : Obj := ⟨(.type "getset_descriptor"), none, (.fields #[(vS "__weakref__" 403), (rf 122), (.builtin "ExceptionGroup.__weakref__"), .none]), #[]⟩
noncomputable def o94 (P : Params) : Obj := ⟨(.type "super"), none, (.fields #[(rf 122), (rf 122), (rf 122)]), #[]⟩
noncomputable def o95 (P : Params) : Obj := ⟨(.type "builtin_function_or_method"), none, (.fields #[(.builtin "object.__init_subclass__"), (rf 122)]), #[]⟩
noncomputable def o96 (P : Params) : Obj := ⟨.none, none, (.dict #[eS P "\x69mport.loaded._collections" 185 (.bool true), eS P "class._frozen_importlib.BuiltinImporter" 187 (rf 15), eS P "watched.\x69mport" 208 (rf 19), eS P "class._frozen_importlib.ModuleSpec" 218 (rf 23), eS P "sys.modules.booked-epoch" 247 (.int 3 0), eS P "sys.modules.landed._collections" 248 (.bool true), eS P "\x69mport.later-laid._collections" 263 (.bool true), eS P "watched.library" 265 (rf 28), eS P "watched.library-objects" 0 (vS "\x0d" 0), eS P "watched.library-deep._collections" 266 (vS "\x04\x00\x00\x0c\x04\x00\x00\x0c\x04\x00\x00\x03\x04\x00\x00\x0c\x08\x04dict\x02" 0), eS P "type.__subclasses__.collections.defaultdict.0" 447 (.int 152 0), eS P "type.__subclasses__.collections.defaultdict.n" 448 (.int 1 0)] 12), #[]⟩
noncomputable def o97 (P : Params) : Obj := ⟨(.type "dict"), none, (.dict #[eS P "__name__" 165 (vS "cpy313.importlib.metadata._collections" 349), eS P "__doc__" 166 .none, eS P "__package__" 167 .none, eS P "__loader__" 168 (.builtin "__main__.__loader__#opaque"), eS P "__spec__" 169 .none, eS P "__annotations__" 170 (rf 6), eS P "__builtins__" 171 (rf 4), eS P "__file__" 173 (vS "/claim/cut.py" 172), eS P "__cached__" 174 .none, eS P "defaultdict" 272 (.type "collections.defaultdict"), eS P "_wall" 285 (rf 39), eS P "filterfalse" 337 (rf 72), eS P "_difference" 348 (rf 83), eS P "_tuplegetter" 407 (rf 122), eS P "FreezableDefaultDict" 450 (rf 152)] 15), #[]⟩
noncomputable def o98 (P : Params) : Obj := ⟨.none, none, (.fields #[(.int 2 0), (.int 0 0), (rf 38), (.int 6 0), (.int 0 0), (rf 45), (.int 26 0), (.int 0 0), (rf 82), (.int 33 0), (.int 0 0), (rf 89), (.int 51 0), (.int 0 0), (rf 133)]), #[]⟩
noncomputable def o99 (P : Params) : Obj := ⟨(.type "tuple"), none, (.seq #[(.type "collections.defaultdict")] 0), #[]⟩
noncomputable def o100 (P : Params) : Obj := ⟨(.type "dict"), none, (.dict #[eS P "__module__" 415 (vS "cpy313.importlib.metadata._collections" 349), eS P "__qualname__" 417 (vS "FreezableDefaultDict" 416), eS P "__firstlineno__" 419 (.int 51 418), eS P "__doc__" 421 (.str ⟨#[10, 79, 102, 116, 101, 110, 32, 105, 116, 32, 105, 115, 32, 100, 101, 115, 105, 114, 97, 98, 108, 101, 32, 116, 111, 32, 112, 114, 101, 118, 101, 110, 116, 32, 116, 104, 101, 32, 109, 117, 116, 97, 116, 105, 111, 110, 32, 111, 102, 10, 97, 32, 100, 101, 102, 97, 117, 108, 116, 32, 100, 105, 99, 116, 32, 97, 102, 116, 101, 114, 32, 105, 116, 115, 32, 105, 110, 105, 116, 105, 97, 108, 32, 99, 111, 110, 115, 116, 114, 117, 99, 116, 105, 111, 110, 44, 32, 115, 117, 99, 104, 10, 97, 115, 32, 116, 111, 32, 112, 114, 101, 118, 101, 110, 116, 32, 109, 117, 116, 97, 116, 105, 111, 110, 32, 100, 117, 114, 105, 110, 103, 32, 105, 116, 101, 114, 97, 116, 105, 111, 110, 46, 10, 10, 62, 62, 62, 32, 100, 100, 32, 61, 32, 70, 114, 101, 101, 122, 97, 98, 108, 101, 68, 101, 102, 97, 117, 108, 116, 68, 105, 99, 116, 40, 108, 105, 115, 116, 41, 10, 62, 62, 62, 32, 100, 100, 91, 48, 93, 46, 97, 112, 112, 101, 110, 100, 40, 39, 49, 39, 41, 10, 62, 62, 62, 32, 100, 100, 46, 102, 114, 101, 101, 122, 101, 40, 41, 10, 62, 62, 62, 32, 100, 100, 91, 49, 93, 10, 91, 93, 10, 62, 62, 62, 32, 108, 101, 110, 40, 100, 100, 41, 10, 49, 10]⟩ 420), eS P "__missing__" 431 (rf 142), eS P "freeze" 439 (rf 149), eS P "__static_attributes__" 441 (rf 150), eS P "__classcell__" 442 (rf 130)] 8), #[]⟩
noncomputable def o101 (P : Params) : Obj := ⟨(.type "cell"), none, (.cell (some (rf 152))), #[]⟩
noncomputable def o102 (P : Params) : Obj := ⟨.none, none, (.fields #[(.int 66 0), (.int 4 0), (rf 141), (.int 69 0), (.int 4 0), (rf 148)]), #[]⟩
noncomputable def o103 (P : Params) : Obj := ⟨(.type "code"), none, (.fields #[(vS "FreezableDefaultDict" 410), (vS "FreezableDefaultDict" 411), (vS "/claim/cut.py" 412), (.int 51 0), (.int 0 0), (.int 0 0), (.int 0 0), (.int 0 0), (rf 131), (.bool false), (.int 273 0), (rf 132), .none, .none, .none, .none, (.int 413 0), (.int 51 0), (vS "/claim/cut.py" 414)]), #[]⟩
noncomputable def o104 (P : Params) : Obj := ⟨(.type "frame"), none, .plain, #[(some (rf 133)), (some (rf 3)), (some (rf 129)), none, (some (vS "cpy313.importlib.metadata._collections" 349)), none, (some (rf 0))]⟩
noncomputable def o105 (P : Params) : Obj := ⟨(.type "tuple"), none, (.seq #[(rf 130)] 0), #[]⟩
noncomputable def o106 (P : Params) : Obj := ⟨(.type "tuple"), none, (.seq #[(vS "__class__" 426)] 0), #[]⟩
noncomputable def o107 (P : Params) : Obj := ⟨(.type "tuple"), none, (.seq #[(vS "self" 427), (vS "key" 428)] 0), #[]⟩
noncomputable def o108 (P : Params) : Obj := ⟨.none, none, (.func ⟨(Str.ofString "__missing__"), (Str.ofString "FreezableDefaultDict.__missing__"), fA8, fB8, fS8, 0, [], .none, .none, .none, .none, none, .none, .none, 0⟩), #[]⟩
noncomputable def o109 (P : Params) : Obj := ⟨(.type "code"), none, (.fields #[(vS "__missing__" 423), (vS "FreezableDefaultDict.__missing__" 424), (vS "/claim/cut.py" 425), (.int 66 0), (.int 2 0), (.int 0 0), (.int 0 0), (.int 3 0), (rf 136), (.bool true), (.int 273 0), (rf 137), .none, (rf 138), (rf 139), (rf 140), (.int 429 0), (.int 66 0), (vS "/claim/cut.py" 430)]), #[]⟩
noncomputable def o110 (P : Params) : Obj := ⟨(.type "function"), none, (.func ⟨(Str.ofString "__missing__"), (Str.ofString "FreezableDefaultDict.__missing__"), fA8, fB8, fS8, 3, [((Str.ofString "__class__"), 130)], .none, .none, .none, (vS "cpy313.importlib.metadata._collections" 349), none, (rf 141), (rf 135), 0⟩), #[]⟩
noncomputable def o111 (P : Params) : Obj := ⟨(.type "tuple"), none, (.seq #[(vS "self" 435)] 0), #[]⟩
noncomputable def o112 (P : Params) : Obj := ⟨(.type "tuple"), none, (.seq #[(vS "self" 436)] 0), #[]⟩
noncomputable def o113 (P : Params) : Obj := ⟨.none, none, (.func ⟨(Str.ofString "freeze"), (Str.ofString "FreezableDefaultDict.freeze"), fA9, fB9, fS9, 0, [], .none, .none, .none, .none, none, .none, .none, 0⟩), #[]⟩
noncomputable def o114 (P : Params) : Obj := ⟨(.type "code"), none, (.fields #[(vS "freeze" 432), (vS "FreezableDefaultDict.freeze" 433), (vS "/claim/cut.py" 434), (.int 69 0), (.int 1 0), (.int 0 0), (.int 0 0), (.int 3 0), (rf 143), (.bool true), (.int 273 0), (rf 144), .none, (rf 145), (rf 146), (rf 147), (.int 437 0), (.int 69 0), (vS "/claim/cut.py" 438)]), #[]⟩
noncomputable def o115 (P : Params) : Obj := ⟨(.type "function"), none, (.func ⟨(Str.ofString "freeze"), (Str.ofString "FreezableDefaultDict.freeze"), fA9, fB9, fS9, 3, [], .none, .none, .none, (vS "cpy313.importlib.metadata._collections" 349), none, (rf 148), .none, 0⟩), #[]⟩
noncomputable def o116 (P : Params) : Obj := ⟨(.type "tuple"), none, (.seq #[(vS "_frozen" 440)] 0), #[]⟩
noncomputable def o117 (P : Params) : Obj := ⟨(.type "dict"), none, (.dict #[eS P "__module__" 415 (vS "cpy313.importlib.metadata._collections" 349), eS P "__firstlineno__" 419 (.int 51 418), eS P "__doc__" 421 (.str ⟨#[10, 79, 102, 116, 101, 110, 32, 105, 116, 32, 105, 115, 32, 100, 101, 115, 105, 114, 97, 98, 108, 101, 32, 116, 111, 32, 112, 114, 101, 118, 101, 110, 116, 32, 116, 104, 101, 32, 109, 117, 116, 97, 116, 105, 111, 110, 32, 111, 102, 10, 97, 32, 100, 101, 102, 97, 117, 108, 116, 32, 100, 105, 99, 116, 32, 97, 102, 116, 101, 114, 32, 105, 116, 115, 32, 105, 110, 105, 116, 105, 97, 108, 32, 99, 111, 110, 115, 116, 114, 117, 99, 116, 105, 111, 110, 44, 32, 115, 117, 99, 104, 10, 97, 115, 32, 116, 111, 32, 112, 114, 101, 118, 101, 110, 116, 32, 109, 117, 116, 97, 116, 105, 111, 110, 32, 100, 117, 114, 105, 110, 103, 32, 105, 116, 101, 114, 97, 116, 105, 111, 110, 46, 10, 10, 62, 62, 62, 32, 100, 100, 32, 61, 32, 70, 114, 101, 101, 122, 97, 98, 108, 101, 68, 101, 102, 97, 117, 108, 116, 68, 105, 99, 116, 40, 108, 105, 115, 116, 41, 10, 62, 62, 62, 32, 100, 100, 91, 48, 93, 46, 97, 112, 112, 101, 110, 100, 40, 39, 49, 39, 41, 10, 62, 62, 62, 32, 100, 100, 46, 102, 114, 101, 101, 122, 101, 40, 41, 10, 62, 62, 62, 32, 100, 100, 91, 49, 93, 10, 91, 93, 10, 62, 62, 62, 32, 108, 101, 110, 40, 100, 100, 41, 10, 49, 10]⟩ 420), eS P "__missing__" 431 (rf 142), eS P "freeze" 439 (rf 149), eS P "__static_attributes__" 441 (rf 150), eS P "__dict__" 444 (rf 153), eS P "__weakref__" 446 (rf 154)] 4), #[]⟩
noncomputable def o118 (P : Params) : Obj := ⟨(.type "type"), none, (.cls ⟨(Str.ofString "FreezableDefaultDict"), [(.type "collections.defaultdict")], [(rf 152), (.type "collections.defaultdict"), (.type "dict"), (.type "object")], 151, (Str.ofString "FreezableDefaultDict"), true, [(Str.ofString "")], [], false, none, false⟩), #[(some (rf 127)), none, (some (vS "FreezableDefaultDict" 408)), (some (vS "FreezableDefaultDict" 416)), (some (.builtin "dict.__new__")), (some (.bool true))]⟩
noncomputable def o119 (P : Params) : Obj := ⟨(.type "getset_descriptor"), none, (.fields #[(vS "__dict__" 443), (rf 152), (.builtin "function.__dict__"), (.builtin "function.__dict__#set")]), #[]⟩
noncomputable def o120 (P : Params) : Obj := ⟨(.type "getset_descriptor"), none, (.fields #[(vS "__weakref__" 445), (rf 152), (.builtin "ExceptionGroup.__weakref__"), .none]), #[]⟩
noncomputable def o121 (P : Params) : Obj := ⟨(.type "super"), none, (.fields #[(rf 152), (rf 152), (rf 152)]), #[]⟩
noncomputable def o122 (P : Params) : Obj := ⟨(.type "builtin_function_or_method"), none, (.fields #[(.builtin "object.__init_subclass__"), (rf 152)]), #[]⟩
noncomputable def o123 (P : Params) : Obj := ⟨(.type "dict"), none, (.dict #[eS P "__name__" 165 (vS "cpy313.importlib.metadata._collections" 349), eS P "__doc__" 166 .none, eS P "__package__" 167 .none, eS P "__loader__" 168 (.builtin "__main__.__loader__#opaque"), eS P "__spec__" 169 .none, eS P "__annotations__" 170 (rf 6), eS P "__builtins__" 171 (rf 4), eS P "__file__" 173 (vS "/claim/cut.py" 172), eS P "__cached__" 174 .none, eS P "defaultdict" 272 (.type "collections.defaultdict"), eS P "_wall" 285 (rf 39), eS P "filterfalse" 337 (rf 72), eS P "_difference" 348 (rf 83), eS P "_tuplegetter" 407 (rf 122), eS P "FreezableDefaultDict" 450 (rf 152), eS P "Pair" 565 (rf 224)] 16), #[]⟩
noncomputable def o124 (P : Params) : Obj := ⟨.none, none, (.fields #[(.int 2 0), (.int 0 0), (rf 38), (.int 6 0), (.int 0 0), (rf 45), (.int 26 0), (.int 0 0), (rf 82), (.int 33 0), (.int 0 0), (rf 89), (.int 51 0), (.int 0 0), (rf 133), (.int 71 0), (.int 0 0), (rf 163)]), #[]⟩
noncomputable def o125 (P : Params) : Obj := ⟨(.type "tuple"), none, (.seq #[(.type "tuple")] 0), #[]⟩
noncomputable def o126 (P : Params) : Obj := ⟨(.type "dict"), none, (.dict #[eS P "__module__" 458 (vS "cpy313.importlib.metadata._collections" 349), eS P "__qualname__" 460 (vS "Pair" 459), eS P "__firstlineno__" 462 (.int 71 461), eS P "__doc__" 464 (vS "Pair(name, value)" 463), eS P "__slots__" 466 (rf 165), eS P "_fields" 469 (rf 166), eS P "_field_defaults" 470 (rf 167), eS P "__new__" 480 (rf 174), eS P "_make" 502 (rf 183), eS P "_replace" 513 (rf 192), eS P "__replace__" 514 (rf 192), eS P "__repr__" 522 (rf 199), eS P "_asdict" 529 (rf 206), eS P "__getnewargs__" 537 (rf 213), eS P "__match_args__" 540 (rf 214), eS P "name" 550 (rf 216), eS P "value" 560 (rf 219), eS P "__static_attributes__" 561 (rf 221), eS P "__classcell__" 562 (rf 160)] 19), #[]⟩
noncomputable def o127 (P : Params) : Obj := ⟨(.type "cell"), none, (.cell (some (rf 224))), #[]⟩
noncomputable def o128 (P : Params) : Obj := ⟨.none, none, (.fields #[(.int 77 0), (.int 4 0), (rf 173), (.int 82 0), (.int 4 0), (rf 180), (.int 89 0), (.int 4 0), (rf 191), (.int 100 0), (.int 4 0), (rf 198), (.int 104 0), (.int 4 0), (rf 205), (.int 107 0), (.int 4 0), (rf 212)]), #[]⟩
noncomputable def o129 (P : Params) : Obj := ⟨(.type "code"), none, (.fields #[(vS "Pair" 453), (vS "Pair" 454), (vS "/claim/cut.py" 455), (.int 71 0), (.int 0 0), (.int 0 0), (.int 0 0), (.int 0 0), (rf 161), (.bool false), (.int 273 0), (rf 162), .none, .none, .none, .none, (.int 456 0), (.int 71 0), (vS "/claim/cut.py" 457)]), #[]⟩
noncomputable def o130 (P : Params) : Obj := ⟨(.type "frame"), none, .plain, #[(some (rf 163)), (some (rf 3)), (some (rf 159)), none, (some (vS "cpy313.importlib.metadata._collections" 349)), none, (some (rf 0))]⟩
noncomputable def o131 (P : Params) : Obj := ⟨(.type "tuple"), none, (.seq #[(vS "name" 467), (vS "value" 468)] 0), #[]⟩
noncomputable def o132 (P : Params) : Obj := ⟨(.type "tuple"), none, (.seq #[(vS "_cls" 474), (vS "name" 475), (vS "value" 476)] 0), #[]⟩
noncomputable def o133 (P : Params) : Obj := ⟨.none, none, (.func ⟨(Str.ofString "__new__"), (Str.ofString "Pair.__new__"), fA11, fB11, fS11, 0, [], .none, .none, .none, .none, none, .none, .none, 0⟩), #[]⟩
noncomputable def o134 (P : Params) : Obj := ⟨(.type "code"), none, (.fields #[(vS "__new__" 471), (vS "Pair.__new__" 472), (vS "/claim/cut.py" 473), (.int 77 0), (.int 3 0), (.int 0 0), (.int 0 0), (.int 3 0), (rf 168), (.bool true), (.int 273 0), (rf 169), .none, (rf 170), (rf 171), (rf 172), (.int 477 0), (.int 77 0), (vS "/claim/cut.py" 478)]), #[]⟩
noncomputable def o135 (P : Params) : Obj := ⟨(.type "function"), none, (.func ⟨(Str.ofString "__new__"), (Str.ofString "Pair.__new__"), fA11, fB11, fS11, 3, [], .none, .none, (vS "Create new instance of Pair(name, value)" 479), (vS "cpy313.importlib.metadata._collections" 349), none, (rf 173), .none, 0⟩), #[]⟩
noncomputable def o136 (P : Params) : Obj := ⟨(.type "tuple"), none, (.seq #[(vS "cls" 484), (vS "iterable" 485), (vS "result" 486)] 0), #[]⟩
noncomputable def o137 (P : Params) : Obj := ⟨.none, none, (.func ⟨(Str.ofString "_make"), (Str.ofString "Pair._make"), fA12, fB12, fS12, 0, [], .none, .none, .none, .none, none, .none, .none, 0⟩), #[]⟩
noncomputable def o138 (P : Params) : Obj := ⟨(.type "code"), none, (.fields #[(vS "_make" 481), (vS "Pair._make" 482), (vS "/claim/cut.py" 483), (.int 81 0), (.int 2 0), (.int 0 0), (.int 0 0), (.int 3 0), (rf 175), (.bool true), (.int 273 0), (rf 176), .none, (rf 177), (rf 178), (rf 179), (.int 487 0), (.int 81 0), (vS "/claim/cut.py" 488)]), #[]⟩
noncomputable def o139 (P : Params) : Obj := ⟨(.type "function"), none, (.func ⟨(Str.ofString "_make"), (Str.ofString "Pair._make"), fA12, fB12, fS12, 3, [], .none, .none, (vS "Make a new Pair object from a sequence or iterable" 489), (vS "cpy313.importlib.metadata._collections" 349), (some 184), (rf 180), .none, 0⟩), #[]⟩
noncomputable def o140 (P : Params) : Obj := ⟨(.type "dict"), none, (.dict #[eS P "__module__" 491 (vS "cpy313.importlib.metadata._collections" 349), eS P "__name__" 494 (vS "_make" 493), eS P "__qualname__" 497 (vS "Pair._make" 496), eS P "__doc__" 499 (vS "Make a new Pair object from a sequence or iterable" 489), eS P "__annotations__" 501 (rf 184)] 5), #[]⟩
noncomputable def o141 (P : Params) : Obj := ⟨(.type "classmethod"), (some 182), (.fields #[(rf 181), (.bool false)]), #[]⟩
noncomputable def o142 (P : Params) : Obj := ⟨(.type "tuple"), none, (.seq #[(rf 160)] 0), #[]⟩
noncomputable def o143 (P : Params) : Obj := ⟨(.type "tuple"), none, (.seq #[(vS "__class__" 506)] 0), #[]⟩
noncomputable def o144 (P : Params) : Obj := ⟨(.type "tuple"), none, (.seq #[(vS "self" 507), (vS "kwds" 508), (vS "result" 509)] 0), #[]⟩
noncomputable def o145 (P : Params) : Obj := ⟨.none, none, (.func ⟨(Str.ofString "_replace"), (Str.ofString "Pair._replace"), fA13, fB13, fS13, 0, [], .none, .none, .none, .none, none, .none, .none, 0⟩), #[]⟩
noncomputable def o146 (P : Params) : Obj := ⟨(.type "code"), none, (.fields #[(vS "_replace" 503), (vS "Pair._replace" 504), (vS "/claim/cut.py" 505), (.int 89 0), (.int 1 0), (.int 1 0), (.int 0 0), (.int 11 0), (rf 186), (.bool true), (.int 273 0), (rf 187), .none, (rf 188), (rf 189), (rf 190), (.int 510 0), (.int 89 0), (vS "/claim/cut.py" 511)]), #[]⟩
noncomputable def o147 (P : Params) : Obj := ⟨(.type "function"), none, (.func ⟨(Str.ofString "_replace"), (Str.ofString "Pair._replace"), fA13, fB13, fS13, 3, [((Str.ofString "__class__"), 160)], .none, .none, (.str ⟨#[82, 101, 116, 117, 114, 110, 32, 97, 32, 110, 101, 119, 32, 80, 97, 105, 114, 32, 111, 98, 106, 101, 99, 116, 32, 114, 101, 112, 108, 97, 99, 105, 110, 103, 32, 115, 112, 101, 99, 105, 102, 105, 101, 100, 32, 102, 105, 101, 108, 100, 115, 32, 119, 105, 116, 104, 32, 110, 101, 119, 32, 118, 97, 108, 117, 101, 115]⟩ 512), (vS "cpy313.importlib.metadata._collections" 349), none, (rf 191), (rf 185), 0⟩), #[]⟩
noncomputable def o148 (P : Params) : Obj := ⟨(.type "tuple"), none, (.seq #[(vS "self" 518)] 0), #[]⟩
noncomputable def o149 (P : Params) : Obj := ⟨.none, none, (.func ⟨(Str.ofString "__repr__"), (Str.ofString "Pair.__repr__"), fA14, fB14, fS14, 0, [], .none, .none, .none, .none, none, .none, .none, 0⟩), #[]⟩
noncomputable def o150 (P : Params) : Obj := ⟨(.type "code"), none, (.fields #[(vS "__repr__" 515), (vS "Pair.__repr__" 516), (vS "/claim/cut.py" 517), (.int 100 0), (.int 1 0), (.int 0 0), (.int 0 0), (.int 3 0), (rf 193), (.bool true), (.int 273 0), (rf 194), .none, (rf 195), (rf 196), (rf 197), (.int 519 0), (.int 100 0), (vS "/claim/cut.py" 520)]), #[]⟩
noncomputable def o151 (P : Params) : Obj := ⟨(.type "function"), none, (.func ⟨(Str.ofString "__repr__"), (Str.ofString "Pair.__repr__"), fA14, fB14, fS14, 3, [], .none, .none, (vS "Return a nicely formatted representation string" 521), (vS "cpy313.importlib.metadata._collections" 349), none, (rf 198), .none, 0⟩), #[]⟩
noncomputable def o152 (P : Params) : Obj := ⟨(.type "tuple"), none, (.seq #[(vS "self" 526)] 0), #[]⟩
noncomputable def o153 (P : Params) : Obj := ⟨.none, none, (.func ⟨(Str.ofString "_asdict"), (Str.ofString "Pair._asdict"), fA15, fB15, fS15, 0, [], .none, .none, .none, .none, none, .none, .none, 0⟩), #[]⟩
noncomputable def o154 (P : Params) : Obj := ⟨(.type "code"), none, (.fields #[(vS "_asdict" 523), (vS "Pair._asdict" 524), (vS "/claim/cut.py" 525), (.int 104 0), (.int 1 0), (.int 0 0), (.int 0 0), (.int 3 0), (rf 200), (.bool true), (.int 273 0), (rf 201), .none, (rf 202), (rf 203), (rf 204), (.int 527 0), (.int 104 0), (vS "/claim/cut.py" 528)]), #[]⟩
noncomputable def o155 (P : Params) : Obj := ⟨(.type "function"), none, (.func ⟨(Str.ofString "_asdict"), (Str.ofString "Pair._asdict"), fA15, fB15, fS15, 3, [], .none, .none, .none, (vS "cpy313.importlib.metadata._collections" 349), none, (rf 205), .none, 0⟩), #[]⟩
noncomputable def o156 (P : Params) : Obj := ⟨(.type "tuple"), none, (.seq #[(vS "self" 533)] 0), #[]⟩
noncomputable def o157 (P : Params) : Obj := ⟨.none, none, (.func ⟨(Str.ofString "__getnewargs__"), (Str.ofString "Pair.__getnewargs__"), fA10, fB10, fS10, 0, [], .none, .none, .none, .none, none, .none, .none, 0⟩), #[]⟩
noncomputable def o158 (P : Params) : Obj := ⟨(.type "code"), none, (.fields #[(vS "__getnewargs__" 530), (vS "Pair.__getnewargs__" 531), (vS "/claim/cut.py" 532), (.int 107 0), (.int 1 0), (.int 0 0), (.int 0 0), (.int 3 0), (rf 207), (.bool true), (.int 273 0), (rf 208), .none, (rf 209), (rf 210), (rf 211), (.int 534 0), (.int 107 0), (vS "/claim/cut.py" 535)]), #[]⟩
noncomputable def o159 (P : Params) : Obj := ⟨(.type "function"), none, (.func ⟨(Str.ofString "__getnewargs__"), (Str.ofString "Pair.__getnewargs__"), fA10, fB10, fS10, 3, [], .none, .none, (vS "Return self as a plain tuple.  Used by copy and pickle." 536), (vS "cpy313.importlib.metadata._collections" 349), none, (rf 212), .none, 0⟩), #[]⟩
noncomputable def o160 (P : Params) : Obj := ⟨(.type "tuple"), none, (.seq #[(vS "name" 538), (vS "value" 539)] 0), #[]⟩
noncomputable def o161 (P : Params) : Obj := ⟨(.type "dict"), none, (.dict #[eS P "index" 547 (.int 0 541), eS P "__doc__" 549 (vS "Alias for field number 0" 542)] 2), #[]⟩
noncomputable def o162 (P : Params) : Obj := ⟨(rf 122), (some 215), .plain, #[]⟩
noncomputable def o163 (P : Params) : Obj := ⟨(.type "frame"), none, (.dict #[eS P "self" 543 (rf 216), eS P "index" 544 (.int 0 541), eS P "doc" 545 (vS "Alias for field number 0" 542)] 3), #[]⟩
noncomputable def o164 (P : Params) : Obj := ⟨(.type "dict"), none, (.dict #[eS P "index" 557 (.int 1 551), eS P "__doc__" 559 (vS "Alias for field number 1" 552)] 2), #[]⟩
noncomputable def o165 (P : Params) : Obj := ⟨(rf 122), (some 218), .plain, #[]⟩
noncomputable def o166 (P : Params) : Obj := ⟨(.type "frame"), none, (.dict #[eS P "self" 553 (rf 219), eS P "index" 554 (.int 1 551), eS P "doc" 555 (vS "Alias for field number 1" 552)] 3), #[]⟩
noncomputable def o167 (P : Params) : Obj := ⟨(.type "dict"), none, (.dict #[eS P "__module__" 458 (vS "cpy313.importlib.metadata._collections" 349), eS P "__firstlineno__" 462 (.int 71 461), eS P "__doc__" 464 (vS "Pair(name, value)" 463), eS P "__slots__" 466 (rf 165), eS P "_fields" 469 (rf 166), eS P "_field_defaults" 470 (rf 167), eS P "__new__" 480 (rf 225), eS P "_make" 502 (rf 183), eS P "_replace" 513 (rf 192), eS P "__replace__" 514 (rf 192), eS P "__repr__" 522 (rf 199), eS P "_asdict" 529 (rf 206), eS P "__getnewargs__" 537 (rf 213), eS P "__match_args__" 540 (rf 214), eS P "name" 550 (rf 216), eS P "value" 560 (rf 219), eS P "__static_attributes__" 561 (rf 221)] 2), #[]⟩
noncomputable def o168 (P : Params) : Obj := ⟨(.type "type"), none, (.cls ⟨(Str.ofString "Pair"), [(.type "tuple")], [(rf 224), (.type "tuple"), (.type "object")], 223, (Str.ofString "Pair"), false, [], [], false, none, false⟩), #[(some (rf 157)), none, (some (vS "Pair" 451)), (some (vS "Pair" 459)), (some .none), (some (.bool false))]⟩
noncomputable def o169 (P : Params) : Obj := ⟨(.type "staticmethod"), none, (.fields #[(rf 174)]), #[]⟩
noncomputable def o170 (P : Params) : Obj := ⟨(.type "super"), none, (.fields #[(rf 224), (rf 224), (rf 224)]), #[]⟩
noncomputable def o171 (P : Params) : Obj := ⟨(.type "builtin_function_or_method"), none, (.fields #[(.builtin "object.__init_subclass__"), (rf 224)]), #[]⟩
noncomputable def o172 (P : Params) : Obj := ⟨(.type "dict"), none, (.dict #[eS P "__name__" 165 (vS "law_il0126_02" 604), eS P "__doc__" 166 .none, eS P "__package__" 167 .none, eS P "__loader__" 168 (.builtin "__main__.__loader__#opaque"), eS P "__spec__" 169 .none, eS P "__annotations__" 170 (rf 6), eS P "__builtins__" 171 (rf 4), eS P "__file__" 173 (vS "/claim/cut.py" 172), eS P "__cached__" 174 .none, eS P "defaultdict" 272 (.type "collections.defaultdict"), eS P "_wall" 285 (rf 39), eS P "filterfalse" 337 (rf 72), eS P "_difference" 348 (rf 83), eS P "_tuplegetter" 407 (rf 122), eS P "FreezableDefaultDict" 450 (rf 152), eS P "Pair" 565 (rf 247), eS P "_law_entry" 612 (rf 257), eS P "_law_line" 622 (rf 264), eS P "_law_chosen" 628 (rf 269)] 19), #[]⟩
noncomputable def o173 (P : Params) : Obj := ⟨.none, none, (.fields #[(.int 2 0), (.int 0 0), (rf 38), (.int 6 0), (.int 0 0), (rf 45), (.int 26 0), (.int 0 0), (rf 82), (.int 33 0), (.int 0 0), (rf 89), (.int 51 0), (.int 0 0), (rf 133), (.int 71 0), (.int 0 0), (rf 163), (.int 113 0), (.int 0 0), (rf 233), (.int 119 0), (.int 0 0), (rf 256), (.int 121 0), (.int 0 0), (rf 263), (.int 125 0), (.int 0 0), (rf 268)]), #[]⟩
noncomputable def o174 (P : Params) : Obj := ⟨(.type "type"), none, (.cls ⟨(Str.ofString "Pair"), [(.type "tuple")], [(rf 224), (.type "tuple"), (.type "object")], 223, (Str.ofString "Pair"), false, [], [(rf 247)], false, none, false⟩), #[(some (rf 157)), none, (some (vS "Pair" 451)), (some (vS "Pair" 459)), (some .none), (some (.bool false))]⟩
noncomputable def o175 (P : Params) : Obj := ⟨(.type "tuple"), none, (.seq #[(rf 224)] 0), #[]⟩
noncomputable def o176 (P : Params) : Obj := ⟨(.type "dict"), none, (.dict #[eS P "__module__" 573 (vS "cpy313.importlib.metadata._collections" 349), eS P "__qualname__" 575 (vS "Pair" 574), eS P "__firstlineno__" 577 (.int 113 576), eS P "parse" 597 (rf 243), eS P "__static_attributes__" 598 (rf 245)] 5), #[]⟩
noncomputable def o177 (P : Params) : Obj := ⟨.none, none, (.fields #[(.int 116 0), (.int 4 0), (rf 240)]), #[]⟩
noncomputable def o178 (P : Params) : Obj := ⟨(.type "code"), none, (.fields #[(vS "Pair" 568), (vS "Pair" 569), (vS "/claim/cut.py" 570), (.int 113 0), (.int 0 0), (.int 0 0), (.int 0 0), (.int 0 0), (rf 231), (.bool false), (.int 273 0), (rf 232), .none, .none, .none, .none, (.int 571 0), (.int 113 0), (vS "/claim/cut.py" 572)]), #[]⟩
noncomputable def o179 (P : Params) : Obj := ⟨(.type "frame"), none, .plain, #[(some (rf 233)), (some (rf 3)), (some (rf 230)), none, (some (vS "cpy313.importlib.metadata._collections" 349)), none, (some (rf 0))]⟩
noncomputable def o180 (P : Params) : Obj := ⟨(.type "tuple"), none, (.seq #[(vS "cls" 581), (vS "text" 582)] 0), #[]⟩
noncomputable def o181 (P : Params) : Obj := ⟨.none, none, (.func ⟨(Str.ofString "parse"), (Str.ofString "Pair.parse"), fA0, fB0, fS0, 0, [], .none, .none, .none, .none, none, .none, .none, 0⟩), #[]⟩
noncomputable def o182 (P : Params) : Obj := ⟨(.type "code"), none, (.fields #[(vS "parse" 578), (vS "Pair.parse" 579), (vS "/claim/cut.py" 580), (.int 115 0), (.int 2 0), (.int 0 0), (.int 0 0), (.int 3 0), (rf 235), (.bool true), (.int 273 0), (rf 236), .none, (rf 237), (rf 238), (rf 239), (.int 583 0), (.int 115 0), (vS "/claim/cut.py" 584)]), #[]⟩
noncomputable def o183 (P : Params) : Obj := ⟨(.type "function"), none, (.func ⟨(Str.ofString "parse"), (Str.ofString "Pair.parse"), fA0, fB0, fS0, 3, [], .none, .none, .none, (vS "cpy313.importlib.metadata._collections" 349), (some 244), (rf 240), .none, 0⟩), #[]⟩
noncomputable def o184 (P : Params) : Obj := ⟨(.type "dict"), none, (.dict #[eS P "__module__" 586 (vS "cpy313.importlib.metadata._collections" 349), eS P "__name__" 589 (vS "parse" 588), eS P "__qualname__" 592 (vS "Pair.parse" 591), eS P "__doc__" 594 .none, eS P "__annotations__" 596 (rf 244)] 5), #[]⟩
noncomputable def o185 (P : Params) : Obj := ⟨(.type "classmethod"), (some 242), (.fields #[(rf 241), (.bool false)]), #[]⟩
noncomputable def o186 (P : Params) : Obj := ⟨(.type "dict"), none, (.dict #[eS P "__module__" 573 (vS "cpy313.importlib.metadata._collections" 349), eS P "__firstlineno__" 577 (.int 113 576), eS P "parse" 597 (rf 243), eS P "__static_attributes__" 598 (rf 245), eS P "__dict__" 600 (rf 248), eS P "__doc__" 601 .none] 3), #[]⟩
noncomputable def o187 (P : Params) : Obj := ⟨(.type "type"), none, (.cls ⟨(Str.ofString "Pair"), [(rf 224)], [(rf 247), (rf 224), (.type "tuple"), (.type "object")], 246, (Str.ofString "Pair"), true, [], [], false, none, false⟩), #[(some (rf 228)), none, (some (vS "Pair" 566)), (some (vS "Pair" 574)), (some .none), (some (.bool false))]⟩
noncomputable def o188 (P : Params) : Obj := ⟨(.type "getset_descriptor"), none, (.fields #[(vS "__dict__" 599), (rf 247), (.builtin "function.__dict__"), (.builtin "function.__dict__#set")]), #[]⟩
noncomputable def o189 (P : Params) : Obj := ⟨(.type "super"), none, (.fields #[(rf 247), (rf 247), (rf 247)]), #[]⟩
noncomputable def o190 (P : Params) : Obj := ⟨(.type "builtin_function_or_method"), none, (.fields #[(.builtin "object.__init_subclass__"), (rf 247)]), #[]⟩
noncomputable def o191 (P : Params) : Obj := ⟨(.type "tuple"), none, (.seq #[(vS "number" 609)] 0), #[]⟩
noncomputable def o192 (P : Params) : Obj := ⟨.none, none, (.func ⟨(Str.ofString "_law_entry"), (Str.ofString "_law_entry"), fA17, fB17, fS17, 0, [], .none, .none, .none, .none, none, .none, .none, 0⟩), #[]⟩
noncomputable def o193 (P : Params) : Obj := ⟨(.type "code"), none, (.fields #[(vS "_law_entry" 606), (vS "_law_entry" 607), (vS "/claim/cut.py" 608), (.int 119 0), (.int 1 0), (.int 0 0), (.int 0 0), (.int 3 0), (rf 251), (.bool true), (.int 273 0), (rf 252), .none, (rf 253), (rf 254), (rf 255), (.int 610 0), (.int 119 0), (vS "/claim/cut.py" 611)]), #[]⟩
noncomputable def o194 (P : Params) : Obj := ⟨(.type "function"), none, (.func ⟨(Str.ofString "_law_entry"), (Str.ofString "_law_entry"), fA17, fB17, fS17, 3, [], .none, .none, .none, (vS "law_il0126_02" 604), none, (rf 256), .none, 0⟩), #[]⟩
noncomputable def o195 (P : Params) : Obj := ⟨(.type "tuple"), none, (.seq #[(vS "number" 616), (vS "name" 617), (vS "value" 618), (vS "around" 619)] 0), #[]⟩
noncomputable def o196 (P : Params) : Obj := ⟨.none, none, (.func ⟨(Str.ofString "_law_line"), (Str.ofString "_law_line"), fA18, fB18, fS18, 0, [], .none, .none, .none, .none, none, .none, .none, 0⟩), #[]⟩
noncomputable def o197 (P : Params) : Obj := ⟨(.type "code"), none, (.fields #[(vS "_law_line" 613), (vS "_law_line" 614), (vS "/claim/cut.py" 615), (.int 121 0), (.int 1 0), (.int 0 0), (.int 0 0), (.int 3 0), (rf 258), (.bool true), (.int 273 0), (rf 259), .none, (rf 260), (rf 261), (rf 262), (.int 620 0), (.int 121 0), (vS "/claim/cut.py" 621)]), #[]⟩
noncomputable def o198 (P : Params) : Obj := ⟨(.type "function"), none, (.func ⟨(Str.ofString "_law_line"), (Str.ofString "_law_line"), fA18, fB18, fS18, 3, [], .none, .none, .none, (vS "law_il0126_02" 604), none, (rf 263), .none, 0⟩), #[]⟩
noncomputable def o199 (P : Params) : Obj := ⟨.none, none, (.func ⟨(Str.ofString "_law_chosen"), (Str.ofString "_law_chosen"), fA19, fB19, fS19, 0, [], .none, .none, .none, .none, none, .none, .none, 0⟩), #[]⟩
noncomputable def o200 (P : Params) : Obj := ⟨(.type "code"), none, (.fields #[(vS "_law_chosen" 623), (vS "_law_chosen" 624), (vS "/claim/cut.py" 625), (.int 125 0), (.int 2 0), (.int 0 0), (.int 0 0), (.int 3 0), (rf 265), (.bool true), (.int 273 0), (rf 266), .none, .none, .none, (rf 267), (.int 626 0), (.int 125 0), (vS "/claim/cut.py" 627)]), #[]⟩
noncomputable def o201 (P : Params) : Obj := ⟨(.type "function"), none, (.func ⟨(Str.ofString "_law_chosen"), (Str.ofString "_law_chosen"), fA19, fB19, fS19, 3, [], .none, .none, .none, (vS "law_il0126_02" 604), none, (rf 268), .none, 0⟩), #[]⟩
noncomputable def o202 (P : Params) : Obj := ⟨(.type "dict"), none, (.dict #[eS P "__name__" 165 (vS "law_il0126_02" 604), eS P "__doc__" 166 .none, eS P "__package__" 167 .none, eS P "__loader__" 168 (.builtin "__main__.__loader__#opaque"), eS P "__spec__" 169 .none, eS P "__annotations__" 170 (rf 6), eS P "__builtins__" 171 (rf 4), eS P "__file__" 173 (vS "/claim/cut.py" 172), eS P "__cached__" 174 .none, eS P "defaultdict" 272 (.type "collections.defaultdict"), eS P "_wall" 285 (rf 39), eS P "filterfalse" 337 (rf 72), eS P "_difference" 348 (rf 83), eS P "_tuplegetter" 407 (rf 122), eS P "FreezableDefaultDict" 450 (rf 152), eS P "Pair" 565 (rf 247), eS P "_law_entry" 612 (rf 257), eS P "_law_line" 622 (rf 264), eS P "_law_chosen" 628 (rf 269), eS P "_law_book" 638 (rf 276), eS P "_law_plain" 649 (rf 283), eS P "_law_book_holds" 655 (rf 288), eS P "_law_written" 661 (rf 293), eS P "_law_patch" 667 (rf 298), eS P "_law_patched" 678 (rf 305), eS P "_law_patch_holds" 684 (rf 310), eS P "law" 690 (rf 315)] 27), #[]⟩
noncomputable def o203 (P : Params) : Obj := ⟨.none, none, (.fields #[(.int 2 0), (.int 0 0), (rf 38), (.int 6 0), (.int 0 0), (rf 45), (.int 26 0), (.int 0 0), (rf 82), (.int 33 0), (.int 0 0), (rf 89), (.int 51 0), (.int 0 0), (rf 133), (.int 71 0), (.int 0 0), (rf 163), (.int 113 0), (.int 0 0), (rf 233), (.int 119 0), (.int 0 0), (rf 256), (.int 121 0), (.int 0 0), (rf 263), (.int 125 0), (.int 0 0), (rf 268), (.int 127 0), (.int 0 0), (rf 275), (.int 134 0), (.int 0 0), (rf 282), (.int 140 0), (.int 0 0), (rf 287), (.int 144 0), (.int 0 0), (rf 292), (.int 146 0), (.int 0 0), (rf 297), (.int 148 0), (.int 0 0), (rf 304), (.int 157 0), (.int 0 0), (rf 309), (.int 162 0), (.int 0 0), (rf 314)]), #[]⟩
noncomputable def o204 (P : Params) : Obj := ⟨(.type "tuple"), none, (.seq #[(vS "lines" 632), (vS "book" 633), (vS "line" 634), (vS "pair" 635)] 0), #[]⟩
noncomputable def o205 (P : Params) : Obj := ⟨.none, none, (.func ⟨(Str.ofString "_law_book"), (Str.ofString "_law_book"), fA20, fB20, fS20, 0, [], .none, .none, .none, .none, none, .none, .none, 0⟩), #[]⟩
noncomputable def o206 (P : Params) : Obj := ⟨(.type "code"), none, (.fields #[(vS "_law_book" 629), (vS "_law_book" 630), (vS "/claim/cut.py" 631), (.int 127 0), (.int 1 0), (.int 0 0), (.int 0 0), (.int 3 0), (rf 270), (.bool true), (.int 273 0), (rf 271), .none, (rf 272), (rf 273), (rf 274), (.int 636 0), (.int 127 0), (vS "/claim/cut.py" 637)]), #[]⟩
noncomputable def o207 (P : Params) : Obj := ⟨(.type "function"), none, (.func ⟨(Str.ofString "_law_book"), (Str.ofString "_law_book"), fA20, fB20, fS20, 3, [], .none, .none, .none, (vS "law_il0126_02" 604), none, (rf 275), .none, 0⟩), #[]⟩
noncomputable def o208 (P : Params) : Obj := ⟨(.type "tuple"), none, (.seq #[(vS "numbers" 642), (vS "plain" 643), (vS "number" 644), (vS "name" 645), (vS "value" 646)] 0), #[]⟩
noncomputable def o209 (P : Params) : Obj := ⟨.none, none, (.func ⟨(Str.ofString "_law_plain"), (Str.ofString "_law_plain"), fA21, fB21, fS21, 0, [], .none, .none, .none, .none, none, .none, .none, 0⟩), #[]⟩
noncomputable def o210 (P : Params) : Obj := ⟨(.type "code"), none, (.fields #[(vS "_law_plain" 639), (vS "_law_plain" 640), (vS "/claim/cut.py" 641), (.int 134 0), (.int 1 0), (.int 0 0), (.int 0 0), (.int 3 0), (rf 277), (.bool true), (.int 273 0), (rf 278), .none, (rf 279), (rf 280), (rf 281), (.int 647 0), (.int 134 0), (vS "/claim/cut.py" 648)]), #[]⟩
noncomputable def o211 (P : Params) : Obj := ⟨(.type "function"), none, (.func ⟨(Str.ofString "_law_plain"), (Str.ofString "_law_plain"), fA21, fB21, fS21, 3, [], .none, .none, .none, (vS "law_il0126_02" 604), none, (rf 282), .none, 0⟩), #[]⟩
noncomputable def o212 (P : Params) : Obj := ⟨.none, none, (.func ⟨(Str.ofString "_law_book_holds"), (Str.ofString "_law_book_holds"), fA22, fB22, fS22, 0, [], .none, .none, .none, .none, none, .none, .none, 0⟩), #[]⟩
noncomputable def o213 (P : Params) : Obj := ⟨(.type "code"), none, (.fields #[(vS "_law_book_holds" 650), (vS "_law_book_holds" 651), (vS "/claim/cut.py" 652), (.int 140 0), (.int 2 0), (.int 0 0), (.int 0 0), (.int 3 0), (rf 284), (.bool true), (.int 273 0), (rf 285), .none, .none, .none, (rf 286), (.int 653 0), (.int 140 0), (vS "/claim/cut.py" 654)]), #[]⟩
noncomputable def o214 (P : Params) : Obj := ⟨(.type "function"), none, (.func ⟨(Str.ofString "_law_book_holds"), (Str.ofString "_law_book_holds"), fA22, fB22, fS22, 3, [], .none, .none, .none, (vS "law_il0126_02" 604), none, (rf 287), .none, 0⟩), #[]⟩
noncomputable def o215 (P : Params) : Obj := ⟨.none, none, (.func ⟨(Str.ofString "_law_written"), (Str.ofString "_law_written"), fA23, fB23, fS23, 0, [], .none, .none, .none, .none, none, .none, .none, 0⟩), #[]⟩
noncomputable def o216 (P : Params) : Obj := ⟨(.type "code"), none, (.fields #[(vS "_law_written" 656), (vS "_law_written" 657), (vS "/claim/cut.py" 658), (.int 144 0), (.int 1 0), (.int 0 0), (.int 0 0), (.int 3 0), (rf 289), (.bool true), (.int 273 0), (rf 290), .none, .none, .none, (rf 291), (.int 659 0), (.int 144 0), (vS "/claim/cut.py" 660)]), #[]⟩
noncomputable def o217 (P : Params) : Obj := ⟨(.type "function"), none, (.func ⟨(Str.ofString "_law_written"), (Str.ofString "_law_written"), fA23, fB23, fS23, 3, [], .none, .none, .none, (vS "law_il0126_02" 604), none, (rf 292), .none, 0⟩), #[]⟩
noncomputable def o218 (P : Params) : Obj := ⟨.none, none, (.func ⟨(Str.ofString "_law_patch"), (Str.ofString "_law_patch"), fA24, fB24, fS24, 0, [], .none, .none, .none, .none, none, .none, .none, 0⟩), #[]⟩
noncomputable def o219 (P : Params) : Obj := ⟨(.type "code"), none, (.fields #[(vS "_law_patch" 662), (vS "_law_patch" 663), (vS "/claim/cut.py" 664), (.int 146 0), (.int 2 0), (.int 0 0), (.int 0 0), (.int 3 0), (rf 294), (.bool true), (.int 273 0), (rf 295), .none, .none, .none, (rf 296), (.int 665 0), (.int 146 0), (vS "/claim/cut.py" 666)]), #[]⟩
noncomputable def o220 (P : Params) : Obj := ⟨(.type "function"), none, (.func ⟨(Str.ofString "_law_patch"), (Str.ofString "_law_patch"), fA24, fB24, fS24, 3, [], .none, .none, .none, (vS "law_il0126_02" 604), none, (rf 297), .none, 0⟩), #[]⟩
noncomputable def o221 (P : Params) : Obj := ⟨(.type "tuple"), none, (.seq #[(vS "book" 671), (vS "lines" 672), (vS "state" 673), (vS "line" 674), (vS "pair" 675)] 0), #[]⟩
noncomputable def o222 (P : Params) : Obj := ⟨.none, none, (.func ⟨(Str.ofString "_law_patched"), (Str.ofString "_law_patched"), fA25, fB25, fS25, 0, [], .none, .none, .none, .none, none, .none, .none, 0⟩), #[]⟩
noncomputable def o223 (P : Params) : Obj := ⟨(.type "code"), none, (.fields #[(vS "_law_patched" 668), (vS "_law_patched" 669), (vS "/claim/cut.py" 670), (.int 148 0), (.int 2 0), (.int 0 0), (.int 0 0), (.int 3 0), (rf 299), (.bool true), (.int 273 0), (rf 300), .none, (rf 301), (rf 302), (rf 303), (.int 676 0), (.int 148 0), (vS "/claim/cut.py" 677)]), #[]⟩
noncomputable def o224 (P : Params) : Obj := ⟨(.type "function"), none, (.func ⟨(Str.ofString "_law_patched"), (Str.ofString "_law_patched"), fA25, fB25, fS25, 3, [], .none, .none, .none, (vS "law_il0126_02" 604), none, (rf 304), .none, 0⟩), #[]⟩
noncomputable def o225 (P : Params) : Obj := ⟨.none, none, (.func ⟨(Str.ofString "_law_patch_holds"), (Str.ofString "_law_patch_holds"), fA26, fB26, fS26, 0, [], .none, .none, .none, .none, none, .none, .none, 0⟩), #[]⟩
noncomputable def o226 (P : Params) : Obj := ⟨(.type "code"), none, (.fields #[(vS "_law_patch_holds" 679), (vS "_law_patch_holds" 680), (vS "/claim/cut.py" 681), (.int 157 0), (.int 4 0), (.int 0 0), (.int 0 0), (.int 3 0), (rf 306), (.bool true), (.int 273 0), (rf 307), .none, .none, .none, (rf 308), (.int 682 0), (.int 157 0), (vS "/claim/cut.py" 683)]), #[]⟩
noncomputable def o227 (P : Params) : Obj := ⟨(.type "function"), none, (.func ⟨(Str.ofString "_law_patch_holds"), (Str.ofString "_law_patch_holds"), fA26, fB26, fS26, 3, [], .none, .none, .none, (vS "law_il0126_02" 604), none, (rf 309), .none, 0⟩), #[]⟩
noncomputable def o228 (P : Params) : Obj := ⟨.none, none, (.func ⟨(Str.ofString "law"), (Str.ofString "law"), fA27, fB27, fS27, 0, [], .none, .none, .none, .none, none, .none, .none, 0⟩), #[]⟩
noncomputable def o229 (P : Params) : Obj := ⟨(.type "code"), none, (.fields #[(vS "law" 685), (vS "law" 686), (vS "/claim/cut.py" 687), (.int 162 0), (.int 1 0), (.int 0 0), (.int 0 0), (.int 3 0), (rf 311), (.bool true), (.int 273 0), (rf 312), .none, .none, .none, (rf 313), (.int 688 0), (.int 162 0), (vS "/claim/cut.py" 689)]), #[]⟩
noncomputable def o230 (P : Params) : Obj := ⟨(.type "function"), none, (.func ⟨(Str.ofString "law"), (Str.ofString "law"), fA27, fB27, fS27, 3, [], .none, .none, .none, (vS "law_il0126_02" 604), none, (rf 314), .none, 0⟩), #[]⟩
noncomputable def H0 (P : Params) : Heap := ⟨⟨[o0 P, o1 P, o2 P, o3 P, o4 P, o5 P, o6 P, o7 P, o8 P, o9 P, o10 P, o11 P, o12 P, o13 P, o14 P, o15 P, o7 P, o16 P, o17 P, o18 P, o19 P, o20 P, o21 P, o22 P, o23 P, o24 P, o25 P, o26 P, o27 P]⟩, { known := 0, counting := false, cnt := #[], zero := [], soft := 0 }⟩
noncomputable def H1 (P : Params) : Heap := ⟨⟨[o0 P, o1 P, o2 P, o3 P, o4 P, o5 P, o6 P, o7 P, o8 P, o9 P, o10 P, o11 P, o12 P, o13 P, o14 P, o15 P, o7 P, o16 P, o17 P, o18 P, o19 P, o20 P, o21 P, o22 P, o23 P, o24 P, o25 P, o26 P, o27 P, o7 P, o8 P, o28 P, o29 P]⟩, { known := 0, counting := false, cnt := #[], zero := [], soft := 0 }⟩
noncomputable def H2 (P : Params) : Heap := ⟨⟨[o0 P, o1 P, o2 P, o3 P, o4 P, o5 P, o6 P, o7 P, o8 P, o9 P, o10 P, o11 P, o12 P, o13 P, o14 P, o15 P, o7 P, o16 P, o17 P, o18 P, o19 P, o20 P, o21 P, o22 P, o23 P, o24 P, o25 P, o26 P, o27 P, o7 P, o8 P, o28 P, o29 P]⟩, { known := 0, counting := false, cnt := #[], zero := [], soft := 0 }⟩
noncomputable def H3 (P : Params) : Heap := ⟨⟨[o0 P, o1 P, o2 P, o30 P, o4 P, o5 P, o6 P, o7 P, o8 P, o9 P, o10 P, o11 P, o12 P, o13 P, o14 P, o15 P, o7 P, o16 P, o17 P, o18 P, o19 P, o20 P, o21 P, o22 P, o23 P, o24 P, o25 P, o26 P, o27 P, o7 P, o31 P, o28 P, o29 P, o7 P, o8 P, o32 P, o7 P, o33 P, o34 P, o35 P, o7 P, o36 P, o37 P, o7 P, o38 P, o39 P, o40 P, o41 P, o7 P, o8 P, o42 P, o7 P, o43 P, o44 P, o45 P, o7 P, o8 P, o46 P, o7 P, o47 P, o48 P, o49 P, o7 P, o8 P, o50 P, o7 P, o51 P, o52 P, o53 P, o54 P, o55 P, o56 P, o57 P, o58 P, o59 P, o60 P, o61 P, o7 P, o8 P, o62 P, o7 P, o63 P, o64 P, o65 P]⟩, { known := 0, counting := false, cnt := #[], zero := [], soft := 0 }⟩
noncomputable def H4 (P : Params) : Heap := ⟨⟨[o0 P, o1 P, o2 P, o66 P, o4 P, o5 P, o6 P, o7 P, o8 P, o9 P, o10 P, o11 P, o12 P, o13 P, o14 P, o15 P, o7 P, o16 P, o17 P, o18 P, o19 P, o20 P, o21 P, o22 P, o23 P, o24 P, o25 P, o26 P, o27 P, o7 P, o67 P, o28 P, o29 P, o7 P, o8 P, o32 P, o7 P, o33 P, o34 P, o35 P, o7 P, o36 P, o37 P, o7 P, o38 P, o39 P, o40 P, o41 P, o7 P, o8 P, o42 P, o7 P, o43 P, o44 P, o45 P, o7 P, o8 P, o46 P, o7 P, o47 P, o48 P, o49 P, o7 P, o8 P, o50 P, o7 P, o51 P, o52 P, o53 P, o54 P, o55 P, o56 P, o57 P, o58 P, o59 P, o60 P, o61 P, o7 P, o8 P, o62 P, o7 P, o63 P, o64 P, o65 P, o7 P, o36 P, o68 P, o7 P, o69 P, o70 P, o71 P, o7 P, o8 P, o72 P, o7 P, o73 P, o74 P, o75 P, o76 P, o7 P, o8 P, o77 P, o7 P, o78 P, o79 P, o80 P, o7 P, o8 P, o81 P, o7 P, o82 P, o83 P, o84 P, o7 P, o8 P, o85 P, o7 P, o86 P, o87 P, o88 P, o89 P, o90 P, o91 P, o92 P, o93 P, o94 P, o95 P]⟩, { known := 0, counting := false, cnt := #[], zero := [], soft := 0 }⟩
noncomputable def H5 (P : Params) : Heap := ⟨⟨[o0 P, o1 P, o96 P, o97 P, o4 P, o5 P, o6 P, o7 P, o8 P, o9 P, o10 P, o11 P, o12 P, o13 P, o14 P, o15 P, o7 P, o16 P, o17 P, o18 P, o19 P, o20 P, o21 P, o22 P, o23 P, o24 P, o25 P, o26 P, o27 P, o7 P, o98 P, o28 P, o29 P, o7 P, o8 P, o32 P, o7 P, o33 P, o34 P, o35 P, o7 P, o36 P, o37 P, o7 P, o38 P, o39 P, o40 P, o41 P, o7 P, o8 P, o42 P, o7 P, o43 P, o44 P, o45 P, o7 P, o8 P, o46 P, o7 P, o47 P, o48 P, o49 P, o7 P, o8 P, o50 P, o7 P, o51 P, o52 P, o53 P, o54 P, o55 P, o56 P, o57 P, o58 P, o59 P, o60 P, o61 P, o7 P, o8 P, o62 P, o7 P, o63 P, o64 P, o65 P, o7 P, o36 P, o68 P, o7 P, o69 P, o70 P, o71 P, o7 P, o8 P, o72 P, o7 P, o73 P, o74 P, o75 P, o76 P, o7 P, o8 P, o77 P, o7 P, o78 P, o79 P, o80 P, o7 P, o8 P, o81 P, o7 P, o82 P, o83 P, o84 P, o7 P, o8 P, o85 P, o7 P, o86 P, o87 P, o88 P, o89 P, o90 P, o91 P, o92 P, o93 P, o94 P, o95 P, o99 P, o36 P, o100 P, o101 P, o7 P, o102 P, o103 P, o104 P, o105 P, o106 P, o8 P, o107 P, o7 P, o108 P, o109 P, o110 P, o7 P, o8 P, o111 P, o112 P, o113 P, o114 P, o115 P, o116 P, o117 P, o118 P, o119 P, o120 P, o121 P, o122 P]⟩, { known := 0, counting := false, cnt := #[], zero := [], soft := 0 }⟩
noncomputable def H6 (P : Params) : Heap := ⟨⟨[o0 P, o1 P, o96 P, o123 P, o4 P, o5 P, o6 P, o7 P, o8 P, o9 P, o10 P, o11 P, o12 P, o13 P, o14 P, o15 P, o7 P, o16 P, o17 P, o18 P, o19 P, o20 P, o21 P, o22 P, o23 P, o24 P, o25 P, o26 P, o27 P, o7 P, o124 P, o28 P, o29 P, o7 P, o8 P, o32 P, o7 P, o33 P, o34 P, o35 P, o7 P, o36 P, o37 P, o7 P, o38 P, o39 P, o40 P, o41 P, o7 P, o8 P, o42 P, o7 P, o43 P, o44 P, o45 P, o7 P, o8 P, o46 P, o7 P, o47 P, o48 P, o49 P, o7 P, o8 P, o50 P, o7 P, o51 P, o52 P, o53 P, o54 P, o55 P, o56 P, o57 P, o58 P, o59 P, o60 P, o61 P, o7 P, o8 P, o62 P, o7 P, o63 P, o64 P, o65 P, o7 P, o36 P, o68 P, o7 P, o69 P, o70 P, o71 P, o7 P, o8 P, o72 P, o7 P, o73 P, o74 P, o75 P, o76 P, o7 P, o8 P, o77 P, o7 P, o78 P, o79 P, o80 P, o7 P, o8 P, o81 P, o7 P, o82 P, o83 P, o84 P, o7 P, o8 P, o85 P, o7 P, o86 P, o87 P, o88 P, o89 P, o90 P, o91 P, o92 P, o93 P, o94 P, o95 P, o99 P, o36 P, o100 P, o101 P, o7 P, o102 P, o103 P, o104 P, o105 P, o106 P, o8 P, o107 P, o7 P, o108 P, o109 P, o110 P, o7 P, o8 P, o111 P, o112 P, o113 P, o114 P, o115 P, o116 P, o117 P, o118 P, o119 P, o120 P, o121 P, o122 P, o125 P, o36 P, o126 P, o127 P, o7 P, o128 P, o129 P, o130 P, o7 P, o131 P, o6 P, o7 P, o8 P, o132 P, o7 P, o133 P, o134 P, o135 P, o7 P, o8 P, o136 P, o7 P, o137 P, o138 P, o139 P, o140 P, o141 P, o6 P, o142 P, o143 P, o8 P, o144 P, o7 P, o145 P, o146 P, o147 P, o7 P, o8 P, o148 P, o7 P, o149 P, o150 P, o151 P, o7 P, o8 P, o152 P, o7 P, o153 P, o154 P, o155 P, o7 P, o8 P, o156 P, o7 P, o157 P, o158 P, o159 P, o160 P, o161 P, o162 P, o163 P, o164 P, o165 P, o166 P, o7 P, o19 P, o167 P, o168 P, o169 P, o170 P, o171 P]⟩, { known := 0, counting := false, cnt := #[], zero := [], soft := 0 }⟩
noncomputable def H7 (P : Params) : Heap := ⟨⟨[o0 P, o1 P, o96 P, o172 P, o4 P, o5 P, o6 P, o7 P, o8 P, o9 P, o10 P, o11 P, o12 P, o13 P, o14 P, o15 P, o7 P, o16 P, o17 P, o18 P, o19 P, o20 P, o21 P, o22 P, o23 P, o24 P, o25 P, o26 P, o27 P, o7 P, o173 P, o28 P, o29 P, o7 P, o8 P, o32 P, o7 P, o33 P, o34 P, o35 P, o7 P, o36 P, o37 P, o7 P, o38 P, o39 P, o40 P, o41 P, o7 P, o8 P, o42 P, o7 P, o43 P, o44 P, o45 P, o7 P, o8 P, o46 P, o7 P, o47 P, o48 P, o49 P, o7 P, o8 P, o50 P, o7 P, o51 P, o52 P, o53 P, o54 P, o55 P, o56 P, o57 P, o58 P, o59 P, o60 P, o61 P, o7 P, o8 P, o62 P, o7 P, o63 P, o64 P, o65 P, o7 P, o36 P, o68 P, o7 P, o69 P, o70 P, o71 P, o7 P, o8 P, o72 P, o7 P, o73 P, o74 P, o75 P, o76 P, o7 P, o8 P, o77 P, o7 P, o78 P, o79 P, o80 P, o7 P, o8 P, o81 P, o7 P, o82 P, o83 P, o84 P, o7 P, o8 P, o85 P, o7 P, o86 P, o87 P, o88 P, o89 P, o90 P, o91 P, o92 P, o93 P, o94 P, o95 P, o99 P, o36 P, o100 P, o101 P, o7 P, o102 P, o103 P, o104 P, o105 P, o106 P, o8 P, o107 P, o7 P, o108 P, o109 P, o110 P, o7 P, o8 P, o111 P, o112 P, o113 P, o114 P, o115 P, o116 P, o117 P, o118 P, o119 P, o120 P, o121 P, o122 P, o125 P, o36 P, o126 P, o127 P, o7 P, o128 P, o129 P, o130 P, o7 P, o131 P, o6 P, o7 P, o8 P, o132 P, o7 P, o133 P, o134 P, o135 P, o7 P, o8 P, o136 P, o7 P, o137 P, o138 P, o139 P, o140 P, o141 P, o6 P, o142 P, o143 P, o8 P, o144 P, o7 P, o145 P, o146 P, o147 P, o7 P, o8 P, o148 P, o7 P, o149 P, o150 P, o151 P, o7 P, o8 P, o152 P, o7 P, o153 P, o154 P, o155 P, o7 P, o8 P, o156 P, o7 P, o157 P, o158 P, o159 P, o160 P, o161 P, o162 P, o163 P, o164 P, o165 P, o166 P, o7 P, o19 P, o167 P, o174 P, o169 P, o170 P, o171 P, o175 P, o36 P, o176 P, o7 P, o177 P, o178 P, o179 P, o7 P, o8 P, o180 P, o7 P, o181 P, o182 P, o183 P, o184 P, o185 P, o6 P, o7 P, o186 P, o187 P, o188 P, o189 P, o190 P, o7 P, o8 P, o191 P, o7 P, o192 P, o193 P, o194 P, o7 P, o8 P, o195 P, o7 P, o196 P, o197 P, o198 P, o7 P, o8 P, o199 P, o200 P, o201 P]⟩, { known := 0, counting := false, cnt := #[], zero := [], soft := 0 }⟩
noncomputable def H8 (P : Params) : Heap := ⟨⟨[o0 P, o1 P, o96 P, o202 P, o4 P, o5 P, o6 P, o7 P, o8 P, o9 P, o10 P, o11 P, o12 P, o13 P, o14 P, o15 P, o7 P, o16 P, o17 P, o18 P, o19 P, o20 P, o21 P, o22 P, o23 P, o24 P, o25 P, o26 P, o27 P, o7 P, o203 P, o28 P, o29 P, o7 P, o8 P, o32 P, o7 P, o33 P, o34 P, o35 P, o7 P, o36 P, o37 P, o7 P, o38 P, o39 P, o40 P, o41 P, o7 P, o8 P, o42 P, o7 P, o43 P, o44 P, o45 P, o7 P, o8 P, o46 P, o7 P, o47 P, o48 P, o49 P, o7 P, o8 P, o50 P, o7 P, o51 P, o52 P, o53 P, o54 P, o55 P, o56 P, o57 P, o58 P, o59 P, o60 P, o61 P, o7 P, o8 P, o62 P, o7 P, o63 P, o64 P, o65 P, o7 P, o36 P, o68 P, o7 P, o69 P, o70 P, o71 P, o7 P, o8 P, o72 P, o7 P, o73 P, o74 P, o75 P, o76 P, o7 P, o8 P, o77 P, o7 P, o78 P, o79 P, o80 P, o7 P, o8 P, o81 P, o7 P, o82 P, o83 P, o84 P, o7 P, o8 P, o85 P, o7 P, o86 P, o87 P, o88 P, o89 P, o90 P, o91 P, o92 P, o93 P, o94 P, o95 P, o99 P, o36 P, o100 P, o101 P, o7 P, o102 P, o103 P, o104 P, o105 P, o106 P, o8 P, o107 P, o7 P, o108 P, o109 P, o110 P, o7 P, o8 P, o111 P, o112 P, o113 P, o114 P, o115 P, o116 P, o117 P, o118 P, o119 P, o120 P, o121 P, o122 P, o125 P, o36 P, o126 P, o127 P, o7 P, o128 P, o129 P, o130 P, o7 P, o131 P, o6 P, o7 P, o8 P, o132 P, o7 P, o133 P, o134 P, o135 P, o7 P, o8 P, o136 P, o7 P, o137 P, o138 P, o139 P, o140 P, o141 P, o6 P, o142 P, o143 P, o8 P, o144 P, o7 P, o145 P, o146 P, o147 P, o7 P, o8 P, o148 P, o7 P, o149 P, o150 P, o151 P, o7 P, o8 P, o152 P, o7 P, o153 P, o154 P, o155 P, o7 P, o8 P, o156 P, o7 P, o157 P, o158 P, o159 P, o160 P, o161 P, o162 P, o163 P, o164 P, o165 P, o166 P, o7 P, o19 P, o167 P, o174 P, o169 P, o170 P, o171 P, o175 P, o36 P, o176 P, o7 P, o177 P, o178 P, o179 P, o7 P, o8 P, o180 P, o7 P, o181 P, o182 P, o183 P, o184 P, o185 P, o6 P, o7 P, o186 P, o187 P, o188 P, o189 P, o190 P, o7 P, o8 P, o191 P, o7 P, o192 P, o193 P, o194 P, o7 P, o8 P, o195 P, o7 P, o196 P, o197 P, o198 P, o7 P, o8 P, o199 P, o200 P, o201 P, o7 P, o8 P, o204 P, o7 P, o205 P, o206 P, o207 P, o7 P, o8 P, o208 P, o7 P, o209 P, o210 P, o211 P, o7 P, o8 P, o212 P, o213 P, o214 P, o7 P, o8 P, o215 P, o216 P, o217 P, o7 P, o8 P, o218 P, o219 P, o220 P, o7 P, o8 P, o221 P, o7 P, o222 P, o223 P, o224 P, o7 P, o8 P, o225 P, o226 P, o227 P, o7 P, o8 P, o228 P, o229 P, o230 P]⟩, { known := 0, counting := false, cnt := #[], zero := [], soft := 0 }⟩
noncomputable def H9 (P : Params) : Heap := ⟨⟨[o0 P, o1 P, o96 P, o202 P, o4 P, o5 P, o6 P, o7 P, o8 P, o9 P, o10 P, o11 P, o12 P, o13 P, o14 P, o15 P, o7 P, o16 P, o17 P, o18 P, o19 P, o20 P, o21 P, o22 P, o23 P, o24 P, o25 P, o26 P, o27 P, o7 P, o203 P, o28 P, o29 P, o7 P, o8 P, o32 P, o7 P, o33 P, o34 P, o35 P, o7 P, o36 P, o37 P, o7 P, o38 P, o39 P, o40 P, o41 P, o7 P, o8 P, o42 P, o7 P, o43 P, o44 P, o45 P, o7 P, o8 P, o46 P, o7 P, o47 P, o48 P, o49 P, o7 P, o8 P, o50 P, o7 P, o51 P, o52 P, o53 P, o54 P, o55 P, o56 P, o57 P, o58 P, o59 P, o60 P, o61 P, o7 P, o8 P, o62 P, o7 P, o63 P, o64 P, o65 P, o7 P, o36 P, o68 P, o7 P, o69 P, o70 P, o71 P, o7 P, o8 P, o72 P, o7 P, o73 P, o74 P, o75 P, o76 P, o7 P, o8 P, o77 P, o7 P, o78 P, o79 P, o80 P, o7 P, o8 P, o81 P, o7 P, o82 P, o83 P, o84 P, o7 P, o8 P, o85 P, o7 P, o86 P, o87 P, o88 P, o89 P, o90 P, o91 P, o92 P, o93 P, o94 P, o95 P, o99 P, o36 P, o100 P, o101 P, o7 P, o102 P, o103 P, o104 P, o105 P, o106 P, o8 P, o107 P, o7 P, o108 P, o109 P, o110 P, o7 P, o8 P, o111 P, o112 P, o113 P, o114 P, o115 P, o116 P, o117 P, o118 P, o119 P, o120 P, o121 P, o122 P, o125 P, o36 P, o126 P, o127 P, o7 P, o128 P, o129 P, o130 P, o7 P, o131 P, o6 P, o7 P, o8 P, o132 P, o7 P, o133 P, o134 P, o135 P, o7 P, o8 P, o136 P, o7 P, o137 P, o138 P, o139 P, o140 P, o141 P, o6 P, o142 P, o143 P, o8 P, o144 P, o7 P, o145 P, o146 P, o147 P, o7 P, o8 P, o148 P, o7 P, o149 P, o150 P, o151 P, o7 P, o8 P, o152 P, o7 P, o153 P, o154 P, o155 P, o7 P, o8 P, o156 P, o7 P, o157 P, o158 P, o159 P, o160 P, o161 P, o162 P, o163 P, o164 P, o165 P, o166 P, o7 P, o19 P, o167 P, o174 P, o169 P, o170 P, o171 P, o175 P, o36 P, o176 P, o7 P, o177 P, o178 P, o179 P, o7 P, o8 P, o180 P, o7 P, o181 P, o182 P, o183 P, o184 P, o185 P, o6 P, o7 P, o186 P, o187 P, o188 P, o189 P, o190 P, o7 P, o8 P, o191 P, o7 P, o192 P, o193 P, o194 P, o7 P, o8 P, o195 P, o7 P, o196 P, o197 P, o198 P, o7 P, o8 P, o199 P, o200 P, o201 P, o7 P, o8 P, o204 P, o7 P, o205 P, o206 P, o207 P, o7 P, o8 P, o208 P, o7 P, o209 P, o210 P, o211 P, o7 P, o8 P, o212 P, o213 P, o214 P, o7 P, o8 P, o215 P, o216 P, o217 P, o7 P, o8 P, o218 P, o219 P, o220 P, o7 P, o8 P, o221 P, o7 P, o222 P, o223 P, o224 P, o7 P, o8 P, o225 P, o226 P, o227 P, o7 P, o8 P, o228 P, o229 P, o230 P]⟩, { known := 0, counting := false, cnt := #[], zero := [], soft := 0 }⟩
noncomputable def K01 (P : Params) : Frag := (nat_lit 2, o96 P) :: (nat_lit 3, o202 P) :: (nat_lit 33, o7 P) :: (nat_lit 35, o32 P) :: (nat_lit 36, o7 P) :: (nat_lit 38, o34 P) :: (nat_lit 39, o35 P) :: (nat_lit 47, o41 P) :: (nat_lit 48, o7 P) :: (nat_lit 50, o42 P) :: (nat_lit 51, o7 P) :: (nat_lit 53, o44 P) :: (nat_lit 54, o45 P) :: (nat_lit 55, o7 P) :: (nat_lit 57, o46 P) :: (nat_lit 58, o7 P) :: (nat_lit 60, o48 P) :: (nat_lit 61, o49 P) :: (nat_lit 62, o7 P) :: (nat_lit 64, o50 P) :: (nat_lit 65, o7 P) :: (nat_lit 67, o52 P) :: (nat_lit 68, o53 P) :: (nat_lit 69, o54 P) :: (nat_lit 71, o56 P) :: (nat_lit 72, o57 P) :: (nat_lit 73, o58 P) :: (nat_lit 74, o59 P) :: (nat_lit 77, o7 P) :: (nat_lit 79, o62 P) :: (nat_lit 80, o7 P) :: (nat_lit 82, o64 P) :: (nat_lit 83, o65 P) :: (nat_lit 91, o7 P) :: (nat_lit 93, o72 P) :: (nat_lit 94, o7 P) :: (nat_lit 96, o74 P) :: (nat_lit 97, o75 P) :: (nat_lit 98, o76 P) :: (nat_lit 99, o7 P) :: (nat_lit 101, o77 P) :: (nat_lit 102, o7 P) :: (nat_lit 104, o79 P) :: (nat_lit 105, o80 P) :: (nat_lit 106, o7 P) :: (nat_lit 108, o81 P) :: (nat_lit 109, o7 P) :: (nat_lit 111, o83 P) :: (nat_lit 112, o84 P) :: (nat_lit 113, o7 P) :: (nat_lit 115, o85 P) :: (nat_lit 116, o7 P) :: (nat_lit 118, o87 P) :: (nat_lit 119, o88 P) :: (nat_lit 120, o89 P) :: (nat_lit 121, o90 P) :: (nat_lit 122, o91 P) :: (nat_lit 123, o92 P) :: (nat_lit 124, o93 P) :: (nat_lit 127, o99 P) :: (nat_lit 130, o101 P) :: (nat_lit 135, o105 P) :: (nat_lit 136, o106 P) :: (nat_lit 138, o107 P) :: (nat_lit 139, o7 P) :: (nat_lit 141, o109 P) :: (nat_lit 142, o110 P) :: (nat_lit 143, o7 P) :: (nat_lit 145, o111 P) :: (nat_lit 146, o112 P) :: (nat_lit 148, o114 P) :: (nat_lit 149, o115 P) :: (nat_lit 150, o116 P) :: (nat_lit 151, o117 P) :: (nat_lit 152, o118 P) :: (nat_lit 153, o119 P) :: (nat_lit 154, o120 P) :: (nat_lit 157, o125 P) :: (nat_lit 160, o127 P) :: (nat_lit 165, o7 P) :: (nat_lit 166, o131 P) :: (nat_lit 167, o6 P) :: (nat_lit 168, o7 P) :: (nat_lit 170, o132 P) :: (nat_lit 171, o7 P) :: (nat_lit 173, o134 P) :: (nat_lit 174, o135 P) :: (nat_lit 175, o7 P) :: (nat_lit 177, o136 P) :: (nat_lit 178, o7 P) :: (nat_lit 180, o138 P) :: (nat_lit 181, o139 P) :: (nat_lit 182, o140 P) :: (nat_lit 183, o141 P) :: (nat_lit 184, o6 P) :: (nat_lit 185, o142 P) :: (nat_lit 186, o143 P) :: (nat_lit 188, o144 P) :: (nat_lit 189, o7 P) :: (nat_lit 191, o146 P) :: (nat_lit 192, o147 P) :: (nat_lit 193, o7 P) :: (nat_lit 195, o148 P) :: (nat_lit 196, o7 P) :: (nat_lit 198, o150 P) :: (nat_lit 199, o151 P) :: (nat_lit 200, o7 P) :: (nat_lit 202, o152 P) :: (nat_lit 203, o7 P) :: (nat_lit 205, o154 P) :: (nat_lit 206, o155 P) :: (nat_lit 207, o7 P) :: (nat_lit 209, o156 P) :: (nat_lit 210, o7 P) :: (nat_lit 212, o158 P) :: (nat_lit 213, o159 P) :: (nat_lit 214, o160 P) :: (nat_lit 215, o161 P) :: (nat_lit 216, o162 P) :: (nat_lit 218, o164 P) :: (nat_lit 219, o165 P) :: (nat_lit 221, o7 P) :: (nat_lit 223, o167 P) :: (nat_lit 224, o174 P) :: (nat_lit 225, o169 P) :: (nat_lit 228, o175 P) :: (nat_lit 235, o7 P) :: (nat_lit 237, o180 P) :: (nat_lit 238, o7 P) :: (nat_lit 240, o182 P) :: (nat_lit 241, o183 P) :: (nat_lit 242, o184 P) :: (nat_lit 243, o185 P) :: (nat_lit 244, o6 P) :: (nat_lit 245, o7 P) :: (nat_lit 246, o186 P) :: (nat_lit 247, o187 P) :: (nat_lit 248, o188 P) :: (nat_lit 251, o7 P) :: (nat_lit 253, o191 P) :: (nat_lit 254, o7 P) :: (nat_lit 256, o193 P) :: (nat_lit 257, o194 P) :: (nat_lit 258, o7 P) :: (nat_lit 260, o195 P) :: (nat_lit 261, o7 P) :: (nat_lit 263, o197 P) :: (nat_lit 264, o198 P) :: (nat_lit 265, o7 P) :: (nat_lit 268, o200 P) :: (nat_lit 269, o201 P) :: (nat_lit 270, o7 P) :: (nat_lit 272, o204 P) :: (nat_lit 273, o7 P) :: (nat_lit 275, o206 P) :: (nat_lit 276, o207 P) :: (nat_lit 277, o7 P) :: (nat_lit 279, o208 P) :: (nat_lit 280, o7 P) :: (nat_lit 282, o210 P) :: (nat_lit 283, o211 P) :: (nat_lit 284, o7 P) :: (nat_lit 287, o213 P) :: (nat_lit 288, o214 P) :: (nat_lit 289, o7 P) :: (nat_lit 292, o216 P) :: (nat_lit 293, o217 P) :: (nat_lit 294, o7 P) :: (nat_lit 297, o219 P) :: (nat_lit 298, o220 P) :: (nat_lit 299, o7 P) :: (nat_lit 301, o221 P) :: (nat_lit 302, o7 P) :: (nat_lit 304, o223 P) :: (nat_lit 305, o224 P) :: (nat_lit 306, o7 P) :: (nat_lit 309, o226 P) :: (nat_lit 310, o227 P) :: (nat_lit 311, o7 P) :: (nat_lit 314, o229 P) :: (nat_lit 315, o230 P) :: []
--names o96, o202, o7, o32, o34, o35, o41, o42, o44, o45, o46, o48, o49, o50, o52, o53, o54, o56, o57, o58, o59, o62, o64, o65, o72, o74, o75, o76, o77, o79, o80, o81, o83, o84, o85, o87, o88, o89, o90, o91, o92, o93, o99, o101, o105, o106, o107, o109, o110, o111, o112, o114, o115, o116, o117, o118, o119, o120, o125, o127, o131, o6, o132, o134, o135, o136, o138, o139, o140, o141, o142, o143, o144, o146, o147, o148, o150, o151, o152, o154, o155, o156, o158, o159, o160, o161, o162, o164, o165, o167, o174, o169, o175, o180, o182, o183, o184, o185, o186, o187, o188, o191, o193, o194, o195, o197, o198, o200, o201, o204, o206, o207, o208, o210, o211, o213, o214, o216, o217, o219, o220, o221, o223, o224, o226, o227, o229, o230
--as [2, 3, 33, 35, 36, 38, 39, 47, 48, 50, 51, 53, 54, 55, 57, 58, 60, 61, 62, 64, 65, 67, 68, 69, 71, 72, 73, 74, 77, 79, 80, 82, 83, 91, 93, 94, 96, 97, 98, 99, 101, 102, 104, 105, 106, 108, 109, 111, 112, 113, 115, 116, 118, 119, 120, 121, 122, 123, 124, 127, 130, 135, 136, 138, 139, 141, 142, 143, 145, 146, 148, 149, 150, 151, 152, 153, 154, 157, 160, 165, 166, 167, 168, 170, 171, 173, 174, 175, 177, 178, 180, 181, 182, 183, 184, 185, 186, 188, 189, 191, 192, 193, 195, 196, 198, 199, 200, 202, 203, 205, 206, 207, 209, 210, 212, 213, 214, 215, 216, 218, 219, 221, 223, 224, 225, 228, 235, 237, 238, 240, 241, 242, 243, 244, 245, 246, 247, 248, 251, 253, 254, 256, 257, 258, 260, 261, 263, 264, 265, 268, 269, 270, 272, 273, 275, 276, 277, 279, 280, 282, 283, 284, 287, 288, 289, 292, 293, 294, 297, 298, 299, 301, 302, 304, 305, 306, 309, 310, 311, 314, 315]
--m0 29 ann (rf 6) code (rf 31) frame 32 framePos ⟨0, 0, 0, 0⟩
--gens 0 0
abbrev tEnv : Env := { scope := PySem.Challenge.pw_il0126_02.main.scope, locals := mainNs, globals := mainNs, cells := [], code := (rf 31), frame := some 32 }
abbrev tB : List Stmt := behindTheImports PySem.Challenge.pw_il0126_02
abbrev tC : Code := .body tB tEnv
--total 2643 groups [(0, (6, 404)), (6, (1, 323)), (7, (1, 287)), (8, (1, 899)), (9, (5, 481)), (14, (8, 228))] states 10 Hfin H9 gens #[] drawn ⟨0, 0, 0, 0⟩ toks 691
noncomputable abbrev as01 : List Addr := [2, 3, 33, 35, 36, 38, 39, 47, 48, 50, 51, 53, 54, 55, 57, 58, 60, 61, 62, 64, 65, 67, 68, 69, 71, 72, 73, 74, 77, 79, 80, 82, 83, 91, 93, 94, 96, 97, 98, 99, 101, 102, 104, 105, 106, 108, 109, 111, 112, 113, 115, 116, 118, 119, 120, 121, 122, 123, 124, 127, 130, 135, 136, 138, 139, 141, 142, 143, 145, 146, 148, 149, 150, 151, 152, 153, 154, 157, 160, 165, 166, 167, 168, 170, 171, 173, 174, 175, 177, 178, 180, 181, 182, 183, 184, 185, 186, 188, 189, 191, 192, 193, 195, 196, 198, 199, 200, 202, 203, 205, 206, 207, 209, 210, 212, 213, 214, 215, 216, 218, 219, 221, 223, 224, 225, 228, 235, 237, 238, 240, 241, 242, 243, 244, 245, 246, 247, 248, 251, 253, 254, 256, 257, 258, 260, 261, 263, 264, 265, 268, 269, 270, 272, 273, 275, 276, 277, 279, 280, 282, 283, 284, 287, 288, 289, 292, 293, 294, 297, 298, 299, 301, 302, 304, 305, 306, 309, 310, 311, 314, 315]
end Mine
end
section
namespace Mine
theorem fold_take {α β : Type} {f : β → α → β} {b : β} {l : List α} {i : Nat} {x : α} (h : l[i]? = some x) : (l.take (i + 1)).foldl f b = f ((l.take i).foldl f b) x := by
  rw [List.take_add_one, h, Option.toList, List.foldl_append]; rfl
theorem look_put {β : Type} (l : List (Str × β)) (x y : Str) (b : β) : look (put l x b) y = if y = x then some b else look l y := by
  unfold put
  split
  · rename_i h
    induction l with
    | nil => simp at h
    | cons p l ih =>
      obtain ⟨z, c⟩ := p
      simp only [List.any_cons, Bool.or_eq_true, decide_eq_true_eq] at h
      simp only [List.map_cons, look, List.find?_cons]
      by_cases hz : z = x
      · subst hz
        simp only [if_true]
        by_cases hy : z = y
        · subst hy; simp
        · have hy' : ¬ y = z := fun q => hy q.symm
          simp only [hy, decide_false, if_neg hy']
          have same : ∀ l : List (Str × β), ((l.map fun p => if p.1 = z then (p.1, b) else p).find? fun p => decide (p.1 = y)).map (·.2) = (l.find? fun p => decide (p.1 = y)).map (·.2) := by
            intro l
            induction l with
            | nil => rfl
            | cons q l ih =>
              simp only [List.map_cons, List.find?_cons]
              by_cases hq : q.1 = z
              · simp only [hq, if_true, hy, decide_false]; exact ih
              · simp only [hq, if_false]
                by_cases hqy : q.1 = y
                · simp [hqy]
                · simp only [hqy, decide_false]; exact ih
          exact same l
      · simp only [hz, if_false]
        by_cases hy : z = y
        · subst hy; simp [hz]
        · simp only [hy, decide_false]
          exact ih (h.resolve_left hz)
  · rename_i h
    simp only [List.any_eq_true, decide_eq_true_eq, not_exists, not_and] at h
    unfold look
    rw [List.find?_append]
    by_cases hy : y = x
    · subst hy
      have : l.find? (fun p => decide (p.1 = y)) = none := List.find?_eq_none.mpr fun p hp => by simpa using h p hp
      simp [this]
    · have hy' : ¬ x = y := fun q => hy q.symm
      cases hq : l.find? (fun p => decide (p.1 = y)) <;> simp [hy, hy', hq]
noncomputable abbrev strsD (l : List Str) : Dat := .list (l.map .str)
/-- a text as a value -/
noncomputable def SV (v : Value) (x : Str) : Prop := ∃ t, v = .str x t
end Mine
end
section
namespace Mine
section
variable {w : World} {T h₀ h : Heap} {A : Around} {env : Env} {m : Str → Option Value} {O : List Addr} {B D M : Led} {s : Shared} {tk : Nat} {E : Value → Shared → Prop}
theorem ff_make {q l : Addr} {vs : List Value} {k : Nat} {Q : Value → Shared → Prop} (C : Cx (K01 w.params) T) (Z : St T h₀ B O env A m D M h) (hroom : Room 30 A) (hl : (l, lsOf vs k) ∈ D)
  (hQ : ∀ x dx it L h' tk' D', MiL it l 0 L → St T h₀ B O env A m (D' ++ D) (L ++ M) h' → (∀ p ∈ D, p ∈ D') → (x, instOf 72 dx #[some (.ref q), some (.ref it)]) ∈ D' → (dx, emptyDict) ∈ D' → Q (.ref x) (sA s h' tk')) :
  wpAny (model PySem.Challenge.rw_il0126_02.row.prog w) A (call (.ref 72) [.ref q, .ref l]) Q E (sA s h tk) := by
  revert C; k_fill; intro C
  have X := C.inn Z.go.kT
  have Zs := Z.sub
  have Z₁ : St T h D [] env A m ((h.objs.size, emptyDict) :: D) [] (h.push emptyDict) := Zs.more (D' := [(h.objs.size, emptyDict)]) (.push _) (Has.cons (Heap.get?_push_size _ rfl) (by show Value.type _ ≠ Value.type _; decide) .nil) (fun p hp => by rw [List.mem_singleton.mp hp]; exact fresh_size h)
  have Z₂ : St T h D [] env A m ((h.objs.size, emptyDict) :: D) [((h.push emptyDict).objs.size, instOf 72 h.objs.size #[])] ((h.push emptyDict).push (instOf 72 h.objs.size #[])) := Z₁.moreM (.push _) (Heap.get?_push_size _ rfl) (by show Value.ref _ ≠ Value.type _; simp) (fresh_size _)
  have hsz : (h.push emptyDict).objs.size = h.objs.size + 1 := Heap.size_push ..
  rw [hsz] at Z₂
  refine wpAny_call (make_core (h := h) (g := s.gens) (d := s.drawn) (t := tk) (os := s.os) (C := 72) (init := .ref 54) (makes_of X (by k_is)) (looks_findIn X (by k_is)) (fun self => bind_fn X self (by k_is)) (.inl rfl) ?_)
  refine' codeFnM0 (s := s) (tk := tk) (binds := [("self", .ref (h.objs.size + 1)), ("function", .ref q), ("iterable", .ref l)]) ?C Z₂ ?fs ?room ?ho ?hd ?hbody ?hcd ?hbind ?hcl ?hk ?hco ?hgen ?hnames ?hlook ?hbs ?hB
  case fs => exact (Z₂.go.fs).under
  case room => exact ((hroom.le (by decide : 2 ≤ 30)).under (n := 0) _).1
  walk_at "enterM"
  intro L O h₁ tk₁ E' hL hO Z₃
  subst hO
  dsimp only [bindAll, List.foldl] at Z₃ ⊢
  walk_at "ss"
  refine callIter ?_
  refine iterL Z₃.in1 (by walk_at "mem") ?_
  intro it h₂ tk₂ L₁ hM₁ _ _ _ _ Z₄
  replace Z₄ := Z₄.un1
  walk_at "ss"
  refine' stSlot (dx := h.objs.size) (sl := #[]) (i := 1) ?C1 Z₄ ?hdx ?hs ?hp ?ht ?hT ?hsl ?hi ?_
  case C1 => assumption
  case hdx => exact .head _
  case hs => k_is
  case hp => k_is
  case ht => k_is
  case hT => k_is
  case hsl => k_is
  case hi => decide
  intro h₃ tk₃ Z₅
  walk_at "ss"
  refine' stSlot (dx := h.objs.size) (sl := #[none, some (.ref it)]) (i := 0) ?C1 Z₅ ?hdx ?hs ?hp ?ht ?hT ?hsl ?hi ?_
  case C1 => assumption
  case hdx => exact .head _
  case hs => k_is
  case hp => k_is
  case ht => k_is
  case hT => k_is
  case hsl => k_is
  case hi => decide
  intro h₄ tk₄ Z₆
  walk_at "ss"
  show _ ∧ _
  refine ⟨rfl, ?_⟩
  have Z₇ := Z₆.permM (M' := [(h.objs.size + 1, instOf 72 h.objs.size #[some (.ref q), some (.ref it)])] ++ L₁) (fun p hp => by simp at hp ⊢; rcases hp with rfl | hp <;> simp [*]) (by
    have := Z₆.ndM
    have e : (([(h.objs.size + 1, instOf 72 h.objs.size #[some (.ref q), some (.ref it)])] ++ L₁).map (·.1)).Perm ((L₁ ++ [(h.objs.size + 1, instOf 72 h.objs.size #[some (.ref q), some (.ref it)])]).map (·.1)) := List.Perm.map _ List.perm_append_comm
    exact e.nodup_iff.mpr this)
  have Z₈ := Z₇.settle
  exact hQ _ _ it L₁ _ _ _ hM₁ (Z.retL Z₈) (fun p hp => .tail _ (.tail _ hp)) (.head _) (.tail _ (.head _))
end
end Mine
end
section
namespace Mine
section
variable {w : World} {T h₀ h : Heap} {A : Around} {env : Env} {m : Str → Option Value} {O : List Addr} {B D M L : Led} {s : Shared} {tk : Nat} {E : Value → Shared → Prop}
theorem without_kp {T h : Heap} {S : List Addr} : Kp T (without h S) h := by
  refine ⟨fun b o _ e => ?_, fun b o e n => ?_⟩
  · rw [without_get] at e
    split at e
    · cases e
    · exact ⟨o.slots, e, fun _ => rfl⟩
  · rw [without_get] at e
    split at e
    · cases e
    · exact ⟨o, e, n⟩
theorem kp_without {T h h' : Heap} {L : Led} (hL : Has h L) (k : Kp T (without h (L.map (·.1))) h') : KpX T (L.map (·.1)) h h' :=
  ⟨fun b o hb e => k.keep b o (by simp) (by rw [without_get, if_neg hb]; exact e), fun b o e n => by
    by_cases hb : b ∈ L.map (·.1)
    · obtain ⟨p, hp, rfl⟩ := List.mem_map.mp hb
      have hc := (hL p hp).2
      rw [(hL p hp).1] at e
      cases e
      exact absurd n (notFrm_cls hc)
    · exact k.nf b o (by rw [without_get, if_neg hb]; exact e) n⟩

theorem KpX.dropX {T h₀ h h' : Heap} {S S' : List Addr} (x : KpX T S h₀ h) (y : KpX T S' h h') (k : ∀ b ∈ S', h₀.get? b = none) : KpX T S h₀ h' := by
  refine ⟨fun b o hb e => ?_, fun b o e n => ?_⟩
  · obtain ⟨sl, e1, k1⟩ := x.keep b o hb e
    obtain ⟨sl2, e2, k2⟩ := y.keep b _ (fun q => by rw [k b q] at e; cases e) e1
    exact ⟨sl2, e2, fun c => (k2 c).trans (k1 c)⟩
  · obtain ⟨o1, e1, n1⟩ := x.nf b o e n
    exact y.nf b o1 e1 n1

structure FF (w : World) (T : Heap) (D : Led) (x it : Addr) (n : Nat) (Mi : Nat → Led → Prop) (Val : Nat → Value → Prop) (f : Nat → Str) (P : Str → Bool) : Prop where
  I : ItrN PySem.Challenge.rw_il0126_02.row.prog w T D it n Mi Val
  C : Cx (K01 w.params) T
  ex : ∃ q dx S so c, (x, instOf 72 dx #[some (.ref q), some (.ref it)]) ∈ D ∧ (dx, emptyDict) ∈ D ∧ (q, boundObj S) ∈ D ∧ (S, so) ∈ D ∧ so.SetObjOf (strKind PySem.Challenge.rw_il0126_02.row.prog w) P c ∧ c < scanBound
  val : ∀ i v, Val i v → ∃ t, v = .str (f i) t

theorem ff_call {x it : Addr} {n i : Nat} {Mi : Nat → Led → Prop} {Val : Nat → Value → Prop} {f : Nat → Str} {P : Str → Bool} {Q : Value → Shared → Prop} (F : FF w T D x it n Mi Val f P) (go : Go T A D h) (hroom : Room 6 A)
  (hL : Has h L) (hM : Mi i L) (nd : (L.map (·.1)).Nodup) (off : ∀ p ∈ L, T.get? p.1 = none ∧ ∀ q ∈ D, q.1 ≠ p.1) (hi : i ≤ n)
  (hI : ∀ i' t h' tk' L', i ≤ i' → i' < n → kept f P i' = kept f P i → P (f i') = false → Mi (i' + 1) L' → L'.map (·.1) = L.map (·.1) → KpX T (L.map (·.1)) h h' → Has h' L' → Q (.str (f i') t) (sA s h' tk'))
  (hE : kept f P n = kept f P i → ∀ e oe h' tk', h.get? e = none → h'.get? e = some oe → oe.cls = .type "StopIteration" → KpX T (L.map (·.1)) h h' → E (.ref e) (sA s h' tk')) :
  wpAny (model PySem.Challenge.rw_il0126_02.row.prog w) A (call (.ref 68) [.ref x]) Q E (sA s h tk) := by
  obtain ⟨I, C, ⟨q, dx, S, so, c, hx, hdx, hq, hS, hso, hc⟩, hval⟩ := F
  revert C; k_fill; intro C
  refine wpAny_call ?_
  refine' codeFnEH (h₀ := without h (L.map (·.1))) (B := D) (D := D) (M := L) (binds := [("self", .ref x)]) ?C go ?kT0 ?kp ?hgr hL ?muNew nd ?offDM ?room ?ho ?hd ?hbody ?hcd ?hbind ?hcl ?hk ?hco ?hgen ?hnames ?hlook ?hbs ?hB
  case kT0 =>
    intro b o e
    rw [without_get, if_neg (fun r => ?_)]
    · exact go.kT b o e
    · obtain ⟨p, hp, e'⟩ := List.mem_map.mp r
      rw [← e', (off p hp).1] at e; cases e
  case kp => exact without_kp
  case hgr => exact fun p hp => .inl hp
  case muNew => exact fun p hp => by rw [without_get, if_pos (List.mem_map_of_mem hp)]
  case offDM => exact fun p hp q hq => (off q hq).2 p hp
  case room => exact (hroom.le (Nat.zero_le _)).1
  walk_at "enterM"
  intro Lf O h₁ tk₁ hLf hO Z
  subst hO
  dsimp only [bindAll, List.foldl] at Z ⊢
  walk_at "ss"
  refine' attrSlot (C := 72) (i := 0) (od := emptyDict) ?C Z.go hx hdx ?hg ?hc ?ha ?hn ?ht ?hp ?hv ?hh ?_
  case C => assumption
  case hg => k_is
  case hc => exact rfl
  case ha => k_is
  case hn => k_is
  case ht => k_is
  case hp => k_is
  case hv => rfl
  case hh => rfl
  intro tk₂
  walk_at "ss"
  rename_i Z₁
  refine wpAny_While ?_
  refine codeAny_whileLoop (fun k s' => ∃ h' tk' L' i' m', s' = sA s h' tk' ∧ St T (without h (L.map (·.1))) D _ _ _ m' D L' h' ∧ Mi i' L' ∧ L'.map (·.1) = L.map (·.1) ∧ i ≤ i' ∧ i' ≤ n ∧ kept f P i' = kept f P i ∧ (∀ y u, (upd (upd (fun _ => none) "self" (.ref x)) "func" (.ref q)) y = some u → m' y = some u) ∧ k = n + 1 - i') ?_ (n + 1 - i) ⟨_, _, L, i, _, rfl, Z₁, hM, rfl, Nat.le_refl _, hi, rfl, fun _ _ e => e, rfl⟩
  rintro k s' ⟨h₂, tk₂, L₂, i₂, m₂, rfl, Z₂, hM₂, hL₂, hi₁, hi₂, hk₂, hm₂, rfl⟩
  replace Z₂ := Z₂.weak hm₂
  refine isTrue_plain ?_
  refine cB ?_
  walk_at "ss"
  walk_at "ss"
  refine' attrSlot (C := 72) (i := 1) (od := emptyDict) ?C Z₂.go hx hdx ?hg ?hc ?ha ?hn ?ht ?hp ?hv ?hh ?_
  case C => assumption
  case hg => k_is
  case hc => exact rfl
  case ha => k_is
  case hn => k_is
  case ht => k_is
  case hp => k_is
  case hv => rfl
  case hh => rfl
  intro tk₃
  walk_at "ss"
  have kp₂ := kp_without hL Z₂.kp
  rw [show L₂ = L₂ ++ [] by simp] at Z₂
  by_cases hlt : i₂ < n
  · refine nextItem I Z₂ hlt hM₂ ?_
    intro v h₃ tk₄ L₃ hM₃ hL₃ hv Z₃
    obtain ⟨t, rfl⟩ := hval _ _ hv
    walk_at "ss"
    rw [if_neg (show ¬ ((Value.ref q == Value.none) = true) from Bool.false_ne_true)]
    walk_at "ss"
    refine iteF (fun r => absurd (show false = true from r) Bool.false_ne_true) ?_
    walk_at "ss"
    refine callWith_B (a := S) ?_
    walk_at "ss"
    rename_i Z₄
    refine ⟨(Z₄.go.has _ hq).1, ?_⟩
    refine callC (x := f i₂) Z₄.go.has hS hq hso hc ?_
    intro tk₅
    walk_at "ss"
    have hkL := kp_without hL Z₄.kp
    cases hP : P (f i₂) with
    | true =>
      refine iteF (by decide) ?_
      walk_at "ss"
      refine ⟨n + 1 - (i₂ + 1), by omega, _, _, L₃, i₂ + 1, _, rfl, by simpa using Z₄, hM₃, hL₃.trans hL₂, by omega, hlt, ?_, up_none rfl, rfl⟩
      rw [kept_succ, hP, hk₂]; simp
    | false =>
      refine iteT (by decide) ?_
      walk_at "ss"
      exact hI i₂ t _ _ L₃ hi₁ hlt hk₂ hP hM₃ (hL₃.trans hL₂) hkL (by simpa using Z₄.mu)
  · have hin : i₂ = n := by omega
    subst hin
    refine nextStop I Z₂ hM₂ ?_
    intro e oe vs h₃ tk₄ e1 e2 e3 e4 e5 k₃
    obtain ⟨l, hl, _⟩ := Z₂.go.fs.fr
    obtain ⟨l₀, hl₀, _⟩ := go.fs.fr
    refine outOfWhile (outer := l₀) (Lf := Lf) (E₃ := E) (R := fun e s' => E e s') (Around.frames_deeper hl₀) (Z₂.go.fs.mono k₃) rfl e2 e4 e5 ?_
    intro h₄ tk₅ k₄ e6
    have he : h.get? e = none := by
      have := Kp.back Z₂.kp e1
      rw [without_get] at this
      split at this
      · rename_i hm
        rw [← hL₂] at hm
        obtain ⟨p, hp, rfl⟩ := List.mem_map.mp hm
        rw [(Z₂.mu p (List.mem_append_left _ hp)).1] at e1; cases e1
      · exact this
    obtain ⟨oe', e7, e8⟩ := e6
    rw [hL₂] at k₃
    exact hE hk₂ e oe' h₄ tk₅ he e7 (e8.trans e3) ((kp₂.trans k₃).dropX k₄ fun b hb => by rw [List.mem_singleton.mp hb]; exact he)
end
end Mine
end
section
set_option maxHeartbeats 400000
namespace Mine
section
variable {w : World} {T h₀ h : Heap} {A : Around} {env : Env} {m : Str → Option Value} {O : List Addr} {B D M L : Led} {s : Shared} {tk : Nat} {E : Value → Shared → Prop}
/-- filterfalse.__iter__ -/
theorem ff_self {x : Addr} {Q : Value → Shared → Prop} (C : Cx (K01 w.params) T) (go : Go T A D h) (hroom : Room 6 A)
  (hQ : ∀ h' tk', Kp T h h' → Q (.ref x) (sA s h' tk')) :
  wpAny (model PySem.Challenge.rw_il0126_02.row.prog w) A (call (.ref 61) [.ref x]) Q E (sA s h tk) := by
  revert C; k_fill; intro C
  refine' callFn0 (binds := [("self", .ref x)]) ?C ?go ?room ?ho ?hd ?hbody ?hcd ?hbind ?hcl ?hk ?hco ?hgen ?hnames ?hlook ?hbs ?hB
  walk_at "enter"
  intro L O h₁ tk₁ E' hL hO Z
  subst hO
  dsimp only [bindAll, List.foldl] at Z ⊢
  walk_at "ss"
  exact hQ _ _ (by apply St.kp; assumption)

noncomputable def MiF (Mi : Nat → Led → Prop) (f : Nat → Str) (P : Str → Bool) (n j : Nat) (L : Led) : Prop := ∃ i, i ≤ n ∧ Mi i L ∧ (kept f P i).length = j
theorem ff_itr {x it : Addr} {n : Nat} {Mi : Nat → Led → Prop} {Val : Nat → Value → Prop} {f : Nat → Str} {P : Str → Bool} (F : FF w T D x it n Mi Val f P) :
    Itr PySem.Challenge.rw_il0126_02.row.prog w T D x (kept f P n).length (MiF Mi f P n) (fun j v => ∃ t y, (kept f P n)[j]? = some y ∧ v = .str y t) where
  item := fun {A s h tk j L Q E} hj go hd hL hM nd off hQ => by
    obtain ⟨i, hi, hM, hk⟩ := hM
    have F' := F
    obtain ⟨I, C, ⟨q, dx, S, so, c, hx, hdx, hq, hS, hso, hc⟩, hval⟩ := F
    have X := C.inn go.kT
    have Ix := instAt (go.has _ hx).1 (go.has _ hdx).1
    refine nextOwn (s := sA s h tk) (f := 68) X Ix (by k_is) (by k_is) (ff_call F' go (hd.le (by decide)) hL hM nd off hi (fun i' t h' tk' L' h1 h2 h3 h4 h5 h6 h7 h8 => ?_) fun hz => ?_)
    · refine hQ _ h' tk' L' ⟨i' + 1, h2, h5, ?_⟩ h6 h7 h8 ⟨t, f i', ?_, rfl⟩
      · rw [kept_succ, h3, h4]; simp [hk]
      · obtain ⟨l, e⟩ := kept_le f P (show i' + 1 ≤ n from h2)
        rw [e, kept_succ, h3, h4, ← hk]
        simp
    · rw [hz, hk] at hj
      exact absurd hj (Nat.lt_irrefl _)
  done := fun {A s h tk L Q E} go hd hL hM nd off hQ => by
    obtain ⟨i, hi, hM, hk⟩ := hM
    have F' := F
    obtain ⟨I, C, ⟨q, dx, S, so, c, hx, hdx, hq, hS, hso, hc⟩, hval⟩ := F
    have X := C.inn go.kT
    have Ix := instAt (go.has _ hx).1 (go.has _ hdx).1
    refine nextOwn (s := sA s h tk) (f := 68) X Ix (by k_is) (by k_is) (ff_call F' go (hd.le (by decide)) hL hM nd off hi (fun i' t h' tk' L' h1 h2 h3 h4 h5 h6 h7 h8 => ?_) fun hz e oe h' tk' e1 e2 e3 k => ?_)
    · exfalso
      obtain ⟨l, e⟩ := kept_le f P (show i' + 1 ≤ n from h2)
      have := congrArg List.length e
      rw [kept_succ, h3, h4] at this
      simp at this
      omega
    · exact wpAny_isInstance (T := "StopIteration") (b := true) (s := sA s h' tk') ⟨_, e2, e3⟩ isSubtype_stop ⟨rfl, hQ h' tk' k⟩
  self := fun {A s h tk j L Q E} go hd hL hM hQ => by
    obtain ⟨I, C, ⟨q, dx, S, so, c, hx, hdx, hq, hS, hso, hc⟩, hval⟩ := F
    have X := C.inn go.kT
    have Ix := instAt (go.has _ hx).1 (go.has _ hdx).1
    refine iterOwn (s := sA s h tk) (f := 61) X Ix (by k_is) (by k_is) (g := .ref 68) (by k_is) (ff_self C go (hd.le (by decide)) fun h' tk' k => ?_)
    have has' := go.has.mono0 k
    exact ⟨rfl, C.inn (fun b o e => k.top (go.kT b o e) (by simp) e), instAt (has' _ hx).1 (has' _ hdx).1, hQ h' tk' k⟩
  lg := fun {A s h tk j L Q E target v} hL hM hD hQ => by
    obtain ⟨I, C, ⟨q, dx, S, so, c, hx, hdx, hq, hS, hso, hc⟩, hval⟩ := F
    exact lgo (s := sA s h tk) (hD _ hx).1 (fun n e => by cases e) hQ
theorem diff_spec {a b : Addr} {vs us : List Value} {ws xs : List Str} {ka kb : Nat} {Q : Value → Shared → Prop} (C : Cx (K01 w.params) T) (Z₀ : St T h₀ B O env A m D M h) (hroom : Room 40 A)
  (ha : (a, lsOf vs ka) ∈ D) (hb : (b, lsOf us kb) ∈ D) (hvs : StrsAre vs ws) (hus : StrsAre us xs) (hm : xs.length < 1000)
  (hQ : ∀ x dx sl L h' tk' D' Mi, (x, instOf 72 dx sl) ∈ D' → (dx, emptyDict) ∈ D' → Mi 0 L → Itr PySem.Challenge.rw_il0126_02.row.prog w T (D' ++ D) x (ws.filter fun y => !decide (y ∈ xs)).length Mi (fun j v => ∃ t y, (ws.filter fun y => !decide (y ∈ xs))[j]? = some y ∧ v = .str y t) → St T h₀ B O env A m (D' ++ D) (L ++ M) h' → Q (.ref x) (sA s h' tk')) :
  wpAny (model PySem.Challenge.rw_il0126_02.row.prog w) A (call (.ref 83) [.ref a, .ref b]) Q E (sA s h tk) := by
  have go := Z₀.go
  have ret : ∀ {O' : List Addr} {env' : Env} {A' : Around} {m' : Str → Option Value} {D' L : Led} {h' : Heap}, St T h D O' env' A' m' D' L h' → St T h₀ B O env A m (D' ++ D) (L ++ M) h' := fun Y => Z₀.retL Y
  clear Z₀
  revert C; k_fill; intro C
  refine' callFn0 (binds := [("minuend", .ref a), ("subtrahend", .ref b)]) ?C ?go ?room ?ho ?hd ?hbody ?hcd ?hbind ?hcl ?hk ?hco ?hgen ?hnames ?hlook ?hbs ?hB
  walk_at "enter"
  intro Lf O h₁ tk₁ E' hL hO Z
  subst hO
  dsimp only [bindAll, List.foldl] at Z ⊢
  walk_at "ss"
  refine setOfL Z hb hus hm (hroom.deeper.le (by decide)) ?_
  intro S so c h₂ tk₂ hso hc Z₁
  walk_at "ss"
  refine attrC Z₁ (.head _) hso ?_
  intro q h₃ tk₃ Z₂
  walk_at "ss"
  refine ff_make C Z₂ (hroom.deeper.le (by decide)) (List.mem_append_right [_, _] ha) ?_
  intro x dx it L₁ h₄ tk₄ D' hM₁ Z₃ hsub hxD hdxD
  walk_at "ss"
  have hlen := strs_len hvs
  have FFx : FF w T (D' ++ D) x it vs.length (MiL it a) (fun i v => vs[i]? = some v) (fun i => ws.getD i Str.empty) (fun y => decide (y ∈ xs)) := by
    refine ⟨itrNL (List.mem_append_right _ ha), C, ⟨q, dx, S, so, c, List.mem_append_left _ hxD, List.mem_append_left _ hdxD, List.mem_append_left _ (hsub _ (.head _)), List.mem_append_left _ (hsub _ (.tail _ (.head _))), hso, hc⟩, fun i v hv => ?_⟩
    obtain ⟨y, t, hy, rfl⟩ := strs_get hvs hv
    exact ⟨t, by rw [List.getD_eq_getElem?_getD, hy]; rfl⟩
  have hk : kept (fun i => ws.getD i Str.empty) (fun y => decide (y ∈ xs)) vs.length = ws.filter fun y => !decide (y ∈ xs) := by
    unfold kept
    have : (List.range vs.length).map (fun i => ws.getD i Str.empty) = ws := by
      rw [hlen]
      refine List.ext_getElem (by simp) fun i h1 h2 => ?_
      simp at h1
      simp [h1]
    rw [this]
  have It := ff_itr FFx
  rw [hk] at It
  refine hQ x dx _ L₁ h₄ _ D' _ hxD hdxD ⟨0, Nat.zero_le _, hM₁, rfl⟩ It ?_
  have Y := ret (Z₃.lessD (D' := D') fun p hp => List.mem_append_left _ hp)
  simpa using Y
theorem strsOf {vs : List Value} {ws : List Str} (hl : vs.length = ws.length) (hv : ∀ (j : Nat) (v : Value), vs[j]? = some v → ∃ (t : Tok) (y : Str), ws[j]? = some y ∧ v = Value.str y t) : StrsAre vs ws := by
  induction vs generalizing ws with
  | nil => cases ws with
    | nil => exact .nil
    | cons _ _ => cases hl
  | cons v vs ih => cases ws with
    | nil => cases hl
    | cons w ws =>
      obtain ⟨t, y, hy, e⟩ := hv 0 v rfl
      cases hy
      subst e
      exact .cons _ _ (ih (by simpa using hl) fun j u hu => hv (j + 1) u hu)
/-- list(_difference(..)) -/
theorem listDiff {x dx : Addr} {sl : Array (Option Value)} {ws : List Str} {Mi : Nat → Led → Prop} {Q : Value → Shared → Prop} (C : Cx (K01 w.params) T) (Z : St T h₀ B O env A m D (L ++ M) h) (hroom : Room 14 A) (hx : (x, instOf 72 dx sl) ∈ D) (hdx : (dx, emptyDict) ∈ D)
  (hM : Mi 0 L) (I : Itr PySem.Challenge.rw_il0126_02.row.prog w T D x ws.length Mi (fun j v => ∃ t y, ws[j]? = some y ∧ v = Value.str y t)) (hn : ws.length ≤ 1000)
  (hQ : ∀ a vs c h' tk', StrsAre vs ws → St T h₀ B O env A m ((a, lsOf vs c) :: D) M h' → Q (.ref a) (sA s h' tk')) :
  wpAny (model PySem.Challenge.rw_il0126_02.row.prog w) A (call (.type "list") [.ref x]) Q E (sA s h tk) := by
  revert C; k_fill; intro C
  exact listOwn C Z I hM hroom (by omega) hx hdx (by k_is) (by k_is) fun a h' tk' vs c hl hv Z' => hQ a vs c h' tk' (strsOf hl hv) Z'
end
end Mine
end
section
namespace Mine
section
variable {prog : Program} {w : World} {A : Around} {E : Value → Shared → Prop} {s : Shared} {K : Type} [DecidableEq K] {knd : KeyKind prog w K}
/-- an object that bears a dict's data, of whatever class -/
noncomputable def Bears (knd : KeyKind prog w K) (o : Obj) (kvs : List (K × Value)) : Prop :=
  ∃ es ep, o.data = .dict es ep ∧ KeysOf knd es ∧ Pairs knd es.toList kvs ∧ (kvs.map (·.1)).Nodup
/-- the same but for its dict's data -/
noncomputable def SameRest (o o' : Obj) : Prop := o'.cls = o.cls ∧ o'.dict = o.dict ∧ o'.slots = o.slots
theorem mapDict_rest (f) (o : Obj) : SameRest o (o.mapDict f) := by
  obtain ⟨c, d, dt, sl⟩ := o; cases dt <;> exact ⟨rfl, rfl, rfl⟩
theorem mapDictKeys_rest (f) (o : Obj) : SameRest o (o.mapDictKeys f) := by
  obtain ⟨c, d, dt, sl⟩ := o; cases dt <;> exact ⟨rfl, rfl, rfl⟩

theorem pairs_findBy {es : Array DictEntry} {kvs : List (K × Value)} (hp : Pairs knd es.toList kvs) (k : K) : findBy knd.is es k = valueAt kvs k := by
  obtain ⟨l⟩ := es
  unfold findBy
  rw [List.find?_toArray]
  exact hp.find k
theorem bears_idx {es : Array DictEntry} {kvs : List (K × Value)} (hp : Pairs knd es.toList kvs) (k : K) : (es.findIdx? fun e => knd.is k e.key) = kvs.findIdx? fun kv => decide (kv.1 = k) := by
  rw [← hp.findIdx k]; obtain ⟨l⟩ := es; simp

theorem bGet {d : Addr} {o : Obj} {kvs : List (K × Value)} {k : K} {key : Value} {Q : Option Value → Shared → Prop} (hkey : knd.is k key = true) (ho : s.heap.get? d = some o) (hm : Bears knd o kvs)
    (h : Q (valueAt kvs k) { s with toks := s.toks + 1 }) : wpAny (model prog w) A (dictGet d key) Q E s := by
  obtain ⟨es, ep, hd, hk, hp, hn⟩ := hm
  have hf : findBy knd.is es k = valueAt kvs k := pairs_findBy hp k
  unfold dictGet
  try with_reducible refine wpAny_holding ?_
  refine wpAny_bind (knd.pyHash hkey (wpAny_bind (wpAny_dictFind_of (s := { s with toks := s.toks + 1 }) hkey ho hd hk ?_)))
  rw [← hf, findBy_of_findIdx?] at h
  cases hi : es.findIdx? fun e => knd.is k e.key with
  | none => rw [hi] at h; exact wpAny_pure h
  | some i => rw [hi] at h; exact wpAny_bind (wpAny_dictEntries (s := { s with toks := s.toks + 1 }) ho hd (wpAny_pure h))

theorem bSet {d : Addr} {o : Obj} {kvs : List (K × Value)} {k : K} {key v : Value} {Q : Unit → Shared → Prop} (hkey : knd.is k key = true) (ho : s.heap.get? d = some o) (hm : Bears knd o kvs)
    (hQ : ∀ h' o', h'.get? d = some o' → SameRest o o' → Bears knd o' (stored kvs k v) → Heap.SameBut d s.heap h' → Q () { s with heap := h', toks := s.toks + 1 })
    (hsz : kvs.length ≤ sizeLine) :
    wpAny (model prog w) A (dictSet d key v) Q E s := by
  obtain ⟨es, ep, hd, hk, hp, hn⟩ := hm
  have hes : es.size ≤ sizeLine := by have e1 := hp.length; have e2 : es.toList.length = es.size := by simp
                                      omega
  unfold dictSet
  try with_reducible refine wpAny_holding ?_
  refine wpAny_bind (knd.pyHash hkey ?_)
  unfold dictSetHashed
  try with_reducible refine wpAny_holding ?_
  refine wpAny_bind (wpAny_dictFind_of (s := { s with toks := s.toks + 1 }) hkey ho hd hk ?_)
  have hidx := bears_idx hp k
  cases hi : es.findIdx? fun e => knd.is k e.key with
  | some i =>
    refine wpAny_bind (wpAny_rule (wpAny_bind (wpAny_updateDict (s := { s with toks := s.toks + 1 }) ho hd (wpAny_point (hQ _ _ (Heap.get?_update_self _ ho (Obj.isFreed_of_dict (Obj.data_mapDict hd _))) (mapDict_rest _ _)
      ⟨_, ep, Obj.data_mapDict hd _, hk.modify _ _, ?_, ?_⟩ (Heap.SameBut.update ..))))))
    · rw [stored, if_pos (any_of_findIdx_some (hidx ▸ hi))]
      have hl : (es.toList.findIdx? fun e => knd.is k e.key) = some i := by rw [← hi]; obtain ⟨l⟩ := es; simp
      have := hp.modify hn hl v
      obtain ⟨l⟩ := es
      simpa using this
    · rw [stored, if_pos (any_of_findIdx_some (hidx ▸ hi)), keys_map_store]; exact hn
  | none =>
    have hnot : k ∉ kvs.map (·.1) := not_mem_of_findIdx_none (hidx ▸ hi)
    have hany : ¬ (kvs.any fun kv => decide (kv.1 = k)) = true := by
      rw [List.any_eq_true]; rintro ⟨kv, hkv, he⟩
      exact hnot (List.mem_map.mpr ⟨kv, hkv, of_decide_eq_true he⟩)
    refine wpAny_bind (wpAny_rule (wpAny_updateDictKeys (hz := hes) (s := { s with toks := s.toks + 1 }) ho hd (hQ _ _ (Heap.get?_update_self _ ho (Obj.isFreed_of_dict (Obj.data_mapDictKeys hd _))) (mapDictKeys_rest _ _)
      ⟨_, ep + 1, Obj.data_mapDictKeys hd _, hk.push hkey _, ?_, ?_⟩ (Heap.SameBut.update ..))))
    · rw [stored, if_neg hany]
      have := hp.append hkey (knd.hash k) v
      obtain ⟨l⟩ := es
      simpa using this
    · rw [stored, if_neg hany, List.map_append, List.nodup_append]
      refine ⟨hn, by simp, ?_⟩
      intro a ha b hb
      simp only [List.map_cons, List.map_nil, List.mem_singleton] at hb
      subst hb
      exact fun e => hnot (e ▸ ha)

end
end Mine
end
section
namespace Mine
/-- a built-in slot or method, whoever's instance it is called with -/
structure Bi (owner nm id : String) : Prop where
  split : splitId id = some (owner, nm)
  kind : builtinKind id = some .slot ∨ builtinKind id = some .method
  bind : ∀ self, bindSpecial (.builtin id) self = pure (.builtin id, [self])
  plain : plainId id = true
theorem Bi.of {owner nm id : String} (hsplit : splitId id = some (owner, nm)) (hop : withoutEnding? id "#opaque" = none) (hdat : withoutEnding? id "#data" = none)
    (hkind : builtinKind id = some .slot ∨ builtinKind id = some .method) (hq : plainId id = true) : Bi owner nm id :=
  ⟨hsplit, hkind, fun self => by rcases hkind with h | h <;> (simp only [bindSpecial, typeOf, builtinType, hop, hdat, h]; rfl), hq⟩
section
variable {prog : Program} {w : World} {K : Frag} {A : Around} {E : Value → Shared → Prop} {s : Shared}
theorem Bi.check {M : Model} {owner nm id : String} (b : Bi owner nm id) {x : Value} {rest : List Value} {kw : List (Str × Value)} {Q : Unit → Shared → Prop} (hi : Looks M s.heap (isInstance x (.type owner)) true) (ha : argsOk id ⟨x :: rest, kw⟩) (hQ : Q () s) :
    wpAny M A (checkBuiltinCall id ⟨x :: rest, kw⟩) Q E s := by
  have go : wpAny M A (match Manifest.signature? id with | some sig => Bind.checkArgs id sig ⟨x :: rest, kw⟩ | _ => pure ()) Q E s := by
    cases hsig : Manifest.signature? id with
    | none => exact wpAny_pure hQ
    | some sig =>
      simp only [argsOk, hsig] at ha
      have h2 : Bind.checkArgs id sig ⟨x :: rest, kw⟩ = pure () := ha
      show wpAny M A (Bind.checkArgs id sig ⟨x :: rest, kw⟩) Q E s
      rw [h2]; exact wpAny_pure hQ
  rcases b.kind with h | h
  · simp only [checkBuiltinCall, h, b.split]
    refine wpAny_bind (hi.here ?_)
    simp only [Bool.not_true, Bool.false_eq_true, if_false]
    exact go
  · simp only [checkBuiltinCall, h, b.split]
    refine wpAny_bind (hi.here ?_)
    simp only [Bool.not_true, Bool.false_eq_true, if_false]
    exact go
theorem Bi.code {owner nm id : String} (b : Bi owner nm id) {f : Builtin} {x : Value} {rest : List Value} {kw : List (Str × Value)} {R : Result → Shared → Prop} (he : entryFor table id = some f) (hi : Looks (model prog w) s.heap (isInstance x (.type owner)) true) (ha : argsOk id ⟨x :: rest, kw⟩)
    (h : wpAny (model prog w) A.in1 (f ⟨x :: rest, kw⟩) (fun fin s' => match fin with | .done fl => R (.ok fl) s' | .again c => c.quiet = true ∧ codeAny (model prog w) A c R s') (fun e s' => R (.error e) s') s) : codeAny (model prog w) A (.call (.builtin id) ⟨x :: rest, kw⟩) R s :=
  codeAny_call_builtin b.plain he (b.check hi ha h)
theorem special_bi {M : Model} {ox : Obj} {od : Option Obj} {x C : Addr} {owner nm id : String} {name : Str} {args : List Value} {Q : Option Value → Shared → Prop} (X : K.In s.heap) (I : InstAt s.heap x ox C od)
    (hs : findIn K (.ref C) name = some (some (.builtin id))) (b : Bi owner nm id) (h : wpAny M A (call (.builtin id) (.ref x :: args)) (fun v => Q (some v)) E s) :
    wpAny M A (callSpecial? (.ref x) name args) Q E s := by
  refine wpAny_bind (wpAny_bind (I.type.here ((looks_findIn X hs).here (wpAny_holding (wpAny_bind ?_)))))
  rw [b.bind]
  exact wpAny_pure (wpAny_bind (wpAny_mono h (fun _ _ z => wpAny_pure z) fun _ _ z => z))
/-- what an object of an own class under a built-in type is told by its class -/
theorem inst_isi {M : Model} {h : Heap} {x C : Addr} {ox : Obj} {od : Option Obj} {base : Value} {r : Bool} (X : K.In h) (I : InstAt h x ox C od) (e : subIn K (.ref C) base = some r) : Looks M h (isInstance (.ref x) base) r :=
  I.type.andThen (looks_subIn X e)
theorem bi_dict_getitem : Bi "dict" "__getitem__" "dict.__getitem__" := .of (by kernel_rfl) (by decide +kernel) (by decide +kernel) (by decide +kernel) (by decide +kernel)
theorem bi_dict_setitem : Bi "dict" "__setitem__" "dict.__setitem__" := .of (by kernel_rfl) (by decide +kernel) (by decide +kernel) (by decide +kernel) (by decide +kernel)
theorem bi_dict_iter : Bi "dict" "__iter__" "dict.__iter__" := .of (by kernel_rfl) (by decide +kernel) (by decide +kernel) (by decide +kernel) (by decide +kernel)
theorem bi_dict_items : Bi "dict" "items" "dict.items" := .of (by kernel_rfl) (by decide +kernel) (by decide +kernel) (by decide +kernel) (by decide +kernel)
theorem bi_dd_init : Bi "collections.defaultdict" "__init__" "collections.defaultdict.__init__" := .of (by kernel_rfl) (by decide +kernel) (by decide +kernel) (by decide +kernel) (by decide +kernel)
end
end Mine
end
section
namespace Mine
section
variable {prog : Program} {w : World} {K : Frag} {A : Around} {E : Value → Shared → Prop} {s : Shared} {Kk : Type} [DecidableEq Kk] {knd : KeyKind prog w Kk} {d C : Addr} {o : Obj} {od : Option Obj} {kvs : List (Kk × Value)} {k : Kk} {key : Value}
theorem notOrd {name : String} {rest : List Value} {Q : Unit → Shared → Prop} (X : K.In s.heap) (I : InstAt s.heap d o C od) (hO : subIn K (.ref C) (.type "collections.OrderedDict") = some false) (h : Q () s) :
    wpAny (model prog w) A (Builtin.Dict.notOrdered name ⟨.ref d :: rest, []⟩) Q E s := by
  unfold Builtin.Dict.notOrdered
  split
  · show wpAny _ _ (typeOf (.ref d) >>= _) _ _ _
    refine wpAny_bind (I.type.here ?_)
    rw [if_pos (show (Value.ref C != .type "dict") = true from rfl)]
    refine wpAny_bind ((inst_isi X I hO).here ?_)
    rw [if_neg (by decide)]
    exact wpAny_pure h
  · exact wpAny_pure h

theorem oGetHit {v : Value} {Q : Value → Shared → Prop} (X : K.In s.heap) (I : InstAt s.heap d o C od) (hq : noSeq K C = true) (hs : findIn K (.ref C) "__getitem__" = some (some (.builtin "dict.__getitem__"))) (hi : subIn K (.ref C) (.type "dict") = some true)
    (hkey : knd.is k key = true) (hm : Bears knd o kvs) (hv : valueAt kvs k = some v) (h : Q v { s with toks := s.toks + 1 }) : wpAny (model prog w) A (getItem (.ref d) key) Q E s := by
  unfold getItem sequenceKey
  refine wpAny_holding (wpAny_bind (wpAny_bind (I.type.here ?_)))
  refine wpAny_bind ((anyM_none X hq).here ?_)
  rw [if_pos (show (!false) = true from rfl)]
  refine wpAny_pure (wpAny_bind (special_bi X I hs bi_dict_getitem (wpAny_call (bi_dict_getitem.code PySem.F.entry_dict_getitem (inst_isi X I hi) (PySem.F.args_dict_getitem_2 _ _) ?_))))
  show wpAny _ _ (dictGet d key >>= _) _ _ _
  refine wpAny_bind (bGet hkey I.at_ hm ?_)
  rw [hv]
  exact wpAny_pure (wpAny_pure h)

theorem oGetMiss {f : Addr} {Q : Value → Shared → Prop} (X : K.In s.heap) (I : InstAt s.heap d o C od) (hq : noSeq K C = true) (hs : findIn K (.ref C) "__getitem__" = some (some (.builtin "dict.__getitem__"))) (hi : subIn K (.ref C) (.type "dict") = some true)
    (hsys : (d == sysModules) = false) (hms : findIn K (.ref C) "__missing__" = some (some (.ref f))) (hf : typeIn K (.ref f) = some (.type "function"))
    (hkey : knd.is k key = true) (hm : Bears knd o kvs) (hv : valueAt kvs k = none) (h : ∀ E', wpAny (model prog w) A.in1 (call (.ref f) [.ref d, key]) Q E' { s with toks := s.toks + 1 }) : wpAny (model prog w) A (getItem (.ref d) key) Q E s := by
  unfold getItem sequenceKey
  refine wpAny_holding (wpAny_bind (wpAny_bind (I.type.here ?_)))
  refine wpAny_bind ((anyM_none X hq).here ?_)
  rw [if_pos (show (!false) = true from rfl)]
  refine wpAny_pure (wpAny_bind (special_bi X I hs bi_dict_getitem (wpAny_call (bi_dict_getitem.code PySem.F.entry_dict_getitem (inst_isi X I hi) (PySem.F.args_dict_getitem_2 _ _) ?_))))
  show wpAny _ _ (dictGet d key >>= _) _ _ _
  refine wpAny_bind (bGet hkey I.at_ hm ?_)
  rw [hv]
  refine wpAny_bind (wpAny_missed_other hsys ?_)
  refine wpAny_bind (I.type.here (s := { s with toks := s.toks + 1 }) ?_)
  rw [if_pos (show (Value.ref C != .type "dict") = true from rfl)]
  refine wpAny_bind (special_fn (s := { s with toks := s.toks + 1 }) X I hms hf (wpAny_mono (h _) (fun v s' hv => ?_) fun _ _ z => z))
  exact wpAny_bind (wpAny_rule (wpAny_pure (wpAny_pure hv)))

theorem oSet {v : Value} {Q : Unit → Shared → Prop} (X : K.In s.heap) (I : InstAt s.heap d o C od) (hq : noSeq K C = true) (hs : findIn K (.ref C) "__setitem__" = some (some (.builtin "dict.__setitem__"))) (hi : subIn K (.ref C) (.type "dict") = some true) (hO : subIn K (.ref C) (.type "collections.OrderedDict") = some false)
    (hkey : knd.is k key = true) (hm : Bears knd o kvs) (hsz : kvs.length ≤ sizeLine)
    (hQ : ∀ h' o', h'.get? d = some o' → SameRest o o' → Bears knd o' (stored kvs k v) → Heap.SameBut d s.heap h' → Q () { s with heap := h', toks := s.toks + 1 }) : wpAny (model prog w) A (setItem (.ref d) key v) Q E s := by
  unfold setItem sequenceKey
  refine wpAny_holding (wpAny_bind (wpAny_bind (I.type.here ?_)))
  refine wpAny_bind ((anyM_none X hq).here ?_)
  rw [if_pos (show (!false) = true from rfl)]
  refine wpAny_pure (wpAny_bind (special_bi X I hs bi_dict_setitem (wpAny_call (bi_dict_setitem.code PySem.F.entry_dict_setitem (inst_isi X I hi) (PySem.F.args_dict_setitem_3 _ _ _) ?_))))
  show wpAny _ _ (Builtin.Dict.notOrdered "__setitem__" ⟨[.ref d, key, v], []⟩ >>= _) _ _ s
  refine wpAny_bind (notOrd X I hO ?_)
  show wpAny _ _ (dictSet d key v >>= _) _ _ s
  exact wpAny_bind (bSet hkey I.at_ hm (fun h' o' e r b sb => wpAny_pure (wpAny_pure (hQ h' o' e r b sb))) hsz)

/-- iter of an object of an own class whose __iter__ is dict's -/
theorem oIter {es : Array DictEntry} {ep : Nat} {Q : Value → Shared → Prop} (X : K.In s.heap) (I : InstAt s.heap d o C od) (hs : findIn K (.ref C) "__iter__" = some (some (.builtin "dict.__iter__"))) (hi : subIn K (.ref C) (.type "dict") = some true) (hO : subIn K (.ref C) (.type "collections.OrderedDict") = some false)
    (hsys : (d == sysModules) = false) (hd : o.data = .dict es ep)
    (h : Q (.ref s.heap.objs.size) { s with heap := s.heap.push { cls := .type "dict_keyiterator", data := .fields #[.ref d, .int 0 0, .int es.size 0, .int ep 0] } }) : wpAny (model prog w) A (pyIter (.ref d)) Q E s := by
  have called : wpAny (model prog w) A (call (.builtin "dict.__iter__") [.ref d] >>= fun v => pure (some v)) (fun r s' => r = some (.ref s.heap.objs.size) ∧ s' = { s with heap := s.heap.push { cls := .type "dict_keyiterator", data := .fields #[.ref d, .int 0 0, .int es.size 0, .int ep 0] } }) E s := by
    refine wpAny_bind (wpAny_call (bi_dict_iter.code PySem.F.entry_dict_iter (inst_isi X I hi) (PySem.F.args_dict_iter_1 _) ?_))
    unfold Builtin.«dict.__iter__» Builtin.Dict.dictSlotNone
    refine wpAny_bind (wpAny_bind (notOrd X I hO ?_))
    show wpAny _ _ (pure (Value.ref d)) _ _ s
    refine wpAny_pure ?_
    show wpAny _ _ (Builtin.Dict.showsAll d >>= _) _ _ s
    unfold Builtin.Dict.showsAll
    rw [if_neg (by rw [hsys]; exact Bool.false_ne_true)]
    refine wpAny_bind (wpAny_pure (wpAny_bind (wpAny_dictEntries I.at_ hd (wpAny_bind (wpAny_dictEpoch I.at_ hd (wpAny_bind (wpAny_newObj_type (wpAny_pure (wpAny_pure ⟨rfl, ?_⟩)))))))))
    simp [rawInt]
  have one : ∀ refuse : Sem Value, wpAny (model prog w) A (callSpecialIfBoundUnlessNone? (.ref d) "__iter__" refuse) (fun r s' => r = some (.ref s.heap.objs.size) ∧ s' = { s with heap := s.heap.push { cls := .type "dict_keyiterator", data := .fields #[.ref d, .int 0 0, .int es.size 0, .int ep 0] } }) E s := by
    intro refuse
    simp only [callSpecialIfBoundUnlessNone?, bindSpecialIfBound?]
    refine wpAny_holding (wpAny_bind (wpAny_bind (wpAny_bind (I.type.here ((looks_findIn X hs).here ?_)))))
    refine wpAny_bind (wpAny_askSetting (wpAny_ite ?_))
    have fin2 : wpAny (model prog w) A (if (Value.builtin "dict.__iter__" == Value.none) = true then (refuse >>= fun v => pure (some v)) else (call (.builtin "dict.__iter__") [.ref d] >>= fun v => pure (some v))) (fun r s' => r = some (.ref s.heap.objs.size) ∧ s' = { s with heap := s.heap.push { cls := .type "dict_keyiterator", data := .fields #[.ref d, .int 0 0, .int es.size 0, .int ep 0] } }) E s := by
      rw [if_neg (show ¬ ((Value.builtin "dict.__iter__" == Value.none) = true) from Bool.false_ne_true)]
      exact called
    rw [bi_dict_iter.bind]
    split
    · exact wpAny_bind (wpAny_pure (wpAny_pure (by exact fin2)))
    · exact wpAny_tryCatch (wpAny_bind (wpAny_pure (wpAny_pure (by exact fin2))))
  unfold pyIter
  refine wpAny_bind (wpAny_bind (I.type.here ((looks_findIn X hs).here ?_)))
  refine wpAny_bind (wpAny_mono (one _) (fun r s' q => ?_) fun _ _ e => e)
  obtain ⟨rfl, rfl⟩ := q
  have hT : Shared.TypeIs { s with heap := s.heap.push { cls := .type "dict_keyiterator", data := .fields #[.ref d, .int 0 0, .int es.size 0, .int ep 0] } } (.ref s.heap.objs.size) "dict_keyiterator" := ⟨_, Heap.get?_push_size _ rfl, rfl⟩
  refine wpAny_bind (wpAny_bind (wpAny_typeOf hT ?_))
  rw [PySem.F.slot_dict_keyiterator_next.lookup]
  exact wpAny_pure (wpAny_pure h)
end
end Mine
end
section
namespace Mine
/-- a key iterator of an object that bears a dict's data -/
noncomputable abbrev keyIt (d : Addr) (i n ep : Nat) : Obj := { cls := .type "dict_keyiterator", dict := none, data := .fields #[.ref d, .int i 0, .int n 0, .int ep 0], slots := #[] }
section
variable {prog : Program} {w : World} {A : Around} {E : Value → Shared → Prop} {s : Shared} {Kk : Type} [DecidableEq Kk] {knd : KeyKind prog w Kk} {d it : Addr} {o : Obj} {kvs : List (Kk × Value)} {es : Array DictEntry} {ep i : Nat}
/-- a step of a key iterator -/
theorem keyNext {Q : Option Value → Shared → Prop} (hh : A.handled = none) (hit : s.heap.get? it = some (keyIt d i es.size ep)) (hod : s.heap.get? d = some o) (hd : o.data = .dict es ep)
    (h1 : ∀ e h', es[i]? = some e → h'.get? it = some (keyIt d (i + 1) es.size ep) → Heap.SameBut it s.heap h' → Q (some e.key) { s with heap := h' })
    (h2 : ∀ h', es[i]? = none → Heap.ExtBut it s.heap h' → Q none { s with heap := h' }) : wpAny (model prog w) A (pyNext (.ref it)) Q E s := by
  have hT : s.TypeIs (.ref it) "dict_keyiterator" := ⟨_, hit, rfl⟩
  unfold pyNext
  refine wpAny_bind (wpAny_attempt (wpAny_callSpecial?_slot (name := Str.ofString "__next__") hT PySem.F.slot_dict_keyiterator_next
    (wpAny_call_entry PySem.F.slot_dict_keyiterator_next hT PySem.F.entry_dict_keyiterator_next ?_ (PySem.F.args_dict_keyiterator_next_1 _))))
  refine wpAny_bind (wpAny_pure ?_)
  refine wpAny_bind ?_
  refine wpAny_bind ?_
  refine wpAny_bind (wpAny_typeNameOfWhole_keyiter hT (wpAny_pure ?_))
  refine wpAny_bind (wpAny_fieldsOf hit rfl ?_)
  have hown : Builtin.Dict_items.ownsTuple "dict_keyiterator" = false := by decide
  simp only [hown, Bool.false_eq_true, if_false]
  show wpAny _ _ (if (Value.ref d == Value.none) = true then _ else _) _ _ s
  rw [if_neg (show ¬ ((Value.ref d == Value.none) = true) from Bool.false_ne_true)]
  refine wpAny_bind (wpAny_pure ?_)
  refine wpAny_bind (wpAny_dictEntries hod hd ?_)
  rw [if_neg (by simp)]
  refine wpAny_bind (wpAny_pure ?_)
  refine wpAny_bind (wpAny_dictEpoch hod hd ?_)
  rw [if_neg (by simp)]
  refine wpAny_pure ?_
  simp only [show ¬ ((i : Int) < 0) from by omega, if_false, Int.toNat_natCast]
  cases hx : es[i]? with
  | some e =>
    dsimp only
    refine wpAny_bind ?_
    refine wpAny_bind (wpAny_typeNameOfWhole_keyiter hT (wpAny_pure ?_))
    refine wpAny_bind (wpAny_isOneOf_keyiter hT ?_)
    show wpAny _ _ (setField (.ref it) 1 (rawInt ((i : Int) + 1)) >>= _) _ _ s
    refine wpAny_bind (wpAny_setField_rec hit (by simp) fun h₁ he₁ hs₁ => ?_)
    replace hs₁ : Heap.SameBut it s.heap h₁ := hs₁
    have he₂ : h₁.get? it = some (keyIt d (i + 1) es.size ep) := by
      rw [he₁]
      simp [rawInt]
    refine wpAny_bind (wpAny_holding ?_)
    refine wpAny_bind (wpAny_isOneOf_keyiter (s := { s with heap := h₁ }) ⟨_, he₂, rfl⟩ ?_)
    show wpAny _ _ (pure e.key) _ _ _
    exact wpAny_pure (wpAny_pure ⟨_, rfl, wpAny_pure (h1 e h₁ hx he₂ hs₁)⟩)
  | none =>
    dsimp only
    refine wpAny_bind ?_
    refine wpAny_bind (wpAny_typeNameOfWhole_keyiter hT (wpAny_pure ?_))
    show wpAny _ _ (setField (.ref it) 0 .none >>= _) _ _ s
    refine wpAny_bind (wpAny_setField hit rfl (by simp) ?_)
    show wpAny _ _ (newExc (.type "StopIteration") [] >>= _) _ _ _
    refine wpAny_bind ?_
    simp only [newExc, newTuple]
    refine wpAny_bind (wpAny_newObj_type ?_ (by size_fits))
    refine wpAny_bind (m := firstArgMember _ _) (wpAny_of_eq (a := Value.none) (by first | rfl | (simp only [firstArgMember]; rfl)) ?_)
    refine wpAny_newObj_type ?_ (by size_fits)
    simp only [raiseNew]
    refine wpAny_bind (wpAny_handled ?_)
    rw [show A.in1.handled = none from hh]
    refine wpAny_bind (wpAny_pure (wpAny_throw ?_))
    refine wpAny_bind (wpAny_isInstance (T := "StopIteration") (b := true) ⟨_, Heap.get?_push_size _ rfl, rfl⟩ isSubtype_stop ?_)
    exact wpAny_pure (h2 _ hx (((Heap.SameBut.update ..).extBut.push _).push _))
end
section
variable {prog : Program} {w : World} {K : Frag} {T h₀ h h' : Heap} {O : List Addr} {env : Env} {A A' : Around} {m : Str → Option Value} {B D D' M M' L L' : Led} {s : Shared} {tk : Nat} {E : Value → Shared → Prop}
noncomputable def MiK (it d : Addr) (n ep : Nat) (i : Nat) (L : Led) : Prop := L = [(it, keyIt d i n ep)]
/-- a key iterator -/
theorem itrK {it d : Addr} {o : Obj} {es : Array DictEntry} {ep : Nat} (hl : (d, o) ∈ D) (hd : o.data = .dict es ep) : Itr prog w T D it es.size (MiK it d es.size ep) (fun i v => ∃ e, es[i]? = some e ∧ v = e.key) where
  item := fun {A s h tk i L Q E} hi g _ hL hM nd off hQ => by
    subst hM
    have hit := (hL _ (.head _)).1
    refine keyNext (s := sA s h tk) g.fs.hd hit (g.has _ hl).1 hd (fun e h' he hit' hs => ?_) fun h' he _ => ?_
    · refine hQ e.key h' _ [(it, keyIt d (i + 1) es.size ep)] rfl rfl (KpX.sameBut hs (.head _) fun o e f => ?_) (Has.cons hit' (by show Value.type _ ≠ Value.type _; decide) .nil) ⟨e, he, rfl⟩
      have hit0 : h.get? it = some (keyIt d i es.size ep) := hit
      rw [hit0] at e; cases e; exact absurd f (notFrm_cls (by show Value.type _ ≠ Value.type _; decide))
    · rw [Array.getElem?_eq_getElem hi] at he; cases he
  done := fun {A s h tk L Q E} g _ hL hM nd off hQ => by
    subst hM
    have hit := (hL _ (.head _)).1
    refine keyNext (s := sA s h tk) g.fs.hd hit (g.has _ hl).1 hd (fun e h' he _ _ => ?_) fun h' _ hs => ?_
    · rw [Array.getElem?_eq_none (Nat.le_refl _)] at he; cases he
    · exact hQ h' _ (KpX.extBut hs (.head _) ⟨_, hit, notFrm_cls (by show Value.type _ ≠ Value.type _; decide)⟩)
  self := fun {A s h tk i L Q E} _ _ hL hM hQ => by
    subst hM
    have hit := (hL _ (.head _)).1
    have hT : Shared.TypeIs (sA s h tk) (.ref it) "dict_keyiterator" := ⟨_, hit, rfl⟩
    refine wpAny_pyIter_slot hT PySem.F.slot_dict_keyiterator_iter (wpAny_call_entry PySem.F.slot_dict_keyiterator_iter hT PySem.F.entry_dict_keyiterator_iter ?_ (PySem.F.args_dict_keyiterator_iter_1 _))
    show wpAny _ _ (ret (.ref it)) _ _ (sA s h tk)
    exact wpAny_pure ⟨_, rfl, "dict_keyiterator", _, hT, PySem.F.slot_dict_keyiterator_next.lookup, hQ h tk .refl⟩
  lg := fun {A s h tk i L Q E target v} hL hM _ hQ => by
    subst hM
    exact lgo (s := sA s h tk) (hL _ (.head _)).1 (fun n e => by cases e; decide) hQ
end
end Mine
end
section
namespace Mine
namespace F
theorem dn_kind : builtinKind "dict.__new__" = some .builtinFn := by decide +kernel
theorem dn_split : splitId "dict.__new__" = some ("dict", "__new__") := by kernel_rfl
theorem dn_entry : entryFor table "dict.__new__" = some Builtin.«dict.__new__» := entryFor_of_tree (by kernel_rfl)
theorem ddi_entry : entryFor table "collections.defaultdict.__init__" = some Builtin.«collections.defaultdict.__init__» := entryFor_of_tree (by kernel_rfl)
theorem ddi_args (a b : Value) : argsOk "collections.defaultdict.__init__" ⟨[a, b], []⟩ := by unfold argsOk; kernel_rfl
theorem di_entry : entryFor table "dict.__init__" = some Builtin.«dict.__init__» := entryFor_of_tree (by kernel_rfl)
end F
section
variable {prog : Program} {w : World} {A : Around} {K : Frag} {C : Addr} {R : Result → Shared → Prop} {h : Heap} {g : Array GenState} {d : Drawn} {t : Nat} {os : OsState}
theorem dictNew {oc : Value} {od : Option Addr} {cd : ClassData} {sl : Array (Option Value)} {fac : Value} (hC : h.get? C = some ⟨oc, od, .cls cd, sl⟩) (hdel : cd.hasDel = false)
    (typ : Looks (model prog w) h (isInstance (.ref C) (.type "type")) true) (sub : Looks (model prog w) h (isSubtype (.ref C) (.type "dict")) true) (base : Looks (model prog w) h (Bind.staticBase (.ref C)) (.ref C)) (made : Looks (model prog w) h (Bind.madeBy (.ref C)) (some "dict.__new__"))
    (hm : Looks (model prog w) h (mroOf (.ref C)) [.ref C, .type "collections.defaultdict", .type "dict", .type "object"])
    (hq : R (.ok (.ret (.ref (h.objs.size + 1)))) ⟨(h.push emptyDict).push { cls := .ref C, dict := some h.objs.size, data := .dict #[] }, g, d, t, os⟩) :
    codeAny (model prog w) A (.call (.builtin "dict.__new__") ⟨[.ref C, fac], []⟩) R ⟨h, g, d, t, os⟩ := by
  refine codeAny_call_builtin_code (Code.quiet_builtin _ (by decide +kernel)) ?_
  have isT : Looks (model prog w) h (isType (.ref C)) true := (Looks.ld (part := none) hC).andThen .now
  simp only [checkBuiltinCall, F.dn_kind, F.dn_split]
  repeat lk
  refine codeAny_builtin F.dn_entry ?_
  unfold Builtin.«dict.__new__»
  dsimp only
  repeat lk
  refine wpAny_load (Heap.get?_push_of_some _ (Heap.get?_push_of_some _ hC)) (wpAny_pure ?_)
  rw [hdel]
  refine wpAny_pure (wpAny_pure ?_)
  rw [Heap.size_push]
  exact hq
theorem ddInit {x dx : Addr} {n : String} {od : Obj} (hx : h.get? x = some { cls := .ref C, dict := some dx, data := .dict #[], slots := #[] }) (hdx : h.get? dx = some od) (hne : dx ≠ x) (hX : ∀ h', Heap.SameBut x h h' → K.In h')
    (hi1 : subIn K (.ref C) (.type "collections.defaultdict") = some true) (hO : subIn K (.ref C) (.type "collections.OrderedDict") = some false) {f : Value} (hf : Looks (model prog w) h (specialOf f "__call__") (some (.builtin n))) (hnf : f ≠ .none)
    (hq : ∀ h', Heap.SameBut x h h' → h'.get? x = some { cls := .ref C, dict := some dx, data := .dict #[], slots := #[some f] } → R (.ok (.ret .none)) ⟨h', g, d, t, os⟩) :
    codeAny (model prog w) A (.call (.builtin "collections.defaultdict.__init__") ⟨[.ref x, f], []⟩) R ⟨h, g, d, t, os⟩ := by
  have X : K.In h := hX h (Heap.SameBut.refl _ _)
  have I : InstAt h x { cls := .ref C, dict := some dx, data := .dict #[], slots := #[] } C (some od) := ⟨hx, rfl, rfl, hdx⟩
  have ho := hx
  refine bi_dd_init.code F.ddi_entry (inst_isi X I hi1) (F.ddi_args _ _) ?_
  unfold Builtin.«collections.defaultdict.__init__»
  dsimp only [List.head?]
  have hne' : (f != Value.none) = true := by simpa using hnf
  rw [if_pos hne']
  repeat lk
  have e0 : ((#[] : Array (Option Value))[0]?.join.getD Value.none) = Value.none := rfl
  have e1 : ((#[] : Array (Option Value))[0]?.join.toList) = [] := rfl
  simp only [e0, e1]
  have hne2 : (some Value.none != some f) = true := by
    simp only [bne_iff_ne, ne_eq, Option.some.injEq]
    exact fun q => hnf q.symm
  rw [if_pos hne2]
  refine wpAny_bind ?_
  show wpAny _ _ (pure ()) _ _ _
  refine wpAny_pure ?_
  unfold setSlotAt
  rw [if_neg (by rw [sizeLine_eq]; omega)]
  have hne' : ({ cls := Value.ref C, dict := some dx, data := Data.dict #[], slots := (#[] ++ Array.replicate (0 + 1 - (#[] : Array (Option Value)).size) none).setIfInBounds 0 (some f) } : Obj) = { cls := .ref C, dict := some dx, data := .dict #[], slots := #[some f] } := rfl
  refine wpAny_updatePart hx ?_
  have hx' := Heap.get?_update_self (fun o : Obj => { o with slots := (o.slots ++ Array.replicate (0 + 1 - o.slots.size) none).setIfInBounds 0 (some f) }) hx rfl
  have hsb := Heap.SameBut.update h x (fun o : Obj => { o with slots := (o.slots ++ Array.replicate (0 + 1 - o.slots.size) none).setIfInBounds 0 (some f) })
  generalize h.update x (fun o : Obj => { o with slots := (o.slots ++ Array.replicate (0 + 1 - o.slots.size) none).setIfInBounds 0 (some f) }) = h' at hx' hsb ⊢
  replace hx' : h'.get? x = some { cls := .ref C, dict := some dx, data := .dict #[], slots := #[some f] } := hx'
  refine wpAny_bind (wpAny_holding (wpAny_runValue ?_))
  refine codeAny_builtin F.di_entry ?_
  unfold Builtin.«dict.__init__» Builtin.Dict.selfAndRest
  have I' : InstAt h' x { cls := .ref C, dict := some dx, data := .dict #[], slots := #[some f] } C (some od) := ⟨hx', rfl, rfl, (hsb.2 _ hne).trans hdx⟩
  refine wpAny_bind (wpAny_bind (notOrd (hX h' hsb) I' hO ?_))
  refine wpAny_bind (wpAny_pure (wpAny_pure ?_))
  show wpAny _ _ (pure (Fin.done (.ret .none))) _ _ _
  exact wpAny_pure (wpAny_pure (hq h' hsb hx'))

/-- what is asked of a class's written part -/
structure ClsK (K : Frag) (C : Addr) (cd : ClassData) (made : Option Value) : Prop where
  obj : ∃ oc od sl, K.lookup C = some ⟨oc, od, .cls cd, sl⟩ ∧ (sl.toList[4]?).join = made
  del : cd.hasDel = false
  call : specialIn K (.ref C) "__call__" = some (some (.builtin "type.__call__"))
  typ : instIn K (.ref C) (.type "type") = some true
theorem ClsK.cls {cd : ClassData} {made : Option Value} (Y : ClsK K C cd made) : clsIn K C = some cd := by
  obtain ⟨oc, od, sl, e, _⟩ := Y.obj
  unfold clsIn; rw [e]
theorem ClsK.mro {M : Model} {cd : ClassData} {made : Option Value} (X : K.In h) (Y : ClsK K C cd made) : Looks M h (mroOf (.ref C)) cd.mro := (looks_clsIn X Y.cls).andThen .now
theorem ClsK.made {M : Model} {cd : ClassData} {id : String} {c : Value} {l : List Value} (X : K.In h) (Y : ClsK K C cd (some (.builtin id))) (hl : cd.mro = c :: l) : Looks M h (Bind.madeBy (.ref C)) (some id) := by
  intro A Q E s k q
  obtain ⟨oc, od, sl, e, hs⟩ := Y.obj
  unfold Bind.madeBy
  refine wpAny_bind (Y.mro X A _ E s k ?_)
  rw [hl, List.forIn_cons]
  refine wpAny_bind (wpAny_bind (wpAny_bind (wpAny_bind (wpAny_loadPart (k _ _ (X _ _ e)) (wpAny_pure ?_)))))
  dsimp only
  rw [← Array.getElem?_toList, hs]
  exact wpAny_pure (wpAny_pure (wpAny_pure q))
theorem ClsK.base {M : Model} {cd : ClassData} {id : String} {c : Value} {l : List Value} (X : K.In h) (Y : ClsK K C cd (some (.builtin id))) (hl : cd.mro = c :: l) : Looks M h (Bind.staticBase (.ref C)) (.ref C) := by
  intro A Q E s k q
  unfold Bind.staticBase
  refine wpAny_bind (Y.mro X A _ E s k ?_)
  rw [hl, List.forIn_cons]
  exact wpAny_bind (wpAny_bind (wpAny_bind (Y.made X hl A _ E s k (wpAny_pure (wpAny_pure (wpAny_pure q))))))

/-- FreezableDefaultDict(factory) -/
theorem ddMake {cd : ClassData} {f : Value} {n : String} (Y : ClsK K C cd (some (.builtin "dict.__new__"))) (hl : cd.mro = [.ref C, .type "collections.defaultdict", .type "dict", .type "object"]) (X : K.In h)
    (hi : findIn K (.ref C) "__init__" = some (some (.builtin "collections.defaultdict.__init__"))) (hX : ∀ h', (∀ b o, h.get? b = some o → h'.get? b = some o) → K.In h')
    (hf : Looks (model prog w) h (specialOf f "__call__") (some (.builtin n))) (hnf : f ≠ .none)
    (hq : ∀ h', (∀ b o, h.get? b = some o → h'.get? b = some o) → h'.get? h.objs.size = some emptyDict → h'.get? (h.objs.size + 1) = some { cls := .ref C, dict := some h.objs.size, data := .dict #[], slots := #[some f] } → R (.ok (.ret (.ref (h.objs.size + 1)))) ⟨h', g, d, t, os⟩) :
    codeAny (model prog w) A (.call (.ref C) ⟨[f], []⟩) R ⟨h, g, d, t, os⟩ := by
  obtain ⟨oc, od, sl, hC0, hsl⟩ := Y.obj
  have hC := X _ _ hC0
  have call := looks_specialIn (M := model prog w) X Y.call
  have typ := looks_instIn (M := model prog w) X Y.typ
  have hm := Y.mro (M := model prog w) X
  have made := Y.made (M := model prog w) X hl
  have base := Y.base (M := model prog w) X hl
  have self : Looks (model prog w) h (isSubtype (.ref C) (.ref C)) true := looks_mroIn X (by unfold mroIn; rw [Y.cls, Option.bind_some, hl]; simp)
  have sub : Looks (model prog w) h (isSubtype (.ref C) (.type "dict")) true := looks_mroIn X (by unfold mroIn; rw [Y.cls, Option.bind_some, hl]; simp)
  have subd : subIn K (.ref C) (.type "collections.defaultdict") = some true := by
    show mroIn K C _ = _
    unfold mroIn; rw [Y.cls, Option.bind_some, hl]; simp
  have subo : subIn K (.ref C) (.type "collections.OrderedDict") = some false := by
    show mroIn K C _ = _
    unfold mroIn; rw [Y.cls, Option.bind_some, hl]; simp
  refine codeAny_of_tree ?_
  show wpAny _ _ (callAny (.ref C) _) _ _ _
  refine nd_load hC ?_
  show wpAny _ _ (callAny.viaDunder (.ref C) _) _ _ _
  unfold callAny.viaDunder
  refine wpAny_bind (call.at ?_)
  dsimp only
  rw [tc_bind]
  refine wpAny_bind (wpAny_pure (wpAny_bind (wpAny_pure ?_)))
  refine wpAny_pure (a := Fin.again (.call (.builtin "type.__call__") ⟨.ref C :: [f], []⟩)) (And.intro rfl ?_)
  refine codeAny_call_builtin_at (Code.quiet_builtin _ (by decide +kernel)) entry_typeCall (check_slot tc_kind tc_split typ (tc_args _ _ _) ?_)
  unfold Builtin.«type.__call__»
  rw [hl] at hm
  repeat (first | simp only [List.isEmpty_cons, Bool.false_eq_true, if_false] | with_reducible refine wpAny_call ?_ | lk)
  refine dictNew hC Y.del typ sub base made hm ?_
  have k : ∀ b o, h.get? b = some o → ((h.push emptyDict).push { cls := Value.ref C, dict := some h.objs.size, data := Data.dict #[] }).get? b = some o := fun b o e => Heap.get?_push_of_some _ (Heap.get?_push_of_some _ e)
  have hx : ((h.push emptyDict).push { cls := Value.ref C, dict := some h.objs.size, data := Data.dict #[] }).get? (h.objs.size + 1) = some { cls := .ref C, dict := some h.objs.size, data := .dict #[], slots := #[] } := by heap_get
  have hdx : ((h.push emptyDict).push { cls := Value.ref C, dict := some h.objs.size, data := Data.dict #[] }).get? h.objs.size = some emptyDict := by heap_get
  generalize (h.push emptyDict).push { cls := Value.ref C, dict := some h.objs.size, data := Data.dict #[] } = h₂ at k hx hdx ⊢
  have t1 : Looks (model prog w) h₂ (typeOf (.ref (h.objs.size + 1))) (.ref C) := (Looks.ld hx).andThen .now
  have s1 := self.keeps k
  have i1 := (looks_findIn (M := model prog w) X hi).keeps k
  show wpAny _ _ _ _ _ _
  unfold isInstance callSpecial? specialOf
  repeat (first | with_reducible refine wpAny_call ?_ | lk)
  have fresh : ∀ b o, h.get? b = some o → b ≠ h.objs.size + 1 := fun b o e q => absurd (q ▸ Heap.lt_size e : h.objs.size + 1 < h.objs.size) (Nat.not_lt_of_le (Nat.le_succ _))
  refine ddInit hx hdx (Nat.ne_of_lt (Nat.lt_succ_self _)) (fun h' hs => hX h' fun b o e => (hs.2 b (fresh b o e)).trans (k b o e)) subd subo (hf.keeps k) hnf fun h' hs hx' => ?_
  have z := hq h' (fun b o e => (hs.2 b (fresh b o e)).trans (k b o e)) ((hs.2 _ (Nat.ne_of_lt (Nat.lt_succ_self _))).trans hdx) hx'
  exact wpAny_pure (wpAny_pure z)
end
end Mine
end
section
namespace Mine
section
variable {M : Model} {A : Around} {c : Code} {E : Value → Shared → Prop} {s : Shared} {env : Env}
theorem atSp0 {pos : Pos} {Q : List Value → Shared → Prop} (h : Q [] s) : PySem.wpAt M A c (spliced (backTo pos (starEach [] env))) Q E s := PySem.wpAt_of_wpAny (args_nil h)
theorem atSp {e : Expr} {rest : List Expr} {pos : Pos} {Q : List Value → Shared → Prop}
    (h : PySem.wpAt M A c (eval e env) (fun v s₁ => PySem.wpAt M A c (spliced (backTo pos (starEach rest env))) (fun vs s₂ => Q (v :: vs) s₂) E s₁) E s)
    (he : starEach (e :: rest) env = (false, eval e env) :: starEach rest env := by rfl) : PySem.wpAt M A c (spliced (backTo pos (starEach (e :: rest) env))) Q E s := by
  rw [he]
  show PySem.wpAt M A c (spliced ((false, eval e env) :: backTo pos (starEach rest env))) Q E s
  rw [spliced]
  refine PySem.wpAt_bind (PySem.wpAt_mono h (fun v s₁ h₁ => ?_) fun _ _ x => x)
  simp only [Bool.false_eq_true, if_false]
  exact PySem.wpAt_bind (PySem.wpAt_of_wpAny (wpAny_pure (PySem.wpAt_bind (ks_wpAt_holding (PySem.wpAt_mono h₁ (fun vs s₂ h₂ => PySem.wpAt_of_wpAny (wpAny_pure h₂)) fun _ _ x => x)))))
theorem atCw {pos : Pos} {id : String} {e : Expr} {rest : List Expr} {Q : Value → Shared → Prop} (h : PySem.wpAt M A c (spliced (backTo pos (starEach (e :: rest) env))) (fun vs s₁ => wpAny M A (call (.builtin id) vs) Q E s₁) E s)
    (he : starEach (e :: rest) env = (false, eval e env) :: starEach rest env := by rfl) (hplain : (backTo pos (starEach rest env)).any (·.1) = false := by rfl) :
    PySem.wpAt M A c (callWith pos (.builtin id) [] (backTo pos (starEach (e :: rest) env)) []) Q E s := by
  rw [he] at h ⊢
  have hp : (backTo pos ((false, eval e env) :: starEach rest env)).any (·.1) = false := by show (false || (backTo pos (starEach rest env)).any (·.1)) = false; rw [hplain]; rfl
  unfold callWith
  refine PySem.wpAt_bind (ks_wpAt_holding (PySem.wpAt_mono (Q := fun a s₁ => wpAny M A (call (.builtin id) a.pos a.kw) Q E s₁) ?_ (fun a s₁ h₁ => PySem.wpAt_of_wpAny (wpAny_bind (wpAny_standAt ?_))) fun _ _ x => x))
  · unfold evalArgs
    show PySem.wpAt M A c (spliced (backTo pos ((false, eval e env) :: starEach rest env)) >>= _) _ E s
    refine PySem.wpAt_bind (PySem.wpAt_mono h (fun vs s' h' => ?_) fun _ _ x => x)
    exact PySem.wpAt_of_wpAny (wpAny_holding (wpAny_bind (wpAny_pure (wpAny_bind (wpAny_pure (wpAny_pure h'))))))
  · simp only [hp, List.any_nil, Bool.or_false]
    refine wpAny_bind (wpAny_pure ?_)
    exact wpAny_bind (wpAny_mono h₁ (fun r s₂ hr => wpAny_bind (wpAny_holding (wpAny_point (wpAny_pure hr)))) fun _ _ x => x)
theorem atCall {func : Expr} {args : List Expr} {pos : Pos} {Q : Value → Shared → Prop}
    (h : PySem.wpAt M A c (eval func env) (fun f s₁ => PySem.wpAt M A c (callWith pos f [] (backTo pos (starEach args env)) []) Q E s₁) E s)
    (he : eval (.Call func args [] pos) env = (do callWith pos (← eval func env) [] (backTo pos (starEach args env)) (backToKw pos (keywordEach [] env))) := by rfl) :
    PySem.wpAt M A c (eval (.Call func args [] pos) env) Q E s := by
  rw [he]; exact PySem.wpAt_bind h
end
end Mine
end
section
namespace Mine
noncomputable abbrev boundOf (id : String) (a : Addr) : Obj := { cls := .type "builtin_function_or_method", data := .fields #[.builtin id, .ref a] }
theorem ddm_type : typeOf (.builtin "collections.defaultdict.__missing__") = pure (.type "method_descriptor") := by
  show builtinType _ = _
  rw [builtinType_eq_fast]; kernel_rfl
section
variable {prog : Program} {w : World} {A : Around} {E : Value → Shared → Prop} {h : Heap} {g : Array GenState} {d : Drawn} {t : Nat} {os : OsState} {K : Frag} {x C so : Addr}
/-- method_descriptor.__get__ of defaultdict.__missing__ -/
theorem ddm_get {ox : Obj} {od : Option Obj} {R : Result → Shared → Prop} (X : K.In h) (I : InstAt h x ox C od) (hi : subIn K (.ref C) (.type "collections.defaultdict") = some true) (hq : R (.ok (.ret (.ref h.objs.size))) ⟨h.push (boundOf "collections.defaultdict.__missing__" x), g, d, t, os⟩) :
    codeAny (model prog w) A (.call (.builtin "method_descriptor.__get__") ⟨[.builtin "collections.defaultdict.__missing__", .ref x, .ref C], []⟩) R ⟨h, g, d, t, os⟩ := by
  have hT5 : (⟨h, g, d, t, os⟩ : Shared).TypeIs (.builtin "collections.defaultdict.__missing__") "method_descriptor" := ddm_type
  have f8 := inst_isi (M := model prog w) X I hi
  have e8 : (".".intercalate ("collections.defaultdict.__missing__".cutAt '.').dropLast) = "collections.defaultdict" := by decide +kernel
  rw [← e8] at f8
  refine codeAny_call_builtin F.slot_md_get.plain F.entry_md_get (F.slot_md_get.check _ _ _ _ _ _ _ _ hT5 (F.args_md_get _ _ _) ?_)
  unfold Builtin.«method_descriptor.__get__»
  repeat (any_goals (first | assumption | (with_reducible refine f8.here ?_) | wp_step))

set_option maxHeartbeats 1600000 in
/-- super().__missing__ -/
theorem super_ddm {ox : Obj} {od : Option Obj} {cd : ClassData} {l₀ : List Value} {Q : Value → Shared → Prop} {expr : Bool} {name : Str} (hn : (name == ("__class__" : Str)) = false) (X : K.In h) (I : InstAt h x ox C od) (hi : subIn K (.ref C) (.type "collections.defaultdict") = some true)
    (hso : h.get? so = some (ks_superObj C x C)) (hno : nsIn K cStatics "thirdparty.any" = some none) (hc : clsIn K C = some cd) (hl : (cd.mro.dropWhile (· != .ref C)).drop 1 = l₀)
    (hf : alongIn K name l₀ = some (some (.builtin "collections.defaultdict.__missing__")))
    (hq : Q (.ref h.objs.size) ⟨h.push (boundOf "collections.defaultdict.__missing__" x), g, d, t + 1, os⟩) : wpAny (model prog w) A (getAttr (.ref so) name expr) Q E ⟨h, g, d, t, os⟩ := by
  have hlk := PySem.F.ks_slot_super_ga.lookup
  have hcan := PySem.F.ks_canon_super_ga
  have hT : ∀ t', (⟨h, g, d, t', os⟩ : Shared).TypeIs (.ref so) "super" := fun _ => ⟨_, hso, rfl⟩
  have hxC : x ≠ C := ks_ne X I hc
  have hC : Looks (model prog w) h (mroOf (.ref C)) cd.mro := fun A Q E s k q => wpAny_bind ((looks_clsIn X hc) A _ E s k (wpAny_pure q))
  have hno' := looks_opaque (M := model prog w) (C := C) X hno
  unfold getAttr getAttrBy
  refine wpAny_bind (wpAny_mkText (wpAny_holding (wpAny_bind (wpAny_typeOf (hT _) (wpAny_bind (wpAny_of_eq hlk ?_))))))
  show wpAny _ _ (getAttrByItsOwn (.ref so) (.str name t) (.type "super") (.builtin "super.__getattribute__") true expr) _ _ _
  unfold getAttrByItsOwn hookBefore callGetattribute boundAndCalled
  refine wpAny_bind (wpAny_of_eq (show (if onTheHeap (.type "super") then typeLookup (.type "super") "__getattr__" else pure none) = pure none from rfl) ?_)
  rw [show (expr && onTheHeap (Value.builtin "super.__getattribute__")) = false from by cases expr <;> rfl, if_neg Bool.false_ne_true]
  refine wpAny_bind (wpAny_attempt (wpAny_holding ?_))
  refine wpAny_bind (wpAny_of_eq (PySem.F.ks_slot_super_ga.bind _) ?_)
  refine wpAny_mono (Q := fun v s' => v = .ref h.objs.size ∧ s' = ⟨h.push (boundOf "collections.defaultdict.__missing__" x), g, d, t + 1, os⟩) (E := fun _ _ => False)
    (wpAny_call_entry PySem.F.ks_slot_super_ga (hT _) PySem.F.ks_entry_super_ga ?_ (PySem.F.ks_gaArgs_super _ _)) (fun v s' hv => ?_) fun _ _ z => z.elim
  · have hlk2 := F.slot_md_get.lookup
    have hne : (Value.ref x == Value.ref C) = false := by simp [hxC]
    have hTf : (⟨h, g, d, t + 1, os⟩ : Shared).TypeIs (.builtin "collections.defaultdict.__missing__") "method_descriptor" := ddm_type
    have hdt : ({ cls := .type "super", dict := none, data := .fields #[.ref C, .ref x, .ref C], slots := #[] } : Obj).data = .fields #[.ref C, .ref x, .ref C] := rfl
    have f0 : (#[.ref C, .ref x, .ref C] : Array Value)[0]? = some (.ref C) := rfl
    have f1 : (#[.ref C, .ref x, .ref C] : Array Value)[1]? = some (.ref x) := rfl
    have f2 : (#[.ref C, .ref x, .ref C] : Array Value)[2]? = some (.ref C) := rfl
    have hfc : ((Value.ref C) == Value.type "module") = false := rfl
    have hnn : ((Value.ref C) == Value.none) = false := rfl
    unfold Builtin.«super.__getattribute__»
    repeat (first
      | (with_reducible refine wpAny_field hso hdt f0 ?_) | (with_reducible refine wpAny_field hso hdt f1 ?_) | (with_reducible refine wpAny_field hso hdt f2 ?_)
      | (with_reducible refine ks_wpAny_notOpaque hno' ?_)
      | (with_reducible refine Looks.at hC ?_; rw [hl])
      | (refine ks_forIn_along X (fun _ _ => rfl) rfl ?_ hf)
      | (with_reducible refine wpAny_typeOf hTf ?_)
      | (with_reducible refine ⟨_, rfl, ?_⟩)
      | (simp only [hn, hne, hfc, hnn, Bool.or_false, Bool.false_eq_true, if_false])
      | wp_step
      | dsimp only)

    refine ddm_get X I hi ?_
    repeat wp_step
    all_goals exact ⟨_, rfl, rfl, rfl⟩
  · obtain ⟨rfl, rfl⟩ := hv
    exact wpAny_pure hq
end
end Mine
end
section
namespace Mine
section
variable {prog : Program} {w : World} {K : Frag} {T h₀ h : Heap} {O : List Addr} {env : Env} {A : Around} {m : Str → Option Value} {B D M : Led} {s : Shared} {tk : Nat} {E : Value → Shared → Prop}
/-- a call of a def whose body asks for its own code: its body in a scope of its own -/
theorem codeFnA {R : Result → Shared → Prop} {fd : FuncData} {f : Addr} {fo : Obj} {args : Args} {binds : List (Str × Value)} {body : List Stmt} {cm : Str → Option Value}
    (C : Cx K T) (go : Go T A D h) (kT0 : ∀ b o, T.get? b = some o → h₀.get? b = some o) (kp : Kp T h₀ h) (hgr : ∀ p ∈ D, p ∈ B ∨ h₀.get? p.1 = none) (mu : Has h M) (muNew : ∀ p ∈ M, h₀.get? p.1 = none) (ndM : (M.map (·.1)).Nodup) (offDM : ∀ p ∈ D, ∀ q ∈ M, p.1 ≠ q.1)
    (hroom : A.depth < recursionLimit)
    (ho : h.get? f = some fo) (hd : fo.data = .func fd) (hbody : fd.body = .stmts body) (hcd : h.CodeRec fd.code fd.qualname)
    (hbind : BindsTo (sA s h tk) fd args binds)
    (hcl : ∀ x c, (x, c) ∈ fd.closure → (∃ o, h.get? c = some o ∧ o.data = .cell (cm x)) ∧ ∀ q ∈ M, c ≠ q.1) (hnd : (fd.closure.map (·.2)).Nodup)
    (hB : ∀ h' tk' E', St T h₀ B (ownOf h.objs.size (cellsFrom (h.objs.size + 1) fd.scope.names fd.closure)) (fnEnv fd h.objs.size f) (A.deeper (fnEnv fd h.objs.size f)) (bindAll binds (newM fd.closure cm)) D M h' →
      PySem.wpAt (model prog w) (A.deeper (fnEnv fd h.objs.size f)) (.func body (fnEnv fd h.objs.size f)) (execs body (fnEnv fd h.objs.size f)) (fun fl s' => R (.ok (.ret (retOf fl))) s') E' (sA s h' tk'))
    (hk : fd.scope.kind = .function) (hco : fd.scope.isCoroutine = false) (hgen : fd.scope.isGenerator = false)
    (hnames : nodupS ((cellsFrom 0 fd.scope.names fd.closure).map (·.1)) = true)
    (hlook : looksOk fd.scope.names (cellsFrom (h.objs.size + 1) fd.scope.names fd.closure) = true) (hcll : (fd.closure.all fun p => !(fd.scope.names.lookup p.1 == some .local)) = true)
    (hbs : ∀ x ∈ binds, fd.scope.names.lookup x.1 = some .local ∨ (fd.scope.names.lookup x.1 = some .cell ∧ fd.closure.lookup x.1 = none)) :
    codeAny (model prog w) A (.call (.ref f) args) R (sA s h tk) := by
  refine codeAny_call_function hroom ho hd hco hgen hbody hcd (hbind _ _ _ _ ?_)
  refine newScope (rs := fd.scope) (h₀ := h₀) (M := M) (A := A.in1) ⟨go.kT, go.fs.in1, go.has⟩ kT0 kp hgr mu muNew ndM offDM hcl hnd (fun h' tk' Z frm => ?_) hk hnames hlook hcll (.inr ⟨rfl, hbs⟩)
  have Z1 : St T h₀ B (ownOf h.objs.size (cellsFrom (h.objs.size + 1) fd.scope.names fd.closure)) (fnEnv fd h.objs.size f) A.in1 (bindAll binds (newM fd.closure cm)) D M h' := Z
  refine ⟨C.noLimit Z1.go.kT, ks_codeAny_funcAt (hB h' tk' _ (Z1.around ?_))⟩
  have f0 : Fs T A h' := ⟨Z1.go.fs.hd, Z1.go.fs.fr⟩
  refine f0.deeper (L := h.objs.size) (by show fd.scope.kind ≠ .module; rw [hk]; decide) rfl (Z1.T_own (.head _)) (frm rfl)
end
end Mine
end
section
namespace Mine
namespace F
end F
section
variable {prog : Program} {w : World} {A : Around} {E : Value → Shared → Prop} {s : Shared}
variable {K : Frag} {x C : Addr} {Kk : Type} [DecidableEq Kk] {knd : KeyKind prog w Kk} {kvs : List (Kk × Value)} {k : Kk} {key : Value}
end
end Mine
end
section
namespace Mine
namespace F
end F
section
variable {prog : Program} {w : World} {A : Around} {E : Value → Shared → Prop} {s : Shared} {K : Frag} {x C q : Addr} {key : Value}
end
end Mine
end
section
open PySem PySem.W PyProof.Rows PySem.Calls Builtin Builtin.ObjectAttr
namespace Mine
/-- a built-in type whose __getattribute__ is object's under a name of its own -/
structure Ga (owner ga : String) : Prop where
  bi : Bi owner "__getattribute__" ga
  entry : entryFor table ga = some Builtin.«object.__getattribute__»
  args : ∀ a b, argsOk ga ⟨[a, b], []⟩
  ne : (ga == "object.__getattribute__") = false
  canon : (Manifest.canonical ga != "object.__getattribute__") = false
theorem ga_dd : Ga "collections.defaultdict" "collections.defaultdict.__getattribute__" :=
  ⟨.of (by kernel_rfl) (by decide +kernel) (by decide +kernel) (by decide +kernel) (by decide +kernel), entryFor_alias (id' := "object.__getattribute__") (by kernel_rfl) (by decide +kernel) (by decide +kernel) (by kernel_rfl),
    fun a b => by unfold argsOk; kernel_rfl, by decide +kernel, by decide +kernel⟩
theorem ga_tuple : Ga "tuple" "tuple.__getattribute__" :=
  ⟨.of (by kernel_rfl) (by decide +kernel) (by decide +kernel) (by decide +kernel) (by decide +kernel), entryFor_alias (id' := "object.__getattribute__") (by kernel_rfl) (by decide +kernel) (by decide +kernel) (by kernel_rfl),
    fun a b => by unfold argsOk; kernel_rfl, by decide +kernel, by decide +kernel⟩
section
variable {prog : Program} {w : World} {A : Around} {E : Value → Shared → Prop} {s : Shared} {K : Frag} {x C : Addr} {ox : Obj} {od : Option Obj} {name : Str} {tk : Tok} {fill expr : Bool} {owner ga : String}
theorem al_open {Q : Value → Shared → Prop} (G : Ga owner ga) (X : K.In s.heap) (I : InstAt s.heap x ox C od) (hga : findIn K (.ref C) "__getattribute__" = some (some (.builtin ga))) (hk : findIn K (.ref C) "__getattr__" = some none) (hi : subIn K (.ref C) (.type owner) = some true)
    (h : wpAny (model prog w) A.in1 (Builtin.«object.__getattribute__» ⟨[.ref x, .str name tk], []⟩) (fun fin s' => match fin with | .done (.ret v) => wpAny (model prog w) A (handedOut v) Q E s' | _ => False) (fun e s' => wpAny (model prog w) A (getattributeRaised (.ref x) (.str name tk) (.ref C) e none fill expr) Q E s') s) :
    wpAny (model prog w) A (getAttrBy (.ref x) (.str name tk) fill expr) Q E s := by
  unfold getAttrBy
  refine wpAny_holding (wpAny_bind (I.type.here (wpAny_bind ((looks_findIn X hga).here ?_))))
  have e1 : (onTheHeap (.ref C) && (Value.builtin ga == Value.builtin "object.__getattribute__")) = false := by
    have : (Value.builtin ga == Value.builtin "object.__getattribute__") = false := by
      have h := G.ne
      simp only [beq_eq_false_iff_ne, ne_eq] at h ⊢
      intro q; cases q; exact h rfl
    rw [this, Bool.and_false]
  show wpAny _ _ (if (onTheHeap (.ref C) && (Value.builtin ga == Value.builtin "object.__getattribute__")) = true then _ else _) _ _ _
  rw [if_neg (by rw [e1]; exact Bool.false_ne_true)]
  unfold getAttrByItsOwn hookBefore callGetattribute boundAndCalled
  refine wpAny_bind ?_
  show wpAny _ _ (typeLookup (.ref C) "__getattr__") _ _ _
  refine (looks_findIn X hk).here ?_
  rw [show (expr && onTheHeap (Value.builtin ga)) = false from by cases expr <;> rfl, if_neg Bool.false_ne_true]
  refine wpAny_bind (wpAny_attempt (wpAny_holding (wpAny_bind (wpAny_of_eq (G.bi.bind _) ?_))))
  refine wpAny_call (G.bi.code G.entry (inst_isi X I hi) (G.args _ _) (wpAny_mono h (fun fin s' z => ?_) fun e s' z => z))
  rcases fin with (_ | _ | _ | _) | _ <;> first | exact z | exact z.elim

theorem al_value {v : Value} {Q : Value → Shared → Prop} (G : Ga owner ga) (X : K.In s.heap) (I : InstAt s.heap x ox C od) (hga : findIn K (.ref C) "__getattribute__" = some (some (.builtin ga))) (hk : findIn K (.ref C) "__getattr__" = some none) (hi : subIn K (.ref C) (.type owner) = some true)
    (hf : findObj K C od name = some (.value v)) (hh : handedIn v = true) (h : Q v s) : wpAny (model prog w) A (getAttrBy (.ref x) (.str name tk) fill expr) Q E s := by
  refine al_open G X I hga hk hi ?_
  have L0 := I.type (M := model prog w)
  have L1 := looks_find (M := model prog w) X I hf
  refine wpAny_bind (wpAny_pure (wpAny_bind (wpAny_pure (wpAny_bind (L0.here (wpAny_bind (L1.here ?_)))))))
  refine wpAny_pure ?_
  show wpAny _ _ (handedOut v) _ _ _
  rw [handedOut_of hh]; exact wpAny_pure h

theorem al_bind {g a : Value} {Q : Value → Shared → Prop} (G : Ga owner ga) (X : K.In s.heap) (I : InstAt s.heap x ox C od) (hga : findIn K (.ref C) "__getattribute__" = some (some (.builtin ga))) (hk : findIn K (.ref C) "__getattr__" = some none) (hi : subIn K (.ref C) (.type owner) = some true)
    (hf : findObj K C od name = some (.bind g a))
    (h : ∀ E', wpAny (model prog w) A.in1 (call g [a, .ref x, .ref C]) (fun v s' => wpAny (model prog w) A (handedOut v) Q E s') E' s) : wpAny (model prog w) A (getAttrBy (.ref x) (.str name tk) fill expr) Q E s := by
  refine al_open G X I hga hk hi ?_
  have L0 := I.type (M := model prog w)
  have L1 := looks_find (M := model prog w) X I hf
  refine wpAny_bind (wpAny_pure (wpAny_bind (wpAny_pure (wpAny_bind (L0.here (wpAny_bind (L1.here ?_)))))))
  show wpAny _ _ (holding [a] (call g [a, .ref x, .ref C]) >>= ret) _ _ _
  exact wpAny_bind (wpAny_holding (wpAny_mono (h _) (fun v s' z => wpAny_pure z) fun _ _ z => z))

end
end Mine
end
section
namespace Mine
namespace F
theorem args_getattr_3 (a b c : Value) : argsOk "getattr" ⟨[a, b, c], []⟩ := by unfold argsOk; kernel_rfl
end F
section
variable {prog : Program} {w : World} {K : Frag} {T h₀ h h' : Heap} {O : List Addr} {env : Env} {A A' : Around} {m : Str → Option Value} {B D D' M M' L L' : Led} {s : Shared} {tk : Nat} {E : Value → Shared → Prop}
theorem getattr3 {x C : Addr} {ox : Obj} {od : Option Obj} {dflt : Value} {t : Tok} {Q : Value → Shared → Prop} (X : K.In s.heap) (I : InstAt s.heap x ox C od) (hm : subIn K (.ref C) (.type "module") = some false)
    (h : wpAny (model prog w) A.in1 (getAttrBy? (.ref x) (.str "_frozen" t)) (fun r s' => Q (r.getD dflt) s') E s) : wpAny (model prog w) A (call (.builtin "getattr") [.ref x, .str "_frozen" t, dflt]) Q E s := by
  have isM := inst_isi (M := model prog w) X I hm
  refine Calls.call_function_entry KB.kind_getattr KB.plain_getattr KB.entry_getattr (F.args_getattr_3 _ _ _) ?_
  unfold Builtin.«getattr»
  refine wpAny_bind (wpAny_of_eq (a := [.ref x, .str "_frozen" t, dflt]) (by first | rfl | kernel_rfl) ?_)
  dsimp only
  refine wpAny_bind (wpAny_of_eq (a := ()) (by first | rfl | kernel_rfl) ?_)
  refine wpAny_bind (wpAny_of_eq (a := none) (by first | rfl | kernel_rfl) ?_)
  dsimp only
  refine wpAny_bind ?_
  refine wpAny_bind (wpAny_of_eq (a := some ("_frozen" : Str)) (by first | rfl | kernel_rfl) ?_)
  dsimp only
  refine wpAny_bind (isM.here ?_)
  rw [if_pos (by decide)]
  refine wpAny_pure ?_
  rw [if_neg (by decide)]
  refine wpAny_bind (wpAny_mono h (fun r s' hq => ?_) fun _ _ e => e)
  cases r with
  | some v => exact wpAny_pure ⟨_, rfl, hq⟩
  | none =>
    dsimp only
    rw [if_neg (by decide)]
    exact wpAny_pure ⟨_, rfl, hq⟩

/-- an object of a defaultdict's class: its dict, its factory, its items -/
structure BookO {Kk : Type} [DecidableEq Kk] (knd : KeyKind prog w Kk) (C dx : Addr) (fac : Value) (o : Obj) (kvs : List (Kk × Value)) : Prop where
  cls : o.cls = .ref C
  dict : o.dict = some dx
  slots : o.slots = #[some fac]
  bears : Bears knd o kvs
theorem BookO.inst {Kk : Type} [DecidableEq Kk] {knd : KeyKind prog w Kk} {C dx x : Addr} {fac : Value} {o od : Obj} {kvs : List (Kk × Value)} (b : BookO knd C dx fac o kvs) (e : h.get? x = some o) (ed : h.get? dx = some od) : InstAt h x o C (some od) := by
  obtain ⟨es, ep, hd, _⟩ := b.bears
  exact ⟨e, b.cls, by unfold notCls; rw [hd], by rw [b.dict]; exact ed⟩
theorem BookO.rest {Kk : Type} [DecidableEq Kk] {knd : KeyKind prog w Kk} {C dx : Addr} {fac : Value} {o o' : Obj} {kvs kvs' : List (Kk × Value)} (b : BookO knd C dx fac o kvs) (r : SameRest o o') (hb : Bears knd o' kvs') : BookO knd C dx fac o' kvs' :=
  ⟨r.1.trans b.cls, r.2.1.trans b.dict, r.2.2.trans b.slots, hb⟩
theorem BookO.nf {Kk : Type} [DecidableEq Kk] {knd : KeyKind prog w Kk} {C dx : Addr} {fac : Value} {o : Obj} {kvs : List (Kk × Value)} (b : BookO knd C dx fac o kvs) : o.cls ≠ .type "frame" ∧ ∀ vs, o.data ≠ .fields vs := by
  obtain ⟨es, ep, hd, _⟩ := b.bears
  exact ⟨by rw [b.cls]; simp, fun vs q => by rw [hd] at q; cases q⟩
end
end Mine
end
section
namespace Mine
section
variable {prog : Program} {w : World} {K : Frag} {T h₀ h h' : Heap} {O : List Addr} {env : Env} {A A' : Around} {m : Str → Option Value} {B D D' M M' L L' : Led} {s : Shared} {tk : Nat} {E : Value → Shared → Prop}
/-- a method whose body says super(): a call of it, M lent -/
theorem codeFnS0 {env₀ : Env} {A₀ : Around} {O₀ : List Addr} {m₀ : Str → Option Value} {R : Result → Shared → Prop} {fd : FuncData} {f cc Dc : Addr} {fo oc : Obj} {args : Args} {binds : List (Str × Value)} {body : List Stmt}
    (C : Cx K T) (Y : St T h₀ B O₀ env₀ A₀ m₀ D M h) (fs : Fs T A h) (hroom : A.depth < recursionLimit)
    (ho : K.lookup f = some fo) (hd : fo.data = .func fd) (hbody : fd.body = .stmts body) (hcd : codeIn K fd.code fd.qualname = true)
    (hbind : BindsTo (sA s h tk) fd args binds) (hcl : fd.closure = [(Str.ofString "__class__", cc)]) (hcell : K.lookup cc = some oc) (hoc : oc.data = .cell (some (.ref Dc)))
    (hk : fd.scope.kind = .function) (hco : fd.scope.isCoroutine = false) (hgen : fd.scope.isGenerator = false)
    (hnames : nodupS ((cellsFrom 0 fd.scope.names [(Str.ofString "__class__", cc)]).map (·.1)) = true)
    (hlook : looksOk fd.scope.names (cellsFrom (h.objs.size + 1) fd.scope.names [(Str.ofString "__class__", cc)]) = true)
    (hcll : (([(Str.ofString "__class__", cc)] : List (Str × Addr)).all fun p => !(fd.scope.names.lookup p.1 == some .local)) = true)
    (hbs : (binds.all fun x => fd.scope.names.lookup x.1 == some .local) = true)
    (hB : ∀ L O h' tk' E', L = h.objs.size → O = ownOf L (cellsFrom (L + 1) fd.scope.names [(Str.ofString "__class__", cc)]) → St T h₀ B O (newEnv fd.scope L fd.globals (cellsFrom (L + 1) fd.scope.names [(Str.ofString "__class__", cc)]) (fd.qualname ++ ".<locals>.") (some f) fd.code none fd.builtins) (A.deeper (newEnv fd.scope L fd.globals (cellsFrom (L + 1) fd.scope.names [(Str.ofString "__class__", cc)]) (fd.qualname ++ ".<locals>.") (some f) fd.code none fd.builtins)) (bindAll binds (newM [(Str.ofString "__class__", cc)] fun _ => some (.ref Dc))) D M h' →
      PySem.wpAt (model prog w) (A.deeper (newEnv fd.scope L fd.globals (cellsFrom (L + 1) fd.scope.names [(Str.ofString "__class__", cc)]) (fd.qualname ++ ".<locals>.") (some f) fd.code none fd.builtins)) (.func body (newEnv fd.scope L fd.globals (cellsFrom (L + 1) fd.scope.names [(Str.ofString "__class__", cc)]) (fd.qualname ++ ".<locals>.") (some f) fd.code none fd.builtins)) (execs body (newEnv fd.scope L fd.globals (cellsFrom (L + 1) fd.scope.names [(Str.ofString "__class__", cc)]) (fd.qualname ++ ".<locals>.") (some f) fd.code none fd.builtins)) (fun fl s' => R (.ok (.ret (retOf fl))) s') E' (sA s h' tk')) :
    codeAny (model prog w) A (.call (.ref f) args) R (sA s h tk) := by
  have hT : T.get? cc = some oc := C.X _ _ hcell
  have hcc : h.get? cc = some oc := Y.go.kT _ _ hT
  refine codeFnA (h₀ := h₀) (B := B) (D := D) (M := M) (cm := fun _ => some (.ref Dc)) C ⟨Y.go.kT, fs, Y.go.has⟩ Y.kT0 Y.kp Y.gr Y.mu Y.muNew Y.ndM (fun p hp => (Y.offD p hp).2) hroom (C.inn Y.go.kT _ _ ho) hd hbody (codeRec_of (C.inn Y.go.kT) hcd) hbind ?_ ?_ (fun h' tk' E' Z => ?_) hk hco hgen (by rw [hcl]; exact hnames) (by rw [hcl]; exact hlook) (by rw [hcl]; exact hcll) fun x hx => ?_
  · rw [hcl]
    intro x c hm
    rw [List.mem_singleton] at hm
    cases hm
    refine ⟨⟨oc, hcc, hoc⟩, fun q hq e => ?_⟩
    have := Y.T_mu hq
    rw [← e, hT] at this; cases this
  · rw [hcl]; simp
  · have := hB h.objs.size _ h' tk' E' rfl rfl
    rw [← hcl] at this
    exact this Z
  · have := List.all_eq_true.mp hbs x hx
    exact .inl (by simpa using this)
theorem atAttr2 {c : Code} {value : Expr} {attr : Str} {pos : Pos} {Q : Value → Shared → Prop} {s : Shared}
    (h : PySem.wpAt (model prog w) A c (attributeBase value attr env (eval value env)) (fun o s₁ => wpAny (model prog w) A (getAttr o attr true) Q E s₁) E s) :
    PySem.wpAt (model prog w) A c (eval (.Attribute value attr pos) env) Q E s := by
  rw [arm_eval_Attribute]
  refine PySem.wpAt_bind (PySem.wpAt_mono h (fun o s₁ h₁ => PySem.wpAt_of_wpAny (wpAny_bind (wpAny_standAt (wpAny_bind (wpAny_holding (wpAny_mono h₁ (fun r s₂ h₂ => ?_) fun _ _ x => x)))))) fun _ _ x => x)
  exact wpAny_bind (wpAny_letTemporaryGo (wpAny_pure h₂))
theorem superAt {body : List Stmt} {p0 p1 : Pos} {attr : Str} {whole : Sem Value} {f cc : Addr} {of oc : Obj} {fd : FuncData} {ar : Arg} {vs : Array Value} {file : Str} {tf : Tok} {Q : Value → Shared → Prop} {s : Shared} (X : K.In s.heap)
    (hks : env.kindOf "super" = some .globalImplicit) (hkc : env.kindOf "__class__" = some .free) (hat : (attr == ("__class__" : Str)) = false) (hfu : env.func = some f) (hf : K.lookup f = some of) (hfd : of.data = .func fd)
    (hp : (fd.params.posonlyargs ++ fd.params.args).head? = some ar) (hco : env.code = .ref cc) (hcc : K.lookup cc = some oc) (hoc : oc.data = .fields vs) (hvs : vs[2]? = some (.str file tf))
    (hfile : ((prog.main.file : Str) == file) = true) (htop : (prog.main.scope.names.lookup ("super" : Str)).isSome = false)
    (h : wpAny (model prog w) A (loadName env "super") (fun g s₁ => g = .type "super" ∧ wpAny (model prog w) A (loadName env "__class__") (fun cls s₂ => wpAny (model prog w) A (loadName env ar.arg) (fun self s₃ =>
      wpAny (model prog w) A (isType cls) (fun b s₄ => b = true ∧ wpAny (model prog w) A (call (.type "super") [cls, self]) Q E s₄) E s₃) E s₂) E s₁) E s) :
    PySem.wpAt (model prog w) A (.func body env) (attributeBase (.Call (.Name "super" p0) [] [] p1) attr env whole) Q E s :=
  ks_wpAt_super_base hks hkc hat hfu (X _ _ hf) hfd hp hco (X _ _ hcc) hoc hvs hfile htop h
/-- a builtin's name, known -/
theorem loadB {x : Str} {v : Value} {Q : Value → Shared → Prop} (C : Cx K T) (Z : St T h₀ B O env A m D M h) (e : nsIn K mainGlobals x = some none) (hv : bootBuiltins x = some v) (hQ : Q v (sA s h tk))
    (hk : env.scope.kind = .function := by rfl) (hg : env.globals = mainGlobals := by rfl) (hb : env.builtins = builtinsNs := by rfl) (hx : env.kindOf x = some .globalImplicit := by rfl) (hn : x ≠ "__name__" := by decide) :
    wpAny (model prog w) A (loadName env x) Q E (sA s h tk) := by
  obtain ⟨_, _, mg, mb, t⟩ := C.top
  exact ks_loadName_global hk hx (loadGlobal_builtin (by rw [hg]; exact t.g.keeps Z.go.kT) (mg_none_of C.X t.g e) (by rw [hb]; exact t.b.keeps Z.go.kT) ((t.builtins x hn).trans hv) hQ)
/-- super() of an object of class C in a method of C -/
theorem superMk {x C : Addr} {ox : Obj} {od : Option Obj} {cd : ClassData} {Q : Value → Shared → Prop} (C0 : Cx K T) (Z : St T h₀ B O env A m D M h) (I : InstAt h x ox C od) (hc : clsIn K C = some cd) (hsub : mroIn K C (.ref C) = some true)
    (hQ : ∀ so h', h'.get? so = some (ks_superObj C x C) → (∀ b o, h.get? b = some o → h'.get? b = some o) → St T h₀ B O env A m D M h' → Q (.ref so) (sA s h' tk)) : wpAny (model prog w) A (isType (.ref C)) (fun b s₄ => b = true ∧ wpAny (model prog w) A (call (.type "super") [.ref C, .ref x]) Q E s₄) E (sA s h tk) := by
  have X := C0.inn Z.go.kT
  obtain ⟨oD, hD1, hD2⟩ : ∃ oD, h.get? C = some oD ∧ oD.data = .cls cd := by
    unfold clsIn at hc
    split at hc
    · rename_i c d cd' sl ho
      cases hc
      exact ⟨_, X _ _ ho, rfl⟩
    · cases hc
  refine ks_wpAny_isType_cls (h := h) hD1 hD2 ⟨rfl, ?_⟩
  refine ks_wpAny_call_super (h := h) hD1 hD2 I.at_ I.cls (fun c e => ?_) (looks_mroIn X hsub) (fun h' e k => ?_)
  · have := I.no
    unfold notCls at this
    rw [e] at this
    exact Bool.noConfusion this
  · exact hQ _ h' e k (Z.step (.of_keeps k))
theorem superIn_of {C : Addr} {cd : ClassData} {name : Str} {r : Option Value} {D : Addr} (hc : clsIn K C = some cd) (h : ks_superIn K C D name = some r) : alongIn K name ((cd.mro.dropWhile (· != .ref D)).drop 1) = some r := by
  unfold ks_superIn at h
  rw [hc] at h
  exact h
end
end Mine
end
section
namespace Mine
section
variable {prog : Program} {w : World} {K : Frag} {T h₀ h h' : Heap} {O : List Addr} {env : Env} {A A' : Around} {m : Str → Option Value} {B D D' M M' L L' : Led} {s : Shared} {tk : Nat} {E : Value → Shared → Prop}
/-- mutable objects turn, and new settled ones come -/
theorem St.turnMD {S : List Addr} (Z : St T h₀ B O env A m D M h) (k : KpX T S h h') (hS : ∀ b ∈ S, b ∈ M.map (·.1)) (hM : M'.map (·.1) = M.map (·.1)) (hs : Has h' M') (hD : Has h' D') (f : Fresh h D') : St T h₀ B O env A m (D' ++ D) M' h' :=
  have Z' := Z.turnM (M' := M') k hS (fun a ha => hM ▸ ha) (hM ▸ Z.ndM) hs
  { Z' with
    go := ⟨Z'.go.kT, Z'.go.fs, hD.append Z'.go.has⟩
    gr := fun p hp => (List.mem_append.mp hp).elim (fun q => .inr (Kp.back Z.kp (f p q))) (Z.gr p)
    offD := fun p hp => (List.mem_append.mp hp).elim (fun q => ⟨fun ho => (by obtain ⟨_, o, e⟩ := Z.own _ ho; rw [f p q] at e; cases e), fun q' hq' e => by
      have hm : q'.1 ∈ M.map (·.1) := hM ▸ List.mem_map_of_mem hq'
      obtain ⟨r, hr, e'⟩ := List.mem_map.mp hm
      have := (Z.mu r hr).1
      rw [e', ← e, f p q] at this
      cases this⟩) (Z'.offD p) }

/-- what a code's table may hold of one lambda -/
noncomputable def TabIs (pos : Pos) (qual : Str) (D : Led) (ps : Array Value) : Prop := ps = #[] ∨ ∃ c' oc vs t, ps = #[rawInt pos.line, rawInt pos.col, .ref c'] ∧ (c', oc) ∈ D ∧ oc.data = .fields vs ∧ vs[1]? = some (.str qual t)
theorem TabIs.mono {pos : Pos} {qual : Str} {ps : Array Value} (x : TabIs pos qual D ps) (k : ∀ p ∈ D, p ∈ D') : TabIs pos qual D' ps := by
  rcases x with e | ⟨c', oc, vs, t, e, hm, r⟩
  · exact .inl e
  · exact .inr ⟨c', oc, vs, t, e, k _ hm, r⟩

theorem makeLam_cell {name qual : Str} {params : Arguments} {body : Expr} {scope : Scope} {c P : Addr} {pos : Pos} {firstLine : Nat} {clos : List (Str × Addr)} {Q : Value → Shared → Prop} {mg : Str → Option Value} {Mo : Model} {s : Shared}
    (hcl : closureFor scope env = pure clos) (hge0 : env.globals = mainGlobals) (hg : s.heap.Ns mainGlobals mg) (hcode : env.code = .ref c) (C : CodeHd s.heap c P) (hP : s.heap.get? P = some (tabObj #[]))
    (hgP : mainGlobals ≠ P) (hb : s.heap.BuiltinsAt mg P)
    (h : ∀ c' oc ctv h' tk vs t, Heap.ExtBut P s.heap h' → s.heap.objs.size ≤ c' → c' < h'.objs.size → h'.get? c' = some oc → oc.cls = .type "code" → oc.data = .fields vs → vs[1]? = some (.str qual t) → h'.get? P = some (tabObj #[rawInt pos.line, rawInt pos.col, .ref c']) →
      Q (.ref h'.objs.size) { s with heap := h'.push (kla_obj name qual params body scope clos ((mg "__name__").getD .none) c' ctv), toks := tk }) :
    wpAny Mo A (makeFunction name qual params (.expr body) scope env [] [] [] pos firstLine) Q E s := by
  rw [makeFunction_eq]
  simp only [List.zip_nil_right, List.filterMap_nil, List.isEmpty_nil, if_true, pure_bind]
  obtain ⟨bm, ob, hbm, hne0, _, hneP, hbo, hcls, hdict, hdata⟩ := hb
  have hnf : codeAmong pos (#[] : Array Value).toList = none := rfl
  have ht : TriplesOk (#[] : Array Value).toList := by exact True.intro
  have fin : ∀ {h'' : Heap} {c' : Addr}, h''.CodeRec (.ref c') qual → (∃ P', s.heap.objs.size ≤ P' ∧ h''.IsCode c' P' #[] ∧ h''.TableAt c' P' #[]) → ∃ oc vs t, h''.get? c' = some oc ∧ oc.cls = .type "code" ∧ oc.data = .fields vs ∧ vs[1]? = some (.str qual t) := by
    rintro h'' c' ⟨c₂, oc, vs, t, e2, hoc, hd, hv⟩ ⟨P', _, _, ⟨⟨o, vs', e1, e3, _, _⟩, _⟩⟩
    cases e2
    rw [hoc] at e1; cases e1
    exact ⟨oc, vs, t, hoc, e3, hd, hv⟩
  unfold makeTail
  rw [hcl, hge0]
  refine wpAny_bind (wpAny_pure ?_)
  cases clos with
  | nil =>
    simp only [List.isEmpty_nil, if_true]
    refine wpAny_bind (wpAny_pure ?_)
    refine wpAny_bind (wpAny_functionCodeX hcode (C.code hP ht) (C.tab hP) hnf fun c' h' tk hx hge hlt _ hrec htb hP' => ?_)
    have hg' := hg.extBut hx hgP
    refine wpAny_bind (wpAny_builtinsFor hg' hbm hne0 (hx _ _ hneP hbo) hcls hdict hdata ?_)
    refine wpAny_bind (wpAny_nsGet hg' ?_)
    obtain ⟨oc, vs, t, q1, q2, q3, q4⟩ := fin hrec hP'
    exact wpAny_bind (wpAny_pure (wpAny_newObj_type (h c' oc .none h' tk vs t hx hge hlt q1 q2 q3 q4 htb.2) (by size_fits)))
  | cons q r =>
    simp only [List.isEmpty_cons, Bool.false_eq_true, if_false]
    refine wpAny_bind (wpAny_newTextTuple ?_)
    refine wpAny_bind (wpAny_functionCodeX hcode ((C.keeps fun b o e => Heap.get?_push_of_some _ e).code (Heap.get?_push_of_some _ hP) ht) ((C.keeps fun b o e => Heap.get?_push_of_some _ e).tab (Heap.get?_push_of_some _ hP)) hnf fun c' h' tk hx hge hlt _ hrec htb hP' => ?_)
    have hg' := (hg.push _).extBut hx hgP
    have hx' : Heap.ExtBut P s.heap h' := fun b o hb' e => hx b o hb' (Heap.get?_push_of_some _ e)
    have hge' : s.heap.objs.size ≤ c' := Nat.le_trans (by rw [Heap.size_push]; omega) hge
    refine wpAny_bind (wpAny_builtinsFor hg' hbm hne0 (hx' _ _ hneP hbo) hcls hdict hdata ?_)
    refine wpAny_bind (wpAny_nsGet hg' ?_)
    obtain ⟨P', z1, z2⟩ := hP'
    obtain ⟨oc, vs, t, q1, q2, q3, q4⟩ := fin hrec ⟨P', Nat.le_trans (by rw [Heap.size_push]; omega) z1, z2⟩
    exact wpAny_bind (wpAny_pure (wpAny_newObj_type (h c' oc _ h' tk vs t hx' hge' hlt q1 q2 q3 q4 htb.2) (by size_fits)))

/-- a lambda is made in a scope whose code's table is lent -/
theorem nwLam {params : Arguments} {body : Expr} {scope : Scope} {c P : Addr} {ps : Array Value} {pos : Pos} {clos : List (Str × Addr)} {Q : Value → Shared → Prop} (C : Cx K T) (Z : St T h₀ B O env A m D (L ++ (P, tabObj ps) :: M) h)
    (hdef : defaultsOf params env = ([], [])) (hcl : closureFor scope env = pure clos) (hge : env.globals = mainGlobals) (hcode : env.code = .ref c) (hhd : codeHdIn K c P = true) (hps : TabIs pos (env.qual ++ "<lambda>") D ps)
    (hQ : ∀ f c' oc vs t ctv pm h' tk' D' ps', (∀ p ∈ D, p ∈ D') → (f, kla_obj "<lambda>" (env.qual ++ "<lambda>") params body scope clos pm c' ctv) ∈ D' → (c', oc) ∈ D' → oc.data = .fields vs → vs[1]? = some (.str (env.qual ++ "<lambda>") t) → TabIs pos (env.qual ++ "<lambda>") D' ps' →
      St T h₀ B O env A m D' (L ++ (P, tabObj ps') :: M) h' → Q (.ref f) (sA s h' tk')) : wpAny (model prog w) A (eval (.Lambda params body scope pos) env) Q E (sA s h tk) := by
  refine kla_eval hdef ?_
  have X := C.inn Z.go.kT
  obtain ⟨mg, hg, bm, ob, b1, b2, b3, b4, b5, b6⟩ := C.blt
  have hgh := hg.keeps Z.go.kT
  have hP := Z.mu (P, tabObj ps) (List.mem_append_right _ (.head _))
  have hgP : mainGlobals ≠ P := fun q => by
    obtain ⟨o, es, ep, e, hd, _⟩ := hgh
    rw [q, hP.1] at e; cases e; cases hd
  have hbo := Z.go.kT _ _ b3
  have hbP : bm ≠ P := fun q => by rw [q, hP.1] at hbo; cases hbo; cases b4
  have hbG : bm ≠ mainGlobals := fun q => by
    obtain ⟨o, es, ep, e, hd, _⟩ := hg
    rw [q, e] at b3; cases b3; rw [hd] at b6; cases b6
  have CH := codeHd_of_K X hhd
  have nd := nd_mid Z.ndM
  rcases hps with rfl | ⟨c', oc, vs, t, rfl, hm, hd, hv⟩
  · refine makeLam_cell (s := sA s h tk) (mg := mg) hcl hge hgh hcode CH hP.1 hgP ⟨bm, ob, b1, b2, hbG, hbP, hbo, b4, b5, b6⟩ fun c' oc ctv h' tk' vs t hx hge2 hlt e1 e2 e3 e4 e5 => ?_
    have hfn : h.get? h'.objs.size = none := Heap.get?_none_of_le (Nat.le_trans hge2 (Nat.le_of_lt hlt))
    have Z' := Z.turnMD (S := [P]) (h' := h'.push (kla_obj "<lambda>" (env.qual ++ "<lambda>") params body scope clos ((mg "__name__").getD .none) c' ctv)) (M' := L ++ (P, tabObj #[rawInt pos.line, rawInt pos.col, .ref c']) :: M)
      (D' := [(h'.objs.size, kla_obj "<lambda>" (env.qual ++ "<lambda>") params body scope clos ((mg "__name__").getD .none) c' ctv), (c', oc)])
      (.extBut (fun b o hb e => Heap.get?_push_of_some _ (hx b o hb e)) (.head _) ⟨_, hP.1, notFrm_cls hP.2⟩) (fun b hb => by rw [List.mem_singleton.mp hb]; simp) (by simp) (fun p hp => ?_) ?_ ?_
    · exact hQ _ c' oc vs t ctv _ _ tk' _ _ (fun p hp => List.mem_append_right _ hp) (.head _) (.tail _ (.head _)) e3 e4 (.inr ⟨c', oc, vs, t, rfl, .tail _ (.head _), e3, e4⟩) Z'
    · rcases List.mem_append.mp hp with hp | hp
      · have := Z.mu p (List.mem_append_left _ hp)
        exact ⟨Heap.get?_push_of_some _ (hx _ _ (nd p (List.mem_append_left _ hp)) this.1), this.2⟩
      · rcases List.mem_cons.mp hp with rfl | hp
        · exact ⟨Heap.get?_push_of_some _ e5, hP.2⟩
        · have := Z.mu p (List.mem_append_right _ (.tail _ hp))
          exact ⟨Heap.get?_push_of_some _ (hx _ _ (nd p (List.mem_append_right _ hp)) this.1), this.2⟩
    · exact Has.cons (Heap.get?_push_size _ rfl) (by show Value.type _ ≠ Value.type _; decide) (Has.cons (Heap.get?_push_of_some _ e1) (by rw [e2]; decide) .nil)
    · intro p hp
      rcases List.mem_cons.mp hp with rfl | hp
      · exact hfn
      · rw [List.mem_singleton.mp hp]; exact Heap.get?_none_of_le hge2
  · have hf : codeAmong pos (#[rawInt pos.line, rawInt pos.col, Value.ref c'] : Array Value).toList = some (.ref c') := by
      simp [codeAmong, rawInt]
    have ht : TriplesOk (#[rawInt pos.line, rawInt pos.col, Value.ref c'] : Array Value).toList := by
      simp [TriplesOk, rawInt]
    refine kla_makeFunctionHit (s := sA s h tk) (mg := mg) hcl hge hgh hcode CH hP.1 ht hf ⟨bm, ob, b1, b2, hbG, hbP, hbo, b4, b5, b6⟩ fun ctv h' tk' k hsz => ?_
    have hfn : h.get? h'.objs.size = none := Heap.get?_none_of_le hsz
    have Z' := Z.more (D' := [(h'.objs.size, kla_obj "<lambda>" (env.qual ++ "<lambda>") params body scope clos ((mg "__name__").getD .none) c' ctv)]) (h' := h'.push (kla_obj "<lambda>" (env.qual ++ "<lambda>") params body scope clos ((mg "__name__").getD .none) c' ctv))
      (.of_keeps fun b o e => Heap.get?_push_of_some _ (k b o e)) (Has.cons (Heap.get?_push_size _ rfl) (by show Value.type _ ≠ Value.type _; decide) .nil) (fun p hp => by rw [List.mem_singleton.mp hp]; exact hfn)
    exact hQ _ c' oc vs t ctv _ _ tk' _ _ (fun p hp => .tail _ hp) (.head _) (.tail _ hm) hd hv (.inr ⟨c', oc, vs, t, rfl, .tail _ hm, hd, hv⟩) Z'
end
end Mine
end
section
open PySem PySem.W PyProof.Rows PySem.Calls Builtin Builtin.ObjectAttr
namespace Mine
theorem bi_setattr : Bi "object" "__setattr__" "object.__setattr__" := .of (by kernel_rfl) (by decide +kernel) (by decide +kernel) (by decide +kernel) (by decide +kernel)
theorem refuse_dd (self : Value) : refuseLoop self "__setattr__" [.type "collections.defaultdict", .type "dict", .type "object"] = pure () := by kernel_rfl
section
variable {prog : Program} {w : World} {A : Around} {E : Value → Shared → Prop} {s : Shared} {K : Frag} {x C : Addr} {ox od : Obj} {name : Str} {owner ga : String} {pl : Sem Bool} {Q : Value × List Value → Shared → Prop}
/-- a method of an own class under a built-in type -/
theorem al_method {f : Value} {tf : Value} (G : Ga owner ga) (X : K.In s.heap) (I : InstAt s.heap x ox C (some od)) (hga : findIn K (.ref C) "__getattribute__" = some (some (.builtin ga))) (hk : findIn K (.ref C) "__getattr__" = some none)
    (hf : findIn K (.ref C) name = some (some f)) (ht : typeIn K f = some tf) (htf : (tf != .type "function" && tf != .type "method_descriptor" && tf != .type "wrapper_descriptor") = false) (hs : lookIn name od = some none) (h : Q (f, [.ref x]) s) :
    wpAny (model prog w) A (getMethod (.ref x) name pl) Q E s := by
  unfold getMethod specialOf
  refine wpAny_bind (wpAny_bind (I.type.here ((looks_findIn X hga).here ?_)))
  dsimp only
  rw [G.canon, if_neg Bool.false_ne_true]
  refine wpAny_bind (wpAny_bind (I.type.here ((looks_findIn X hk).here ?_)))
  refine wpAny_bind (wpAny_bind (I.type.here ((looks_findIn X hf).here (wpAny_bind ((looks_typeIn X ht).here ?_)))))
  rw [htf, if_neg Bool.false_ne_true]
  refine wpAny_bind (wpAny_loadPart I.at_ ?_)
  have hd := I.dict
  cases e : ox.dict with
  | none => exact wpAny_bind (wpAny_rule (wpAny_pure h))
  | some dx =>
    rw [e] at hd
    refine wpAny_bind (wpAny_bind (wpAny_loadPart hd ?_))
    rw [nsLook_of hs]
    exact wpAny_pure (wpAny_bind (wpAny_rule (wpAny_pure h)))
end
section
variable {prog : Program} {w : World} {K : Frag} {T h₀ h h' : Heap} {O : List Addr} {env : Env} {A A' : Around} {m : Str → Option Value} {B D D' M M' L L' : Led} {s : Shared} {tk : Nat} {E : Value → Shared → Prop}
end
end Mine
end
section
namespace Mine
noncomputable abbrev cellObj (v : Value) : Obj := { cls := .type "cell", data := .cell (some v) }
section
variable {prog : Program} {w : World} {K : Frag} {T h₀ h h' : Heap} {O O' : List Addr} {env : Env} {A A' : Around} {m : Str → Option Value} {B D D' M M' L L' : Led} {s : Shared} {tk : Nat} {E : Value → Shared → Prop}
/-- an own address that is not turned any more is settled -/
theorem St.cellD {c : Addr} {oc : Obj} (Z : St T h₀ B O env A m D M h) (hc : c ∈ O) (hO : ∀ a ∈ O', a ∈ O ∧ a ≠ c) (e : h.get? c = some oc) (hcl : oc.cls ≠ .type "frame") : St T h₀ B O' env A m ((c, oc) :: D) M h :=
  { Z with
    go := ⟨Z.go.kT, Z.go.fs, Has.cons e hcl Z.go.has⟩
    own := fun a ha => Z.own a (hO a ha).1
    gr := fun p hp => (List.mem_cons.mp hp).elim (fun q => .inr (by rw [q]; exact (Z.own c hc).1)) (Z.gr p)
    offD := fun p hp => (List.mem_cons.mp hp).elim (fun q => ⟨fun ho => (by rw [q] at ho; exact (hO _ ho).2 rfl), fun q' hq' e' => (by rw [q] at e'; exact Z.offM q' hq' (e' ▸ hc))⟩) fun q => ⟨fun ho => (Z.offD p q).1 (hO _ ho).1, (Z.offD p q).2⟩
    offM := fun q hq ho => Z.offM q hq (hO _ ho).1 }

theorem storeCellX {M : Model} {name : Str} {c : Addr} {o : Obj} {v₀ : Option Value} {v : Value} {Q : Unit → Shared → Prop} {s : Shared} (hk : env.scope.kind = .function) (hl : env.kindOf name = some .cell)
    (hc : env.cells.lookup name = some c) (ho : s.heap.get? c = some o) (hd : o.data = .cell v₀)
    (h : ∀ h', h'.get? c = some { o with data := .cell (some v) } → Heap.SameBut c s.heap h' → Q () { s with heap := h' }) : wpAny M A (storeName env name v) Q E s := by
  unfold storeName
  simp only [hl, hk]
  refine wpAny_bind (wpAny_cellOf hc ?_)
  unfold cellSet
  refine wpAny_bind (wpAny_load ho ?_)
  rw [hd]
  exact wpAny_update ho (h _ (Heap.get?_update_self _ ho rfl) (Heap.SameBut.update ..))
/-- a scope whose one name is its parameter, in a cell -/
theorem newScopeC {scope : Scope} {globals : Addr} {x : Str} {v : Value} {qual : Str} {func : Option Addr} {code : Value} {builtins : Addr} {Q : Env → Shared → Prop}
    (go : Go T A D h) (kT0 : ∀ b o, T.get? b = some o → h₀.get? b = some o) (kp : Kp T h₀ h) (hgr : ∀ p ∈ D, p ∈ B ∨ h₀.get? p.1 = none) (mu : Has h M) (muNew : ∀ p ∈ M, h₀.get? p.1 = none) (ndM : (M.map (·.1)).Nodup) (offDM : ∀ p ∈ D, ∀ q ∈ M, p.1 ≠ q.1)
    (hQ : ∀ h' tk' L c, L = h.objs.size → St T h₀ B [L] (newEnv scope L globals [(x, c)] qual func code none builtins) A (upd (fun _ => none) x v) ((c, cellObj v) :: D) M h' → (∃ o, h'.get? L = some o ∧ IsFrm o) →
      Q (newEnv scope L globals [(x, c)] qual func code none builtins) (sA s h' tk'))
    (hk : scope.kind = .function) (hn : scope.names = [(x, .cell)]) :
    wpAny (model prog w) A (newFunctionEnv scope globals [] [(x, v)] qual func code none builtins) Q E (sA s h tk) := by
  simp only [newFunctionEnv, Option.isSome_none, Bool.false_eq_true, if_false]
  refine wpAny_bind (wpAny_alloc (wpAny_bind (wpAny_layCells _ (fun name kind cells => by cases kind == NameKind.cell <;> simp) _ _ _ _ ?_)))
  have hsz : (h.push { cls := .type "frame", data := .dict #[] }).objs.size = h.objs.size + 1 := Heap.size_push ..
  show wpAny _ _ (forIn [(x, v)] _ _ >>= _) _ _ (sA s (pushCells (h.push _) scope.names) tk)
  rw [show ({ sA s h tk with heap := (sA s h tk).heap.push { cls := .type "frame", data := .dict #[] } } : Shared).heap.objs.size = h.objs.size + 1 from hsz]
  have hcells : cellsFrom (h.objs.size + 1) scope.names [] = [(x, h.objs.size + 1)] := by rw [hn]; rfl
  have base := openSt (B := B) (A := A) (env := newEnv scope h.objs.size globals [(x, h.objs.size + 1)] qual func code none builtins) (names := scope.names) (cl := []) (cm := fun _ => none) (h := h) (lo := { cls := .type "frame", data := .dict #[] }) ⟨_, rfl⟩ rfl
    (by rw [hcells]; rfl) go kT0 kp hgr mu muNew ndM offDM (fun _ _ hm => nomatch hm) List.nodup_nil rfl (by show looksOk scope.names [(x, h.objs.size + 1)] = true; rw [hn]; simp [looksOk]) rfl
  rw [hcells]
  rw [hn] at base ⊢
  have hpc : pushCells (h.push { cls := .type "frame", data := .dict #[] }) [(x, .cell)] = (h.push { cls := .type "frame", data := .dict #[] }).push { cls := .type "cell", data := .cell none } := rfl
  rw [hpc] at base ⊢
  have ec : ((h.push { cls := .type "frame", data := .dict #[] }).push { cls := .type "cell", data := .cell none }).get? (h.objs.size + 1) = some { cls := .type "cell", data := .cell none } := by
    have := Heap.get?_push_size (h.push { cls := .type "frame", data := .dict #[] }) (o := ({ cls := .type "cell", data := .cell none } : Obj)) rfl
    rw [hsz] at this; exact this
  have eL : ((h.push { cls := .type "frame", data := .dict #[] }).push { cls := .type "cell", data := .cell none }).get? h.objs.size = some { cls := .type "frame", data := .dict #[] } := Heap.get?_push_of_some _ (Heap.get?_push_size _ rfl)
  generalize (h.push { cls := .type "frame", data := .dict #[] }).push { cls := .type "cell", data := .cell none } = h2 at base ec eL ⊢
  have hkind : ∀ y, (newEnv scope h.objs.size globals [(x, h.objs.size + 1)] qual func code none builtins).kindOf y = scope.names.lookup y := fun y => rfl
  rw [List.forIn_cons]
  refine wpAny_bind (wpAny_bind (wpAny_bind ?_))
  refine storeCellX (s := sA s h2 tk) (c := h.objs.size + 1) hk (by show scope.names.lookup x = _; rw [hn, List.lookup_cons, beq_self_eq_true]) (by show List.lookup x [(x, h.objs.size + 1)] = _; simp) ec rfl fun h3 e3 sb => ?_
  refine wpAny_pure ?_
  show wpAny _ _ (forIn [] _ _) _ _ _
  rw [List.forIn_nil]
  refine wpAny_pure (wpAny_pure ?_)
  have hne : h.objs.size ≠ h.objs.size + 1 := Nat.ne_of_lt (Nat.lt_succ_self _)
  have hin : h.objs.size + 1 ∈ ownOf h.objs.size [(x, h.objs.size + 1)] := by
    refine List.mem_cons_of_mem _ (List.mem_filter.mpr ⟨by simp, decide_eq_true (Nat.lt_succ_self _)⟩)
  have Z1 := base.turnO (m' := upd (fun _ => none) x v) (S := [h.objs.size + 1]) (h' := h3)
    (.sameBut sb (.head _) fun o2 e2 f => absurd f (notFrm_cell (v := none) (by rw [ec] at e2; cases e2; rfl))) (fun b hb => by rw [List.mem_singleton.mp hb]; exact hin) (fun b hb => by rw [List.mem_singleton.mp hb]; exact ⟨_, e3⟩) ⟨?_, ?_⟩
  · have Z2 := Z1.cellD (O' := [h.objs.size]) hin (fun a ha => by rw [List.mem_singleton.mp ha]; exact ⟨.head _, hne⟩) e3 (by show Value.type _ ≠ Value.type _; decide)
    exact hQ _ tk _ _ rfl Z2 ⟨_, (sb.2 _ hne).trans eL, rfl, _, _, rfl⟩
  · obtain ⟨m₀, n, _⟩ := base.vr.loc
    refine ⟨m₀, n.sameBut sb hne, fun y hy u hu => ?_⟩
    rw [hkind, hn] at hy
    unfold upd at hu
    by_cases q : y = x
    · rw [q, List.lookup_cons, beq_self_eq_true] at hy; cases hy
    · rw [if_neg q] at hu; cases hu
  · intro y hy
    rw [hkind, hn, List.lookup_cons] at hy
    cases q : y == x with
    | false => rw [q] at hy; rcases hy with hy | hy <;> cases hy
    | true =>
      have q := beq_iff_eq.mp q
      subst q
      refine ⟨h.objs.size + 1, _, some v, by simp [newEnv], e3, rfl, fun u hu => ?_⟩
      unfold upd at hu
      rw [if_pos rfl] at hu
      exact hu
/-- a call of such a def, M lent -/
theorem codeFnC {env₀ : Env} {A₀ : Around} {O₀ : List Addr} {m₀ : Str → Option Value} {R : Result → Shared → Prop} {fd : FuncData} {f : Addr} {fo : Obj} {args : Args} {x : Str} {v : Value} {body : List Stmt}
    (C : Cx K T) (Y : St T h₀ B O₀ env₀ A₀ m₀ D M h) (fs : Fs T A h) (hroom : A.depth < recursionLimit)
    (ho : K.lookup f = some fo) (hd : fo.data = .func fd) (hbody : fd.body = .stmts body) (hcd : codeIn K fd.code fd.qualname = true)
    (hbind : BindsTo (sA s h tk) fd args [(x, v)]) (hcl : fd.closure = [])
    (hk : fd.scope.kind = .function) (hco : fd.scope.isCoroutine = false) (hgen : fd.scope.isGenerator = false) (hn : fd.scope.names = [(x, .cell)])
    (hB : ∀ L c h' tk' E', L = h.objs.size → St T h₀ B [L] (newEnv fd.scope L fd.globals [(x, c)] (fd.qualname ++ ".<locals>.") (some f) fd.code none fd.builtins) (A.deeper (newEnv fd.scope L fd.globals [(x, c)] (fd.qualname ++ ".<locals>.") (some f) fd.code none fd.builtins)) (upd (fun _ => none) x v) ((c, cellObj v) :: D) M h' →
      wpAny (model prog w) (A.deeper (newEnv fd.scope L fd.globals [(x, c)] (fd.qualname ++ ".<locals>.") (some f) fd.code none fd.builtins)) (execs body (newEnv fd.scope L fd.globals [(x, c)] (fd.qualname ++ ".<locals>.") (some f) fd.code none fd.builtins)) (fun fl s' => R (.ok (.ret (retOf fl))) s') E' (sA s h' tk')) :
    codeAny (model prog w) A (.call (.ref f) args) R (sA s h tk) := by
  refine codeAny_call_function hroom (C.inn Y.go.kT _ _ ho) hd hco hgen hbody (codeRec_of (C.inn Y.go.kT) hcd) (hbind _ _ _ _ ?_)
  rw [hcl]
  refine newScopeC (h₀ := h₀) (B := B) (M := M) (D := D) (A := A.in1) ⟨Y.go.kT, fs.in1, Y.go.has⟩ Y.kT0 Y.kp Y.gr Y.mu Y.muNew Y.ndM (fun p hp => (Y.offD p hp).2) (fun h' tk' L c hL Z frm => ?_) hk hn
  refine ⟨C.noLimit Z.go.kT, codeAny_func (hB L c h' tk' _ hL (Z.around ?_))⟩
  have f0 : Fs T A h' := ⟨Z.go.fs.hd, Z.go.fs.fr⟩
  exact f0.deeper (by show fd.scope.kind ≠ .module; rw [hk]; decide) rfl (Z.T_own (.head _)) frm
end
end Mine
end
section
open PySem PySem.W PyProof.Rows PySem.Calls Builtin Builtin.ObjectAttr
namespace Mine
section
variable {prog : Program} {w : World} {K : Frag} {T h₀ h h' : Heap} {O : List Addr} {env : Env} {A A' : Around} {m : Str → Option Value} {B D D' M M' L L' : Led} {s : Shared} {tk : Nat} {E : Value → Shared → Prop}
/-- x.name = v, into x's own dict, which is empty -/
theorem stOwn1 {x C dx : Addr} {ox : Obj} {name : Str} {v : Value} {Q : Unit → Shared → Prop} {cd : ClassData} (C0 : Cx K T) (Z : St T h₀ B O env A m D (L ++ (dx, emptyDict) :: M) h) (I : InstAt h x ox C (some emptyDict)) (hdx : ox.dict = some dx)
    (hs : findIn K (.ref C) "__setattr__" = some (some (.builtin "object.__setattr__"))) (hi : subIn K (.ref C) (.type "object") = some true) (hc : clsIn K C = some cd) (hm : cd.mro = [.ref C, .type "collections.defaultdict", .type "dict", .type "object"]) (hd : cd.hasDict = true) (hn : findIn K (.ref C) name = some none)
    (hQ : ∀ od' es ep h' tk', od'.cls = .type "dict" → od'.data = .dict es ep → lookIn name od' = some (some v) → (∀ n, n ≠ name → lookIn n od' = some none) → St T h₀ B O env A m D (L ++ (dx, od') :: M) h' → Q () (sA s h' tk')) :
    wpAny (model prog w) A (setAttr (.ref x) name v) Q E (sA s h tk) := by
  have X := C0.inn Z.go.kT
  have SF := PySem.F.store_object
  have hdo := (Z.mu _ (List.mem_append_right _ (.head _))).1
  unfold setAttr
  refine wpAny_bind (wpAny_mkText ?_)
  refine wpAny_bind (special_bi (s := sA s h (tk + 1)) X I hs bi_setattr (wpAny_call (bi_setattr.code SF.entry (inst_isi X I hi) (SF.args _ _ _) ?_)))
  have hmr : Looks (model prog w) h (mroOf (.ref C)) cd.mro := (looks_clsIn X hc).andThen .now
  rw [osa_eq, refuse_eq]
  refine wpAny_bind (wpAny_bind (I.type.here (s := sA s h (tk + 1)) (wpAny_bind (hmr.here (s := sA s h (tk + 1)) ?_))))
  rw [hm, refuseLoop_ref, refuse_dd]
  refine wpAny_pure (wpAny_bind (I.type.here (s := sA s h (tk + 1)) (wpAny_bind ((looks_findIn X hn).here (s := sA s h (tk + 1)) (wpAny_bind ?_)))))
  show wpAny _ _ (pure none) _ _ _
  refine wpAny_pure ?_
  show wpAny _ _ (storeInOwnDict (.ref x) (.ref C) (.str name tk) name v false) _ _ _
  obtain ⟨hx, hcl, hnn, -⟩ := I
  obtain ⟨oc, odi, oda, osl⟩ := ox
  dsimp only at hcl hdx
  subst hcl hdx
  refine wpAny_bind (wpAny_pure (wpAny_bind (wpAny_bind (wpAny_loadPart (s := sA s h (tk + 1)) hx (wpAny_bind ((looks_clsIn X hc).here (s := sA s h (tk + 1)) ?_))))))
  rw [hd]
  refine wpAny_pure (a := some dx) (wpAny_bind (wpAny_pure (wpAny_bind ?_)))
  unfold nsSet
  refine wpAny_bind (wpAny_bind (wpAny_askSetting (wpAny_pure (wpAny_bind (wpAny_mkText (wpAny_bind (wpAny_loadPart (s := sA s h (tk + 1 + 1)) hdo ?_)))))))
  dsimp only [emptyDict]
  rw [aRefKeyMayBeTheName_at, show (!(#[] : Array DictEntry).any (·.key.isStr name) && (#[] : Array DictEntry).any (·.refKey)) = false from by simp]
  have hput : ∃ es ep, (Obj.putName name (PyData.keyHash w.params name) (.str name (tk + 1)) v emptyDict).data = .dict es ep ∧ lookIn name (Obj.putName name (PyData.keyHash w.params name) (.str name (tk + 1)) v emptyDict) = some (some v) ∧ (∀ n, n ≠ name → lookIn n (Obj.putName name (PyData.keyHash w.params name) (.str name (tk + 1)) v emptyDict) = some none) ∧ es.size ≤ 1000 := by
    have e : Obj.putName name (PyData.keyHash w.params name) (.str name (tk + 1)) v emptyDict = { cls := .type "dict", dict := none, data := .dict #[⟨PyData.keyHash w.params name, .str name (tk + 1), v⟩] 1, slots := #[] } := by
      rw [Obj.putName_eq]
      unfold Obj.putNameByArray emptyDict
      simp
    rw [e]
    refine ⟨_, _, rfl, ?_, ?_, by simp⟩
    · simp [lookIn, Value.isStr]
    · intro n hn
      simp [lookIn, Value.isStr, Ne.symm hn]
      rfl
  obtain ⟨es, ep, e1, e2, e4, e3⟩ := hput
  have hf : (Obj.putName name (PyData.keyHash w.params name) (.str name (tk + 1)) v emptyDict).isFreed = false := Obj.isFreed_of_dict e1
  have e' := Heap.get?_update_self (Obj.putName name (PyData.keyHash w.params name) (.str name (tk + 1)) v) hdo hf
  have sb := Heap.SameBut.update h dx (Obj.putName name (PyData.keyHash w.params name) (.str name (tk + 1)) v)
  have hcls : (Obj.putName name (PyData.keyHash w.params name) (.str name (tk + 1)) v emptyDict).cls = .type "dict" := putName_cls ..
  refine wpAny_updatePart (s := sA s h (tk + 1 + 1)) hdo ?_
  refine wpAny_bind (wpAny_lookBehind e' (by rw [e1]; exact pastItsLine_dict (by rw [sizeLine_eq]; omega)) ?_)
  refine wpAny_pure (wpAny_pure ?_)
  exact hQ _ es ep _ _ hcls e1 e2 e4 (Z.turn1 sb e' (by rw [hcls]; decide) (fun vs q => by rw [e1] at q; cases q))
end
end Mine
end
section
namespace Mine
noncomputable abbrev frzP : Arguments := { posonlyargs := [], args := [{ arg := "key", annotation := none, pos := { line := 70, col := 30, endLine := 70, endCol := 33 } }], vararg := none, kwonlyargs := [], kw_defaults := [], kwarg := none, defaults := [] }
noncomputable abbrev frzB : Expr := ((Expr.Name "self" { line := 70, col := 35, endLine := 70, endCol := 39 }).Attribute "default_factory" { line := 70, col := 35, endLine := 70, endCol := 55 }).Call [] [] { line := 70, col := 35, endLine := 70, endCol := 57 }
noncomputable abbrev frzS : Scope := { kind := .function, names := [("key", .local), ("self", .free)], isGenerator := false, isCoroutine := false }
noncomputable abbrev frzPos : Pos := { line := 70, col := 23, endLine := 70, endCol := 57 }
noncomputable abbrev frzQ : Str := Str.ofString "FreezableDefaultDict.freeze" ++ Str.ofString ".<locals>." ++ Str.ofString "<lambda>"
/-- the dict of a frozen book -/
noncomputable def Frz (D : Led) (x : Addr) (od : Obj) : Prop := ∃ f c' oc vs t ctv pm c, od.cls = .type "dict" ∧ lookIn "_frozen" od = some (some (.ref f)) ∧ (f, kla_obj "<lambda>" frzQ frzP frzB frzS [("self", c)] pm c' ctv) ∈ D ∧ (c', oc) ∈ D ∧ oc.data = .fields vs ∧ vs[1]? = some (.str frzQ t) ∧ (c, cellObj (.ref x)) ∈ D ∧ lookIn "items" od = some none ∧ lookIn "keys" od = some none
theorem Frz.mono {D D' : Led} {x : Addr} {od : Obj} (z : Frz D x od) (k : ∀ p ∈ D, p ∈ D') : Frz D' x od := by
  obtain ⟨f, c', oc, vs, t, ctv, pm, c, a1, a2, a3, a4, a5, a6, a7, a8⟩ := z
  exact ⟨f, c', oc, vs, t, ctv, pm, c, a1, a2, k _ a3, k _ a4, a5, a6, k _ a7, a8⟩
section
variable {w : World} {T h₀ h : Heap} {A : Around} {env : Env} {m : Str → Option Value} {O : List Addr} {B D M L : Led} {s : Shared} {tk : Nat} {E : Value → Shared → Prop}
theorem freeze_spec {fac : Value} {x dx : Addr} {ox : Obj} {kvs : List (Str × Value)} {ps : Array Value} {Q : Value → Shared → Prop} (C : Cx (K01 w.params) T) (Z : St T h₀ B O env A m D ((dx, emptyDict) :: (144, tabObj ps) :: M) h) (hroom : Room 20 A)
  (hb : BookO (strKind PySem.Challenge.rw_il0126_02.row.prog w) 152 dx fac ox kvs) (hx : (x, ox) ∈ D) (hps : TabIs frzPos frzQ D ps)
  (hQ : ∀ od' ps' h' tk' D', (∀ p ∈ D, p ∈ D') → Frz D' x od' → TabIs frzPos frzQ D' ps' → St T h₀ B O env A m D' ((dx, od') :: (144, tabObj ps') :: M) h' → Q .none (sA s h' tk')) :
  wpAny (model PySem.Challenge.rw_il0126_02.row.prog w) A (call (.ref 149) [.ref x]) Q E (sA s h tk) := by
  have Zl := Z.lend
  revert C; k_fill; intro C
  refine wpAny_call ?_
  refine' codeFnC (s := s) (tk := tk) (x := "self") (v := .ref x) ?C Zl ?fs ?room ?ho ?hd ?hbody ?hcd ?hbind ?hcl ?hk ?hco ?hgen ?hn ?hB
  case fs => exact Zl.go.fs
  case room => exact (hroom.le (Nat.zero_le _)).1
  case C => assumption
  case ho => k_is
  case hd => exact rfl
  case hbody => exact rfl
  case hcd => k_is
  case hbind => exact BindsTo.of_eq rfl
  case hcl => exact rfl
  case hk => exact rfl
  case hco => exact rfl
  case hgen => exact rfl
  case hn => exact rfl
  intro Lf c h₁ tk₁ E' hL Z₁
  dsimp only at Z₁ ⊢
  walk_at "ss"
  refine' nwLam (L := [(dx, emptyDict)]) (clos := [("self", c)]) ?C Z₁ ?hdef ?hcl ?hge ?hcode ?hhd ?hps ?_
  case C => assumption
  case hdef => exact rfl
  case hcl => exact rfl
  case hge => exact rfl
  case hcode => exact rfl
  case hhd => kernel_rfl
  case hps => exact hps.mono fun p hp => .tail _ hp
  intro f c' oc vs t ctv pm h₂ tk₂ D₂ ps' hD₂ hf hc' hd' hv' hps' Z₂
  walk_at "ss"
  have hx₂ := (Z₂.go.has _ (hD₂ _ (.tail _ hx))).1
  have hdx₂ := (Z₂.mu _ (.head _)).1
  refine' stOwn1 (L := []) (C := 152) ?C Z₂ (hb.inst hx₂ hdx₂) hb.dict ?hs ?hi ?hc ?hm ?hd ?hn ?_
  case C => assumption
  case hs => k_is
  case hi => k_is
  case hc => k_is
  case hm => exact rfl
  case hd => exact rfl
  case hn => k_is
  intro od' es ep h₃ tk₃ e1 e2 e3 e4 Z₃
  walk_at "ss"
  have Z₄ := Z.retM Z₃ rfl
  have hm₄ : ∀ p ∈ D₂, p ∈ D₂ ++ D := fun p hp => List.mem_append_left _ hp
  exact hQ od' ps' _ _ _ (fun p hp => List.mem_append_right _ hp) ⟨f, c', oc, vs, t, ctv, pm, c, e1, e3, hm₄ _ hf, hm₄ _ hc', hd', hv', hm₄ _ (hD₂ _ (.head _)), ⟨e4 _ (by decide), e4 _ (by decide)⟩⟩ (hps'.mono hm₄) Z₄
end
end Mine
end
section
open PySem PySem.W PyProof.Rows PySem.Calls Builtin Builtin.ObjectAttr Builtin.Getset_descriptor
namespace Mine
namespace F
theorem ddf_type : typeOf (.builtin "collections.defaultdict.default_factory") = pure (.type "member_descriptor") := by
  show builtinType _ = _
  rw [builtinType_eq_fast]; kernel_rfl
theorem ddf_owner : descrOwnerAndName "collections.defaultdict.default_factory" = ("collections.defaultdict", "default_factory") := by decide +kernel
theorem ddf_entry : entryFor table "collections.defaultdict.default_factory" = some Builtin.«collections.defaultdict.default_factory» := entryFor_of_tree (by kernel_rfl)
end F
section
variable {prog : Program} {w : World} {A : Around} {E : Value → Shared → Prop} {s : Shared} {K : Frag} {x C : Addr} {ox od : Obj} {name : Str} {owner ga : String} {pl : Sem Bool} {Q : Value × List Value → Shared → Prop}
theorem al_usual {a tf : Value} (G : Ga owner ga) (X : K.In s.heap) (I : InstAt s.heap x ox C (some od)) (hga : findIn K (.ref C) "__getattribute__" = some (some (.builtin ga))) (hk : findIn K (.ref C) "__getattr__" = some none)
    (hf : findIn K (.ref C) name = some (some a)) (ht : typeIn K a = some tf) (htf : (tf != .type "function" && tf != .type "method_descriptor" && tf != .type "wrapper_descriptor") = true)
    (h : wpAny (model prog w) A (getAttr (.ref x) name) (fun v => Q (v, [])) E s) : wpAny (model prog w) A (getMethod (.ref x) name pl) Q E s := by
  have u : wpAny (model prog w) A (do return (← getAttr (.ref x) name, ([] : List Value))) Q E s := wpAny_bind (wpAny_mono h (fun _ _ z => wpAny_pure z) fun _ _ z => z)
  unfold getMethod specialOf
  refine wpAny_bind (wpAny_bind (I.type.here ((looks_findIn X hga).here ?_)))
  dsimp only
  rw [G.canon, if_neg Bool.false_ne_true]
  refine wpAny_bind (wpAny_bind (I.type.here ((looks_findIn X hk).here ?_)))
  refine wpAny_bind (wpAny_bind (I.type.here ((looks_findIn X hf).here (wpAny_bind ((looks_typeIn X ht).here ?_)))))
  rw [if_pos htf]; exact u
/-- a defaultdict's factory -/
theorem ddf_get {od' : Option Obj} {v tp : Value} {R : Result → Shared → Prop} (X : K.In s.heap) (I : InstAt s.heap x ox C od') (hi : subIn K (.ref C) (.type "collections.defaultdict") = some true) (hs : ox.slots[0]? = some (some v)) (hv : v ≠ .none) (h : R (.ok (.ret v)) s) :
    codeAny (model prog w) A (.call (.builtin "member_descriptor.__get__") ⟨[.builtin "collections.defaultdict.default_factory", .ref x, tp], []⟩) R s := by
  obtain ⟨hh, g, dr, t, os⟩ := s
  have hT : (⟨hh, g, dr, t, os⟩ : Shared).TypeIs (.builtin "collections.defaultdict.default_factory") "member_descriptor" := F.ddf_type
  have L0 := inst_isi (M := model prog w) X I hi
  have hx := I.at_
  dsimp only at hx L0
  refine codeAny_call_builtin KF.slot_mem.plain KF.entry_mem (KF.slot_mem.check _ _ _ _ _ _ _ _ hT (KF.args_mem _ _ _) ?_)
  unfold Builtin.«member_descriptor.__get__» descrGet
  rw [dga_obj]
  refine wpAny_bind (wpAny_pure ?_)
  unfold descrGetter descrCheckInstance descrNameAndClass
  simp only [F.ddf_owner]
  repeat lk
  refine ⟨Code.quiet_builtin _ (by decide +kernel), codeAny_builtin F.ddf_entry ?_⟩
  unfold Builtin.«collections.defaultdict.default_factory»
  show wpAny _ _ (Builtin.Collections_defaultdict.factory? (.ref x) >>= _) _ _ _
  unfold Builtin.Collections_defaultdict.factory? slotAt
  refine wpAny_bind (wpAny_bind (wpAny_bind (wpAny_loadPart (s := ⟨hh, g, dr, t, os⟩) hx (wpAny_pure ?_))))
  rw [hs]
  refine wpAny_pure ?_
  have e : ((some (some v) : Option (Option Value)).join.filter fun x => x != Value.none) = some v := by simp [hv]
  rw [e]
  exact wpAny_pure h
end
section
variable {prog : Program} {w : World} {K : Frag} {T h₀ h h' : Heap} {O : List Addr} {env : Env} {A A' : Around} {m : Str → Option Value} {B D D' M M' L L' : Led} {s : Shared} {tk : Nat} {E : Value → Shared → Prop}
theorem keeps_Fn {M : Model} {q : Addr} {o : Obj} {fd : FuncData} (hd : o.data = .func fd) (h : Heap) (X : h.get? q = some o) : ∃ k, (k = Keeper.frame ∨ k = Keeper.machine ∨ k = Keeper.boundFrame) ∧ Looks M h (keeperOf (.ref q)) k := by
  obtain ⟨c, d, dt, sl⟩ := o
  cases hd
  exact ⟨.frame, .inl rfl, (Looks.ld (part := none) X).andThen .now⟩
theorem callWith_Fn {M : Model} {q : Addr} {o : Obj} {fd : FuncData} {first : List Value} {e : Expr} {rest : List Expr} {pos : Pos} {Q : Value → Shared → Prop} {s : Shared} (hd : o.data = .func fd) (h : wpAny M A (spliced (backTo pos (starEach (e :: rest) env))) (fun vs s₁ => s₁.heap.get? q = some o ∧ wpAny M A (call (.ref q) (first ++ vs)) Q E s₁) E s)
    (he : starEach (e :: rest) env = (false, eval e env) :: starEach rest env := by rfl) (hplain : (backTo pos (starEach rest env)).any (·.1) = false := by rfl) :
    wpAny M A (callWith pos (.ref q) first (backTo pos (starEach (e :: rest) env)) []) Q E s := by
  rw [he] at h ⊢
  exact callWith_of (by show ((false || (backTo pos (starEach rest env)).any (·.1)) || false) = false; rw [hplain]; rfl) (keeps_Fn hd) (evalArgs_plain h)
/-- a call of a lambda that closes over one cell -/
theorem codeFnL {env₀ : Env} {A₀ : Around} {O₀ : List Addr} {m₀ : Str → Option Value} {R : Result → Shared → Prop} {fd : FuncData} {f c : Addr} {fo : Obj} {x : Str} {u : Value} {args : Args} {binds : List (Str × Value)} {body : Expr}
    (C : Cx K T) (Y : St T h₀ B O₀ env₀ A₀ m₀ D M h) (fs : Fs T A h) (hroom : A.depth < recursionLimit)
    (ho : h.get? f = some fo) (hd : fo.data = .func fd) (hbody : fd.body = .expr body) (hcd : h.CodeRec fd.code fd.qualname)
    (hbind : bindArgs fd args = pure binds) (hcl : fd.closure = [(x, c)]) (hc : (c, cellObj u) ∈ D)
    (hk : fd.scope.kind = .function) (hco : fd.scope.isCoroutine = false) (hgen : fd.scope.isGenerator = false)
    (hnames : nodupS ((cellsFrom 0 fd.scope.names [(x, c)]).map (·.1)) = true)
    (hlook : looksOk fd.scope.names (cellsFrom (h.objs.size + 1) fd.scope.names [(x, c)]) = true)
    (hcll : (([(x, c)] : List (Str × Addr)).all fun p => !(fd.scope.names.lookup p.1 == some .local)) = true)
    (hbs : (binds.all fun x => fd.scope.names.lookup x.1 == some .local) = true)
    (hB : ∀ L O h' tk' E', L = h.objs.size → O = ownOf L (cellsFrom (L + 1) fd.scope.names [(x, c)]) → St T h₀ B O (newEnv fd.scope L fd.globals (cellsFrom (L + 1) fd.scope.names [(x, c)]) (fd.qualname ++ ".<locals>.") (some f) fd.code none fd.builtins) (A.deeper (newEnv fd.scope L fd.globals (cellsFrom (L + 1) fd.scope.names [(x, c)]) (fd.qualname ++ ".<locals>.") (some f) fd.code none fd.builtins)) (bindAll binds (newM [(x, c)] fun _ => some u)) D M h' →
      wpAny (model prog w) (A.deeper (newEnv fd.scope L fd.globals (cellsFrom (L + 1) fd.scope.names [(x, c)]) (fd.qualname ++ ".<locals>.") (some f) fd.code none fd.builtins)) (eval body (newEnv fd.scope L fd.globals (cellsFrom (L + 1) fd.scope.names [(x, c)]) (fd.qualname ++ ".<locals>.") (some f) fd.code none fd.builtins)) (fun v s' => R (.ok (.ret v)) s') E' (sA s h' tk')) :
    codeAny (model prog w) A (.call (.ref f) args) R (sA s h tk) := by
  have hcc := Y.go.has _ hc
  refine kla_callFunE (s := sA s h tk) hroom ho hd hco hgen hbody hcd ?_
  rw [hbind]
  refine wpAny_pure ?_
  rw [hcl]
  refine newScope (rs := fd.scope) (h₀ := h₀) (B := B) (D := D) (M := M) (cm := fun _ => some u) (A := A.in1) ⟨Y.go.kT, fs.in1, Y.go.has⟩ Y.kT0 Y.kp Y.gr Y.mu Y.muNew Y.ndM (fun p hp => (Y.offD p hp).2) ?_ (by simp) (fun h' tk' Z frm => ?_) hk hnames hlook hcll (.inr ⟨rfl, fun x hx => ?_⟩)
  · intro y c' hm
    rw [List.mem_singleton] at hm
    cases hm
    exact ⟨⟨_, hcc.1, rfl⟩, (Y.offD _ hc).2⟩
  · refine ⟨C.noLimit Z.go.kT, kla_codeExpr ?_⟩
    have f0 : Fs T A h' := ⟨Z.go.fs.hd, Z.go.fs.fr⟩
    refine hB h.objs.size _ h' tk' _ rfl rfl (St.around Z ?_)
    exact f0.deeper (L := h.objs.size) (by show fd.scope.kind ≠ .module; rw [hk]; decide) rfl (Z.T_own (.head _)) (frm rfl)
  · have := List.all_eq_true.mp hbs x hx
    exact .inl (by simpa using this)
end
end Mine
end
section
namespace Mine
section
variable {prog : Program} {w : World} {K : Frag} {T h₀ h h' : Heap} {O : List Addr} {env : Env} {A A' : Around} {m : Str → Option Value} {B D D' M M' L L' : Led} {s : Shared} {tk : Nat} {E : Value → Shared → Prop}
theorem callWith_Fn0 {M : Model} {q : Addr} {o : Obj} {fd : FuncData} {first : List Value} {pos : Pos} {Q : Value → Shared → Prop} {s : Shared} (hd : o.data = .func fd) (X : s.heap.get? q = some o) (h : wpAny M A (call (.ref q) (first ++ [])) Q E s) :
    wpAny M A (callWith pos (.ref q) first (backTo pos (starEach [] env)) []) Q E s :=
  callWith_of rfl (keeps_Fn hd) (evalArgs_nil3 ⟨X, h⟩)
/-- a call of a lambda that closes over nothing and takes nothing -/
theorem codeFnL0 {env₀ : Env} {A₀ : Around} {O₀ : List Addr} {m₀ : Str → Option Value} {R : Result → Shared → Prop} {fd : FuncData} {f : Addr} {fo : Obj} {args : Args} {body : Expr}
    (C : Cx K T) (Y : St T h₀ B O₀ env₀ A₀ m₀ D M h) (fs : Fs T A h) (hroom : A.depth < recursionLimit)
    (ho : h.get? f = some fo) (hd : fo.data = .func fd) (hbody : fd.body = .expr body) (hcd : h.CodeRec fd.code fd.qualname)
    (hbind : bindArgs fd args = pure []) (hcl : fd.closure = [])
    (hk : fd.scope.kind = .function) (hco : fd.scope.isCoroutine = false) (hgen : fd.scope.isGenerator = false)
    (hnames : fd.scope.names = [])
    (hB : ∀ L h' tk' E', L = h.objs.size → St T h₀ B [L] (newEnv fd.scope L fd.globals [] (fd.qualname ++ ".<locals>.") (some f) fd.code none fd.builtins) (A.deeper (newEnv fd.scope L fd.globals [] (fd.qualname ++ ".<locals>.") (some f) fd.code none fd.builtins)) (fun _ => none) D M h' →
      wpAny (model prog w) (A.deeper (newEnv fd.scope L fd.globals [] (fd.qualname ++ ".<locals>.") (some f) fd.code none fd.builtins)) (eval body (newEnv fd.scope L fd.globals [] (fd.qualname ++ ".<locals>.") (some f) fd.code none fd.builtins)) (fun v s' => R (.ok (.ret v)) s') E' (sA s h' tk')) :
    codeAny (model prog w) A (.call (.ref f) args) R (sA s h tk) := by
  refine kla_callFunE (s := sA s h tk) hroom ho hd hco hgen hbody hcd ?_
  rw [hbind]
  refine wpAny_pure ?_
  rw [hcl]
  refine newScope (rs := fd.scope) (h₀ := h₀) (B := B) (D := D) (M := M) (cm := fun _ => none) (A := A.in1) ⟨Y.go.kT, fs.in1, Y.go.has⟩ Y.kT0 Y.kp Y.gr Y.mu Y.muNew Y.ndM (fun p hp => (Y.offD p hp).2) ?_ (by simp) (fun h' tk' Z frm => ?_) hk ?_ ?_ rfl (.inr ⟨rfl, fun x hx => ?_⟩)
  · intro y c' hm
    cases hm
  · refine ⟨C.noLimit Z.go.kT, kla_codeExpr ?_⟩
    have f0 : Fs T A h' := ⟨Z.go.fs.hd, Z.go.fs.fr⟩
    have hc0 : cellsFrom (h.objs.size + 1) fd.scope.names [] = [] := by rw [hnames]; rfl
    rw [hc0] at Z
    have key := hB h.objs.size h' tk' (fun e s' => wpAny (model prog w) (A.deeper (newEnv fd.scope h.objs.size fd.globals [] (fd.qualname ++ ".<locals>.") (some f) fd.code none fd.builtins)) (leaving (newEnv fd.scope h.objs.size fd.globals [] (fd.qualname ++ ".<locals>.") (some f) fd.code none fd.builtins) e) (fun _ s'' => R (.error e) s'') (fun e' s'' => R (.error e') s'') s') rfl (St.around Z ?_)
    · rw [← hc0] at key
      exact key
    · exact f0.deeper (L := h.objs.size) (by show fd.scope.kind ≠ .module; rw [hk]; decide) rfl (Z.T_own (.head _)) (frm rfl)
  · rw [hnames]; rfl
  · rw [hnames]; rfl
  · cases hx
end
end Mine
end
section
namespace Mine
noncomputable abbrev bkP : Arguments := { posonlyargs := [], args := [], vararg := none, kwonlyargs := [], kw_defaults := [], kwarg := none, defaults := [] }
noncomputable abbrev bkB : Expr := .Constant (.str (Str.ofString "")) 0 { line := 128, col := 40, endLine := 128, endCol := 42 }
noncomputable abbrev bkS : Scope := { kind := .function, names := [], isGenerator := false, isCoroutine := false }
noncomputable abbrev bkPos : Pos := { line := 128, col := 32, endLine := 128, endCol := 42 }
noncomputable abbrev bkQ : Str := Str.ofString "_law_book" ++ Str.ofString ".<locals>." ++ Str.ofString "<lambda>"
/-- the factory of a book: lambda: '' -/
noncomputable def Fac (D : Led) (f : Addr) : Prop := ∃ c' oc vs t ctv pm, (f, kla_obj "<lambda>" bkQ bkP bkB bkS [] pm c' ctv) ∈ D ∧ (c', oc) ∈ D ∧ oc.data = .fields vs ∧ vs[1]? = some (.str bkQ t)
theorem Fac.mono {D D' : Led} {f : Addr} (z : Fac D f) (k : ∀ p ∈ D, p ∈ D') : Fac D' f := by
  obtain ⟨c', oc, vs, t, ctv, pm, a1, a2, a3, a4⟩ := z
  exact ⟨c', oc, vs, t, ctv, pm, k _ a1, k _ a2, a3, a4⟩
section
variable {w : World} {T h₀ h : Heap} {A : Around} {env : Env} {m : Str → Option Value} {O : List Addr} {B D M L : Led} {s : Shared} {tk : Nat} {E : Value → Shared → Prop}
theorem miss_frozen {lf : Addr} {x dx : Addr} {ox od : Obj} {kvs : List (Str × Value)} {k : Str} {t : Tok} {Q : Value → Shared → Prop} (C : Cx (K01 w.params) T) (Z : St T h₀ B O env A m D M h) (hroom : Room 20 A)
  (hb : BookO (strKind PySem.Challenge.rw_il0126_02.row.prog w) 152 dx (.ref lf) ox kvs) (hx : (x, ox) ∈ D) (hdx : (dx, od) ∈ D) (hz : Frz D x od) (hfac : Fac D lf)
  (hQ : ∀ t h' tk' D', (∀ p ∈ D, p ∈ D') → St T h₀ B O env A m D' M h' → Q (.str (Str.ofString "") t) (sA s h' tk')) :
  wpAny (model PySem.Challenge.rw_il0126_02.row.prog w) A (call (.ref 142) [.ref x, .str k t]) Q E (sA s h tk) := by
  have Zl := Z.lend
  obtain ⟨f, c', oc, vs, ft, ctv, pm, c, z1, z2, z3, z4, z5, z6, z7, z8⟩ := hz
  obtain ⟨lc, loc, lvs, lt, lct, lpm, y1, y2, y3, y4⟩ := hfac
  revert C; k_fill; intro C
  refine wpAny_call ?_
  refine' codeFnS0 (s := s) (tk := tk) (binds := [("self", .ref x), ("key", .str k t)]) (cc := 130) (Dc := 152) ?C Zl ?fs ?room ?ho ?hd ?hbody ?hcd ?hbind ?hcl ?hcell ?hoc ?hk ?hco ?hgen ?hnames ?hlook ?hcll ?hbs ?hB
  case fs => exact Zl.go.fs
  case room => exact (hroom.le (Nat.zero_le _)).1
  case C => assumption
  case ho => k_is
  case hd => exact rfl
  case hbody => exact rfl
  case hcd => k_is
  case hbind => exact BindsTo.of_eq rfl
  case hcl => exact rfl
  case hcell => k_is
  case hoc => exact rfl
  case hk => exact rfl
  case hco => exact rfl
  case hgen => exact rfl
  case hnames => exact rfl
  case hlook => exact rfl
  case hcll => exact rfl
  case hbs => exact rfl
  intro Lf O h₁ tk₁ E' hL hO Z₁
  subst hO
  dsimp only [bindAll, List.foldl] at Z₁ ⊢
  refine ks_wpAt_execs_cons (ks_wpAt_Return_some ?_)
  refine atCall ?_
  refine atCall ?_
  refine PySem.wpAt_of_wpAny ?_
  walk_at "name"
  refine atCw ?_
  refine atSp (PySem.wpAt_of_wpAny ?_)
  walk_at "name"
  refine atSp (PySem.wpAt_of_wpAny ?_)
  walk_at "e"
  refine atSp (atAttr2 ?_)
  have X₁ := C.inn Z₁.go.kT
  have hmx := Z₁.go.has _ hx
  have hmd := Z₁.go.has _ hdx
  have I₁ := hb.inst hmx.1 hmd.1
  refine' superAt X₁ ?hks ?hkc ?hat ?hfu ?hf ?hfd ?hp ?hco ?hcc ?hoc ?hvs ?hfile ?htop ?h
  case hks => exact rfl
  case hkc => exact rfl
  case hat => decide
  case hfu => exact rfl
  case hf => k_is
  case hfd => exact rfl
  case hp => exact rfl
  case hco => exact rfl
  case hcc => k_is
  case hoc => exact rfl
  case hvs => exact rfl
  case hfile => kernel_rfl
  case htop => kernel_rfl
  refine' loadB (v := .type "super") C Z₁ ?e ?hv ?_
  case e => k_is
  case hv => exact rfl
  refine ⟨rfl, ?_⟩
  refine loadVar Z₁ (v := .ref 152) rfl ?_ rfl rfl (by decide)
  refine loadVar Z₁ (v := .ref x) rfl ?_ rfl rfl (by decide)
  refine' superMk C Z₁ I₁ ?hc ?hsub ?_
  case hc => k_is
  case hsub => k_is
  intro so h₂ hso k₂ Z₂
  have I₂ := hb.inst (Z₂.go.has _ hx).1 (Z₂.go.has _ hdx).1
  refine' super_ddm (h := h₂) ?hn (C.inn Z₂.go.kT) I₂ ?hi hso ?hno ?hc2 ?hl ?hf2 ?_
  case hn => decide
  case hi => k_is
  case hno => k_is
  case hc2 => k_is
  case hl => exact rfl
  case hf2 => refine superIn_of (C := 152) (D := 152) (by k_is) ?_; ks_is
  have Z₃ := Z₂.step (.push (boundOf "collections.defaultdict.__missing__" x))
  have hq₃ : (h₂.push (boundOf "collections.defaultdict.__missing__" x)).get? h₂.objs.size = some (boundOf "collections.defaultdict.__missing__" x) := Heap.get?_push_size _ rfl
  generalize h₂.push (boundOf "collections.defaultdict.__missing__" x) = h₃ at Z₃ hq₃ ⊢
  generalize h₂.objs.size = q at hq₃ ⊢
  refine atSp0 ?_
  have I₃ := hb.inst (Z₃.go.has _ hx).1 (Z₃.go.has _ hdx).1
  refine' getattr3 (C.inn Z₃.go.kT) I₃ ?hm ?_
  case hm => k_is
  unfold getAttrBy?
  refine wpAny_bind (wpAny_attempt ?_)
  refine' al_value (v := .ref f) ga_dd (C.inn Z₃.go.kT) I₃ ?hga ?hk ?hi ?hf ?hh ?_
  case hga => k_is
  case hk => k_is
  case hi => k_is
  case hf => exact findObj_own (attr := none) (by k_is) (by k_is) rfl z2
  case hh => rfl
  refine wpAny_pure ?_
  dsimp only [Option.getD]
  refine PySem.wpAt_of_wpAny (callWith_Fn (o := kla_obj "<lambda>" frzQ frzP frzB frzS [("self", c)] pm c' ctv) rfl ?_)
  walk_at "ss"
  have hfo := Z₃.go.has _ z3
  refine ⟨hfo.1, wpAny_call ?_⟩
  have Zl₃ := Z₃.sub
  refine' codeFnL (s := s) (x := "self") (c := c) (u := .ref x) (binds := [("key", .str k t)]) ?CL Z₃ ?fsL ?roomL hfo.1 rfl rfl ⟨c', oc, vs, ft, rfl, (Z₃.go.has _ z4).1, z5, z6⟩ ?hbindL rfl z7 ?hkL ?hcoL ?hgenL ?hnamesL ?hlookL ?hcllL ?hbsL ?hBL
  case CL => assumption
  case fsL => exact Z₃.go.fs
  case roomL => (show A.depth + 1 < _; have := hroom.1; omega)
  case hbindL => rfl
  case hkL => rfl
  case hcoL => rfl
  case hgenL => rfl
  case hnamesL => rfl
  case hlookL => rfl
  case hcllL => rfl
  case hbsL => rfl
  intro L₄ O₄ h₄ tk₄ E₄ hL₄ hO₄ Z₄
  subst hO₄
  dsimp only [bindAll, List.foldl] at Z₄ ⊢
  walk_at "ss"
  have I₄ := hb.inst (Z₄.go.has _ hx).1 (Z₄.go.has _ hdx).1
  refine' al_usual (a := .builtin "collections.defaultdict.default_factory") ga_dd (C.inn Z₄.go.kT) I₄ ?hga ?hk ?hf ?ht ?htf ?_
  case hga => k_is
  case hk => k_is
  case hf => k_is
  case ht => k_is
  case htf => decide +kernel
  unfold getAttr
  refine wpAny_bind (wpAny_mkText ?_)
  refine' al_bind (g := .builtin "member_descriptor.__get__") (a := .builtin "collections.defaultdict.default_factory") ga_dd (C.inn Z₄.go.kT) I₄ ?hga ?hk ?hi ?hf ?_
  case hga => k_is
  case hk => k_is
  case hi => k_is
  case hf => refine findObj_data rfl ?_ ?_ ?_ <;> k_is
  intro E₅
  refine wpAny_call ?_
  refine' ddf_get (v := .ref lf) (C.inn Z₄.go.kT) I₄ ?hi ?hs (by simp) ?_
  case hi => k_is
  case hs => rw [hb.slots]; rfl
  refine handed_on rfl ?_
  have hlo := Z₄.go.has _ y1
  refine callWith_Fn0 (o := kla_obj "<lambda>" bkQ bkP bkB bkS [] lpm lc lct) rfl hlo.1 ?_
  refine wpAny_call ?_
  refine' codeFnL0 (s := s) ?CL0 Z₄ ?fsL0 ?roomL0 hlo.1 rfl rfl ⟨lc, loc, lvs, lt, rfl, (Z₄.go.has _ y2).1, y3, y4⟩ ?hbindL0 rfl ?hkL0 ?hcoL0 ?hgenL0 ?hnamesL0 ?hBL0
  case CL0 => assumption
  case fsL0 => exact Z₄.go.fs
  case roomL0 => (show A.depth + 1 + 1 < _; have := hroom.1; omega)
  case hbindL0 => rfl
  case hkL0 => rfl
  case hcoL0 => rfl
  case hgenL0 => rfl
  case hnamesL0 => rfl
  intro L₅ h₅ tk₅ E₅' hL₅ Z₅
  walk_at "ss"
  have Zr := Z.retM Z₅ rfl
  exact hQ _ _ _ _ (fun p hp => List.mem_append_right _ hp) Zr
end
end Mine
end
section
namespace Mine
section
variable {prog : Program} {w : World} {K : Frag} {T h₀ h h' : Heap} {O : List Addr} {env : Env} {A A' : Around} {m : Str → Option Value} {B D D' M M' L L' : Led} {s : Shared} {tk : Nat} {E : Value → Shared → Prop}
theorem listLoopR {res : Value} {x S : Addr} {n : Nat} {Mi : Nat → Led → Prop} {Val : Nat → Value → Prop} {R : Result → Shared → Prop} (I : Itr prog w T D x n Mi Val) (hd : Room 8 A.in1) (hn : n ≤ 10000)
    (hR : ∀ h' tk' vs c, vs.length = n → (∀ j v, vs[j]? = some v → Val j v) → St T h₀ B O env A.in1 m D ((S, lsOf vs c) :: M) h' → R (.ok (.ret res)) (sA s h' tk')) :
    ∀ (k i : Nat) (h : Heap) (tk : Nat) (L : Led) (vs : List Value) (c : Nat), n - i = k → i ≤ n → Mi i L → vs.length = i → (∀ j v, vs[j]? = some v → Val j v) → St T h₀ B O env A.in1 m D (L ++ (S, lsOf vs c) :: M) h →
      codeAny (model prog w) A (.builtin "list.extend.loop" ⟨[.ref S, .ref x, res], []⟩) R (sA s h tk) := by
  intro k
  induction k with
  | zero =>
    intro i h tk L vs c hk hi hM hl hv Z
    have hin : i = n := by omega
    subst hin
    refine codeAny_builtin PySem.F.entry_extend_loop ?_
    rw [Around.under_plainId PySem.F.plain_extend_loop _]
    show wpAny _ A.in1 (pyNext (.ref x) >>= _) _ _ _
    refine wpAny_bind (Z.done I hd hM fun h' tk' Z' => ?_)
    exact wpAny_pure (hR h' tk' vs c hl hv Z')
  | succ k ih =>
    intro i h tk L vs c hk hi hM hl hv Z
    have hlt : i < n := by omega
    refine codeAny_builtin PySem.F.entry_extend_loop ?_
    rw [Around.under_plainId PySem.F.plain_extend_loop _]
    show wpAny _ A.in1 (pyNext (.ref x) >>= _) _ _ _
    refine wpAny_bind (Z.item I hlt hd hM fun v h₁ tk₁ L₁ hM₁ hv₁ Z₁ => ?_)
    have hS := (Z₁.mu _ (List.mem_append_right _ (.head _))).1
    show wpAny _ A.in1 (updateSeq S (·.push v) >>= _) _ _ _
    refine wpAny_bind ?_
    have e' := Heap.get?_update_self (Obj.mapSeq (·.push v)) hS (by rw [Obj.mapSeq_push_plain]; rfl)
    rw [Obj.mapSeq_push_plain, List.push_toArray] at e'
    have Z₂ := Z₁.turn1 (Heap.SameBut.update ..) e' (by show Value.type _ ≠ Value.type _; decide) (fun vs q => by cases q)
    refine wpAny_updateSeq (s := sA s h₁ tk₁) hS rfl (wpAny_pure ⟨plainId_quiet PySem.F.plain_extend_loop _, ih (i + 1) _ tk₁ L₁ (vs ++ [v]) _ (by omega) hlt hM₁ (by simp [hl]) (fun j u hu => ?_) Z₂⟩)
      (by show vs.toArray.size ≤ 16777216; rw [List.size_toArray]; omega) (by show (vs.toArray.push v).size ≤ 16777216 + 1; rw [Array.size_push, List.size_toArray]; omega)
    rcases Nat.lt_trichotomy j vs.length with hj | hj | hj
    · rw [List.getElem?_append_left hj] at hu; exact hv j u hu
    · subst hj
      rw [List.getElem?_append_right (Nat.le_refl _)] at hu
      simp at hu
      subst hu
      rw [hl]; exact hv₁
    · rw [List.getElem?_eq_none (by simp; omega)] at hu; cases hu


end
end Mine
end
section
namespace Mine
namespace F
theorem mro_map : mroOf (.type "map") = pure [.type "map", .type "object"] := by rw [mroOf_type]; kernel_rfl
theorem lookup_map_new : typeLookup (.type "map") "__new__" = pure (some (.builtin "map.__new__")) := by rw [typeLookup_type, builtinLookup_eq_fast]; kernel_rfl
theorem slot_map_init : Slot "map" "__init__" "object.__init__" := .of (owner := "object") (n := "__init__") (by rw [typeLookup_type, builtinLookup_eq_fast]; kernel_rfl) (by decide +kernel) (by decide +kernel) (by decide +kernel)
  (by first | exact .inl (by decide +kernel) | exact .inr (by decide +kernel)) (by rw [isSubtype_type]; kernel_rfl)
theorem slot_map_next : Slot "map" "__next__" "map.__next__" := .of (owner := "map") (n := "__next__") (by rw [typeLookup_type, builtinLookup_eq_fast]; kernel_rfl) (by decide +kernel) (by decide +kernel) (by decide +kernel)
  (by first | exact .inl (by decide +kernel) | exact .inr (by decide +kernel)) (by rw [isSubtype_type]; kernel_rfl)
theorem slot_map_iter : Slot "map" "__iter__" "map.__iter__" := .of (owner := "map") (n := "__iter__") (by rw [typeLookup_type, builtinLookup_eq_fast]; kernel_rfl) (by decide +kernel) (by decide +kernel) (by decide +kernel)
  (by first | exact .inl (by decide +kernel) | exact .inr (by decide +kernel)) (by rw [isSubtype_type]; kernel_rfl)
theorem called_map : TypeCalled "map" "map.__new__" "object.__init__" :=
  ⟨by decide +kernel, by decide +kernel, ⟨_, _, mro_map⟩, madeBy_type mro_map lookup_map_new (by decide +kernel), by decide +kernel, by rw [isSubtype_type]; kernel_rfl, slot_map_init⟩
theorem typeCall_map (a b : Value) : checkTypeCall "map" ⟨[a, b], []⟩ = pure () := by kernel_rfl
theorem newCall_map (a b : Value) : checkBuiltinCall "map.__new__" ⟨[.type "map", a, b], []⟩ = pure () := by kernel_rfl
theorem entry_map_new : entryFor table "map.__new__" = some Builtin.«map.__new__» := entryFor_of_tree (by kernel_rfl)
theorem entry_map_next : entryFor table "map.__next__" = some Builtin.«map.__next__» := entryFor_of_tree (by kernel_rfl)
theorem entry_obj_init : entryFor table "object.__init__" = some Builtin.«object.__init__» := entryFor_of_tree (by kernel_rfl)
theorem args_map_next (a : Value) : argsOk "map.__next__" ⟨[a], []⟩ := by unfold argsOk; kernel_rfl
theorem args_obj_init3 (a b c : Value) : argsOk "object.__init__" ⟨[a, b, c], []⟩ := by unfold argsOk; kernel_rfl
theorem plain_map_new : plainId "map.__new__" = true := by decide +kernel
theorem map_nolen : typeLookup (.type "map") "__len__" = pure none := by rw [typeLookup_type, builtinLookup_eq_fast]; kernel_rfl
theorem map_nohint : typeLookup (.type "map") "__length_hint__" = pure none := by rw [typeLookup_type, builtinLookup_eq_fast]; kernel_rfl
theorem map_init : typeLookup (.type "map") "__init__" = pure (some (.builtin "object.__init__")) := by rw [typeLookup_type, builtinLookup_eq_fast]; kernel_rfl
end F
noncomputable abbrev mapObj (tup : Addr) (f : Value) : Obj := { cls := .type "map", data := .fields #[.ref tup, f] }
section
variable {prog : Program} {w : World} {K : Frag} {T h₀ h h' : Heap} {O : List Addr} {env : Env} {A A' : Around} {m : Str → Option Value} {B D D' M M' L L' : Led} {s : Shared} {tk : Nat} {E : Value → Shared → Prop}
theorem splitMax {x y : Str} {k : Int} {t u v : Tok} {ws : List Str} {Q : Value → Shared → Prop} (Z : St T h₀ B O env A m D M h) (hk : (decide (k < -(2 ^ 63 : Int)) || decide (k ≥ 2 ^ 63)) = false)
    (h1 : (decide (x.length < y.length) || decide (Builtin.Str.strKind x < Builtin.Str.strKind y)) = false) (hy : (y.length == 0) = false) (hf : (Builtin.Str.occurrences x y 0 x.length (limitOf x k)).isEmpty = false)
    (hws : Builtin.Str.partsBetween x (Builtin.Str.occurrences x y 0 x.length (limitOf x k)) y.length = ws) (hsz : x.length ≤ sizeLine) (hsz2 : ws.length ≤ sizeLine)
    (hQ : ∀ a vs h' tk', StrsAre vs ws → St T h₀ B O env A m ((a, lsOf vs 0) :: D) M h' → Q (.ref a) (sA s h' tk')) :
    wpAny (model prog w) A' (call (.builtin "str.split") [.str x t, .str y u, .int k v]) Q E (sA s h tk) := by
  subst hws
  refine call_meets PySem.F.slot_str_split (typeIs_str _ _ _) PySem.F.entry_str_split (PySem.F.args_str_split_3 _ _ _) (meets_str_split_sep_max x y k t u v hk h1 hy hf hsz hsz2) ?_
  rw [strsFrom_eq]
  have e := Heap.get?_push_size (o := lsOf (strValues (numbered tk (Builtin.Str.partsBetween x (Builtin.Str.occurrences x y 0 x.length (limitOf x k)) y.length))) 0) h rfl
  have hs : StrsAre (strValues (numbered tk (Builtin.Str.partsBetween x (Builtin.Str.occurrences x y 0 x.length (limitOf x k)) y.length))) (Builtin.Str.partsBetween x (Builtin.Str.occurrences x y 0 x.length (limitOf x k)) y.length) := by
    have := strsAre_of_values (numbered tk (Builtin.Str.partsBetween x (Builtin.Str.occurrences x y 0 x.length (limitOf x k)) y.length))
    rw [numbered_texts] at this
    exact this
  exact hQ h.objs.size _ _ _ hs (Z.more (D' := [(h.objs.size, _)]) (.push _) (Has.cons e (by show Value.type _ ≠ Value.type _; decide) .nil) (fun p hp => by rw [List.mem_singleton.mp hp]; exact fresh_size h))

theorem mapMake {f : Value} {l : Addr} {vs : List Value} {k : Nat} {Q : Value → Shared → Prop} (Z : St T h₀ B O env A m D M h) (hl : (l, lsOf vs k) ∈ D)
    (hQ : ∀ mp tup it L h' tk', MiL it l 0 L → St T h₀ B O env A m ((mp, mapObj tup f) :: (tup, tupOf [.ref it] 0) :: D) (L ++ M) h' → Q (.ref mp) (sA s h' tk')) :
    wpAny (model prog w) A (call (.type "map") [f, .ref l]) Q E (sA s h tk) := by
  refine callType_codes (s := sA s h tk) (Q₁ := fun obj s₁ => ∃ mp tup it L h' tk', obj = .ref mp ∧ s₁ = sA s h' tk' ∧ MiL it l 0 L ∧ St T h₀ B O env A m ((mp, mapObj tup f) :: (tup, tupOf [.ref it] 0) :: D) (L ++ M) h') F.called_map (F.typeCall_map _ _) F.entry_obj_init ?_ fun obj s₁ h₁ => ?_
  · refine codeAny_of_tree ?_
    show wpAny _ A.in1.in1 (do checkBuiltinCall "map.__new__" ⟨[.type "map", f, .ref l], []⟩; again (.builtin "map.__new__" ⟨[.type "map", f, .ref l], []⟩)) _ _ (sA s h tk)
    refine wpAny_bind (wpAny_of_eq (F.newCall_map f (.ref l)) (wpAny_pure ⟨plainId_quiet F.plain_map_new _, codeAny_builtin F.entry_map_new ?_⟩))
    rw [Around.under_plainId F.plain_map_new _]
    have hsub : isSubtype (.type "map") (.type "map") = pure true := by rw [isSubtype_type]; kernel_rfl
    unfold Builtin.«map.__new__» Builtin.SmallTypes.newClass Builtin.SmallTypes.refuseKeywords Builtin.SmallTypes.iterAll Builtin.SmallTypes.newRecord
    generalize hPI : pyIter = PI
    generalize hS : sA s h tk = s₀
    repeat (any_goals (first | assumption | wp_step))
    subst hPI hS
    refine iterL Z.in1.in1 hl fun it h₁ tk₁ L hM _ _ _ _ Z₁ => ?_
    refine wpAny_pure (wpAny_pure (wpAny_pure (wpAny_bind (nwT Z₁ (by show (1 : Nat) ≤ 16777216; decide) fun tup h₂ tk₂ Z₂ => ?_))))
    have en := Heap.get?_push_size (o := mapObj tup f) h₂ rfl
    have Z₃ := Z₂.more (D' := [(h₂.objs.size, mapObj tup f)]) (.push _) (Has.cons en (by show Value.type _ ≠ Value.type _; decide) .nil) (fun p hp => by rw [List.mem_singleton.mp hp]; exact fresh_size h₂)
    refine wpAny_bind (wpAny_newObj_type (s := sA s h₂ tk₂) ?_ (by size_fits))
    exact wpAny_pure ⟨_, tup, it, L, _, tk₂, rfl, rfl, hM, Z₃.un1.un1⟩
  · obtain ⟨mp, tup, it, L, h', tk', rfl, rfl, hM, Z'⟩ := h₁
    have e := (Z'.go.has _ (.head _)).1
    refine ⟨⟨_, e, rfl⟩, F.args_obj_init3 _ _ _, ?_⟩
    have hT : (sA s h' tk').TypeIs (.ref mp) "map" := ⟨_, e, rfl⟩
    have l1 := F.map_init
    have m1 := F.called_map.made
    unfold Builtin.«object.__init__»
    generalize hS : sA s h' tk' = s₀ at hT ⊢
    repeat (any_goals (first | assumption | wp_step))
    all_goals exact ⟨rfl, hS ▸ hQ _ _ _ _ _ _ hM Z'⟩
end
end Mine
end
section
namespace Mine
namespace F
theorem args_map_iter (a : Value) : argsOk "map.__iter__" ⟨[a], []⟩ := by unfold argsOk; kernel_rfl
theorem entry_map_iter : entryFor table "map.__iter__" = some Builtin.«dict_keyiterator.__iter__» :=
  entryFor_alias (id' := "dict_keyiterator.__iter__") (by kernel_rfl) (by first | rfl | decide +kernel | (unfold String.splitOn; simp +decide [String.splitOnAux])) (by decide +kernel) (by kernel_rfl)
end F
section
variable {prog : Program} {w : World} {K : Frag} {T h₀ h h' : Heap} {O : List Addr} {env : Env} {A A' : Around} {m : Str → Option Value} {B D D' M M' L L' : Led} {s : Shared} {tk : Nat} {E : Value → Shared → Prop}
theorem itrMap {mp tup it l : Addr} {vs : List Value} {ws : List Str} {k : Nat} (hmp : (mp, mapObj tup (.builtin "str.strip")) ∈ D) (htup : (tup, tupOf [.ref it] 0) ∈ D) (hl : (l, lsOf vs k) ∈ D) (hvs : StrsAre vs ws) (hlen : ∀ x ∈ ws, x.length ≤ 1000) :
    Itr prog w T D mp vs.length (MiL it l) (fun i v => ∃ x t, ws[i]? = some x ∧ v = .str (Txt.strip x) t) where
  item := fun {A s h tk i L Q E} hi g d hL hM nd off hQ => by
    have e := (g.has _ hmp).1
    have et := (g.has _ htup).1
    have hT : (sA s h tk).TypeIs (.ref mp) "map" := ⟨_, e, rfl⟩
    unfold pyNext
    refine wpAny_bind (wpAny_attempt (wpAny_callSpecial?_slot (name := Str.ofString "__next__") hT F.slot_map_next (wpAny_call_entry F.slot_map_next hT F.entry_map_next ?_ (F.args_map_next _))))
    have e0 : ({ cls := .type "map", data := .fields #[.ref tup, .builtin "str.strip"] } : Obj).data = .fields #[.ref tup, .builtin "str.strip"] := rfl
    show wpAny _ _ (field (.ref mp) 0 >>= _) _ _ (sA s h tk)
    refine wpAny_bind (wpAny_field (s := sA s h tk) e e0 (x := .ref tup) rfl ?_)
    show wpAny _ _ (seqItems? (.ref tup) >>= _) _ _ (sA s h tk)
    refine wpAny_bind (wpAny_seqItems (s := sA s h tk) et rfl ?_)
    dsimp only
    rw [← Array.forIn_toList]
    show wpAny _ _ (forIn [Value.ref it] _ _ >>= _) _ _ _
    rw [List.forIn_cons]
    refine wpAny_bind (wpAny_bind (wpAny_bind (wpAny_holding ?_)))
    unfold Builtin.SmallTypes.nextOf
    refine wpAny_bind ((itrNL (k := k) hl).item (A := A.in1) hi ⟨g.kT, g.fs.in1, g.has⟩ hL hM nd off fun v h' tk' L' hM' hm hk hs hv => ?_)
    obtain ⟨x, t, hx, rfl⟩ := strs_get hvs hv
    refine wpAny_pure (wpAny_pure ?_)
    show wpAny _ _ (forIn [] _ _) _ _ _
    rw [List.forIn_nil]
    refine wpAny_pure ?_
    have e2 := hk.get e (fun q => by obtain ⟨p, hp, e'⟩ := List.mem_map.mp q; exact (off p hp).2 _ hmp e'.symm) (by show Value.type _ ≠ Value.type _; decide)
    refine wpAny_bind (wpAny_field (s := sA s h' tk') e2 e0 (x := .builtin "str.strip") rfl ?_)
    refine wpAny_bind (wpAny_holding (SC.strip (fun t' k' => ?_) (by have := hlen x (List.mem_of_getElem? hx); show _ ≤ 16777216; omega)))
    refine wpAny_bind (wpAny_letGo (wpAny_pure ⟨_, rfl, wpAny_pure ?_⟩))
    exact hQ _ h' k' L' hM' hm hk hs ⟨x, t', hx, rfl⟩
  done := fun {A s h tk L Q E} g d hL hM nd off hQ => by
    have e := (g.has _ hmp).1
    have et := (g.has _ htup).1
    have hT : (sA s h tk).TypeIs (.ref mp) "map" := ⟨_, e, rfl⟩
    unfold pyNext
    refine wpAny_bind (wpAny_attempt (wpAny_callSpecial?_slot (name := Str.ofString "__next__") hT F.slot_map_next (wpAny_call_entry F.slot_map_next hT F.entry_map_next ?_ (F.args_map_next _))))
    have e0 : ({ cls := .type "map", data := .fields #[.ref tup, .builtin "str.strip"] } : Obj).data = .fields #[.ref tup, .builtin "str.strip"] := rfl
    show wpAny _ _ (field (.ref mp) 0 >>= _) _ _ (sA s h tk)
    refine wpAny_bind (wpAny_field (s := sA s h tk) e e0 (x := .ref tup) rfl ?_)
    show wpAny _ _ (seqItems? (.ref tup) >>= _) _ _ (sA s h tk)
    refine wpAny_bind (wpAny_seqItems (s := sA s h tk) et rfl ?_)
    dsimp only
    rw [← Array.forIn_toList]
    show wpAny _ _ (forIn [Value.ref it] _ _ >>= _) _ _ _
    rw [List.forIn_cons]
    refine wpAny_bind (wpAny_bind (wpAny_bind (wpAny_holding ?_)))
    unfold Builtin.SmallTypes.nextOf
    refine wpAny_bind ((itrNL (k := k) hl).stop (A := A.in1) ⟨g.kT, g.fs.in1, g.has⟩ hL hM nd off fun x oe xs h' tk' e1 e2 e3 e4 e5 k2 => ?_)
    have t1 : Looks (model prog w) h' (isInstance (.ref x) (.type "StopIteration")) true := (show Looks (model prog w) h' (typeOf (.ref x)) (.type "StopIteration") from e3 ▸ (Looks.ld e2).andThen .now).andThen (Looks.of_pure (by rw [isSubtype_type]; kernel_rfl))
    refine wpAny_bind (t1.here (s := sA s h' tk') ?_)
    rw [if_pos rfl]
    exact wpAny_pure (hQ h' tk' k2)
  self := fun {A s h tk i L Q E} g d hL hM hQ => by
    have e := (g.has _ hmp).1
    have hT : (sA s h tk).TypeIs (.ref mp) "map" := ⟨_, e, rfl⟩
    refine wpAny_pyIter_slot hT F.slot_map_iter (wpAny_call_entry F.slot_map_iter hT F.entry_map_iter ?_ (F.args_map_iter _))
    show wpAny _ _ (ret (.ref mp)) _ _ _
    exact wpAny_pure ⟨_, rfl, "map", _, hT, F.slot_map_next.lookup, hQ h tk .refl⟩
  lg := fun {A s h tk i L Q E target v} hL hM hD hQ => lgo (s := sA s h tk) (hD _ hmp).1 (fun n e => by cases e; decide) hQ
/-- collect of an iterator of a built-in type without a length -/
theorem collectItr {x : Addr} {n : Nat} {Mi : Nat → Led → Prop} {Val : Nat → Value → Prop} {ox : Obj} {ty : String} {Q : List Value → Shared → Prop} (Z : St T h₀ B O env A m D (L ++ M) h) (I : Itr prog w T D x n Mi Val) (hM : Mi 0 L) (hd : Room 14 A) (hn : n ≤ 10000)
    (hx : (x, ox) ∈ D) (hc : ox.cls = .type ty) (hlen : typeLookup (.type ty) "__len__" = pure none) (hhint : typeLookup (.type ty) "__length_hint__" = pure none) (h2 : (Value.type ty == Value.type "list") = false) (h3 : (Value.type ty == Value.type "tuple") = false)
    (hQ : ∀ h' tk' vs, vs.length = n → (∀ j v, vs[j]? = some v → Val j v) → St T h₀ B O env A m D M h' → Q vs (sA s h' tk')) :
    wpAny (model prog w) A (collect (.ref x)) Q E (sA s h tk) := by
  unfold collect
  refine wpAny_bind (wpAny_runValue (codeAny_builtin PySem.F.entry_proto_collect ?_))
  rw [Around.under_plainId PySem.F.plain_proto_collect _]
  show wpAny _ A.in1 (newList [] >>= fun l => again (.builtin "list.__iadd__" ⟨[l, .ref x], []⟩)) _ _ (sA s h tk)
  refine wpAny_bind (wpAny_newObj_type ?_)
  refine wpAny_pure ⟨plainId_quiet PySem.F.plain_list_iadd _, codeAny_builtin PySem.F.entry_list_iadd ?_⟩
  rw [Around.under_plainId PySem.F.plain_list_iadd _]
  have e0 := Heap.get?_push_size (o := lsOf [] 0) h rfl
  have Z₁ := (Z.moreM (.push (lsOf [] 0)) e0 (by show Value.type _ ≠ Value.type _; decide) (fresh_size h)).bringBack
  have hSx : h.objs.size ≠ x := fun q => by have := Heap.lt_size (Z.go.has _ hx).1; rw [q] at this; exact Nat.lt_irrefl _ this
  show wpAny _ A.in1 (Builtin.List.listExtendWith (.ref h.objs.size) (.ref x) (.ref h.objs.size)) _ _ (sA s (h.push (lsOf [] 0)) tk)
  unfold Builtin.List.listExtendWith
  have hT : ∀ {h' : Heap} {tk' : Nat}, h'.get? x = some ox → (sA s h' tk').TypeIs (.ref x) ty := fun e => ⟨_, e, hc⟩
  refine wpAny_bind (wpAny_typeOf (hT (Z₁.go.has _ hx).1) ?_)
  have h1 : Builtin.List.listSameRef (.ref h.objs.size) (.ref x) = false := by simp [Builtin.List.listSameRef, hSx]
  simp only [h1, h2, h3, Bool.or_false, Bool.false_eq_true, if_false]
  refine wpAny_bind (I.self (A := A.in1) (Z₁.in1).go ((hd.in1).le (by decide)) Z₁.goL hM fun h₃ tk₃ k₃ => ?_)
  have Z₃ := Z₁.step k₃
  refine wpAny_bind (wpAny_holding ?_)
  unfold Builtin.List.listLengthHint
  refine wpAny_bind (wpAny_specialOf (hT (Z₃.go.has _ hx).1) hlen ?_)
  show wpAny _ A.in1 (specialOf (Value.ref x) (Str.ofString "__length_hint__") >>= _) _ _ _
  refine wpAny_bind (wpAny_specialOf (hT (Z₃.go.has _ hx).1) hhint ?_)
  refine wpAny_pure ?_
  show wpAny _ A.in1 (rule "list.extend.makes-room" >>= fun _ => Builtin.List.listTouch (.ref h.objs.size) >>= fun _ => again (.builtin "list.extend.loop" ⟨[.ref h.objs.size, .ref x, .ref h.objs.size], []⟩)) _ _ _
  refine wpAny_bind (wpAny_rule ?_)
  refine wpAny_bind ?_
  show wpAny _ A.in1 (updateSeq h.objs.size (·.push .none) >>= fun _ => updateSeq h.objs.size (·.pop)) _ _ _
  have e3 := (Z₃.mu _ (List.mem_append_right _ (.head _))).1
  refine wpAny_bind (wpAny_updateSeq (s := sA s h₃ tk₃) e3 rfl ?_)
  have e4 := Heap.get?_update_self (Obj.mapSeq (·.push Value.none)) e3 rfl
  have e5' : Obj.mapSeq (·.push Value.none) (lsOf [] 0) = lsOf [.none] 1 := by rw [Obj.mapSeq_push_plain]; rfl
  rw [e5'] at e4
  have Z₄ := Z₃.turn1 (Heap.SameBut.update ..) e4 (by show Value.type _ ≠ Value.type _; decide) (fun vs q => by cases q)
  refine wpAny_updateSeq (s := sA s (h₃.update h.objs.size (Obj.mapSeq (·.push Value.none))) tk₃) e4 rfl ?_
  have e6 := Heap.get?_update_self (Obj.mapSeq (·.pop)) e4 rfl
  have e7 : ∃ c', Obj.mapSeq (·.pop) (lsOf [.none] 1) = lsOf [] c' := ⟨_, by simp [Obj.mapSeq]; rfl⟩
  obtain ⟨c', e7⟩ := e7
  rw [e7] at e6
  have Z₅ := Z₄.turn1 (Heap.SameBut.update ..) e6 (by show Value.type _ ≠ Value.type _; decide) (fun vs q => by cases q)
  refine wpAny_pure ⟨plainId_quiet PySem.F.plain_extend_loop _, ?_⟩
  refine listLoopR (A := A) (B := B) (h₀ := h₀) (O := O) (env := env) (m := m) (M := M) I ((hd.in1).le (by decide)) hn (fun h' tk' vs c hl hv Z₆ => ?_) n 0 _ tk₃ L [] c' (by omega) (Nat.zero_le _) hM rfl (fun j v q => by simp at q) Z₅.in1
  have e8 := (Z₆.mu _ (.head _)).1
  show wpAny _ A (load h.objs.size >>= _) _ _ _
  refine wpAny_bind (wpAny_load (s := sA s h' tk') e8 ?_)
  have Z₇ : St T h₀ B O env A m D M h' := ((Z₆.settle (L := [(h.objs.size, lsOf vs c)]) (M := M)).lessD (D' := D) fun p hp => .tail _ hp).un1
  have := hQ h' tk' vs hl hv Z₇
  exact wpAny_pure (by simpa using this)
/-- what a star before a call gives -/
theorem starItr {x : Addr} {n : Nat} {Mi : Nat → Led → Prop} {Val : Nat → Value → Prop} {ox : Obj} {ty : String} {Q : List Value → Shared → Prop} (Z : St T h₀ B O env A m D (L ++ M) h) (I : Itr prog w T D x n Mi Val) (hM : Mi 0 L) (hd : Room 14 A) (hn : n ≤ 10000)
    (hx : (x, ox) ∈ D) (hc : ox.cls = .type ty) (hit : ∃ v, typeLookup (.type ty) "__iter__" = pure (some v)) (hlen : typeLookup (.type ty) "__len__" = pure none) (hhint : typeLookup (.type ty) "__length_hint__" = pure none) (h2 : (Value.type ty == Value.type "list") = false) (h3 : (Value.type ty == Value.type "tuple") = false)
    (hQ : ∀ h' tk' vs, vs.length = n → (∀ j v, vs[j]? = some v → Val j v) → St T h₀ B O env A m D M h' → Q vs (sA s h' tk')) :
    StarOf (model prog w) A E (.ref x) Q (sA s h tk) := by
  obtain ⟨v, hit⟩ := hit
  unfold StarOf notIterableAtAll
  exact wpAny_bind (wpAny_specialOf (s := sA s h tk) ⟨_, (Z.go.has _ hx).1, hc⟩ hit (wpAny_pure ⟨rfl, collectItr Z I hM hd hn hx hc hlen hhint h2 h3 hQ⟩))
end
end Mine
end
section
namespace Mine
section
variable {prog : Program} {w : World} {A : Around} {K : Frag} {C : Addr} {R : Result → Shared → Prop} {h : Heap} {M : Model}
/-- a class whose own __new__ is a def -/
theorem madeNone {oc : Value} {od : Option Addr} {cd : ClassData} {sl : Array (Option Value)} {c : Value} {l : List Value} (X : K.In h) (ho : K.lookup C = some ⟨oc, od, .cls cd, sl⟩) (hs : sl[4]? = some (some .none)) (hl : cd.mro = c :: l) : Looks M h (Bind.madeBy (.ref C)) none := by
  intro A Q E s k q
  have hm : Looks M h (mroOf (.ref C)) cd.mro := (looks_clsIn X (by unfold clsIn; rw [ho])).andThen .now
  unfold Bind.madeBy
  refine wpAny_bind (hm A _ E s k ?_)
  rw [hl, List.forIn_cons]
  refine wpAny_bind (wpAny_bind (wpAny_bind (wpAny_bind (wpAny_loadPart (k _ _ (X _ _ ho)) (wpAny_pure ?_)))))
  dsimp only
  rw [hs]
  exact wpAny_pure (wpAny_pure (wpAny_pure q))
theorem snTup : ∃ l, Builtin.Slots.slotNamesOf (.type "tuple") = pure l := ⟨_, by
  unfold Builtin.Slots.slotNamesOf
  dsimp only
  rw [show mroOf (.type "tuple") = pure [.type "tuple", .type "object"] from by rw [mroOf_type]; kernel_rfl]
  rfl⟩
/-- the layout of a tuple's subclass -/
theorem solidTup {cd : ClassData} (X : K.In h) (hc : clsIn K C = some cd) (hm : cd.slotNames = []) (hb : cd.bases = [.type "tuple"]) (hl : cd.mro = [.ref C, .type "tuple", .type "object"]) : Looks M h (Builtin.Slots.solid (.ref C)) (.type "tuple") := by
  intro A Q E s k q
  have hmr : Looks M h (mroOf (.ref C)) cd.mro := (looks_clsIn X hc).andThen .now
  have hcd : Looks M h (classData C) cd := looks_clsIn X hc
  obtain ⟨sn, hsn⟩ := snTup
  have hadd : ∀ Q E, Q false s → wpAny M A (Builtin.Slots.addsLayout (.ref C)) Q E s := fun Q E q => by
    unfold Builtin.Slots.addsLayout
    refine wpAny_bind (hcd A _ E s k ?_)
    rw [hb]
    show wpAny M A (forIn [Value.type "tuple"] _ _ >>= _) _ _ s
    rw [List.forIn_cons]
    refine wpAny_bind (wpAny_bind (wpAny_bind (wpAny_of_eq hsn (wpAny_pure ?_))))
    show wpAny M A (forIn [] _ _) _ _ s
    rw [List.forIn_nil]
    refine wpAny_pure (wpAny_pure ?_)
    rw [hm]
    simpa using q
  have hadd2 : Builtin.Slots.addsLayout (.type "tuple") = pure false := rfl
  have hown : ((Manifest.find? "tuple").elim false fun x => x.ownLayout) = true := by decide +kernel
  unfold Builtin.Slots.solid
  refine wpAny_bind (hmr A _ E s k ?_)
  rw [hl, List.forIn_cons]
  refine wpAny_bind (wpAny_bind (wpAny_bind (hadd _ _ ?_)))
  rw [if_neg Bool.false_ne_true]
  refine wpAny_pure ?_
  show wpAny M A (forIn [Value.type "tuple", Value.type "object"] _ _) _ _ s
  rw [List.forIn_cons]
  refine wpAny_bind (wpAny_bind (wpAny_of_eq hadd2 ?_))
  rw [if_neg Bool.false_ne_true]
  dsimp only
  rw [if_pos hown]
  exact wpAny_pure (wpAny_pure (wpAny_pure q))
theorem solidT : ∃ r, Builtin.Slots.solid (.type "tuple") = pure r := ⟨.type "tuple", by
  unfold Builtin.Slots.solid
  rw [show mroOf (.type "tuple") = pure [.type "tuple", .type "object"] from by rw [mroOf_type]; kernel_rfl]
  have hown : ((Manifest.find? "tuple").elim false fun x => x.ownLayout) = true := by decide +kernel
  have hadd2 : Builtin.Slots.addsLayout (.type "tuple") = pure false := rfl
  simp only [pure_bind, List.forIn_cons, hadd2, hown, Bool.false_eq_true, if_false, if_true]⟩
theorem bestOne {b r : Value} (L : Looks M h (Builtin.Slots.solid b) r) : Looks M h (Builtin.Slots.bestBase [b]) b := by
  intro A Q E s k q
  unfold Builtin.Slots.bestBase
  show wpAny M A (forIn [b] _ _ >>= _) _ _ s
  rw [List.forIn_cons]
  refine wpAny_bind (wpAny_bind (wpAny_bind (L A _ E s k ?_)))
  refine wpAny_pure ?_
  show wpAny M A (forIn [] _ _) _ _ s
  rw [List.forIn_nil]
  exact wpAny_pure (wpAny_pure q)
/-- the built-in type that makes the objects of a class under a class under tuple -/
theorem baseTup {C₂ : Addr} {oc oc₂ : Value} {od od₂ : Option Addr} {cd cd₂ : ClassData} {sl sl₂ : Array (Option Value)} (X : K.In h) (ho : K.lookup C = some ⟨oc, od, .cls cd, sl⟩) (hs : sl[4]? = some (some .none)) (hl : cd.mro = [.ref C, .ref C₂, .type "tuple", .type "object"]) (hb : cd.bases = [.ref C₂])
    (ho₂ : K.lookup C₂ = some ⟨oc₂, od₂, .cls cd₂, sl₂⟩) (hs₂ : sl₂[4]? = some (some .none)) (hm₂ : cd₂.slotNames = []) (hl₂ : cd₂.mro = [.ref C₂, .type "tuple", .type "object"]) (hb₂ : cd₂.bases = [.type "tuple"]) : Looks M h (Bind.staticBase (.ref C)) (.type "tuple") := by
  intro A Q E s k q
  have c1 : clsIn K C = some cd := by unfold clsIn; rw [ho]
  have c2 : clsIn K C₂ = some cd₂ := by unfold clsIn; rw [ho₂]
  have hmr : Looks M h (mroOf (.ref C)) cd.mro := (looks_clsIn X c1).andThen .now
  have n1 : Looks M h (Bind.madeBy (.ref C)) none := madeNone X ho hs hl
  have n2 : Looks M h (Bind.madeBy (.ref C₂)) none := madeNone X ho₂ hs₂ hl₂
  have hmt : Bind.madeBy (.type "tuple") = pure (some "tuple.__new__") :=
    madeBy_type (c := .type "tuple") (tl := [.type "object"]) (by rw [mroOf_type]; kernel_rfl) (by rw [typeLookup_type, builtinLookup_eq_fast]; kernel_rfl) (by decide +kernel)
  have b1 := bestOne (solidTup (M := M) X c2 hm₂ hb₂ hl₂)
  obtain ⟨r, hr⟩ := solidT
  have b2 : Looks M h (Builtin.Slots.bestBase [.type "tuple"]) (.type "tuple") := bestOne (Looks.of_pure hr)
  unfold Bind.staticBase
  refine wpAny_bind (hmr A _ E s k ?_)
  rw [hl, List.forIn_cons]
  refine wpAny_bind (wpAny_bind (wpAny_bind (n1 A _ E s k ?_)))
  rw [if_neg (by decide)]
  refine wpAny_bind (looks_clsIn X c1 A _ E s k ?_)
  rw [hb]
  refine wpAny_bind (b1 A _ E s k (wpAny_pure ?_))
  show wpAny M A (forIn [Value.ref C₂, Value.type "tuple", Value.type "object"] _ _) _ _ s
  rw [List.forIn_cons]
  refine wpAny_bind (wpAny_bind (n2 A _ E s k ?_))
  rw [if_neg (by decide)]
  refine wpAny_bind (looks_clsIn X c2 A _ E s k ?_)
  rw [hb₂]
  refine wpAny_bind (b2 A _ E s k (wpAny_pure ?_))
  show wpAny M A (forIn [Value.type "tuple", Value.type "object"] _ _) _ _ s
  rw [List.forIn_cons]
  refine wpAny_bind (wpAny_bind (wpAny_of_eq hmt ?_))
  rw [if_pos (by decide)]
  exact wpAny_pure (wpAny_pure (wpAny_pure q))
end
end Mine
end
section
namespace Mine
namespace F
theorem tn_kind : builtinKind "tuple.__new__" = some .builtinFn := by decide +kernel
theorem tn_split : splitId "tuple.__new__" = some ("tuple", "__new__") := by kernel_rfl
theorem tn_entry : entryFor table "tuple.__new__" = some Builtin.«tuple.__new__» := entryFor_of_tree (by kernel_rfl)
theorem tn_made : Bind.madeBy (.type "tuple") = pure (some "tuple.__new__") :=
  madeBy_type (c := .type "tuple") (tl := [.type "object"]) (by rw [mroOf_type]; kernel_rfl) (by rw [typeLookup_type, builtinLookup_eq_fast]; kernel_rfl) (by decide +kernel)
end F
noncomputable abbrev pairOf (C dx : Addr) (vs : List Value) (k : Nat) : Obj := { cls := .ref C, dict := some dx, data := .seq vs.toArray k, slots := #[] }
section
variable {prog : Program} {w : World} {A : Around} {K : Frag} {C tup : Addr} {R : Result → Shared → Prop} {h : Heap} {g : Array GenState} {d : Drawn} {t : Nat} {os : OsState}
theorem tupNew {oc : Value} {od : Option Addr} {cd : ClassData} {sl : Array (Option Value)} {vs : List Value} {k : Nat} (X : K.In h) (hC : K.lookup C = some ⟨oc, od, .cls cd, sl⟩) (sub : subIn K (.ref C) (.type "tuple") = some true) (base : Looks (model prog w) h (Bind.staticBase (.ref C)) (.type "tuple"))
    (hi : findIn K (.ref C) "__init__" = some (some (.builtin "object.__init__"))) (ht : h.get? tup = some (tupOf vs k)) (hsz : vs.length ≤ 1000) (hdel : cd.hasDel = false)
    (hq : ∀ h₁ : Heap, (∀ b o, h.get? b = some o → h₁.get? b = some o) → R (.ok (.ret (.ref (h₁.objs.size + 1)))) ⟨(h₁.push emptyDict).push (pairOf C h₁.objs.size vs 0), g, d, t, os⟩) :
    codeAny (model prog w) A (.call (.builtin "tuple.__new__") ⟨[.ref C, .ref tup], []⟩) R ⟨h, g, d, t, os⟩ := by
  have hCh := X _ _ hC
  refine codeAny_call_builtin_code (Code.quiet_builtin _ (by decide +kernel)) ?_
  have isT : Looks (model prog w) h (isType (.ref C)) true := (Looks.ld (part := none) hCh).andThen .now
  have subL : Looks (model prog w) h (isSubtype (.ref C) (.type "tuple")) true := looks_subIn X sub
  have made : Looks (model prog w) h (Bind.madeBy (.type "tuple")) (some "tuple.__new__") := Looks.of_pure F.tn_made
  have ini := looks_findIn (M := model prog w) X hi
  simp only [checkBuiltinCall, F.tn_kind, F.tn_split]
  repeat lk
  refine codeAny_builtin F.tn_entry ?_
  unfold Builtin.«tuple.__new__» Bind.madeHere
  dsimp only
  generalize hCO : collect = CO
  repeat lk
  subst hCO
  refine wpAny_collect_seq tup (T := "tuple") (.inr rfl) ht rfl rfl (fun h₁ k₁ => ?_) (by show vs.toArray.size ≤ 16777216; rw [List.size_toArray]; omega)
  refine wpAny_bind (wpAny_pure (wpAny_bind (wpAny_alloc ?_)))
  have e : vs.toArray.toList.toArray = vs.toArray := by simp
  unfold newObj
  repeat lk
  rw [e, if_neg (by show ¬ vs.toArray.size > 16777216; rw [List.size_toArray]; omega)]
  dsimp only
  unfold newObjAsIs
  dsimp only
  repeat lk
  refine wpAny_load (Heap.get?_push_of_some _ (Heap.get?_push_of_some _ (k₁ _ _ hCh))) (wpAny_pure ?_)
  rw [hdel]
  refine wpAny_pure (wpAny_pure ?_)
  rw [Heap.size_push]
  exact hq h₁ k₁
end
end Mine
namespace Mine
section
variable {prog : Program} {w : World} {A : Around} {E : Value → Shared → Prop} {s : Shared} {K : Frag} {name : Str} {v : Value}
/-- an attribute of a built-in type, called -/
theorem methodT {T : String} {pl : Sem Bool} {Q : Value × List Value → Shared → Prop} (X : K.In s.heap) (ht : typeOf (.type T) = pure (.type "type")) (hs : Manifest.isStub T = false)
    (e : findCls K (.type T) (.type "type") name = some (.val v)) (hh : handedIn v = true) (h : Q (v, []) { s with toks := s.toks + 1 }) : wpAny (model prog w) A (getMethod (.type T) name pl) Q E s := by
  have hstub : opaqueClassAbove (.type T) = pure none := by unfold opaqueClassAbove; dsimp only; rw [hs]; rfl
  have L0 : Looks (model prog w) s.heap (typeOf (.type T)) (.type "type") := Looks.of_pure ht
  have hg : findIn K (.type "type") "__getattribute__" = some (some (.builtin "type.__getattribute__")) := type_tga
  unfold getMethod specialOf
  refine wpAny_bind (wpAny_bind (L0.here ((looks_findIn X hg).here ?_)))
  dsimp only
  rw [if_pos canon_tga]
  refine wpAny_bind (wpAny_mono (Q := fun v => Q (v, [])) (E := E) ?_ (fun _ _ z => wpAny_pure z) fun _ _ z => z)
  have LO : Looks (model prog w) s.heap (opaqueClassAbove (.type T)) none := Looks.of_pure hstub
  refine cls_open X LO L0 hg (looks_hook X (r := none) (by rfl)) (by show subIn K _ _ = _; rfl) e
    (wpAny_pure (by show wpAny _ _ (handedOut v) _ _ _; rw [handedOut_of hh]; exact wpAny_pure h))
theorem attrT {T : String} {expr : Bool} {Q : Value → Shared → Prop} (X : K.In s.heap) (ht : typeOf (.type T) = pure (.type "type")) (hs : Manifest.isStub T = false)
    (e : findCls K (.type T) (.type "type") name = some (.val v)) (hh : handedIn v = true) (h : Q v { s with toks := s.toks + 1 }) : wpAny (model prog w) A (getAttr (.type T) name expr) Q E s := by
  have hstub : opaqueClassAbove (.type T) = pure none := by unfold opaqueClassAbove; dsimp only; rw [hs]; rfl
  have L0 : Looks (model prog w) s.heap (typeOf (.type T)) (.type "type") := Looks.of_pure ht
  have hg : findIn K (.type "type") "__getattribute__" = some (some (.builtin "type.__getattribute__")) := type_tga
  have LO : Looks (model prog w) s.heap (opaqueClassAbove (.type T)) none := Looks.of_pure hstub
  refine cls_open X LO L0 hg (looks_hook X (r := none) (by rfl)) (by show subIn K _ _ = _; rfl) e
    (wpAny_pure (by show wpAny _ _ (handedOut v) _ _ _; rw [handedOut_of hh]; exact wpAny_pure h))
end
end Mine
end
section
namespace Mine
section
variable {w : World} {T h₀ h : Heap} {A : Around} {env : Env} {m : Str → Option Value} {O : List Addr} {B D M L : Led} {s : Shared} {tk : Nat} {E : Value → Shared → Prop}
theorem new_spec {a b : Value} {Q : Value → Shared → Prop} (C : Cx (K01 w.params) T) (go : Go T A D h) (hroom : Room 20 A)
  (hQ : ∀ x dx h' tk' D', Kp T h h' → Has h' D' → New h D D' → (x, pairOf 247 dx [a, b] 0) ∈ D' → (dx, emptyDict) ∈ D' → Q (.ref x) (sA s h' tk')) :
  wpAny (model PySem.Challenge.rw_il0126_02.row.prog w) A (call (.ref 174) [.ref 247, a, b]) Q E (sA s h tk) := by
  revert C; k_fill; intro C
  refine' callFn0 (binds := [("_cls", .ref 247), ("name", a), ("value", b)]) ?C ?go ?room ?ho ?hd ?hbody ?hcd ?hbind ?hcl ?hk ?hco ?hgen ?hnames ?hlook ?hbs ?hB
  walk_at "enter"
  intro L O h₁ tk₁ E' hL hO Z
  subst hO
  dsimp only [bindAll, List.foldl] at Z ⊢
  walk_at "ss"
  refine' methodT (v := .builtin "tuple.__new__") ?X ?ht ?hs ?e ?hh ?_
  case X => exact C.inn Z.go.kT
  case ht => kernel_rfl
  case hs => decide +kernel
  case e => k_is
  case hh => rfl
  dsimp only
  refine PyProof.Rows.callWith_builtin1 ?_
  walk_at "es"
  rename_i tup h₂ tk₂ Z₂
  have X₂ := C.inn Z₂.go.kT
  have base : Looks (model PySem.Challenge.rw_il0126_02.row.prog w) h₂ (Bind.staticBase (.ref 247)) (.type "tuple") := by
    refine' baseTup (C₂ := 224) X₂ ?ho ?hs1 ?hl1 ?hb1 ?ho2 ?hs2 ?hm2 ?hl2 ?hb2
    case ho => k_is
    case hs1 => rfl
    case hl1 => rfl
    case hb1 => rfl
    case ho2 => k_is
    case hs2 => rfl
    case hm2 => rfl
    case hl2 => rfl
    case hb2 => rfl
  refine wpAny_call ?_
  refine' tupNew (vs := [a, b]) (k := 0) ?X2 ?hC ?sub base ?hi ?ht2 ?hsz ?hdel ?_
  case X2 => exact X₂
  case hC => k_is
  case sub => k_is
  case hi => k_is
  case ht2 => exact (Z₂.go.has _ (.head _)).1
  case hsz => simp
  case hdel => rfl
  intro h₃ k₃
  have Z₃ := Z₂.step (.of_keeps k₃)
  have Z₄ := Z₃.more (D' := [(h₃.objs.size, emptyDict)]) (.push _) (Has.cons (Heap.get?_push_size _ rfl) (by show Value.type _ ≠ Value.type _; decide) .nil) (fun p hp => by rw [List.mem_singleton.mp hp]; exact fresh_size h₃)
  have Z₅ := Z₄.more (D' := [((h₃.push emptyDict).objs.size, pairOf 247 h₃.objs.size [a, b] 0)]) (.push _) (Has.cons (Heap.get?_push_size _ rfl) (by show Value.ref _ ≠ Value.type _; simp) .nil) (fun p hp => by rw [List.mem_singleton.mp hp]; exact fresh_size _)
  rw [Heap.size_push] at Z₅
  walk_at "ss"
  exact hQ _ _ _ _ _ Z₅.kp Z₅.go.has Z₅.gr (.head _) (.tail _ (.head _))
end
end Mine
end
section
namespace Mine
theorem ai (a : Value) (l : List Value) : argsOk "object.__init__" ⟨a :: l, []⟩ := by unfold argsOk; kernel_rfl
theorem bi_oinit : Bi "object" "__init__" "object.__init__" := .of (by kernel_rfl) (by decide +kernel) (by decide +kernel) (by decide +kernel) (by decide +kernel)
section
variable {prog : Program} {w : World} {A : Around} {K : Frag} {C f p : Addr} {R : Result → Shared → Prop} {h : Heap} {g : Array GenState} {d : Drawn} {t : Nat} {os : OsState}
/-- Pair(a, b): a class under tuple whose __new__ is a def of a class above -/
theorem pairMake {oc : Value} {od : Option Addr} {cd : ClassData} {sl : Array (Option Value)} {args : List Value} {l : List Value} {rest : List Value} {mc : Value} (X : K.In h) (hC0 : K.lookup C = some ⟨oc, od, .cls cd, sl⟩) (hs : sl[4]? = some (some .none)) (hl : cd.mro = .ref C :: l)
    (hcall : specialIn K (.ref C) "__call__" = some (some (.builtin "type.__call__"))) (htyp : instIn K (.ref C) (.type "type") = some true)
    (hr : readsIn K C mc = true) (hn : findCls K (.ref C) mc "__new__" = some (.get (.builtin "staticmethod.__get__") (.ref p) .none (.ref C))) (hp : recIn K p "staticmethod" = some (.ref f :: rest))
    (hself : subIn K (.ref C) (.ref C) = some true) (hobj : subIn K (.ref C) (.type "object") = some true) (hi : findIn K (.ref C) "__init__" = some (some (.builtin "object.__init__")))
    (hnew : ∀ E', wpAny (model prog w) (A.under (.builtin "type.__call__" ⟨.ref C :: args, []⟩)) (call (.ref f) (.ref C :: args)) (fun v s' => ∃ x o od', v = .ref x ∧ K.In s'.heap ∧ InstAt s'.heap x o C od' ∧ R (.ok (.ret (.ref x))) s') E' ⟨h, g, d, t + 1, os⟩) :
    codeAny (model prog w) A (.call (.ref C) ⟨args, []⟩) R ⟨h, g, d, t, os⟩ := by
  have hC := X _ _ hC0
  have call := looks_specialIn (M := model prog w) X hcall
  have typ := looks_instIn (M := model prog w) X htyp
  have hm : Looks (model prog w) h (mroOf (.ref C)) cd.mro := (looks_clsIn X (by unfold clsIn; rw [hC0])).andThen .now
  have made : Looks (model prog w) h (Bind.madeBy (.ref C)) none := madeNone X hC0 hs hl
  refine codeAny_of_tree ?_
  show wpAny _ _ (callAny (.ref C) _) _ _ _
  refine nd_load hC ?_
  show wpAny _ _ (callAny.viaDunder (.ref C) _) _ _ _
  unfold callAny.viaDunder
  refine wpAny_bind (call.at ?_)
  dsimp only
  rw [tc_bind]
  refine wpAny_bind (wpAny_pure (wpAny_bind (wpAny_pure ?_)))
  refine wpAny_pure (a := Fin.again (.call (.builtin "type.__call__") ⟨.ref C :: args, []⟩)) (And.intro rfl ?_)
  refine codeAny_call_builtin_at (Code.quiet_builtin _ (by decide +kernel)) entry_typeCall ?_
  refine check_slot tc_kind tc_split typ (tc_args _ _ _) ?_
  unfold Builtin.«type.__call__»
  have ne : cd.mro.isEmpty = false := by rw [hl]; rfl
  dsimp only
  rw [if_neg (show ¬ (Value.ref C == Value.type "type") = true from Bool.false_ne_true)]
  refine wpAny_bind (hm.at ?_)
  rw [if_neg (by rw [ne]; exact Bool.false_ne_true)]
  refine wpAny_bind (made.at ?_)
  refine wpAny_bind ?_
  refine cls_bind (s := ⟨h, g, d, t, os⟩) X hr hn (wpAny_call (sm_get (s := ⟨h, g, d, t + 1, os⟩) X hp (handed_on rfl ?_)))
  refine wpAny_bind (wpAny_holding (wpAny_mono (hnew _) (fun v s' hv => ?_) fun _ _ e => e))
  obtain ⟨x, o, od', rfl, X', I', hR⟩ := hv
  refine wpAny_bind (wpAny_bind (I'.type.here ((looks_subIn X' hself).here ?_)))
  rw [if_neg (by decide)]
  have m' : Looks (model prog w) s'.heap (Bind.madeBy (.ref C)) none := madeNone X' hC0 hs hl
  have i' := looks_findIn (M := model prog w) X' hi
  refine wpAny_bind (wpAny_holding (special_bi X' I' hi bi_oinit (wpAny_call (bi_oinit.code entry_oi (inst_isi X' I' hobj) (ai _ _) ?_))))
  unfold Builtin.«object.__init__»
  dsimp only
  cases hargs : args.isEmpty with
  | true =>
    rw [if_neg (by simp)]
    refine wpAny_pure ?_
    dsimp only
    exact wpAny_pure hR
  | false =>
    rw [if_pos (by simp)]
    refine wpAny_bind (I'.type.here (wpAny_bind (i'.here ?_)))
    refine wpAny_bind (m'.here ?_)
    rw [if_neg (by decide)]
    dsimp only
    rw [if_neg (by decide)]
    refine wpAny_pure ?_
    dsimp only
    exact wpAny_pure hR
end
end Mine
end
section
namespace Mine
/-- a line that Pair.parse reads as a and b -/
structure LineOk (x a b : Str) : Prop where
  len : x.length ≤ 500
  h1 : (decide (x.length < ("=" : Str).length) || decide (Builtin.Str.strKind x < Builtin.Str.strKind "=")) = false
  hf : (Builtin.Str.occurrences x "=" 0 x.length (limitOf x 1)).isEmpty = false
  parts : ∃ p q, Builtin.Str.partsBetween x (Builtin.Str.occurrences x "=" 0 x.length (limitOf x 1)) ("=" : Str).length = [p, q] ∧ Txt.strip p = a ∧ Txt.strip q = b ∧ p.length ≤ 1000 ∧ q.length ≤ 1000
section
variable {w : World} {T h₀ h : Heap} {A : Around} {env : Env} {m : Str → Option Value} {O : List Addr} {B D M L : Led} {s : Shared} {tk : Nat} {E : Value → Shared → Prop}
set_option maxHeartbeats 2000000 in
theorem pair_make {a b : Value} {Q : Value → Shared → Prop} (C : Cx (K01 w.params) T) (Z : St T h₀ B O env A m D M h) (hroom : Room 30 A)
  (hQ : ∀ x dx h' tk' D', (∀ p ∈ D, p ∈ D') → (x, pairOf 247 dx [a, b] 0) ∈ D' → (dx, emptyDict) ∈ D' → St T h₀ B O env A m D' M h' → Q (.ref x) (sA s h' tk')) :
  wpAny (model PySem.Challenge.rw_il0126_02.row.prog w) A (call (.ref 247) [a, b]) Q E (sA s h tk) := by
  have C0 := C
  revert C; k_fill; intro C
  refine wpAny_call ?_
  refine' pairMake (f := 174) (p := 225) (mc := .type "type") ?X ?hC0 ?hs ?hl ?hcall ?htyp ?hr ?hn ?hp ?hself ?hobj ?hi ?hnew
  case X => exact C.inn Z.go.kT
  case hC0 => k_is
  case hs => rfl
  case hl => rfl
  case hcall => k_is
  case htyp => k_is
  case hr => k_is
  case hn => k_is
  case hp => k_is
  case hself => k_is
  case hobj => k_is
  case hi => k_is
  case hnew =>
    intro E'
    have go1 : Go T (A.under (.builtin "type.__call__" ⟨[.ref 247, a, b], []⟩)) D h := ⟨Z.go.kT, Z.go.fs.under, Z.go.has⟩
    refine new_spec (s := s) (tk := tk + 1) C0 go1 ((hroom.le (by decide : 22 ≤ 30)).under (n := 20) _) fun x dx h' tk' D' kp hs hn hx hdx => ?_
    have Z' := Z.moreN kp hs hn
    have e1 := (hs _ hx).1
    have e2 := (hs _ hdx).1
    exact ⟨x, _, some emptyDict, rfl, C.inn Z'.go.kT, ⟨e1, rfl, rfl, e2⟩, hQ x dx h' tk' _ (fun p hp => List.mem_append_right _ hp) (List.mem_append_left _ hx) (List.mem_append_left _ hdx) Z'⟩
set_option maxHeartbeats 2000000 in
theorem parse_code {x a b : Str} {t : Tok} {R : Result → Shared → Prop} (C : Cx (K01 w.params) T) (Y : St T h D [] env A m D [] h) (hroom : Room 40 A) (hx : LineOk x a b)
  (hQ : ∀ y dx t1 t2 h' tk' D', Kp T h h' → Has h' D' → New h D D' → (y, pairOf 247 dx [.str a t1, .str b t2] 0) ∈ D' → (dx, emptyDict) ∈ D' → R (.ok (.ret (.ref y))) (sA s h' tk')) :
  codeAny (model PySem.Challenge.rw_il0126_02.row.prog w) A (.call (.ref 241) ⟨[.ref 247, .str x t], []⟩) R (sA s h tk) := by
  obtain ⟨hlen, h1, hf, p, q, hws, rfl, rfl, hpl, hql⟩ := hx
  have C0 := C
  revert C; k_fill; intro C
  refine' codeFnM0 (s := s) (tk := tk) (binds := [("cls", .ref 247), ("text", .str x t)]) ?C Y ?fs ?room ?ho ?hd ?hbody ?hcd ?hbind ?hcl ?hk ?hco ?hgen ?hnames ?hlook ?hbs ?hB
  case fs => exact Y.go.fs
  case room => exact (hroom.le (Nat.zero_le _)).1
  walk_at "enterM"
  intro L O h₁ tk₁ E' hL hO Z
  subst hO
  dsimp only [bindAll, List.foldl] at Z ⊢
  refine wpAny_execs_cons (wpAny_Return_some (Call_ ?_))
  walk_at "name"
  refine' callWith_S (C.X) ?hk ?_
  case hk => k_is
  walk_at "ss"
  refine' attrT (v := .builtin "str.strip") ?X3 ?ht3 ?hs3 ?e3 ?hh3 ?_
  case X3 => exact C.inn Z.go.kT
  case ht3 => kernel_rfl
  case hs3 => decide +kernel
  case e3 => k_is
  case hh3 => rfl
  walk_at "ss"
  refine GM.split ?_
  dsimp only
  refine callWith_method1 ?_
  walk_at "ss"
  refine splitMax Z (by decide) h1 (by decide +kernel) hf hws (by show x.length ≤ 16777216; omega) (by show (2 : Nat) ≤ 16777216; decide) ?_
  intro l vs h₂ tk₂ hvs Z₂
  walk_at "ss"
  refine mapMake Z₂ (.head _) ?_
  intro mp tup it L₂ h₃ tk₃ hM Z₃
  refine starItr Z₃ (itrMap (.head _) (.tail _ (.head _)) (.tail _ (.tail _ (.head _))) hvs (fun x hx => by simp at hx; rcases hx with rfl | rfl <;> assumption)) hM (hroom.deeper.le (by decide)) (by rw [strs_len hvs]; show (2 : Nat) ≤ 10000; decide) (.head _) rfl ⟨_, F.slot_map_iter.lookup⟩ F.map_nolen F.map_nohint rfl rfl ?_
  intro h₄ tk₄ us hl hv Z₄
  rw [strs_len hvs] at hl
  obtain ⟨u1, u2, rfl⟩ : ∃ u1 u2, us = [u1, u2] := by
    match us, hl with
    | [u1, u2], _ => exact ⟨u1, u2, rfl⟩
  obtain ⟨x1, t1, q1, rfl⟩ := hv 0 u1 rfl
  obtain ⟨x2, t2, q2, rfl⟩ := hv 1 u2 rfl
  cases q1
  cases q2
  refine ⟨C.inn Z₄.go.kT, ?_⟩
  refine pair_make C0 Z₄ (hroom.deeper.le (by decide)) ?_
  intro y dx h₅ tk₅ D₅ hD₅ hy hdy Z₅
  walk_at "ss"
  exact hQ y dx t1 t2 _ _ _ Z₅.kp Z₅.go.has Z₅.gr hy hdy
end
end Mine
end
section
namespace Mine
theorem bi_tgi : Bi "tuple" "__getitem__" "tuple.__getitem__" := .of (by kernel_rfl) (by decide +kernel) (by decide +kernel) (by decide +kernel) (by decide +kernel)
namespace F
theorem args_tgi (a b : Value) : argsOk "tuple.__getitem__" ⟨[a, b], []⟩ := by unfold argsOk; kernel_rfl
theorem meta_tuple : typeOf (.type "tuple") = pure (.type "type") := by kernel_rfl
end F
section
variable {prog : Program} {w : World} {A : Around} {E : Value → Shared → Prop} {s : Shared} {K : Frag} {x C : Addr} {od : Option Obj}
theorem sub_meets : Meets (Builtin.«issubclass» ⟨[.ref C, .type "tuple"], []⟩) (fun _ R s => (∃ c d cd sl, s.heap.get? C = some ⟨c, d, .cls cd, sl⟩ ∧ cd.mro.isEmpty = false ∧ cd.mro.contains (.type "tuple") = true) ∧ R (.ok (.ret (.bool true))) s) := by
  intro prog w A R s hs
  obtain ⟨⟨c, d, cd, sl, hC, h1, h2⟩, hR⟩ := hs
  refine issubclass_outer ?_
  have hm := F.meta_tuple
  obtain ⟨hh, g, dr, t, os⟩ := s
  dsimp only at hC
  have isT : Looks (model prog w) hh (isType (.ref C)) true := (Looks.ld (part := none) hC).andThen .now
  have isT2 : Looks (model prog w) hh (isType (.type "tuple")) true := Looks.of_pure rfl
  have cl : Looks (model prog w) hh (classData C) cd := (Looks.ld (part := none) hC).andThen .now
  have mr : Looks (model prog w) hh (mroOf (.ref C)) cd.mro := cl.andThen .now
  have sb : Looks (model prog w) hh (isSubtype (.ref C) (.type "tuple")) true := by
    unfold isSubtype
    refine mr.andThen ?_
    dsimp only
    rw [if_neg (by rw [h1]; exact Bool.false_ne_true), h2]
    exact .now
  show wpAny _ _ (typeOf (.type "tuple") >>= _) _ _ _
  refine wpAny_bind (wpAny_of_eq hm ?_)
  rw [if_pos (by decide)]
  refine wpAny_bind ?_
  refine wpAny_bind (isT.at (wpAny_bind (isT2.at ?_)))
  rw [if_pos (by decide)]
  exact sb.at (wpAny_pure hR)
theorem isSub {Q : Value → Shared → Prop} {cd : ClassData} (X : K.In s.heap) (hc : clsIn K C = some cd) (h1 : cd.mro.isEmpty = false) (h2 : cd.mro.contains (.type "tuple") = true) (hq : Q (.bool true) s) :
    wpAny (model prog w) A (call (.builtin "issubclass") [.ref C, .type "tuple"]) Q E s := by
  refine call_issubclass sub_meets ⟨?_, hq⟩
  unfold clsIn at hc
  split at hc
  · rename_i c d cd' sl ho
    cases hc
    exact ⟨c, d, cd, sl, X _ _ ho, h1, h2⟩
  · cases hc
theorem tupItem {vs : List Value} {k : Nat} {i : Int} {t : Tok} {v : Value} {ox : Obj} {Q : Value → Shared → Prop} (X : K.In s.heap) (I : InstAt s.heap x ox C od) (hd : ox.data = .seq vs.toArray k) (hsub : subIn K (.ref C) (.type "tuple") = some true)
    (hi : (seqIndex? i vs.toArray.size).bind (vs.toArray[·]?) = some v) (h1 : -2 ^ 63 ≤ i ∧ i < 2 ^ 63) (hq : Q v s) : wpAny (model prog w) A (call (.builtin "tuple.__getitem__") [.ref x, .int i t]) Q E s := by
  refine wpAny_call (bi_tgi.code PySem.F.entry_tuple_getitem (inst_isi X I hsub) (F.args_tgi _ _) ?_)
  have hx := I.at_
  obtain ⟨oc, odi, odt, osl⟩ := ox
  dsimp only at hd
  subst hd
  obtain ⟨hp, g, d, tk, os⟩ := s
  have f1 := AutoSeq1.idx_int
  have hf : ¬ (decide (i < -2 ^ 63) || decide (i ≥ 2 ^ 63)) = true := by simp; omega
  wp_walk using wpAny_loadPart' hx
  simp only [hi]
  refine wpAny_ite_false (by simp; omega) ?_
  wp_walk
  exact hq
end
end Mine
end
section
namespace Mine
section
variable {w : World} {T h₀ h : Heap} {A : Around} {env : Env} {m : Str → Option Value} {O : List Addr} {B D M L : Led} {s : Shared} {tk : Nat} {E : Value → Shared → Prop}
set_option maxHeartbeats 2000000 in
theorem name_get {y dx : Addr} {a b : Value} {Q : Value → Shared → Prop} (C : Cx (K01 w.params) T) (go : Go T A D h) (hroom : Room 20 A) (hy : (y, pairOf 247 dx [a, b] 0) ∈ D) (hdx : (dx, emptyDict) ∈ D)
  (hQ : ∀ h' tk', Kp T h h' → Q a (sA s h' tk')) :
  wpAny (model PySem.Challenge.rw_il0126_02.row.prog w) A (call (.ref 105) [.ref 216, .ref y, .ref 247]) Q E (sA s h tk) := by
  revert C; k_fill; intro C
  refine' callFn0 (binds := [("self", .ref 216), ("obj", .ref y), ("objtype", .ref 247)]) ?C ?go ?room ?ho ?hd ?hbody ?hcd ?hbind ?hcl ?hk ?hco ?hgen ?hnames ?hlook ?hbs ?hB
  case C => assumption
  case go => assumption
  case room => exact (hroom.le (Nat.zero_le _)).1
  case ho => k_is
  case hd => exact rfl
  case hbody => exact rfl
  case hcd => k_is
  case hbind => (refine' binds_K ?bX ?bd ?bo ?bs ?b1 ?b2; (case bX => exact C.inn go.kT); (case bd => exact rfl); (case bo => k_is); (case bs => exact rfl); (case b1 => exact rfl); (case b2 => exact rfl))
  case hcl => exact rfl
  case hk => exact rfl
  case hco => exact rfl
  case hgen => exact rfl
  case hnames => exact rfl
  case hlook => exact rfl
  case hbs => exact rfl
  intro L O h₁ tk₁ E' hL hO Z
  subst hO
  dsimp only [bindAll, List.foldl] at Z ⊢
  have I : InstAt h₁ y (pairOf 247 dx [a, b] 0) 247 (some emptyDict) := ⟨(Z.go.has _ hy).1, rfl, rfl, (Z.go.has _ hdx).1⟩
  walk_at "ss"
  refine iteF (fun r => absurd (show false = true from r) Bool.false_ne_true) ?_
  walk_at "s"
  walk_at "s"
  walk_at "s"
  walk_at "s"
  walk_at "s"
  walk_at "s"
  walk_at "s"
  refine PyProof.Rows.callWith_builtin1 ?_
  walk_at "ss"
  refine' kto_own ?I0 ?_
  case I0 => exact I
  walk_at "ss"
  refine' isSub ?X1 ?hc1 ?h11 ?h21 ?_
  case X1 => exact C.inn Z.go.kT
  case hc1 => k_is
  case h11 => rfl
  case h21 => rfl
  walk_at "ss"
  refine iteF (by decide) ?_
  walk_at "ss"
  refine' methodT (v := .builtin "tuple.__getitem__") ?X ?ht ?hs ?e ?hh ?_
  case X => exact C.inn Z.go.kT
  case ht => kernel_rfl
  case hs => decide +kernel
  case e => k_is
  case hh => rfl
  dsimp only
  refine PyProof.Rows.callWith_builtin1 ?_
  walk_at "ss"
  have X9 := C.inn Z.go.kT
  obtain ⟨og, hog, hogc, hogn, hogd⟩ : ∃ og, List.lookup 216 (K01 w.params) = some og ∧ og.cls = .ref 122 ∧ notCls og = true ∧ og.dict = some 215 := ⟨_, by k_is, rfl, rfl, rfl⟩
  obtain ⟨ogd, hgd, hgl⟩ : ∃ ogd, List.lookup 215 (K01 w.params) = some ogd ∧ lookIn "index" ogd = some (some (.int 0 541)) := ⟨_, by k_is, rfl⟩
  have I9 : InstAt h₁ 216 og 122 (some ogd) := ⟨X9 _ _ hog, hogc, hogn, by rw [hogd]; exact X9 _ _ hgd⟩
  refine' get_value (v := .int 0 541) ?gX ?gI ?gga ?gf ?gh ?_
  case gX => exact X9
  case gI => exact I9
  case gga => k_is
  case gf => exact findObj_own (attr := none) (by k_is) (by k_is) rfl hgl
  case gh => rfl
  walk_at "ss"
  refine' tupItem (vs := [a, b]) (k := 0) (i := 0) ?tX ?tI ?td ?ts ?ti ?tl ?_
  case tX => exact X9
  case tI => exact I
  case td => rfl
  case ts => k_is
  case ti => rfl
  case tl => decide
  walk_at "ss"
  exact hQ _ _ Z.kp
set_option maxHeartbeats 2000000 in
theorem value_get {y dx : Addr} {a b : Value} {Q : Value → Shared → Prop} (C : Cx (K01 w.params) T) (go : Go T A D h) (hroom : Room 20 A) (hy : (y, pairOf 247 dx [a, b] 0) ∈ D) (hdx : (dx, emptyDict) ∈ D)
  (hQ : ∀ h' tk', Kp T h h' → Q b (sA s h' tk')) :
  wpAny (model PySem.Challenge.rw_il0126_02.row.prog w) A (call (.ref 105) [.ref 219, .ref y, .ref 247]) Q E (sA s h tk) := by
  revert C; k_fill; intro C
  refine' callFn0 (binds := [("self", .ref 219), ("obj", .ref y), ("objtype", .ref 247)]) ?C ?go ?room ?ho ?hd ?hbody ?hcd ?hbind ?hcl ?hk ?hco ?hgen ?hnames ?hlook ?hbs ?hB
  case C => assumption
  case go => assumption
  case room => exact (hroom.le (Nat.zero_le _)).1
  case ho => k_is
  case hd => exact rfl
  case hbody => exact rfl
  case hcd => k_is
  case hbind => (refine' binds_K ?bX ?bd ?bo ?bs ?b1 ?b2; (case bX => exact C.inn go.kT); (case bd => exact rfl); (case bo => k_is); (case bs => exact rfl); (case b1 => exact rfl); (case b2 => exact rfl))
  case hcl => exact rfl
  case hk => exact rfl
  case hco => exact rfl
  case hgen => exact rfl
  case hnames => exact rfl
  case hlook => exact rfl
  case hbs => exact rfl
  intro L O h₁ tk₁ E' hL hO Z
  subst hO
  dsimp only [bindAll, List.foldl] at Z ⊢
  have I : InstAt h₁ y (pairOf 247 dx [a, b] 0) 247 (some emptyDict) := ⟨(Z.go.has _ hy).1, rfl, rfl, (Z.go.has _ hdx).1⟩
  walk_at "ss"
  refine iteF (fun r => absurd (show false = true from r) Bool.false_ne_true) ?_
  walk_at "s"
  walk_at "s"
  walk_at "s"
  walk_at "s"
  walk_at "s"
  walk_at "s"
  walk_at "s"
  refine PyProof.Rows.callWith_builtin1 ?_
  walk_at "ss"
  refine' kto_own ?I0 ?_
  case I0 => exact I
  walk_at "ss"
  refine' isSub ?X1 ?hc1 ?h11 ?h21 ?_
  case X1 => exact C.inn Z.go.kT
  case hc1 => k_is
  case h11 => rfl
  case h21 => rfl
  walk_at "ss"
  refine iteF (by decide) ?_
  walk_at "ss"
  refine' methodT (v := .builtin "tuple.__getitem__") ?X ?ht ?hs ?e ?hh ?_
  case X => exact C.inn Z.go.kT
  case ht => kernel_rfl
  case hs => decide +kernel
  case e => k_is
  case hh => rfl
  dsimp only
  refine PyProof.Rows.callWith_builtin1 ?_
  walk_at "ss"
  have X9 := C.inn Z.go.kT
  obtain ⟨og, hog, hogc, hogn, hogd⟩ : ∃ og, List.lookup 219 (K01 w.params) = some og ∧ og.cls = .ref 122 ∧ notCls og = true ∧ og.dict = some 218 := ⟨_, by k_is, rfl, rfl, rfl⟩
  obtain ⟨ogd, hgd, hgl⟩ : ∃ ogd, List.lookup 218 (K01 w.params) = some ogd ∧ lookIn "index" ogd = some (some (.int 1 551)) := ⟨_, by k_is, rfl⟩
  have I9 : InstAt h₁ 219 og 122 (some ogd) := ⟨X9 _ _ hog, hogc, hogn, by rw [hogd]; exact X9 _ _ hgd⟩
  refine' get_value (v := .int 1 551) ?gX ?gI ?gga ?gf ?gh ?_
  case gX => exact X9
  case gI => exact I9
  case gga => k_is
  case gf => exact findObj_own (attr := none) (by k_is) (by k_is) rfl hgl
  case gh => rfl
  walk_at "ss"
  refine' tupItem (vs := [a, b]) (k := 0) (i := 1) ?tX ?tI ?td ?ts ?ti ?tl ?_
  case tX => exact X9
  case tI => exact I
  case td => rfl
  case ts => k_is
  case ti => rfl
  case tl => decide
  walk_at "ss"
  exact hQ _ _ Z.kp
end
end Mine
end
section
namespace Mine
section
variable {prog : Program} {w : World} {A : Around} {E : Value → Shared → Prop} {s : Shared} {K : Frag} {x C p q : Addr} {ox : Obj} {od : Option Obj}
/-- o[i] of an object whose class's __getitem__ is built in -/
theorem subO {value slice : Expr} {i : Value} {id : String} {Q : Value → Shared → Prop} (X : K.In s.heap) (I : InstAt s.heap x ox C od) (hg : findIn K (.ref C) "__getitem__" = some (some (.builtin id))) (h : wpAny (model prog w) A (getItem (.ref x) i) Q E s)
    (hs : subscripted slice false (.ref x) i = operate [.ref x, i] (getItem (.ref x) i)) : wpAny (model prog w) A (subscriptTail value slice (.ref x) i) Q E s := by
  unfold subscriptTail getitemInPython
  refine wpAny_bind ?_
  refine wpAny_bind (wpAny_bind (I.type.here ((looks_findIn X hg).here ?_)))
  have fin : wpAny (model prog w) A (subscripted slice false (.ref x) i) (fun r s₃ => wpAny (model prog w) A (letTemporaryGo value (.ref x) r >>= fun _ => pure r) Q E s₃) E s := by
    rw [hs]
    exact wpAny_operating (wpAny_mono h (fun r s₃ h₃ => wpAny_bind (wpAny_letTemporaryGo (wpAny_pure h₃))) fun _ _ x => x)
  first
    | exact wpAny_pure (wpAny_bind fin)
    | exact wpAny_bind (wpAny_pure (wpAny_bind fin))
    | exact wpAny_bind fin
    | exact wpAny_pure fin
/-- a class method, fetched for a call -/
theorem cmAttr {mc : Value} {f : Value} {rest : List Value} {name : Str} {pl : Sem Bool} {Q : Value × List Value → Shared → Prop} (X : K.In s.heap) (hg : specialIn K (.ref C) "__getattribute__" = some (some (.builtin "type.__getattribute__"))) (hr : readsIn K C mc = true)
    (e : findCls K (.ref C) mc name = some (.get (.builtin "classmethod.__get__") (.ref p) .none (.ref C))) (hp : recIn K p "classmethod" = some (f :: rest))
    (h : Q (.ref s.heap.objs.size, []) { s with heap := s.heap.push (methodObj f (.ref C)), toks := s.toks + 1 }) : wpAny (model prog w) A (getMethod (.ref C) name pl) Q E s :=
  method_cls X hg (cls_bind X hr e (wpAny_call (cm_get (s := { s with toks := s.toks + 1 }) X hp (handed_on rfl h))))
theorem callWith_Me {M : Model} {g : Addr} {self : Value} {env : Env} {first : List Value} {e : Expr} {rest : List Expr} {pos : Pos} {Q : Value → Shared → Prop} (hf : fnIn K g = true) (h : wpAny M A (spliced (backTo pos (starEach (e :: rest) env))) (fun vs s₁ => MethP K q g self s₁.heap ∧ wpAny M A (call (.ref q) (first ++ vs)) Q E s₁) E s)
    (he : starEach (e :: rest) env = (false, eval e env) :: starEach rest env := by rfl) (hplain : (backTo pos (starEach rest env)).any (·.1) = false := by rfl) :
    wpAny M A (callWith pos (.ref q) first (backTo pos (starEach (e :: rest) env)) []) Q E s := by
  rw [he] at h ⊢
  exact callWith_of (by show ((false || (backTo pos (starEach rest env)).any (·.1)) || false) = false; rw [hplain]; rfl) (keeps_M hf) (evalArgs_plain h)
theorem callMe {f : Value} {self : Value} {args : List Value} {Q : Value → Shared → Prop} (ho : s.heap.get? q = some (methodObj f self)) (h : codeAny (model prog w) A (.call f ⟨self :: args, []⟩) (fun r s' => match r with | .ok (.ret v) => Q v s' | .ok _ => False | .error e => E e s') s) : wpAny (model prog w) A (call (.ref q) args) Q E s :=
  wpAny_call (method_call ho h)
end
end Mine
end
section
namespace Mine
section
variable {w : World} {T h₀ h h' : Heap} {A : Around} {env : Env} {m : Str → Option Value} {O : List Addr} {B D M L : Led} {s : Shared} {tk : Nat} {E : Value → Shared → Prop}
theorem St.moreML (Z : St T h₀ B O env A m D M h) (k : Kp T h h') (hs : Has h' L) (f : Fresh h L) (nd : (L.map (·.1)).Nodup) : St T h₀ B O env A m D (L ++ M) h' :=
  have Z' := Z.step k
  have nL : ∀ {b : Addr} {o : Obj}, h.get? b = some o → ∀ q ∈ L, b ≠ q.1 := fun e q hq e' => by have := f q hq; rw [← e', e] at this; cases this
  { Z' with
    offL := ⟨Z'.offL.1, fun q hq => by
      obtain ⟨⟨o, e⟩, r⟩ := Z.offL
      exact (List.mem_append.mp hq).elim (nL e q) (r q)⟩
    mu := hs.append Z'.mu
    muNew := fun p hp => (List.mem_append.mp hp).elim (fun q => Kp.back Z.kp (f p q)) (Z.muNew p)
    offD := fun p hp => ⟨(Z'.offD p hp).1, fun q hq => (List.mem_append.mp hq).elim (nL (Z.go.has p hp).1 q) ((Z'.offD p hp).2 q)⟩
    offM := fun q hq => (List.mem_append.mp hq).elim (fun hq ho => by obtain ⟨_, o, e⟩ := Z.own _ ho; exact nL e q hq rfl) (Z.offM q)
    ndM := by
      rw [List.map_append]
      refine List.nodup_append.mpr ⟨nd, Z.ndM, fun a ha b hb e => ?_⟩
      obtain ⟨p, hp, rfl⟩ := List.mem_map.mp ha
      obtain ⟨q, hq, rfl⟩ := List.mem_map.mp hb
      exact nL (Z.mu q hq).1 p hp e.symm
    offC := fun c hc => ⟨(Z'.offC c hc).1, fun q hq => by
      obtain ⟨⟨o, e⟩, r⟩ := Z.offC c hc
      exact (List.mem_append.mp hq).elim (nL e q) (r q)⟩ }

theorem pair_attr_name {y dx : Addr} {a b : Str} {t1 t2 : Tok} {expr : Bool} {Q : Value → Shared → Prop} (C : Cx (K01 w.params) T) (Z : St T h₀ B O env A m D M h) (hroom : Room 24 A) (hy : (y, pairOf 247 dx [.str a t1, .str b t2] 0) ∈ D) (hdx : (dx, emptyDict) ∈ D)
  (hQ : ∀ h' tk', St T h₀ B O env A m D M h' → Q (.str a t1) (sA s h' tk')) : wpAny (model PySem.Challenge.rw_il0126_02.row.prog w) A (getAttr (.ref y) "name" expr) Q E (sA s h tk) := by
  have C0 := C
  revert C; k_fill; intro C
  have I : InstAt h y (pairOf 247 dx [.str a t1, .str b t2] 0) 247 (some emptyDict) := ⟨(Z.go.has _ hy).1, rfl, rfl, (Z.go.has _ hdx).1⟩
  unfold getAttr
  refine wpAny_bind (wpAny_mkText ?_)
  refine' al_bind (g := .ref 105) (a := .ref 216) ga_tuple ?X I ?hga ?hk ?hi ?hf ?_
  case X => exact C.inn Z.go.kT
  case hga => k_is
  case hk => k_is
  case hi => k_is
  case hf => refine findObj_data rfl ?_ ?_ ?_ <;> k_is
  intro E'
  refine name_get C0 ⟨Z.go.kT, Z.go.fs.in1, Z.go.has⟩ (Room.in1 (n := 20) (hroom.le (by decide))) hy hdx fun h' tk' kp => ?_
  exact handed_on rfl (hQ _ _ (Z.step kp))
theorem pair_attr_value {y dx : Addr} {a b : Str} {t1 t2 : Tok} {expr : Bool} {Q : Value → Shared → Prop} (C : Cx (K01 w.params) T) (Z : St T h₀ B O env A m D M h) (hroom : Room 24 A) (hy : (y, pairOf 247 dx [.str a t1, .str b t2] 0) ∈ D) (hdx : (dx, emptyDict) ∈ D)
  (hQ : ∀ h' tk', St T h₀ B O env A m D M h' → Q (.str b t2) (sA s h' tk')) : wpAny (model PySem.Challenge.rw_il0126_02.row.prog w) A (getAttr (.ref y) "value" expr) Q E (sA s h tk) := by
  have C0 := C
  revert C; k_fill; intro C
  have I : InstAt h y (pairOf 247 dx [.str a t1, .str b t2] 0) 247 (some emptyDict) := ⟨(Z.go.has _ hy).1, rfl, rfl, (Z.go.has _ hdx).1⟩
  unfold getAttr
  refine wpAny_bind (wpAny_mkText ?_)
  refine' al_bind (g := .ref 105) (a := .ref 219) ga_tuple ?X I ?hga ?hk ?hi ?hf ?_
  case X => exact C.inn Z.go.kT
  case hga => k_is
  case hk => k_is
  case hi => k_is
  case hf => refine findObj_data rfl ?_ ?_ ?_ <;> k_is
  intro E'
  refine value_get C0 ⟨Z.go.kT, Z.go.fs.in1, Z.go.has⟩ (Room.in1 (n := 20) (hroom.le (by decide))) hy hdx fun h' tk' kp => ?_
  exact handed_on rfl (hQ _ _ (Z.step kp))
end
end Mine
end
section
namespace Mine
theorem clsK_of {K : Frag} {C : Addr} {oc : Value} {od : Option Addr} {cd : ClassData} {sl : Array (Option Value)} {made : Option Value} (ho : K.lookup C = some ⟨oc, od, .cls cd, sl⟩) (hs : (sl.toList[4]?).join = made) (hdel : cd.hasDel = false)
    (hcall : specialIn K (.ref C) "__call__" = some (some (.builtin "type.__call__"))) (htyp : instIn K (.ref C) (.type "type") = some true) : ClsK K C cd made := ⟨⟨oc, od, sl, ho, hs⟩, hdel, hcall, htyp⟩
theorem fn_call : typeLookup (.type "function") "__call__" = pure (some (.builtin "function.__call__")) := by rw [typeLookup_type, builtinLookup_eq_fast]; kernel_rfl
theorem callable_fn {M : Model} {h : Heap} {f : Addr} {o : Obj} (e : h.get? f = some o) (hc : o.cls = .type "function") : ∃ n, Looks M h (specialOf (.ref f) "__call__") (some (.builtin n)) := by
  have hn := fn_call
  refine ⟨"function.__call__", ?_⟩
  have t1 : Looks M h (typeOf (.ref f)) (.type "function") := hc ▸ (Looks.ld e).andThen .now
  exact t1.andThen (Looks.of_pure hn)
section
variable {w : World} {T h₀ h h' : Heap} {A : Around} {env : Env} {m : Str → Option Value} {O : List Addr} {B D M L : Led} {s : Shared} {tk : Nat} {E : Value → Shared → Prop}
/-- FreezableDefaultDict(lambda) -/
theorem fdd_make {lf : Addr} {lo : Obj} {Q : Value → Shared → Prop} (C : Cx (K01 w.params) T) (Z : St T h₀ B O env A m D M h) (hlf : (lf, lo) ∈ D) (hlc : lo.cls = .type "function")
  (hQ : ∀ x dx ox h' tk', BookO (strKind PySem.Challenge.rw_il0126_02.row.prog w) 152 dx (.ref lf) ox [] → (x == sysModules) = false → St T h₀ B O env A m D ((x, ox) :: (dx, emptyDict) :: M) h' → Q (.ref x) (sA s h' tk')) :
  wpAny (model PySem.Challenge.rw_il0126_02.row.prog w) A (call (.ref 152) [.ref lf]) Q E (sA s h tk) := by
  revert C; k_fill; intro C
  have X := C.inn Z.go.kT
  have hsz : 100 < h.objs.size := by
    obtain ⟨o, e⟩ : ∃ o, List.lookup 152 (K01 w.params) = some o := ⟨_, by k_is⟩
    exact Nat.lt_trans (by decide) (Heap.lt_size (X _ _ e))
  have hcall := callable_fn (M := model PySem.Challenge.rw_il0126_02.row.prog w) (Z.go.has _ hlf).1 hlc
  refine wpAny_call ?_
  refine' ddMake (h := h) (clsK_of ?ho ?hs4 ?hdel ?hcall ?htyp) ?hl ?X ?hi ?hX hcall.choose_spec (by simp) ?hq
  case X => exact X
  case ho => k_is
  case hs4 => rfl
  case hdel => rfl
  case hcall => k_is
  case htyp => k_is
  case hl => rfl
  case hi => k_is
  case hX => exact fun h' k => X.keeps k
  case hq =>
    intro h₂ k e1 e2
    have Z₂ := Z.moreML (L := [(h.objs.size + 1, ({ cls := .ref 152, dict := some h.objs.size, data := .dict #[], slots := #[some (.ref lf)] } : Obj)), (h.objs.size, emptyDict)]) (.of_keeps k)
      (Has.cons e2 (by show Value.ref _ ≠ Value.type _; simp) (Has.cons e1 (by show Value.type _ ≠ Value.type _; decide) .nil))
      (fun p hp => by
        rcases List.mem_cons.mp hp with rfl | hp
        · exact Heap.get?_none_of_le (Nat.le_succ _)
        · rw [List.mem_singleton.mp hp]; exact fresh_size h) (by simp)
    refine hQ _ _ _ _ _ ⟨rfl, rfl, rfl, #[], _, rfl, ?_, ?_, by simp⟩ ?_ Z₂
    · intro e he; simp at he
    · exact .nil
    · simp only [beq_eq_false_iff_ne, ne_eq]
      intro q
      have h1 : (h.objs.size + 1 : Nat) = sysModules := q
      have h2 : (sysModules : Nat) < 100 := by decide
      have h3 : (h.objs.size + 1 : Nat) < 100 := Nat.lt_of_le_of_lt (Nat.le_of_eq h1) h2
      omega
end
end Mine
end
section
namespace Mine
noncomputable abbrev putP (nd : List (Str × Str)) (p : Str × Str) : List (Str × Str) := put nd p.1 p.2
noncomputable def bookOf (es : List (Str × Str)) : List (Str × Str) := es.foldl putP []
theorem book_klen (es : List (Str × Str)) : (es.foldl putP []).length ≤ es.length := by
  have key : ∀ (es nd : List (Str × Str)), (es.foldl putP nd).length ≤ nd.length + es.length := by
    intro es
    induction es with
    | nil => intro nd; exact Nat.le_refl _
    | cons p es ih =>
      intro nd
      have h1 := ih (putP nd p)
      have h2 : (putP nd p).length ≤ nd.length + 1 := put_len _ _ _
      simp only [List.foldl_cons, List.length_cons]
      omega
  simpa using key es []
/-- a frozen book of texts -/
noncomputable def Bk (w : World) (D : Led) (x : Addr) (nd : List (Str × Str)) : Prop := ∃ lf dx ox od kvs, BookO (strKind PySem.Challenge.rw_il0126_02.row.prog w) 152 dx (.ref lf) ox kvs ∧ (x, ox) ∈ D ∧ (dx, od) ∈ D ∧ Frz D x od ∧ Fac D lf ∧ KV SV kvs nd ∧ (x == sysModules) = false
theorem Bk.mono {w : World} {D D' : Led} {x : Addr} {nd : List (Str × Str)} (b : Bk w D x nd) (k : ∀ p ∈ D, p ∈ D') : Bk w D' x nd := by
  obtain ⟨lf, dx, ox, od, kvs, a1, a2, a3, a4, a5, a6, a7⟩ := b
  exact ⟨lf, dx, ox, od, kvs, a1, k _ a2, k _ a3, a4.mono k, a5.mono k, a6, a7⟩
section
variable {w : World} {T h₀ h h' : Heap} {A : Around} {env : Env} {m : Str → Option Value} {O : List Addr} {B D M L : Led} {s : Shared} {tk : Nat} {E : Value → Shared → Prop}
theorem St.reM {M' : Led} (Z : St T h₀ B O env A m D M h) (e : M' = M) : St T h₀ B O env A m D M' h := e ▸ Z
set_option maxHeartbeats 4000000 in
theorem book_spec {l : Addr} {lv : List Value} {kl : Nat} {ws : List Str} {es : List (Str × Str)} {ps qs : Array Value} {Q : Value → Shared → Prop} (C : Cx (K01 w.params) T) (Z : St T h₀ B O env A m D ((144, tabObj ps) :: (271, tabObj qs) :: M) h) (hroom : Room 50 A)
  (hl : (l, lsOf lv kl) ∈ D) (hvs : StrsAre lv ws) (hwl : ws.length = es.length) (hws : ∀ (i : Nat) (x : Str) (p : Str × Str), ws[i]? = some x → es[i]? = some p → LineOk x p.1 p.2) (hlen : es.length ≤ 100) (hps : TabIs frzPos frzQ D ps) (hqs : TabIs bkPos bkQ D qs)
  (hQ : ∀ x ps' qs' h' tk' D', (∀ p ∈ D, p ∈ D') → Bk w D' x (bookOf es) → TabIs frzPos frzQ D' ps' → TabIs bkPos bkQ D' qs' →
    St T h₀ B O env A m D' ((144, tabObj ps') :: (271, tabObj qs') :: M) h' → Q (.ref x) (sA s h' tk')) :
  wpAny (model PySem.Challenge.rw_il0126_02.row.prog w) A (call (.ref 276) [.ref l]) Q E (sA s h tk) := by
  have Zl := Z.lend
  have C0 := C
  revert C; k_fill; intro C
  refine wpAny_call ?_
  refine' codeFnM0 (s := s) (tk := tk) (binds := [("lines", .ref l)]) ?C Zl ?fs ?room ?ho ?hd ?hbody ?hcd ?hbind ?hcl ?hk ?hco ?hgen ?hnames ?hlook ?hbs ?hB
  case fs => exact Zl.go.fs
  case room => exact (hroom.le (Nat.zero_le _)).1
  walk_at "enterM"
  intro Lf O h₁ tk₁ E' hL hO Z₁
  subst hO
  dsimp only [bindAll, List.foldl] at Z₁ ⊢
  walk_at "ss"
  refine' nwLam (L := [(144, tabObj ps)]) (clos := []) ?C7 Z₁ ?hdef ?hcl7 ?hge ?hcode ?hhd ?hps7 ?_
  case C7 => assumption
  case hdef => exact rfl
  case hcl7 => exact rfl
  case hge => exact rfl
  case hcode => exact rfl
  case hhd => kernel_rfl
  case hps7 => exact hqs
  intro lf c' oc vs t ctv pm h₂ tk₂ D₁ qs' hD₁ hf hc' hd' hv' hqs' Z₂
  have hfac : Fac D₁ lf := ⟨c', oc, vs, t, ctv, pm, hf, hc', hd', hv'⟩
  replace Z₂ := Z₂.reM (M' := (144, tabObj ps) :: (271, tabObj qs') :: M) rfl
  walk_at "ss"
  refine fdd_make C0 Z₂ hf rfl ?_
  intro x dx ox h₃ tk₃ hb hsys Z₃
  clear Z₁ Z₂
  walk_at "ss"
  refine wpAny_For ?_
  walk_at "ss"
  rename_i Z₃'
  refine iterL Z₃' (hD₁ _ hl) ?_
  intro it₁ h₄ tk₄ L₁ hM₁ _ I₁ _ _ Z₄
  refine forI I₁ (fun i m₁ D₁' M₁ => m₁ = upd (upd (fun _ => none) "lines" (.ref l)) "book" (.ref x) ∧ ∃ ox kvs, M₁ = (x, ox) :: (dx, emptyDict) :: (144, tabObj ps) :: (271, tabObj qs') :: M ∧ BookO (strKind PySem.Challenge.rw_il0126_02.row.prog w) 152 dx (.ref lf) ox kvs ∧ KV SV kvs ((es.take i).foldl putP [])) Z₄ hM₁ ⟨rfl, ox, [], rfl, hb, .nil⟩ (hroom.deeper.le (by decide)) ?stepF ?finF
  case finF =>
    rintro h₅ tk₅ m₂ D₂ M₂ hD₂ ⟨rfl, ox', kvs, rfl, hb', hkv⟩ Z₅
    walk_at "ss"
    have Z₇ := Z₅.settle (L := [(x, ox')])
    have hxD : (x, ox') ∈ [(x, ox')] ++ D₂ := .head _
    have I₇ := hb'.inst (Z₇.go.has _ hxD).1 (Z₇.mu _ (.head _)).1
    refine' al_method (f := .ref 149) (tf := .type "function") ga_dd ?X2 ?I2 ?hga2 ?hk2 ?hf2 ?ht2 ?htf2 ?hs2 ?_
    case X2 => exact C.inn Z₇.go.kT
    case I2 => exact I₇
    case hga2 => k_is
    case hk2 => k_is
    case hf2 => k_is
    case ht2 => k_is
    case htf2 => decide +kernel
    case hs2 => rfl
    dsimp only
    refine' callWith_K0 ?X3 ?hk3 ?_
    case X3 => exact C.inn Z₇.go.kT
    case hk3 => k_is
    refine freeze_spec C0 Z₇ (hroom.deeper.le (by decide)) hb' hxD (hps.mono fun p hp => List.mem_append_right _ (hD₂ p (hD₁ p hp))) ?_
    intro od' ps' h₈ tk₈ D₈ hD₈ hz hps' Z₈
    have Z₉ := Z₈.settle (L := [(dx, od')])
    walk_at "ss"
    have Zr := Z.retM Z₉ rfl
    have kvF : KV SV kvs (bookOf es) := by
      have e : List.take lv.length es = es := by rw [strs_len hvs, hwl, List.take_length]
      rw [e] at hkv
      exact hkv
    have up : ∀ p ∈ D₈, p ∈ ([(dx, od')] ++ D₈) ++ D := fun p hp => List.mem_append_left _ (.tail _ hp)
    have up1 : ∀ p ∈ D₁, p ∈ ([(dx, od')] ++ D₈) ++ D := fun p hp => up _ (hD₈ _ (.tail _ (hD₂ p hp)))
    exact hQ x ps' qs' _ _ _ (fun p hp => List.mem_append_right _ hp) ⟨lf, dx, ox', od', kvs, hb', up _ (hD₈ _ hxD), .head _, hz.mono up, hfac.mono up1, kvF, hsys⟩ (hps'.mono up) (hqs'.mono up1) Zr
  case stepF =>
    rintro i v m₂ D₂ M₂ L₂ h₅ tk₅ E₂ hi hv ⟨rfl, ox', kvs, rfl, hb', hkv⟩ hD₂ Z₅
    obtain ⟨xs, t, hxs, rfl⟩ := strs_get hvs hv
    have hi' : i < es.length := by rw [strs_len hvs, hwl] at hi; exact hi
    have hLine := hws i xs es[i] hxs (List.getElem?_eq_getElem hi')
    walk_at "ss"
    rename_i h₆ tk₆ Z₆
    refine' cmAttr (C := 247) (p := 243) (f := .ref 241) (mc := .type "type") ?X4 ?hg4 ?hr4 ?e4 ?hp4 ?_
    case X4 => exact C.inn Z₆.go.kT
    case hg4 => k_is
    case hr4 => k_is
    case e4 => k_is
    case hp4 => k_is
    have Z₇ := Z₆.step (.push (methodObj (.ref 241) (.ref 247)))
    have hq : (h₆.push (methodObj (.ref 241) (.ref 247))).get? h₆.objs.size = some (methodObj (.ref 241) (.ref 247)) := Heap.get?_push_size _ rfl
    generalize h₆.push (methodObj (.ref 241) (.ref 247)) = h₇ at Z₇ hq ⊢
    generalize h₆.objs.size = q at hq ⊢
    dsimp only
    refine' callWith_Me (K := K01 w.params) (g := 241) (self := .ref 247) ?hf4 ?_
    case hf4 => k_is
    walk_at "ss"
    refine ⟨⟨hq, C.inn Z₇.go.kT⟩, ?_⟩
    refine callMe hq ?_
    refine parse_code C0 Z₇.sub (hroom.deeper.le (by decide)) hLine ?_
    intro y dy t1 t2 h₈ tk₈ D₈ kp hs8 hn8 hy hdy
    have Z₈ := Z₇.moreN kp hs8 hn8
    have up8 : ∀ p ∈ D₂, p ∈ D₈ ++ D₂ := fun p hp => List.mem_append_right _ hp
    have hy8 : (y, pairOf 247 dy [.str es[i].1 t1, .str es[i].2 t2] 0) ∈ D₈ ++ D₂ := List.mem_append_left _ hy
    have hdy8 : (dy, emptyDict) ∈ D₈ ++ D₂ := List.mem_append_left _ hdy
    clear Z₇ Z₆ Z₅
    walk_at "ss"
    rename_i h₉ tk₉ Z₉
    refine pair_attr_value C0 Z₉ (hroom.deeper.le (by decide)) hy8 hdy8 ?_
    intro h₁₀ tk₁₀ Z₁₀
    clear Z₈ Z₉
    walk_at "ss"
    refine pair_attr_name C0 Z₁₀ (hroom.deeper.le (by decide)) hy8 hdy8 ?_
    intro h₁₁ tk₁₁ Z₁₁
    walk_at "ss"
    have hmx : (x, ox') ∈ L₂ ++ (x, ox') :: (dx, emptyDict) :: (144, tabObj ps) :: (271, tabObj qs') :: M := List.mem_append_right _ (.head _)
    have hmd : (dx, emptyDict) ∈ L₂ ++ (x, ox') :: (dx, emptyDict) :: (144, tabObj ps) :: (271, tabObj qs') :: M := List.mem_append_right _ (.tail _ (.head _))
    have I₁₁ := hb'.inst (Z₁₁.mu _ hmx).1 (Z₁₁.mu _ hmd).1
    have hkl := book_klen (es.take i)
    rw [List.length_take] at hkl
    have hkl2 := hkv.len
    refine' oSet (knd := strKind PySem.Challenge.rw_il0126_02.row.prog w) (k := es[i].1) ?X6 ?I6 ?hq6 ?hs6 ?hi6 ?hO6 (strKind_is _ _ _ _) hb'.bears ?hsz6 ?_
    case X6 => exact C.inn Z₁₁.go.kT
    case I6 => exact I₁₁
    case hq6 => k_is
    case hs6 => k_is
    case hi6 => k_is
    case hO6 => k_is
    case hsz6 => show _ ≤ 16777216; omega
    intro h₁₂ ox'' e₁₂ r₁₂ b₁₂ s₁₂
    have hb₁₂ := hb'.rest r₁₂ b₁₂
    have Z₁₂ := Z₁₁.turn1 s₁₂ e₁₂ hb₁₂.nf.1 hb₁₂.nf.2
    walk_at "ss"
    refine ⟨.inl rfl, _, _, _, _, (x, ox'') :: (dx, emptyDict) :: (144, tabObj ps) :: (271, tabObj qs') :: M, rfl, up8, ?_, rfl, ox'', _, rfl, hb₁₂, ?_⟩
    · exact Z₁₂.weak (m' := upd (upd (fun _ => none) "lines" (.ref l)) "book" (.ref x)) fun z u hu => up_none rfl z u (up_none rfl z u hu)
    · rw [fold_take (List.getElem?_eq_getElem hi')]
      exact hkv.stored ⟨t2, rfl⟩
end
end Mine
end
section
open PySem PySem.W PyProof.Rows PySem.Calls PyProof.V PySem.Spec
namespace Mine
section
variable {h : Heap} {D : Led}
mutual
theorem hq_in (N : Has h D) : ∀ {v : Value} {d : Dat} (n : Nat), DatIn D v d → kqdOk n d = true → ∃ as, Reads h v (kqdP d) as
  | _, _, _, .none, _ => ⟨_, Reads.none⟩
  | _, _, _, .bool b, _ => ⟨_, Reads.bool b⟩
  | _, _, _, .int i t, _ => ⟨_, Reads.int i t⟩
  | _, _, _, .str x t, _ => ⟨_, Reads.str x t⟩
  | _, _, n, .bytes _ _, hk => by cases n <;> simp [kqdOk] at hk
  | _, _, 0, .tuple _ _, hk => by simp [kqdOk] at hk
  | _, _, 0, .list _ _, hk => by simp [kqdOk] at hk
  | _, _, n + 1, .tuple hm r, hk => by
    obtain ⟨as, q⟩ := hq_all N n r (by simpa [kqdOk] using hk)
    rw [kqdP]
    exact ⟨as, reads_tuple_at (N _ hm).1 rfl rfl (by simpa using q)⟩
  | _, _, n + 1, .list hm r, hk => by
    obtain ⟨as, q⟩ := hq_all N n r (by simpa [kqdOk] using hk)
    rw [kqdP]
    exact ⟨_, reads_list_at (N _ hm).1 rfl rfl (by simpa [W.listOf] using q)⟩
theorem hq_all (N : Has h D) : ∀ {vs : List Value} {ds : List Dat} (n : Nat), DatAll D vs ds → (∀ d ∈ ds, kqdOk n d = true) → ∃ as, ReadsAll h vs (kqdPs ds) as
  | _, _, _, .nil, _ => ⟨_, ReadsAll.nil⟩
  | _, _, n, .cons hd r, hk => by
    obtain ⟨as, q⟩ := hq_in N n hd (hk _ (.head _))
    obtain ⟨bs, p⟩ := hq_all N n r fun d hm => hk d (.tail _ hm)
    rw [kqdPs]
    exact ⟨_, ReadsAll.cons q p⟩
end
end
section
variable {prog : Program} {w : World} {A : Around} {E : Value → Shared → Prop} {s : Shared} {D : Led} {va vb : Value} {da db : Dat} {Q : Value → Shared → Prop}
theorem eqv_of {n k : Nat} (ha : kqdOk n da = true) (hb : kqdOk k db = true) (b : Bool) (hbb : b = true ↔ da = db) : PyData.eqv (kqdP da) (kqdP db) = b := by
  have q := kqd_eqv n da db k ha hb
  rw [Bool.eq_iff_iff, q, hbb]
theorem shaped_of (ha : kqdOk 9 da = true) : SeqAt.shaped (kqdP da) = true := by
  have la := kqd_lay 9 da ha
  unfold SeqAt.shaped; rw [la.1, Bool.true_and]; exact decide_eq_true (Nat.le_trans la.2 (by decide))
theorem eqDat {b : Bool} (N : Has s.heap D) (Da : DatIn D va da) (Db : DatIn D vb db) (ha : kqdOk 9 da = true) (hb : kqdOk 9 db = true) (hu : A.units + 64 < cLine) (hbb : b = true ↔ da = db) (h : Q (.bool b) s) : wpAny (model prog w) A (compareOp .Eq va vb) Q E s := by
  obtain ⟨as, ra⟩ := hq_in N 9 Da ha
  obtain ⟨bs, rb⟩ := hq_in N 9 Db hb
  exact eq_dataH ra rb (shaped_of ha) (shaped_of hb) hu (by rw [eqv_of ha hb b hbb]; exact h)
theorem neDat {b : Bool} (N : Has s.heap D) (Da : DatIn D va da) (Db : DatIn D vb db) (ha : kqdOk 9 da = true) (hb : kqdOk 9 db = true) (hu : A.units + 64 < cLine) (hbb : b = true ↔ da = db) (h : Q (.bool (!b)) s) : wpAny (model prog w) A (compareOp .NotEq va vb) Q E s := by
  obtain ⟨as, ra⟩ := hq_in N 9 Da ha
  obtain ⟨bs, rb⟩ := hq_in N 9 Db hb
  exact ne_dataH ra rb (shaped_of ha) (shaped_of hb) hu (by rw [eqv_of ha hb b hbb]; exact h)
end
end Mine
end
section
namespace Mine
theorem ints_get {vs : List Value} {ns : List Int} (h : IntsAre vs ns) : ∀ {i : Nat} {v : Value}, vs[i]? = some v → ∃ x t, ns[i]? = some x ∧ v = .int x t := by
  induction h with
  | nil => intro i v hv; cases hv
  | cons x t _ ih =>
    intro i v hv
    cases i with
    | zero => cases hv; exact ⟨x, t, rfl, rfl⟩
    | succ i => exact ih hv
theorem ints_snoc {vs : List Value} {ns : List Int} (h : IntsAre vs ns) (x : Int) (t : Tok) : IntsAre (vs ++ [.int x t]) (ns ++ [x]) := by
  induction h with
  | nil => exact .cons x t .nil
  | cons y u _ ih => exact .cons y u ih
theorem ints_append {vs us : List Value} {ns ms : List Int} (h : IntsAre vs ns) (g : IntsAre us ms) : IntsAre (vs ++ us) (ns ++ ms) := by
  induction h with
  | nil => exact g
  | cons y u _ ih => exact .cons y u ih
end Mine
end
section
namespace Mine
section
variable {prog : Program} {w : World} {K : Frag} {T h₀ h h' : Heap} {O : List Addr} {env : Env} {A A' : Around} {m : Str → Option Value} {B D D' M M' L L' : Led} {s : Shared} {tk : Nat} {E : Value → Shared → Prop}
/-- the i-th key -/
noncomputable def KeyAt (kvs : List (Str × Value)) (i : Nat) (v : Value) : Prop := ∃ p t, kvs[i]? = some p ∧ v = .str p.1 t
theorem pairs_len {es : List DictEntry} {kvs : List (Str × Value)} (h : Pairs (strKind prog w) es kvs) : es.length = kvs.length := by
  induction h with
  | nil => rfl
  | cons _ _ _ ih => simp [ih]
theorem keyVal {es : Array DictEntry} {kvs : List (Str × Value)} (hp : Pairs (strKind prog w) es.toList kvs) {i : Nat} {v : Value} (h : ∃ e, es[i]? = some e ∧ v = e.key) : KeyAt kvs i v := by
  obtain ⟨e, he, rfl⟩ := h
  have hl := pairs_len hp
  rw [← Array.getElem?_toList] at he
  have hi := (List.getElem?_eq_some_iff.mp he).1
  have hk : kvs[i]? = some (kvs[i]'(by omega)) := List.getElem?_eq_getElem _
  have hg := (hp.get? he hk).1
  have : ∃ t, e.key = .str (kvs[i]'(by omega)).1 t := by
    revert hg
    generalize e.key = kk
    intro hg
    cases kk <;> simp [PySem.strKind, Value.isStrOf] at hg
    exact ⟨_, by rw [hg]⟩
  obtain ⟨t, ht⟩ := this
  exact ⟨_, t, hk, ht⟩
theorem Itr.toVal {it : Addr} {n : Nat} {Mi : Nat → Led → Prop} {Val Val' : Nat → Value → Prop} (I : Itr prog w T D it n Mi Val) (k : ∀ i v, Val i v → Val' i v) : Itr prog w T D it n Mi Val' where
  item := fun hi g d hL hM nd off hQ => I.item hi g d hL hM nd off fun v h' tk' L' a b c d e => hQ v h' tk' L' a b c d (k _ _ e)
  done := I.done
  self := I.self
  lg := I.lg
theorem itrKs {it d : Addr} {o : Obj} {es : Array DictEntry} {ep : Nat} {kvs : List (Str × Value)} (hl : (d, o) ∈ D) (hd : o.data = .dict es ep) (hp : Pairs (strKind prog w) es.toList kvs) : Itr prog w T D it kvs.length (MiK it d kvs.length ep) (KeyAt kvs) := by
  have e : kvs.length = es.size := by have := pairs_len hp; simpa using this.symm
  rw [e]
  exact (itrK hl hd).toVal fun i v q => keyVal hp q
/-- the keys of an exact dict -/
theorem iterD {d : Addr} {o : Obj} {kvs : List (Str × Value)} {Q : Value → Shared → Prop} (Z : St T h₀ B O env A m D M h) (hl : (d, o) ∈ D) (lo : (d == sysModules) = false) (hd : o.IsDictOf (strKind prog w) kvs)
    (hQ : ∀ it h' tk' L Mi, Mi 0 L → Itr prog w T D it kvs.length Mi (KeyAt kvs) → Kp T h h' → Has h' L → St T h₀ B O env A m D (L ++ M) h' → Q (.ref it) (sA s h' tk')) :
    wpAny (model prog w) A (pyIter (.ref d)) Q E (sA s h tk) := by
  obtain ⟨es, ep, hx, hdt, hk, hp, hn⟩ := hd
  have hat : (sA s h tk).heap.DictAt (strKind prog w) d kvs ep := ⟨o, es, (Z.go.has _ hl).1, hx, hdt, hk, hp, hn⟩
  have e := Heap.get?_push_size (o := keyIt d 0 kvs.length ep) h rfl
  exact wpAny_pyIter_dict lo hat (hQ _ _ tk [(h.objs.size, keyIt d 0 kvs.length ep)] _ rfl (itrKs hl hdt hp) (.push _) (Has.cons e (by show Value.type _ ≠ Value.type _; decide) .nil) (Z.moreM (.push _) e (by show Value.type _ ≠ Value.type _; decide) (fresh_size h)))
/-- the keys of an object that bears a dict's data -/
theorem iterO {C d : Addr} {o : Obj} {od : Option Obj} {kvs : List (Str × Value)} {Q : Value → Shared → Prop} (Z : St T h₀ B O env A m D M h) (X : K.In h) (I : InstAt h d o C od) (hs : findIn K (.ref C) "__iter__" = some (some (.builtin "dict.__iter__"))) (hi : subIn K (.ref C) (.type "dict") = some true) (hO : subIn K (.ref C) (.type "collections.OrderedDict") = some false)
    (hl : (d, o) ∈ D) (lo : (d == sysModules) = false) (hb : Bears (strKind prog w) o kvs)
    (hQ : ∀ it h' tk' L Mi, Mi 0 L → Itr prog w T D it kvs.length Mi (KeyAt kvs) → Kp T h h' → Has h' L → St T h₀ B O env A m D (L ++ M) h' → Q (.ref it) (sA s h' tk')) :
    wpAny (model prog w) A (pyIter (.ref d)) Q E (sA s h tk) := by
  obtain ⟨es, ep, hdt, hk, hp, hn⟩ := hb
  have el : es.size = kvs.length := by have := pairs_len hp; simpa using this
  have e := Heap.get?_push_size (o := keyIt d 0 kvs.length ep) h rfl
  refine oIter (s := sA s h tk) X I hs hi hO lo hdt ?_
  rw [el]
  exact hQ _ _ tk [(h.objs.size, keyIt d 0 kvs.length ep)] _ rfl (itrKs hl hdt hp) (.push _) (Has.cons e (by show Value.type _ ≠ Value.type _; decide) .nil) (Z.moreM (.push _) e (by show Value.type _ ≠ Value.type _; decide) (fresh_size h))
end
end Mine
end
section
namespace Mine
section
variable {prog : Program} {w : World} {A : Around} {E : Value → Shared → Prop} {s : Shared} {d it : Addr} {o : Obj} {es : Array DictEntry} {ep i : Nat}
/-- a bare __next__ of a key iterator -/
theorem keyNextN {Q : Option Value → Shared → Prop} (hh : A.handled = none) (hit : s.heap.get? it = some (keyIt d i es.size ep)) (hod : s.heap.get? d = some o) (hd : o.data = .dict es ep)
    (h1 : ∀ e h', es[i]? = some e → h'.get? it = some (keyIt d (i + 1) es.size ep) → Heap.SameBut it s.heap h' → Q (some e.key) { s with heap := h' })
    (h2 : es[i]? = none → ∀ e oe vs h', s.heap.get? e = none → h'.get? e = some oe → oe.cls = .type "StopIteration" → oe.data = .fields vs → vs[1]? = some .none → Heap.ExtBut it s.heap h' → E (.ref e) { s with heap := h' }) : wpAny (model prog w) A (callSpecial? (.ref it) "__next__") Q E s := by
  have hT : s.TypeIs (.ref it) "dict_keyiterator" := ⟨_, hit, rfl⟩
  refine wpAny_callSpecial?_slot (name := Str.ofString "__next__") hT PySem.F.slot_dict_keyiterator_next
    (wpAny_call_entry PySem.F.slot_dict_keyiterator_next hT PySem.F.entry_dict_keyiterator_next ?_ (PySem.F.args_dict_keyiterator_next_1 _))
  refine wpAny_bind (wpAny_pure ?_)
  refine wpAny_bind ?_
  refine wpAny_bind ?_
  refine wpAny_bind (wpAny_typeNameOfWhole_keyiter hT (wpAny_pure ?_))
  refine wpAny_bind (wpAny_fieldsOf hit rfl ?_)
  have hown : Builtin.Dict_items.ownsTuple "dict_keyiterator" = false := by decide
  simp only [hown, Bool.false_eq_true, if_false]
  show wpAny _ _ (if (Value.ref d == Value.none) = true then _ else _) _ _ s
  rw [if_neg (show ¬ ((Value.ref d == Value.none) = true) from Bool.false_ne_true)]
  refine wpAny_bind (wpAny_pure ?_)
  refine wpAny_bind (wpAny_dictEntries hod hd ?_)
  rw [if_neg (by simp)]
  refine wpAny_bind (wpAny_pure ?_)
  refine wpAny_bind (wpAny_dictEpoch hod hd ?_)
  rw [if_neg (by simp)]
  refine wpAny_pure ?_
  simp only [show ¬ ((i : Int) < 0) from by omega, if_false, Int.toNat_natCast]
  cases hx : es[i]? with
  | some e =>
    dsimp only
    refine wpAny_bind ?_
    refine wpAny_bind (wpAny_typeNameOfWhole_keyiter hT (wpAny_pure ?_))
    refine wpAny_bind (wpAny_isOneOf_keyiter hT ?_)
    show wpAny _ _ (setField (.ref it) 1 (rawInt ((i : Int) + 1)) >>= _) _ _ s
    refine wpAny_bind (wpAny_setField_rec hit (by simp) fun h₁ he₁ hs₁ => ?_)
    replace hs₁ : Heap.SameBut it s.heap h₁ := hs₁
    have he₂ : h₁.get? it = some (keyIt d (i + 1) es.size ep) := by
      rw [he₁]
      simp [rawInt]
    refine wpAny_bind (wpAny_holding ?_)
    refine wpAny_bind (wpAny_isOneOf_keyiter (s := { s with heap := h₁ }) ⟨_, he₂, rfl⟩ ?_)
    show wpAny _ _ (pure e.key) _ _ _
    exact wpAny_pure (wpAny_pure ⟨_, rfl, h1 e h₁ hx he₂ hs₁⟩)
  | none =>
    dsimp only
    refine wpAny_bind ?_
    refine wpAny_bind (wpAny_typeNameOfWhole_keyiter hT (wpAny_pure ?_))
    show wpAny _ _ (setField (.ref it) 0 .none >>= _) _ _ s
    refine wpAny_bind (wpAny_setField hit rfl (by simp) ?_)
    show wpAny _ _ (newExc (.type "StopIteration") [] >>= _) _ _ _
    refine wpAny_bind ?_
    simp only [newExc, newTuple]
    refine wpAny_bind (wpAny_newObj_type ?_ (by size_fits))
    refine wpAny_bind (m := firstArgMember _ _) (wpAny_of_eq (a := Value.none) (by first | rfl | (simp only [firstArgMember]; rfl)) ?_)
    refine wpAny_newObj_type ?_ (by size_fits)
    simp only [raiseNew]
    refine wpAny_bind (wpAny_handled ?_)
    rw [show A.in1.handled = none from hh]
    refine wpAny_bind (wpAny_pure (wpAny_throw ?_))
    refine h2 hx _ _ _ _ ?_ (Heap.get?_push_size _ rfl) rfl rfl (by rw [Array.getElem?_append_left (by simp)]; rfl) (((Heap.SameBut.update ..).extBut.push _).push _)
    cases q : s.heap.get? ((s.heap.update it (Obj.mapFields fun x => x.setIfInBounds 0 Value.none)).push ({ cls := .type "tuple", dict := none, data := .seq ([] : List Value).toArray } : Obj)).objs.size with
    | none => rfl
    | some o' =>
      have := Heap.lt_size q
      rw [Heap.size_push, Heap.size_after_update] at this
      exact absurd this (Nat.not_lt.mpr (Nat.le_succ _))
end
section
variable {prog : Program} {w : World} {K : Frag} {T h₀ h h' : Heap} {O : List Addr} {env : Env} {A A' : Around} {m : Str → Option Value} {B D D' M M' L L' : Led} {s : Shared} {tk : Nat} {E : Value → Shared → Prop}
theorem itrNK {it d : Addr} {o : Obj} {es : Array DictEntry} {ep : Nat} {kvs : List (Str × Value)} (hl : (d, o) ∈ D) (hd : o.data = .dict es ep) (hp : Pairs (strKind prog w) es.toList kvs) : ItrN prog w T D it kvs.length (MiK it d kvs.length ep) (KeyAt kvs) := by
  have e : kvs.length = es.size := by have := pairs_len hp; simpa using this.symm
  rw [e]
  refine ⟨fun {A s h tk i L Q E} hL hM hQ => ?_, fun {A s h tk i L Q E} hi g hL hM nd off hQ => ?_, fun {A s h tk L Q E} g hL hM nd off hQ => ?_⟩
  · subst hM
    have hT : Shared.TypeIs (sA s h tk) (.ref it) "dict_keyiterator" := ⟨_, (hL _ (.head _)).1, rfl⟩
    exact wpAny_specialOf hT PySem.F.slot_dict_keyiterator_next.lookup (hQ _)
  · subst hM
    have hit := (hL _ (.head _)).1
    refine keyNextN (s := sA s h tk) g.fs.hd hit (g.has _ hl).1 hd (fun e h' he hit' hs => ?_) fun he => ?_
    · refine hQ e.key h' _ [(it, keyIt d (i + 1) es.size ep)] rfl rfl (KpX.sameBut hs (.head _) fun o e f => ?_) (Has.cons hit' (by show Value.type _ ≠ Value.type _; decide) .nil) (keyVal hp ⟨e, he, rfl⟩)
      have hit0 : h.get? it = some (keyIt d i es.size ep) := hit
      rw [hit0] at e; cases e; exact absurd f (notFrm_cls (by show Value.type _ ≠ Value.type _; decide))
    · rw [Array.getElem?_eq_getElem hi] at he; cases he
  · subst hM
    have hit := (hL _ (.head _)).1
    refine keyNextN (s := sA s h tk) g.fs.hd hit (g.has _ hl).1 hd (fun e h' he _ _ => ?_) fun _ e oe vs h' e1 e2 e3 e4 e5 hs => ?_
    · rw [Array.getElem?_eq_none (Nat.le_refl _)] at he; cases he
    · exact hQ e oe vs h' _ e1 e2 e3 e4 e5 (KpX.extBut hs (.head _) ⟨_, hit, notFrm_cls (by show Value.type _ ≠ Value.type _; decide)⟩)
/-- the keys of an object that bears a dict's data, also step by step -/
theorem iterON {C d : Addr} {o : Obj} {od : Option Obj} {kvs : List (Str × Value)} {Q : Value → Shared → Prop} (Z : St T h₀ B O env A m D M h) (X : K.In h) (I : InstAt h d o C od) (hs : findIn K (.ref C) "__iter__" = some (some (.builtin "dict.__iter__"))) (hi : subIn K (.ref C) (.type "dict") = some true) (hO : subIn K (.ref C) (.type "collections.OrderedDict") = some false)
    (hl : (d, o) ∈ D) (lo : (d == sysModules) = false) (hb : Bears (strKind prog w) o kvs)
    (hQ : ∀ it h' tk' L Mi, Mi 0 L → Itr prog w T D it kvs.length Mi (KeyAt kvs) → ItrN prog w T D it kvs.length Mi (KeyAt kvs) → Kp T h h' → Has h' L → St T h₀ B O env A m D (L ++ M) h' → Q (.ref it) (sA s h' tk')) :
    wpAny (model prog w) A (pyIter (.ref d)) Q E (sA s h tk) := by
  obtain ⟨es, ep, hdt, hk, hp, hn⟩ := hb
  have el : es.size = kvs.length := by have := pairs_len hp; simpa using this
  have e := Heap.get?_push_size (o := keyIt d 0 kvs.length ep) h rfl
  refine oIter (s := sA s h tk) X I hs hi hO lo hdt ?_
  rw [el]
  exact hQ _ _ tk [(h.objs.size, keyIt d 0 kvs.length ep)] _ rfl (itrKs hl hdt hp) (itrNK hl hdt hp) (.push _) (Has.cons e (by show Value.type _ ≠ Value.type _; decide) .nil) (Z.moreM (.push _) e (by show Value.type _ ≠ Value.type _; decide) (fresh_size h))
theorem inst_isi_set {C d : Addr} {o : Obj} {od : Option Obj} (X : K.In h) (I : InstAt h d o C od) (h1 : subIn K (.ref C) (.type "set") = some false) (h2 : subIn K (.ref C) (.type "frozenset") = some false) : Looks (model prog w) h (Builtin.Frozenset.isAnySet (.ref d)) false := by
  have s1 : Looks (model prog w) h (isInstance (.ref d) (.type "set")) false := inst_isi X I h1
  have s2 : Looks (model prog w) h (isInstance (.ref d) (.type "frozenset")) false := inst_isi X I h2
  exact s1.andThen s2
/-- a set of the keys of an object that bears a dict's data -/
theorem setOfO {C d : Addr} {o : Obj} {od : Option Obj} {kvs : List (Str × Value)} {Q : Value → Shared → Prop} (C0 : Cx K T) (Z : St T h₀ B O env A m D M h) (I : InstAt h d o C od) (hs : findIn K (.ref C) "__iter__" = some (some (.builtin "dict.__iter__"))) (hi : subIn K (.ref C) (.type "dict") = some true) (hO : subIn K (.ref C) (.type "collections.OrderedDict") = some false)
    (hset : subIn K (.ref C) (.type "set") = some false) (hfr : subIn K (.ref C) (.type "frozenset") = some false)
    (hl : (d, o) ∈ D) (lo : (d == sysModules) = false) (hb : Bears (strKind prog w) o kvs) (hn : kvs.length < 1000) (hd : Room 14 A)
    (hQ : ∀ S so c h' tk', so.SetObjOf (strKind prog w) (fun x => decide (x ∈ kvs.map (·.1))) c → c < scanBound → St T h₀ B O env A m ((S, so) :: D) M h' → Q (.ref S) (sA s h' tk')) :
    wpAny (model prog w) A (call (.type "set") [.ref d]) Q E (sA s h tk) := by
  refine call_set_by (s := sA s h tk) (T := .ref C) (inst_isi_set (C0.inn Z.go.kT) I hset hfr) I.type (by simp) fun led E' => ?_
  have en := Heap.get?_push_size (o := newSetObj led) h rfl
  have Z₁ : St T h₀ B O env A.in1.in1 m D ((h.objs.size, newSetObj led) :: M) (h.push (newSetObj led)) :=
    (Z.moreM (.push _) en (by show Value.type _ ≠ Value.type _; decide) (fresh_size h)).around ((Z.go.fs.mono (.push _ (S := []))).in1.in1)
  have I₁ : InstAt (h.push (newSetObj led)) d o C od := ⟨Heap.get?_push_of_some _ I.at_, I.cls, I.3, by have := I.4; revert this; cases o.dict <;> cases od <;> simp <;> exact fun e => Heap.get?_push_of_some _ e⟩
  refine iterO (s := s) (tk := tk) Z₁ (C0.inn Z₁.go.kT) I₁ hs hi hO hl lo hb fun it h₂ tk₂ L Mi hM It _ _ Z₂ => ?_
  have Z₃ := Z₂.around (A' := A.in1.in1.in1) Z₂.go.fs.in1
  refine setLoop (fun i => (kvs.map (·.1)).getD i Str.empty) (fun i v hv => ?_) (by show _ < 4096; omega) ((hd.in1.in1.in1).le (by decide)) It (fun h' tk' so' c hso hcn Z₄ => ?_) (kvs.length - 0) 0 0 h₂ tk₂ L _ rfl (Nat.zero_le _) (Nat.le_refl _) hM (setObjOf_fresh (knd := strKind prog w) led) Z₃
  · obtain ⟨p, t, hx, rfl⟩ := hv
    refine ⟨t, ?_⟩
    rw [List.getD_eq_getElem?_getD, List.getElem?_map, hx]; rfl
  · refine ⟨rfl, ⟨_, (Z₄.mu _ (.head _)).1, ?_⟩, ?_⟩
    · obtain ⟨es, ep, tb, rfl⟩ := (setObj_nf hso).2
      rfl
    · have Z₅ := (Z₄.settle (L := [(h.objs.size, so')]) (M := M)).around (A' := A) ⟨Z₄.go.fs.hd, Z₄.go.fs.fr⟩
      refine hQ _ so' c h' tk' ?_ ?_ Z₅
      · have e2 : upTo (fun i => (kvs.map (·.1)).getD i Str.empty) kvs.length = fun x => decide (x ∈ kvs.map (·.1)) := by
          funext x
          unfold upTo
          have : (List.range kvs.length).map (fun i => (kvs.map (·.1)).getD i Str.empty) = kvs.map (·.1) := by
            refine List.ext_getElem (by simp) fun i h1 h2 => ?_
            simp at h1
            simp [h1]
          rw [this]
          rw [Bool.eq_iff_iff]
          simp
        rw [← e2]; exact hso
      · show c < 4096
        omega
end
end Mine
end
section
namespace Mine
section
variable {prog : Program} {w : World} {K : Frag} {T h₀ h h' : Heap} {O : List Addr} {env : Env} {A A' : Around} {m : Str → Option Value} {B D D' M M' L L' : Led} {s : Shared} {tk : Nat} {E : Value → Shared → Prop}
theorem ItrN.toVal {it : Addr} {n : Nat} {Mi : Nat → Led → Prop} {Val Val' : Nat → Value → Prop} (I : ItrN prog w T D it n Mi Val) (k : ∀ i v, Val i v → Val' i v) : ItrN prog w T D it n Mi Val' where
  spec := I.spec
  item := fun hi g hL hM nd off hQ => I.item hi g hL hM nd off fun v h' tk' L' a b c d e => hQ v h' tk' L' a b c d (k _ _ e)
  stop := I.stop
theorem ItrN.mono {it : Addr} {n : Nat} {Mi : Nat → Led → Prop} {Val : Nat → Value → Prop} (I : ItrN prog w T D it n Mi Val) (k : ∀ p ∈ D, p ∈ D') : ItrN prog w T D' it n Mi Val where
  spec := I.spec
  item := fun hi g hL hM nd off hQ => I.item hi (g.sub k) hL hM nd (fun p hp => ⟨(off p hp).1, fun q hq => (off p hp).2 q (k q hq)⟩) hQ
  stop := fun g hL hM nd off hQ => I.stop (g.sub k) hL hM nd (fun p hp => ⟨(off p hp).1, fun q hq => (off p hp).2 q (k q hq)⟩) hQ
noncomputable def KeyOf {β : Type} (nd : List (Str × β)) (i : Nat) (v : Value) : Prop := ∃ p t, nd[i]? = some p ∧ v = .str p.1 t
theorem KeyOf.of {β : Type} {R : Value → β → Prop} {kvs : List (Str × Value)} {nd : List (Str × β)} (h : KV R kvs nd) {i : Nat} {v : Value} (k : KeyAt kvs i v) : KeyOf nd i v := by
  obtain ⟨p, t, e, rfl⟩ := k
  have hi := (List.getElem?_eq_some_iff.mp e).1
  have hk := h.keys
  have : (kvs.map (·.1))[i]? = some p.1 := by rw [List.getElem?_map, e]; rfl
  rw [hk, List.getElem?_map] at this
  cases q : nd[i]? with
  | none => rw [q] at this; cases this
  | some r => rw [q] at this; simp at this; exact ⟨r, t, by rw [q], by rw [this]⟩
end
section
variable {w : World} {T h₀ h h' : Heap} {A : Around} {env : Env} {m : Str → Option Value} {O : List Addr} {B D M L : Led} {s : Shared} {tk : Nat} {E : Value → Shared → Prop}
noncomputable abbrev nil0 : Str := Str.ofString ""
/-- book[k] -/
theorem bk_get {x : Addr} {nd : List (Str × Str)} {k : Str} {t : Tok} {value slice : Expr} {Q : Value → Shared → Prop} (C : Cx (K01 w.params) T) (Z : St T h₀ B O env A m D M h) (hroom : Room 24 A) (hb : Bk w D x nd)
  (hs : subscripted slice false (.ref x) (.str k t) = operate [.ref x, .str k t] (getItem (.ref x) (.str k t)))
  (hQ : ∀ t h' tk' D', (∀ p ∈ D, p ∈ D') → St T h₀ B O env A m D' M h' → Q (.str ((look nd k).getD nil0) t) (sA s h' tk')) :
  wpAny (model PySem.Challenge.rw_il0126_02.row.prog w) A (subscriptTail value slice (.ref x) (.str k t)) Q E (sA s h tk) := by
  obtain ⟨lf, dx, ox, od, kvs, hbo, hx, hdx, hz, hfac, hkv, hsys⟩ := hb
  have C0 := C
  revert C; k_fill; intro C
  have I := hbo.inst (Z.go.has _ hx).1 (Z.go.has _ hdx).1
  refine' subO (id := "dict.__getitem__") ?X5 ?I5 ?hg5 ?_ ?hs5
  case X5 => exact C.inn Z.go.kT
  case I5 => exact I
  case hg5 => k_is
  case hs5 => exact hs
  rcases hkv.value k with ⟨q1, q2⟩ | ⟨v, b, q1, q2, q3⟩
  · refine' oGetMiss (knd := strKind PySem.Challenge.rw_il0126_02.row.prog w) (k := k) (f := 142) ?X6 ?I6 ?hq6 ?hs6 ?hi6 hsys ?hms6 ?hf6 (strKind_is _ _ _ _) hbo.bears q1 ?_
    case X6 => exact C.inn Z.go.kT
    case I6 => exact I
    case hq6 => k_is
    case hs6 => k_is
    case hi6 => k_is
    case hms6 => k_is
    case hf6 => k_is
    intro E₆
    refine miss_frozen C0 Z.in1 (Room.in1 (n := 20) (hroom.le (by decide))) hbo hx hdx hz hfac ?_
    intro t' h' tk' D' hD' Z'
    have := hQ t' h' tk' D' hD' Z'.un1
    rw [q2] at this
    exact this
  · refine' oGetHit (knd := strKind PySem.Challenge.rw_il0126_02.row.prog w) (k := k) ?X6 ?I6 ?hq6 ?hs6 ?hi6 (strKind_is _ _ _ _) hbo.bears q1 ?_
    case X6 => exact C.inn Z.go.kT
    case I6 => exact I
    case hq6 => k_is
    case hs6 => k_is
    case hi6 => k_is
    obtain ⟨t', rfl⟩ := q3
    have := hQ t' h (tk + 1) D (fun _ p => p) Z
    rw [q2] at this
    exact this
/-- iteration over a book -/
theorem bk_iter {x : Addr} {nd : List (Str × Str)} {Q : Value → Shared → Prop} (C : Cx (K01 w.params) T) (Z : St T h₀ B O env A m D M h) (hb : Bk w D x nd)
  (hQ : ∀ it h' tk' L Mi, Mi 0 L → Itr PySem.Challenge.rw_il0126_02.row.prog w T D it nd.length Mi (KeyOf nd) → ItrN PySem.Challenge.rw_il0126_02.row.prog w T D it nd.length Mi (KeyOf nd) → Kp T h h' → Has h' L → St T h₀ B O env A m D (L ++ M) h' → Q (.ref it) (sA s h' tk')) :
  wpAny (model PySem.Challenge.rw_il0126_02.row.prog w) A (pyIter (.ref x)) Q E (sA s h tk) := by
  obtain ⟨lf, dx, ox, od, kvs, hbo, hx, hdx, hz, hfac, hkv, hsys⟩ := hb
  revert C; k_fill; intro C
  have I := hbo.inst (Z.go.has _ hx).1 (Z.go.has _ hdx).1
  refine' iterON Z ?X1 I ?hs1 ?hi1 ?hO1 hx hsys hbo.bears ?_
  case X1 => exact C.inn Z.go.kT
  case hs1 => k_is
  case hi1 => k_is
  case hO1 => k_is
  intro it h' tk' L Mi hM It ItN k hL Z'
  rw [hkv.len] at It ItN
  exact hQ it h' tk' L Mi hM (It.toVal fun i v q => KeyOf.of hkv q) (ItN.toVal fun i v q => KeyOf.of hkv q) k hL Z'
/-- set(book) -/
theorem bk_set {x : Addr} {nd : List (Str × Str)} {Q : Value → Shared → Prop} (C : Cx (K01 w.params) T) (Z : St T h₀ B O env A m D M h) (hroom : Room 24 A) (hb : Bk w D x nd) (hn : nd.length < 1000)
  (hQ : ∀ S so c h' tk', so.SetObjOf (strKind PySem.Challenge.rw_il0126_02.row.prog w) (fun x => decide (x ∈ nd.map (·.1))) c → c < scanBound → St T h₀ B O env A m ((S, so) :: D) M h' → Q (.ref S) (sA s h' tk')) :
  wpAny (model PySem.Challenge.rw_il0126_02.row.prog w) A (call (.type "set") [.ref x]) Q E (sA s h tk) := by
  obtain ⟨lf, dx, ox, od, kvs, hbo, hx, hdx, hz, hfac, hkv, hsys⟩ := hb
  revert C; k_fill; intro C
  have I := hbo.inst (Z.go.has _ hx).1 (Z.go.has _ hdx).1
  have hl := hkv.len
  refine' setOfO C Z I ?hs1 ?hi1 ?hO1 ?ha1 ?hb1 hx hsys hbo.bears ?hn1 (hroom.le (by decide)) ?_
  case hs1 => k_is
  case hi1 => k_is
  case hO1 => k_is
  case ha1 => k_is
  case hb1 => k_is
  case hn1 => omega
  intro S so c h' tk' hso hc Z'
  rw [hkv.keys] at hso
  exact hQ S so c h' tk' hso hc Z'
end
end Mine
end
section
namespace Mine
section
variable {w : World} {T h₀ h : Heap} {A : Around} {env : Env} {m : Str → Option Value} {O : List Addr} {B D M L : Led} {s : Shared} {tk : Nat} {E : Value → Shared → Prop}
/-- filterfalse(.., book) -/
theorem ff_makeO {q l : Addr} {nd : List (Str × Str)} {Q : Value → Shared → Prop} (C : Cx (K01 w.params) T) (Z : St T h₀ B O env A m D M h) (hroom : Room 30 A) (hb : Bk w D l nd)
  (hQ : ∀ x dx it L h' tk' D' Mi, Mi 0 L → (∀ D'', (∀ p ∈ D, p ∈ D'') → (∀ p ∈ D', p ∈ D'') → ItrN PySem.Challenge.rw_il0126_02.row.prog w T D'' it nd.length Mi (KeyOf nd)) → St T h₀ B O env A m (D' ++ D) (L ++ M) h' → (∀ p ∈ D, p ∈ D') → (x, instOf 72 dx #[some (.ref q), some (.ref it)]) ∈ D' → (dx, emptyDict) ∈ D' → Q (.ref x) (sA s h' tk')) :
  wpAny (model PySem.Challenge.rw_il0126_02.row.prog w) A (call (.ref 72) [.ref q, .ref l]) Q E (sA s h tk) := by
  have C0 := C
  revert C; k_fill; intro C
  have X := C.inn Z.go.kT
  have Zs := Z.sub
  have Z₁ : St T h D [] env A m ((h.objs.size, emptyDict) :: D) [] (h.push emptyDict) := Zs.more (D' := [(h.objs.size, emptyDict)]) (.push _) (Has.cons (Heap.get?_push_size _ rfl) (by show Value.type _ ≠ Value.type _; decide) .nil) (fun p hp => by rw [List.mem_singleton.mp hp]; exact fresh_size h)
  have Z₂ : St T h D [] env A m ((h.objs.size, emptyDict) :: D) [((h.push emptyDict).objs.size, instOf 72 h.objs.size #[])] ((h.push emptyDict).push (instOf 72 h.objs.size #[])) := Z₁.moreM (.push _) (Heap.get?_push_size _ rfl) (by show Value.ref _ ≠ Value.type _; simp) (fresh_size _)
  have hsz : (h.push emptyDict).objs.size = h.objs.size + 1 := Heap.size_push ..
  rw [hsz] at Z₂
  refine wpAny_call (make_core (h := h) (g := s.gens) (d := s.drawn) (t := tk) (os := s.os) (C := 72) (init := .ref 54) (makes_of X (by k_is)) (looks_findIn X (by k_is)) (fun self => bind_fn X self (by k_is)) (.inl rfl) ?_)
  refine' codeFnM0 (s := s) (tk := tk) (binds := [("self", .ref (h.objs.size + 1)), ("function", .ref q), ("iterable", .ref l)]) ?C Z₂ ?fs ?room ?ho ?hd ?hbody ?hcd ?hbind ?hcl ?hk ?hco ?hgen ?hnames ?hlook ?hbs ?hB
  case fs => exact (Z₂.go.fs).under
  case room => exact ((hroom.le (by decide : 2 ≤ 30)).under (n := 0) _).1
  walk_at "enterM"
  intro L O h₁ tk₁ E' hL hO Z₃
  subst hO
  dsimp only [bindAll, List.foldl] at Z₃ ⊢
  walk_at "ss"
  refine callIter ?_
  refine bk_iter C0 Z₃.in1 (hb.mono fun p hp => .tail _ hp) ?_
  intro it h₂ tk₂ L₁ Mi₁ hM₁ _ ItN _ _ Z₄
  replace Z₄ := Z₄.un1
  walk_at "ss"
  refine' stSlot (dx := h.objs.size) (sl := #[]) (i := 1) ?C1 Z₄ ?hdx ?hs ?hp ?ht ?hT ?hsl ?hi ?_
  case C1 => assumption
  case hdx => exact .head _
  case hs => k_is
  case hp => k_is
  case ht => k_is
  case hT => k_is
  case hsl => k_is
  case hi => decide
  intro h₃ tk₃ Z₅
  walk_at "ss"
  refine' stSlot (dx := h.objs.size) (sl := #[none, some (.ref it)]) (i := 0) ?C1 Z₅ ?hdx ?hs ?hp ?ht ?hT ?hsl ?hi ?_
  case C1 => assumption
  case hdx => exact .head _
  case hs => k_is
  case hp => k_is
  case ht => k_is
  case hT => k_is
  case hsl => k_is
  case hi => decide
  intro h₄ tk₄ Z₆
  walk_at "ss"
  show _ ∧ _
  refine ⟨rfl, ?_⟩
  have Z₇ := Z₆.permM (M' := [(h.objs.size + 1, instOf 72 h.objs.size #[some (.ref q), some (.ref it)])] ++ L₁) (fun p hp => by simp at hp ⊢; rcases hp with rfl | hp <;> simp [*]) (by
    have := Z₆.ndM
    have e : (([(h.objs.size + 1, instOf 72 h.objs.size #[some (.ref q), some (.ref it)])] ++ L₁).map (·.1)).Perm ((L₁ ++ [(h.objs.size + 1, instOf 72 h.objs.size #[some (.ref q), some (.ref it)])]).map (·.1)) := List.Perm.map _ List.perm_append_comm
    exact e.nodup_iff.mpr this)
  have Z₈ := Z₇.settle
  exact hQ _ _ it L₁ _ _ _ Mi₁ hM₁ (fun D'' k1 k2 => ItN.mono fun p hp => k2 _ (.tail _ hp)) (Z.retL Z₈) (fun p hp => .tail _ (.tail _ hp)) (.head _) (.tail _ (.head _))
set_option maxHeartbeats 400000 in
/-- _difference(book, book) -/
theorem diffO_spec {a b : Addr} {na nb : List (Str × Str)} {Q : Value → Shared → Prop} (C : Cx (K01 w.params) T) (Z₀ : St T h₀ B O env A m D M h) (hroom : Room 40 A)
  (ha : Bk w D a na) (hb : Bk w D b nb) (hm : nb.length < 1000)
  (hQ : ∀ x dx sl L h' tk' D' Mi, (x, instOf 72 dx sl) ∈ D' → (dx, emptyDict) ∈ D' → Mi 0 L → Itr PySem.Challenge.rw_il0126_02.row.prog w T (D' ++ D) x ((na.map (·.1)).filter fun y => !decide (y ∈ nb.map (·.1))).length Mi (fun j v => ∃ t y, ((na.map (·.1)).filter fun y => !decide (y ∈ nb.map (·.1)))[j]? = some y ∧ v = .str y t) → St T h₀ B O env A m (D' ++ D) (L ++ M) h' → Q (.ref x) (sA s h' tk')) :
  wpAny (model PySem.Challenge.rw_il0126_02.row.prog w) A (call (.ref 83) [.ref a, .ref b]) Q E (sA s h tk) := by
  have go := Z₀.go
  have ret : ∀ {O' : List Addr} {env' : Env} {A' : Around} {m' : Str → Option Value} {D' L : Led} {h' : Heap}, St T h D O' env' A' m' D' L h' → St T h₀ B O env A m (D' ++ D) (L ++ M) h' := fun Y => Z₀.retL Y
  clear Z₀
  have C0 := C
  revert C; k_fill; intro C
  refine' callFn0 (binds := [("minuend", .ref a), ("subtrahend", .ref b)]) ?C ?go ?room ?ho ?hd ?hbody ?hcd ?hbind ?hcl ?hk ?hco ?hgen ?hnames ?hlook ?hbs ?hB
  walk_at "enter"
  intro Lf O h₁ tk₁ E' hL hO Z
  subst hO
  dsimp only [bindAll, List.foldl] at Z ⊢
  walk_at "ss"
  refine bk_set C0 Z (hroom.deeper.le (by decide)) hb hm ?_
  intro S so c h₂ tk₂ hso hc Z₁
  walk_at "ss"
  refine attrC Z₁ (.head _) hso ?_
  intro q h₃ tk₃ Z₂
  walk_at "ss"
  refine ff_makeO C0 Z₂ (hroom.deeper.le (by decide)) (ha.mono fun p hp => List.mem_append_right [_, _] hp) ?_
  intro x dx it L₁ h₄ tk₄ D' Mi₁ hM₁ ItN Z₃ hsub hxD hdxD
  walk_at "ss"
  have FFx : FF w T (D' ++ D) x it na.length Mi₁ (KeyOf na) (fun i => (na.map (·.1)).getD i Str.empty) (fun y => decide (y ∈ nb.map (·.1))) := by
    refine ⟨ItN _ (fun p hp => List.mem_append_left _ (hsub p hp)) (fun p hp => List.mem_append_left _ hp), C0, ⟨q, dx, S, so, c, List.mem_append_left _ hxD, List.mem_append_left _ hdxD, List.mem_append_left _ (hsub _ (.head _)), List.mem_append_left _ (hsub _ (.tail _ (.head _))), hso, hc⟩, fun i v hv => ?_⟩
    obtain ⟨p, t, hp, rfl⟩ := hv
    exact ⟨t, by rw [List.getD_eq_getElem?_getD, List.getElem?_map, hp]; rfl⟩
  have hk : kept (fun i => (na.map (·.1)).getD i Str.empty) (fun y => decide (y ∈ nb.map (·.1))) na.length = (na.map (·.1)).filter fun y => !decide (y ∈ nb.map (·.1)) := by
    unfold kept
    have : (List.range na.length).map (fun i => (na.map (·.1)).getD i Str.empty) = na.map (·.1) := by
      refine List.ext_getElem (by simp) fun i h1 h2 => ?_
      simp at h1
      simp [h1]
    rw [this]
  have It := ff_itr FFx
  rw [hk] at It
  refine hQ x dx _ L₁ h₄ _ D' _ hxD hdxD ⟨0, Nat.zero_le _, hM₁, rfl⟩ It ?_
  have Y := ret (Z₃.lessD (D' := D') fun p hp => List.mem_append_left _ hp)
  simpa using Y
end
end Mine
end
section
namespace Mine
section
variable {w : World} {T h₀ h : Heap} {A : Around} {env : Env} {m : Str → Option Value} {O : List Addr} {B D M L : Led} {s : Shared} {tk : Nat} {E : Value → Shared → Prop}
noncomputable def nameOf (n : Int) : Str := (["a", "b", "c", "d", "a b"] : List Str).getD (n % 5).toNat Str.empty
noncomputable def valOf (n : Int) : Str := (["x", "y", "x=y", "=", "x y", "y =="] : List Str).getD (n / 5 % 6).toNat Str.empty
noncomputable def around (n : Int) : Str := (["", " ", "\t", " \t "] : List Str).getD (n / 120).toNat Str.empty
noncomputable def lineOf (n : Int) : Str := around n ++ nameOf n ++ around n ++ "=" ++ around n ++ valOf n ++ around n
noncomputable abbrev entOf (n : Int) : Str × Str := (nameOf n, valOf n)
theorem getD_all {l : List Str} {P : Str → Prop} (h : ∀ x ∈ l, P x) (h0 : P Str.empty) (i : Nat) : P (l.getD i Str.empty) := by
  rw [List.getD_eq_getElem?_getD]
  cases q : l[i]? with
  | none => exact h0
  | some x => exact h x (List.mem_of_getElem? q)
theorem around_len (n : Int) : (around n).length ≤ 3 := getD_all (P := fun x => x.length ≤ 3) (by decide) (by decide) _
theorem name_len (n : Int) : (nameOf n).length ≤ 3 := getD_all (P := fun x => x.length ≤ 3) (by decide) (by decide) _
theorem val_len (n : Int) : (valOf n).length ≤ 4 := getD_all (P := fun x => x.length ≤ 4) (by decide) (by decide) _

theorem entry_spec (n : Int) (t : Tok) {Q : Value → Shared → Prop} (C : Cx (K01 w.params) T) (Z₀ : St T h₀ B O env A m D M h) (hroom : Room 20 A)
  (hQ : ∀ a t1 t2 h' tk' D', (a, tupOf [.str (nameOf n) t1, .str (valOf n) t2] 0) ∈ D' → (∀ p ∈ D, p ∈ D') → St T h₀ B O env A m D' M h' → Q (.ref a) (sA s h' tk')) :
  wpAny (model PySem.Challenge.rw_il0126_02.row.prog w) A (call (.ref 257) [.int n t]) Q E (sA s h tk) := by
  have go := Z₀.go
  revert C; k_fill; intro C
  refine' callFn0 (binds := [("number", .int n t)]) ?C ?go ?room ?ho ?hd ?hbody ?hcd ?hbind ?hcl ?hk ?hco ?hgen ?hnames ?hlook ?hbs ?hB
  walk_at "enter"
  intro L O h₁ tk₁ E' hL hO Z
  subst hO
  dsimp only [bindAll, List.foldl] at Z ⊢
  walk_at "es"
  refine' itLZ (ws := ["a", "b", "c", "d", "a b"]) ?w0 ?w1 ?w2 ?w3 ?w4 ?w5 ?w6 ?w7
  case w0 => assumption
  case w1 => walk_at "mem"
  case w2 => walk_at "strs"
  case w3 => omega
  case w4 => simp only [List.length_cons, List.length_nil]; omega
  case w5 => decide
  case w7 => with_unfolding_all rfl
  intro t1
  walk_at "es"
  refine' itLZ (ws := ["x", "y", "x=y", "=", "x y", "y =="]) ?w110 ?w11 ?w12 ?w13 ?w14 ?w15 ?w16 ?w17
  case w110 => assumption
  case w11 => walk_at "mem"
  case w12 => walk_at "strs"
  case w13 => omega
  case w14 => simp only [List.length_cons, List.length_nil]; omega
  case w15 => decide
  case w17 => with_unfolding_all rfl
  intro t2
  walk_at "es"
  rename_i Z'
  exact hQ _ t1 t2 _ _ _ (List.mem_append_left _ (.head _)) (fun p hp => List.mem_append_right _ hp) (Z₀.ret Z')
theorem line_spec (n : Int) (t : Tok) {Q : Value → Shared → Prop} (C : Cx (K01 w.params) T) (Z₀ : St T h₀ B O env A m D M h) (hroom : Room 30 A) (hn0 : 0 ≤ n) (hn1 : n < 480)
  (hQ : ∀ t' h' tk', Kp T h h' → Q (.str (lineOf n) t') (sA s h' tk')) :
  wpAny (model PySem.Challenge.rw_il0126_02.row.prog w) A (call (.ref 264) [.int n t]) Q E (sA s h tk) := by
  have go := Z₀.go
  clear Z₀
  have C0 := C
  revert C; k_fill; intro C
  refine' callFn0 (binds := [("number", .int n t)]) ?C ?go ?room ?ho ?hd ?hbody ?hcd ?hbind ?hcl ?hk ?hco ?hgen ?hnames ?hlook ?hbs ?hB
  walk_at "enter"
  intro L O h₁ tk₁ E' hL hO Z
  subst hO
  dsimp only [bindAll, List.foldl] at Z ⊢
  walk_at "es"
  refine' Assign_Tuple ?tA ?tB ?tC
  case tB => exact rfl
  case tC => exact rfl
  walk_at "es"
  refine entry_spec n t C0 Z (hroom.deeper.le (by decide)) ?_
  intro a t1 t2 h₂ tk₂ D₂ ha hD₂ Z₂
  dsimp only
  walk_at "es"
  refine asT2 Z₂ ha ?_
  intro h₃ tk₃ Z₃
  walk_at "es"
  refine' itLZ (ws := ["", " ", "\t", " \t "]) ?w0 ?w1 ?w2 ?w3 ?w4 ?w5 ?w6 ?w7
  case w0 => assumption
  case w1 => walk_at "mem"
  case w2 => walk_at "strs"
  case w3 => omega
  case w4 => simp only [List.length_cons, List.length_nil]; omega
  case w5 => decide
  case w7 => with_unfolding_all rfl
  intro t'
  have l1 := around_len n
  unfold around at l1
  have l2 := name_len n
  have l3 := val_len n
  have l4 : (Str.ofString "=").length = 1 := by decide +kernel
  walk_at "es"
  exact hQ _ _ _ (by apply St.kp; assumption)
end
end Mine
end
section
namespace Mine
theorem datI {X : Led} {vs : List Value} {ns : List Int} (h : IntsAre vs ns) : DatAll X vs (ns.map Dat.int) := by
  induction h with
  | nil => exact .nil
  | cons x t _ ih => exact .cons (.int x t) ih
section
variable {prog : Program} {w : World} {A : Around} {E : Value → Shared → Prop} {s : Shared} {h : Heap} {tk : Nat} {X : Led}
/-- an int in a list of ints -/
theorem isInI {a : Addr} {vs : List Value} {ns : List Int} {k : Nat} {x : Int} {t : Tok} {Q : Value → Shared → Prop} (hX : Has h X) (hm : (a, lsOf vs k) ∈ X) (hv : IntsAre vs ns) (hu : Room 8 A)
    (hQ : Q (.bool (decide (x ∈ ns))) (sA s h tk)) : wpAny (model prog w) A (compareOp .In (.int x t) (.ref a)) Q E (sA s h tk) := by
  refine kqd_isIn (s := sA s h tk) hX.news hm rfl rfl (datI (X := []) hv) (fun _ q => nomatch q) (DatIn.int (news := []) x t) (fun _ q => nomatch q) (fun d hd => ?_) rfl (by have := hu.2; omega) ?_
  · obtain ⟨y, _, rfl⟩ := List.mem_map.mp hd
    rfl
  have e : (Dat.int x ∈ ns.map Dat.int) ↔ x ∈ ns := by simp
  simp only [e]
  have : ∀ (i j : Decidable (x ∈ ns)), @decide _ i = @decide _ j := fun i j => by congr
  rw [this _ (inferInstanceAs (Decidable (x ∈ ns)))]
  exact hQ
end
end Mine
end
section
namespace Mine
section
variable {w : World} {T h₀ h : Heap} {A : Around} {env : Env} {m : Str → Option Value} {O : List Addr} {B D M L : Led} {s : Shared} {tk : Nat} {E : Value → Shared → Prop}
noncomputable def isOf (side : Int) (n : Int) : Bool := decide (n / 30 % 4 ∈ [side, 3])
theorem take_filter {α : Type} (p : α → Bool) {l : List α} {j : Nat} (h : j < l.length) : (l.take (j + 1)).filter p = (l.take j).filter p ++ if p l[j] = true then [l[j]] else [] := by
  rw [List.take_add_one, List.getElem?_eq_getElem h, Option.toList, List.filter_append]
  simp only [List.filter_cons, List.filter_nil]
theorem chosen_spec {l : Addr} {vs : List Value} {k : Nat} {ns : List Int} {side : Int} {ts : Tok} {Q : Value → Shared → Prop} (C : Cx (K01 w.params) T) (Z₀ : St T h₀ B O env A m D M h) (hroom : Room 20 A)
  (hl : (l, lsOf vs k) ∈ D) (hv : IntsAre vs ns) (hlen : ns.length ≤ 100)
  (hQ : ∀ a us c h' tk' D', (a, lsOf us c) ∈ D' → IntsAre us (ns.filter (isOf side)) → (∀ p ∈ D, p ∈ D') → St T h₀ B O env A m D' M h' → Q (.ref a) (sA s h' tk')) :
  wpAny (model PySem.Challenge.rw_il0126_02.row.prog w) A (call (.ref 269) [.ref l, .int side ts]) Q E (sA s h tk) := by
  have go := Z₀.go
  have ret : ∀ {O' : List Addr} {env' : Env} {A' : Around} {m' : Str → Option Value} {D' M' : Led} {h' : Heap}, St T h D O' env' A' m' D' M' h' → St T h₀ B O env A m (D' ++ D) M h' := fun Y => Z₀.ret Y
  clear Z₀
  revert C; k_fill; intro C
  refine' callFn0 (binds := [("numbers", .ref l), ("side", .int side ts)]) ?C ?go ?room ?ho ?hd ?hbody ?hcd ?hbind ?hcl ?hk ?hco ?hgen ?hnames ?hlook ?hbs ?hB
  walk_at "enter"
  intro Lf O h₁ tk₁ E' hL hO Z
  subst hO
  dsimp only [bindAll, List.foldl] at Z ⊢
  walk_at "ss"
  refine' compI Z ?hgens ?hs ?hrs ?hclos ?hkind ?hnames ?hcl ?hclN ?hnm ?hlook ?hcll ?hh
  walk_at "comp"
  intro E₃
  have Z₈ := Z.sub
  walk_at "ss"
  refine iterL Z₈ hl ?_
  intro it₂ h₆ tk₆ L₃ hM₂ _ I₂ _ _ Z₉
  refine ⟨it₂, _, _, _, _, _, h₆, tk₆, rfl, rfl, I₂, hM₂, Z₉.permM (fun _ q => List.mem_append_left _ q) (nd_left Z₉.ndM), hroom.deeper.le (by decide), ?_⟩
  intro acc c h₇ tk₇ L₄ Z₁₀
  refine compLast rfl rfl I₂ (fun j _ us => IntsAre us ((ns.take j).filter (isOf side))) Z₁₀ hM₂ .nil (hroom.deeper.le (by decide)) ?sz ?step2 ?fin2
  case sz =>
    intro j D₃ us hj hJ
    rw [hJ.length]
    exact Nat.le_trans (List.length_filter_le _ _) (Nat.le_trans (by rw [List.length_take]; exact Nat.min_le_right _ _) (Nat.le_trans hlen (by decide)))
  case fin2 =>
    intro h₈ tk₈ D₃ us c₂ hD₃ hJ Z₁₁
    refine ⟨rfl, h₈, tk₈, D₃, us, c₂, _, _, rfl, Z₁₁, ?_⟩
    intro h₉ tk₉ hk₉ Z₁₂
    walk_at "ss"
    rw [hv.length, List.take_length] at hJ
    exact hQ _ _ _ _ _ _ (List.mem_append_left _ (.head _)) hJ (fun p hp => List.mem_append_right _ hp) (ret Z₁₂)
  case step2 =>
    intro j v D₃ L₉ us c₃ h₁₂ tk₁₂ E₁₀ hj hvj hJ hD₃ Z₁₆
    obtain ⟨y, t, hy, rfl⟩ := ints_get hv hvj
    walk_at "ss"
    refine tests1 ?_
    walk_at "es"
    rename_i Z₁₇
    refine isInI Z₁₇.go.has (.head _) (.cons side ts (.cons 3 _ .nil)) (hroom.deeper.le (by decide)) ?_
    walk_at "ss"
    have hjn : j < ns.length := by rw [← hv.length]; exact hj
    have hyj : ns[j] = y := by rw [List.getElem?_eq_getElem hjn] at hy; exact Option.some.inj hy
    have tk := take_filter (isOf side) hjn
    rw [hyj] at tk
    refine iteB (fun hb => ?_) (fun hb => ?_)
    · walk_at "ss"
      refine ⟨_, _, _, _, rfl, fun _ q => .tail _ q, up_none rfl, Z₁₇, ?_⟩
      rw [tk, show isOf side y = true from hb, if_pos rfl]
      exact ints_snoc hJ _ _
    · refine ⟨_, _, _, _, rfl, fun _ q => .tail _ q, up_none rfl, Z₁₇, ?_⟩
      rw [tk, show isOf side y = false from hb, if_neg (by decide)]
      simpa using hJ
end
end Mine
end
section
namespace Mine
/-- an exact dict of texts -/
noncomputable def Pl (w : World) (D : Led) (d : Addr) (nd : List (Str × Str)) : Prop := ∃ o kvs, (d, o) ∈ D ∧ (d == sysModules) = false ∧ o.IsDictOf (strKind PySem.Challenge.rw_il0126_02.row.prog w) kvs ∧ KV SV kvs nd
theorem Pl.mono {w : World} {D D' : Led} {d : Addr} {nd : List (Str × Str)} (b : Pl w D d nd) (k : ∀ p ∈ D, p ∈ D') : Pl w D' d nd := by
  obtain ⟨o, kvs, a1, a2, a3, a4⟩ := b
  exact ⟨o, kvs, k _ a1, a2, a3, a4⟩
section
variable {w : World} {T h₀ h : Heap} {A : Around} {env : Env} {m : Str → Option Value} {O : List Addr} {B D M L : Led} {s : Shared} {tk : Nat} {E : Value → Shared → Prop}
theorem plain_spec {l : Addr} {vs : List Value} {k : Nat} {ns : List Int} {Q : Value → Shared → Prop} (C : Cx (K01 w.params) T) (Z₀ : St T h₀ B O env A m D M h) (hroom : Room 40 A)
  (hl : (l, lsOf vs k) ∈ D) (hv : IntsAre vs ns) (hlen : ns.length ≤ 100)
  (hQ : ∀ d h' tk' D', Pl w D' d (bookOf (ns.map entOf)) → (∀ p ∈ D, p ∈ D') → St T h₀ B O env A m D' M h' → Q (.ref d) (sA s h' tk')) :
  wpAny (model PySem.Challenge.rw_il0126_02.row.prog w) A (call (.ref 283) [.ref l]) Q E (sA s h tk) := by
  have go := Z₀.go
  have ret : ∀ {O' : List Addr} {env' : Env} {A' : Around} {m' : Str → Option Value} {D' M' : Led} {h' : Heap}, St T h D O' env' A' m' D' M' h' → St T h₀ B O env A m (D' ++ D) M h' := fun Y => Z₀.ret Y
  clear Z₀
  have C0 := C
  revert C; k_fill; intro C
  refine' callFn0 (binds := [("numbers", .ref l)]) ?C ?go ?room ?ho ?hd ?hbody ?hcd ?hbind ?hcl ?hk ?hco ?hgen ?hnames ?hlook ?hbs ?hB
  walk_at "enter"
  intro Lf O h₁ tk₁ E' hL hO Z
  subst hO
  dsimp only [bindAll, List.foldl] at Z ⊢
  walk_at "ss"
  refine nwD C Z ?_
  intro d o h₂ tk₂ Z₂ lo hdi
  walk_at "ss"
  refine wpAny_For ?_
  walk_at "ss"
  rename_i Z₃
  refine iterL Z₃ hl ?_
  intro it₁ h₄ tk₄ L₁ hM₁ _ I₁ _ _ Z₄
  refine forI I₁ (fun i m₁ D₁ M₁ => m₁ = upd (upd (fun _ => none) "numbers" (.ref l)) "plain" (.ref d) ∧ ∃ o kvs, M₁ = [(d, o)] ∧ o.IsDictOf (strKind PySem.Challenge.rw_il0126_02.row.prog w) kvs ∧ KV SV kvs (((ns.map entOf).take i).foldl putP [])) Z₄ hM₁ ⟨rfl, o, [], rfl, hdi, .nil⟩ (hroom.deeper.le (by decide)) ?stepF ?finF
  case finF =>
    rintro h₅ tk₅ m₂ D₂ M₂ hD₂ ⟨rfl, o', kvs, rfl, hdi', hkv⟩ Z₅
    walk_at "ss"
    have e : List.take vs.length (ns.map entOf) = ns.map entOf := by rw [hv.length]; exact List.take_of_length_le (by rw [List.length_map]; exact Nat.le_refl _)
    rw [e] at hkv
    have Z₆ := Z₅.settle (L := [(d, o')]) (M := [])
    exact hQ d _ _ _ ⟨o', kvs, List.mem_append_left _ (.head _), lo, hdi', hkv⟩ (fun p hp => List.mem_append_right _ hp) (ret Z₆)
  case stepF =>
    rintro i v m₂ D₂ M₂ L₂ h₅ tk₅ E₂ hi hvi ⟨rfl, o', kvs, rfl, hdi', hkv⟩ hD₂ Z₅
    obtain ⟨y, t, hy, rfl⟩ := ints_get hv hvi
    have hi' : i < (ns.map entOf).length := by rw [List.length_map, ← hv.length]; exact hi
    have hyi : (ns.map entOf)[i]? = some (entOf y) := by rw [List.getElem?_map, hy]; rfl
    walk_at "ss"
    refine' Assign_Tuple ?tA ?tB ?tC
    case tB => exact rfl
    case tC => exact rfl
    walk_at "es"
    rename_i Z₆
    refine entry_spec y t C0 Z₆ (hroom.deeper.le (by decide)) ?_
    intro a t1 t2 h₇ tk₇ D₇ ha hD₇ Z₇
    dsimp only
    walk_at "es"
    refine asT2 Z₇ ha ?_
    intro h₈ tk₈ Z₈
    walk_at "es"
    have hkl := book_klen ((ns.map entOf).take i)
    rw [List.length_take, List.length_map] at hkl
    refine setD Z₈ hdi' (by rw [hkv.len]; show _ ≤ 16777216; omega) ?_
    intro o₂ h₁₀ tk₁₀ hdi₂ Z₁₀
    walk_at "ss"
    refine ⟨.inl rfl, _, _, _, _, _, rfl, hD₇, Z₁₀.weak fun x u hu => up_none rfl x u (up_none rfl x u (up_none rfl x u hu)), rfl, o₂, _, rfl, hdi₂, ?_⟩
    rw [fold_take hyi]
    exact hkv.stored ⟨t2, rfl⟩
end
end Mine
end
section
namespace Mine
noncomputable abbrev eqS0 : Str := Str.ofString "="
noncomputable def Small (nd : List (Str × Str)) : Prop := ∀ p ∈ nd, (p.1.length ≤ 10 ∧ p.2.length ≤ 10) ∧ PyData.strOk p.1 = true ∧ PyData.strOk p.2 = true
theorem look_mem {β : Type} {l : List (Str × β)} {x : Str} {b : β} (h : look l x = some b) : (x, b) ∈ l := by
  unfold look at h
  cases q : l.find? (fun p => decide (p.1 = x)) with
  | none => rw [q] at h; cases h
  | some p =>
    rw [q] at h
    have h1 := List.find?_some q
    have h2 := List.mem_of_find?_eq_some q
    simp at h h1
    obtain ⟨a, c⟩ := p
    dsimp only at h h1
    subst h h1
    exact h2
noncomputable abbrev got (nd : List (Str × Str)) (x : Str) : Str := (look nd x).getD nil0
theorem got_len {nd : List (Str × Str)} (h : Small nd) (x : Str) : (got nd x).length ≤ 10 := by
  unfold got
  cases q : look nd x with
  | none => exact (by decide +kernel : nil0.length ≤ 10)
  | some b => exact (h _ (look_mem q)).1.2
noncomputable def writ (nd : List (Str × Str)) (p : Str × Str) : Str := p.1 ++ eqS0 ++ got nd p.1
section
variable {w : World} {T h₀ h : Heap} {A : Around} {env : Env} {m : Str → Option Value} {O : List Addr} {B D M L : Led} {s : Shared} {tk : Nat} {E : Value → Shared → Prop}
theorem written_spec {x : Addr} {nd : List (Str × Str)} {Q : Value → Shared → Prop} (C : Cx (K01 w.params) T) (Z₀ : St T h₀ B O env A m D M h) (hroom : Room 40 A)
  (hb : Bk w D x nd) (hsm : Small nd) (hlen : nd.length ≤ 100)
  (hQ : ∀ a us c h' tk' D', (a, lsOf us c) ∈ D' → StrsAre us (nd.map (writ nd)) → (∀ p ∈ D, p ∈ D') → St T h₀ B O env A m D' M h' → Q (.ref a) (sA s h' tk')) :
  wpAny (model PySem.Challenge.rw_il0126_02.row.prog w) A (call (.ref 293) [.ref x]) Q E (sA s h tk) := by
  have go := Z₀.go
  have ret : ∀ {O' : List Addr} {env' : Env} {A' : Around} {m' : Str → Option Value} {D' M' : Led} {h' : Heap}, St T h D O' env' A' m' D' M' h' → St T h₀ B O env A m (D' ++ D) M h' := fun Y => Z₀.ret Y
  clear Z₀
  have C0 := C
  revert C; k_fill; intro C
  refine' callFn0 (binds := [("book", .ref x)]) ?C ?go ?room ?ho ?hd ?hbody ?hcd ?hbind ?hcl ?hk ?hco ?hgen ?hnames ?hlook ?hbs ?hB
  walk_at "enter"
  intro Lf O h₁ tk₁ E' hL hO Z
  subst hO
  dsimp only [bindAll, List.foldl] at Z ⊢
  walk_at "ss"
  refine' compI Z ?hgens ?hs ?hrs ?hclos ?hkind ?hnames ?hcl ?hclN ?hnm ?hlook ?hcll ?hh
  walk_at "comp"
  intro E₃
  have Z₈ := Z.sub
  walk_at "ss"
  refine bk_iter C0 Z₈ hb ?_
  intro it₂ h₆ tk₆ L₃ Mi₂ hM₂ I₂ _ _ _ Z₉
  refine ⟨it₂, _, _, _, _, _, h₆, tk₆, rfl, rfl, I₂, hM₂, Z₉.permM (fun _ q => List.mem_append_left _ q) (nd_left Z₉.ndM), hroom.deeper.le (by decide), ?_⟩
  intro acc c h₇ tk₇ L₄ Z₁₀
  refine compLast rfl rfl I₂ (fun j _ us => StrsAre us ((nd.take j).map (writ nd))) Z₁₀ hM₂ .nil (hroom.deeper.le (by decide)) ?sz ?step2 ?fin2
  case sz =>
    intro j D₃ us hj hJ
    rw [strs_len hJ, List.length_map, List.length_take]
    show _ ≤ 16777216
    omega
  case fin2 =>
    intro h₈ tk₈ D₃ us c₂ hD₃ hJ Z₁₁
    refine ⟨rfl, h₈, tk₈, D₃, us, c₂, _, _, rfl, Z₁₁, ?_⟩
    intro h₉ tk₉ hk₉ Z₁₂
    walk_at "ss"
    rw [List.take_length] at hJ
    exact hQ _ _ _ _ _ _ (List.mem_append_left _ (.head _)) hJ (fun p hp => List.mem_append_right _ hp) (ret Z₁₂)
  case step2 =>
    intro j v D₃ L₉ us c₃ h₁₂ tk₁₂ E₁₀ hj hvj hJ hD₃ Z₁₆
    obtain ⟨p, t, hp, rfl⟩ := hvj
    have hps := (hsm p (List.mem_of_getElem? hp)).1
    have hgl : ((look nd p.1).getD nil0).length ≤ 10 := got_len hsm p.1
    have l4 : (Str.ofString "=").length = 1 := by decide +kernel
    walk_at "ss"
    refine tests0 ?_
    walk_at "ss"
    rename_i Z₁₇ _ _ _ _
    refine bk_get C0 Z₁₇ (hroom.deeper.le (by decide)) (hb.mono hD₃) (by with_unfolding_all rfl) ?_
    intro t' h₁₃ tk₁₃ D₄ hD₄ Z₁₈
    walk_at "ss"
    refine ⟨_, _, _, D₄, rfl, hD₄, up_none rfl, Z₁₈, ?_⟩
    rw [List.take_add_one, hp, Option.toList, List.map_append]
    exact strs_snoc hJ
end
end Mine
end
section
namespace Mine
noncomputable def minusS (ws xs : List Str) : List Str := ws.filter fun y => !decide (y ∈ xs)
theorem minusS_len (ws xs : List Str) : (minusS ws xs).length ≤ ws.length := List.length_filter_le _ _
noncomputable def goneOf (na nb : List (Str × Str)) : List Str := minusS (na.map (·.1)) (nb.map (·.1))
noncomputable def patchOf (na nb : List (Str × Str)) : List Str := (goneOf na nb).map (· ++ eqS0) ++ minusS (nb.map (writ nb)) (na.map (writ na))
theorem gone_sm {na nb : List (Str × Str)} (h : Small na) : ∀ x ∈ goneOf na nb, x.length ≤ 10 := fun x hx => by
  obtain ⟨p, hp, rfl⟩ := List.mem_map.mp (List.mem_filter.mp hx).1
  exact (h p hp).1.1
section
variable {w : World} {T h₀ h : Heap} {A : Around} {env : Env} {m : Str → Option Value} {O : List Addr} {B D M L : Led} {s : Shared} {tk : Nat} {E : Value → Shared → Prop}
set_option maxHeartbeats 1000000 in
theorem patch_spec {a b : Addr} {na nb : List (Str × Str)} {Q : Value → Shared → Prop} (C : Cx (K01 w.params) T) (Z₀ : St T h₀ B O env A m D M h) (hroom : Room 60 A)
  (ha : Bk w D a na) (hb : Bk w D b nb) (hsa : Small na) (hsb : Small nb) (hla : na.length ≤ 100) (hlb : nb.length ≤ 100)
  (hQ : ∀ a us c h' tk' D', (a, lsOf us c) ∈ D' → StrsAre us (patchOf na nb) → (∀ p ∈ D, p ∈ D') → St T h₀ B O env A m D' M h' → Q (.ref a) (sA s h' tk')) :
  wpAny (model PySem.Challenge.rw_il0126_02.row.prog w) A (call (.ref 298) [.ref a, .ref b]) Q E (sA s h tk) := by
  have go := Z₀.go
  have ret : ∀ {O' : List Addr} {env' : Env} {A' : Around} {m' : Str → Option Value} {D' M' : Led} {h' : Heap}, St T h D O' env' A' m' D' M' h' → St T h₀ B O env A m (D' ++ D) M h' := fun Y => Z₀.ret Y
  clear Z₀
  have C0 := C
  revert C; k_fill; intro C
  refine' callFn0 (binds := [("book", .ref a), ("other", .ref b)]) ?C ?go ?room ?ho ?hd ?hbody ?hcd ?hbind ?hcl ?hk ?hco ?hgen ?hnames ?hlook ?hbs ?hB
  walk_at "enter"
  intro Lf O h₁ tk₁ E' hL hO Z
  subst hO
  dsimp only [bindAll, List.foldl] at Z ⊢
  walk_at "ss"
  refine' compI Z ?hgens ?hs ?hrs ?hclos ?hkind ?hnames ?hcl ?hclN ?hnm ?hlook ?hcll ?hh
  walk_at "comp"
  intro E₃
  have Z₈ := Z.sub
  walk_at "ss"
  refine diffO_spec C0 Z₈ (hroom.deeper.le (by decide)) ha hb (by omega) ?_
  intro xd dxd sl Ld h₁₀ tk₁₀ D₁₀ Mi hxd hdxd hMi I Z₁₀
  refine I.self Z₁₀.go (hroom.deeper.le (by decide)) Z₁₀.goL hMi ?_
  intro h₁₁ tk₁₁ k₁₁
  have Z₁₁ := Z₁₀.step k₁₁
  have hgl : (goneOf na nb).length ≤ 100 := Nat.le_trans (minusS_len _ _) (by rw [List.length_map]; exact hla)
  have hgs := gone_sm (nb := nb) hsa
  refine ⟨xd, _, _, _, _, _, h₁₁, tk₁₁, rfl, rfl, I, hMi, Z₁₁.permM (fun _ q => List.mem_append_left _ q) (nd_left Z₁₁.ndM), hroom.deeper.le (by decide), ?_⟩
  intro acc c h₇ tk₇ L₄ Z₁₂
  refine compLast rfl rfl I (fun j _ us => StrsAre us (((goneOf na nb).take j).map (· ++ eqS0))) Z₁₂ hMi .nil (hroom.deeper.le (by decide)) ?sz ?step2 ?fin2
  case sz =>
    intro j D₃ us hj hJ
    rw [strs_len hJ, List.length_map, List.length_take]
    show _ ≤ 16777216
    omega
  case step2 =>
    rintro j v D₃ L₉ us c₃ h₁₂ tk₁₂ E₁₀ hj ⟨t, y, hy, rfl⟩ hJ hD₃ Z₁₆
    have hyl := hgs y (List.mem_of_getElem? hy)
    have l4 : (Str.ofString "=").length = 1 := by decide +kernel
    walk_at "ss"
    refine tests0 ?_
    walk_at "ss"
    refine ⟨_, _, _, _, rfl, fun _ q => q, up_none rfl, by assumption, ?_⟩
    rw [List.take_add_one, show (goneOf na nb)[j]? = some y from hy, Option.toList, List.map_append]
    exact strs_snoc hJ
  case fin2 =>
    intro h₁₂ tk₁₂ D₃ us c₂ hD₃ hJ Z₁₃
    refine ⟨rfl, h₁₂, tk₁₂, D₃, us, c₂, _, _, rfl, Z₁₃, ?_⟩
    intro h₁₃ tk₁₃ hk₁₃ Z₁₄
    have hJ' : StrsAre us ((goneOf na nb).map (· ++ eqS0)) := by
      have e : (goneOf na nb).take ((na.map (·.1)).filter fun y => !decide (y ∈ nb.map (·.1))).length = goneOf na nb := List.take_length
      rw [e] at hJ; exact hJ
    clear hJ Z₁₃ Z₁₂ Z₁₁ Z₁₀ Z₈
    have up0 : ∀ p ∈ D, p ∈ (acc, lsOf us c₂) :: (D₃ ++ D) := fun p hp => .tail _ (List.mem_append_right _ hp)
    walk_at "ss"
    refine written_spec C0 Z₁₄ (hroom.deeper.le (by decide)) (hb.mono up0) hsb hlb ?_
    intro a1 u1 c1 h₁₅ tk₁₅ D₁₅ hm1 hu1 hD₁₅ Z₁₅
    walk_at "ss"
    refine written_spec C0 Z₁₅ (hroom.deeper.le (by decide)) (ha.mono fun p hp => hD₁₅ _ (up0 p hp)) hsa hla ?_
    intro a2 u2 c2 h₁₆ tk₁₆ D₁₆ hm2 hu2 hD₁₆ Z₁₆
    clear Z₁₅ Z₁₄
    walk_at "ss"
    refine diff_spec C0 Z₁₆ (hroom.deeper.le (by decide)) (hD₁₆ _ hm1) hm2 hu1 hu2 (by rw [List.length_map]; omega) ?_
    intro xd dxd sl Ld h₁₇ tk₁₇ D₁₇ Mi hxd hdxd hMi I Z₁₇
    walk_at "ss"
    have hml : (minusS (nb.map (writ nb)) (na.map (writ na))).length ≤ 100 := Nat.le_trans (minusS_len _ _) (by rw [List.length_map]; exact hlb)
    refine listDiff C0 Z₁₇ (hroom.deeper.le (by decide)) (List.mem_append_left _ hxd) (List.mem_append_left _ hdxd) hMi I (by unfold minusS at hml; omega) ?_
    intro al vs cl h₁₈ tk₁₈ hvl Z₁₈
    clear Z₁₇ Z₁₆
    walk_at "ss"
    have hmacc : (acc, lsOf us c₂) ∈ (al, lsOf vs cl) :: (D₁₇ ++ D₁₆) := .tail _ (List.mem_append_right _ (hD₁₆ _ (hD₁₅ _ (.head _))))
    refine addL Z₁₈ (List.mem_append_left _ hmacc) (List.mem_append_left _ (.head _)) (by
      rw [strs_len hJ', strs_len hvl, List.length_map]
      show _ + (minusS (nb.map (writ nb)) (na.map (writ na))).length ≤ 16777216
      omega) ?_
    intro ar h₁₉ tk₁₉ Z₁₉
    walk_at "ss"
    refine hQ _ _ _ _ _ _ (List.mem_append_left _ (.head _)) (strs_app hJ' hvl) (fun p hp => List.mem_append_right _ hp) (ret Z₁₉)
end
end Mine
end
section
namespace Mine
/-- an iterator over the items of an object that bears a dict's data -/
noncomputable abbrev itmO (u : Value) (f : Bool) (d : Addr) (i n ep : Nat) (ok ov : Value) : Obj := { cls := .type "dict_itemiterator", dict := none, data := .fields #[u, .bool f, .ref d, .int i 0, .int n 0, .int ep 0, ok, ov], slots := #[] }
/-- its pair: none yet, or a tuple that lives -/
noncomputable def ItmU (h : Heap) (it : Addr) (u : Value) (f : Bool) : Prop := (u = .none ∧ f = false) ∨ ∃ (a : Addr) (oa : Obj), u = rawInt (a : Int) ∧ h.get? a = some oa ∧ a ≠ it
section
variable {prog : Program} {w : World} {A : Around} {E : Value → Shared → Prop} {s : Shared} {d it : Addr} {o : Obj} {es : Array DictEntry} {ep i : Nat} {u ok ov : Value} {f : Bool}
theorem itmNext {Q : Option Value → Shared → Prop} (hh : A.handled = none) (hit : s.heap.get? it = some (itmO u f d i es.size ep ok ov)) (hod : s.heap.get? d = some o) (hd : o.data = .dict es ep) (hu : ItmU s.heap it u f)
    (h1 : ∀ e h' u' f' ok' ov', es[i]? = some e → h'.get? it = some (itmO u' f' d (i + 1) es.size ep ok' ov') → (∃ a : Addr, u' = rawInt (a : Int) ∧ (a = s.heap.objs.size ∨ u = rawInt (a : Int))) → h'.get? s.heap.objs.size = some (tupOf [e.key, e.val] 0) → Heap.ExtBut it s.heap h' → Q (some (.ref s.heap.objs.size)) { s with heap := h' })
    (h2 : ∀ h', es[i]? = none → Heap.ExtBut it s.heap h' → Q none { s with heap := h' }) : wpAny (model prog w) A (pyNext (.ref it)) Q E s := by
  have hT : s.TypeIs (.ref it) "dict_itemiterator" := ⟨_, hit, rfl⟩
  unfold pyNext
  refine wpAny_bind (wpAny_attempt (wpAny_callSpecial?_slot (name := Str.ofString "__next__") hT PySem.F.slot_dict_itemiterator_next
    (wpAny_call_entry PySem.F.slot_dict_itemiterator_next hT PySem.F.entry_dict_itemiterator_next ?_ (PySem.F.args_dict_itemiterator_next_1 _))))
  refine wpAny_bind (wpAny_pure ?_)
  refine wpAny_bind ?_
  refine wpAny_bind ?_
  refine wpAny_bind (wpAny_typeNameOfWhole_itemiter hT (wpAny_pure ?_))
  refine wpAny_bind (wpAny_fieldsOf hit rfl ?_)
  have hown : Builtin.Dict_items.ownsTuple "dict_itemiterator" = true := by decide
  simp only [hown, if_true]
  show wpAny _ _ (if (Value.ref d == Value.none) = true then _ else _) _ _ s
  rw [if_neg (show ¬ ((Value.ref d == Value.none) = true) from Bool.false_ne_true)]
  refine wpAny_bind (wpAny_pure ?_)
  refine wpAny_bind (wpAny_dictEntries hod hd ?_)
  rw [if_neg (by simp)]
  refine wpAny_bind (wpAny_pure ?_)
  refine wpAny_bind (wpAny_dictEpoch hod hd ?_)
  rw [if_neg (by simp)]
  refine wpAny_pure ?_
  simp only [show ¬ ((i : Int) < 0) from by omega, if_false, Int.toNat_natCast]
  cases hx : es[i]? with
  | some e =>
    dsimp only
    refine wpAny_bind ?_
    refine wpAny_bind (wpAny_typeNameOfWhole_itemiter hT (wpAny_pure ?_))
    refine wpAny_bind (wpAny_isOneOf_itemiter hT ?_)
    show wpAny _ _ (setField (.ref it) 3 (rawInt ((i : Int) + 1)) >>= _) _ _ s
    refine wpAny_bind (wpAny_setField_rec hit (by simp) fun h₁ he₁ hs₁ => ?_)
    replace hs₁ : Heap.SameBut it s.heap h₁ := hs₁
    have he₂ : h₁.get? it = some (itmO u f d (i + 1) es.size ep ok ov) := by
      rw [he₁]
      simp [rawInt]
    have hT₁ : Shared.TypeIs { s with heap := h₁ } (.ref it) "dict_itemiterator" := ⟨_, he₂, rfl⟩
    refine wpAny_bind (wpAny_holding ?_)
    refine wpAny_bind (wpAny_isOneOf_itemiter hT₁ ?_)
    refine wpAny_bind (wpAny_isOneOf_itemiter hT₁ ?_)
    show wpAny _ _ (Builtin.Dict_items.pairFromOwner (.ref it) 6 e.key e.val) _ _ { s with heap := h₁ }
    unfold Builtin.Dict_items.pairFromOwner
    refine wpAny_bind (wpAny_newTuple ?_)
    have het : (h₁.push (tupOf [e.key, e.val] 0)).get? h₁.objs.size = some (tupOf [e.key, e.val] 0) := Heap.get?_push_size _ rfl
    have hei : (h₁.push (tupOf [e.key, e.val] 0)).get? it = some (itmO u f d (i + 1) es.size ep ok ov) := Heap.get?_push_of_some _ he₂
    have hk₁ : Heap.ExtBut it s.heap (h₁.push (tupOf [e.key, e.val] 0)) := hs₁.extBut.push _
    have hz : h₁.objs.size = s.heap.objs.size := hs₁.1
    have hit' : it < s.heap.objs.size := Heap.lt_size hit
    rw [hz] at het
    show wpAny _ _ (Builtin.Dict_items.ownedTupleIsFree (.ref it) >>= _) _ _ { s with heap := h₁.push (tupOf [e.key, e.val] 0) }
    rw [hz]
    generalize h₁.push (tupOf [e.key, e.val] 0) = h₂ at *
    unfold Builtin.Dict_items.ownedTupleIsFree
    rcases hu with ⟨rfl, rfl⟩ | ⟨a, oa, rfl, ha, hai⟩
    · refine wpAny_bind (wpAny_bind (wpAny_field hei rfl (x := .none) rfl (wpAny_pure ?_)))
      simp only [if_true]
      refine wpAny_bind (wpAny_field hei rfl (x := ok) rfl ?_)
      refine wpAny_bind (wpAny_field hei rfl (x := ov) rfl ?_)
      refine wpAny_bind (wpAny_setField_rec hei (by simp) fun h₃ he₃ hs₃ => ?_)
      refine wpAny_bind (wpAny_setField_rec he₃ (by simp) fun h₄ he₄ hs₄ => ?_)
      refine wpAny_bind (wpAny_setField_rec he₄ (by simp) fun h₅ he₅ hs₅ => ?_)
      refine wpAny_bind (wpAny_setField_rec he₅ (by simp) fun h₆ he₆ hs₆ => ?_)
      replace hs₃ : Heap.SameBut it h₂ h₃ := hs₃
      replace hs₄ : Heap.SameBut it h₃ h₄ := hs₄
      replace hs₅ : Heap.SameBut it h₄ h₅ := hs₅
      replace hs₆ : Heap.SameBut it h₅ h₆ := hs₆
      have kk : Heap.ExtBut it h₂ h₆ := fun b o hb q => hs₆.extBut b o hb (hs₅.extBut b o hb (hs₄.extBut b o hb (hs₃.extBut b o hb q)))
      have htt := kk _ _ (Nat.ne_of_gt hit') het
      exact wpAny_bind (wpAny_letGo (wpAny_pure (wpAny_pure ⟨_, rfl, wpAny_pure (h1 e h₆ _ _ _ _ hx he₆ ⟨s.heap.objs.size, rfl, .inl rfl⟩ htt fun b o hb q => kk b o hb (hk₁ b o hb q))⟩)))
    · have ha₂ := hk₁ a oa hai ha
      refine wpAny_bind (wpAny_bind (wpAny_field hei rfl (x := rawInt a) rfl ?_))
      show wpAny _ _ (loadIfAlive ((a : Int).toNat) >>= _) _ _ _
      rw [Int.toNat_natCast]
      refine wpAny_bind (kdx_alive ha₂ ?_)
      simp only [Option.isNone_some, Bool.false_eq_true, if_false]
      refine wpAny_bind (wpAny_field hei rfl (x := .bool f) rfl ?_)
      cases f with
      | true =>
        rw [if_neg (show ¬ ((Value.bool true != Value.bool true) = true) from Bool.false_ne_true)]
        refine wpAny_pure ?_
        simp only [Bool.false_eq_true, if_false]
        exact wpAny_pure (wpAny_pure ⟨_, rfl, wpAny_pure (h1 e h₂ _ _ _ _ hx hei ⟨a, rfl, .inr rfl⟩ het hk₁)⟩)
      | false =>
        rw [if_pos (show (Value.bool false != Value.bool true) = true from rfl)]
        refine wpAny_bind (wpAny_setField_rec hei (by simp) fun h₃ he₃ hs₃ => ?_)
        replace hs₃ : Heap.SameBut it h₂ h₃ := hs₃
        refine wpAny_pure ?_
        simp only [Bool.false_eq_true, if_false]
        exact wpAny_pure (wpAny_pure ⟨_, rfl, wpAny_pure (h1 e h₃ _ _ _ _ hx he₃ ⟨a, rfl, .inr rfl⟩ (hs₃.extBut _ _ (Nat.ne_of_gt hit') het) fun b o hb q => hs₃.extBut b o hb (hk₁ b o hb q))⟩)
  | none =>
    dsimp only
    refine wpAny_bind ?_
    refine wpAny_bind (wpAny_typeNameOfWhole_itemiter hT (wpAny_pure ?_))
    show wpAny _ _ (setField (.ref it) 2 .none >>= _) _ _ s
    refine wpAny_bind (wpAny_setField hit rfl (by simp) ?_)
    show wpAny _ _ (newExc (.type "StopIteration") [] >>= _) _ _ _
    refine wpAny_bind ?_
    simp only [newExc, newTuple]
    refine wpAny_bind (wpAny_newObj_type ?_ (by size_fits))
    refine wpAny_bind (m := firstArgMember _ _) (wpAny_of_eq (a := Value.none) (by first | rfl | (simp only [firstArgMember]; rfl)) ?_)
    refine wpAny_newObj_type ?_ (by size_fits)
    simp only [raiseNew]
    refine wpAny_bind (wpAny_handled ?_)
    rw [show A.in1.handled = none from hh]
    refine wpAny_bind (wpAny_pure (wpAny_throw ?_))
    refine wpAny_bind (wpAny_isInstance (T := "StopIteration") (b := true) ⟨_, Heap.get?_push_size _ rfl, rfl⟩ isSubtype_stop ?_)
    exact wpAny_pure (h2 _ hx (((Heap.SameBut.update ..).extBut.push _).push _))
end
end Mine
end
section
namespace Mine
/-- the pairs of the first i entries -/
noncomputable def ItmAll (es : Array DictEntry) (D : Led) (vs : List Value) (i : Nat) : Prop := vs.length = i ∧ ∀ (j : Nat) (v : Value), vs[j]? = some v → ∃ (t : Addr) (e : DictEntry), es[j]? = some e ∧ v = Value.ref t ∧ (t, tupOf [e.key, e.val] 0) ∈ D
noncomputable def ItmD (D : Led) (u : Value) (f : Bool) : Prop := (u = .none ∧ f = false) ∨ ∃ (a : Addr) (oa : Obj), u = rawInt (a : Int) ∧ (a, oa) ∈ D
theorem ItmAll.snoc {es : Array DictEntry} {D : Led} {vs : List Value} {i : Nat} {t : Addr} {e : DictEntry} (h : ItmAll es D vs i) (he : es[i]? = some e) (ht : (t, tupOf [e.key, e.val] 0) ∈ D) : ItmAll es D (vs ++ [.ref t]) (i + 1) := by
  refine ⟨by rw [List.length_append, h.1]; rfl, fun j v hv => ?_⟩
  rcases Nat.lt_trichotomy j vs.length with hj | hj | hj
  · rw [List.getElem?_append_left hj] at hv; exact h.2 j v hv
  · subst hj
    rw [List.getElem?_append_right (Nat.le_refl _)] at hv
    simp at hv
    subst hv
    rw [h.1]; exact ⟨t, e, he, rfl, ht⟩
  · rw [List.getElem?_eq_none (by simp; omega)] at hv; cases hv
theorem ItmAll.mono {es : Array DictEntry} {D D' : Led} {vs : List Value} {i : Nat} (h : ItmAll es D vs i) (k : ∀ p ∈ D, p ∈ D') : ItmAll es D' vs i :=
  ⟨h.1, fun j v hv => by obtain ⟨t, e, a, b, c⟩ := h.2 j v hv; exact ⟨t, e, a, b, k _ c⟩⟩
section
variable {prog : Program} {w : World} {K : Frag} {T h₀ h h' : Heap} {O : List Addr} {env : Env} {A A' : Around} {m : Str → Option Value} {B D D' M M' L L' : Led} {s : Shared} {tk : Nat} {E : Value → Shared → Prop}
theorem itmLoop {res : Value} {it S d : Addr} {o : Obj} {es : Array DictEntry} {ep : Nat} {R : Result → Shared → Prop} (hl : (d, o) ∈ D) (hd : o.data = .dict es ep) (hn : es.size ≤ 10000)
    (hR : ∀ h' tk' D' vs c, (∀ p ∈ D, p ∈ D') → ItmAll es D' vs es.size → St T h₀ B O env A.in1 m D' ((S, lsOf vs c) :: M) h' → R (.ok (.ret res)) (sA s h' tk')) :
    ∀ (k i : Nat) (h : Heap) (tk : Nat) (D' : Led) (u : Value) (f : Bool) (ok ov : Value) (vs : List Value) (c : Nat), es.size - i = k → i ≤ es.size → (∀ p ∈ D, p ∈ D') → ItmD D' u f → ItmAll es D' vs i →
      St T h₀ B O env A.in1 m D' ((it, itmO u f d i es.size ep ok ov) :: (S, lsOf vs c) :: M) h →
      codeAny (model prog w) A (.builtin "list.extend.loop" ⟨[.ref S, .ref it, res], []⟩) R (sA s h tk) := by
  intro k
  induction k with
  | zero =>
    intro i h tk D' u f ok ov vs c hk hi hD hu hv Z
    have hin : i = es.size := by omega
    subst hin
    have hit := (Z.mu _ (.head _)).1
    refine codeAny_builtin PySem.F.entry_extend_loop ?_
    rw [Around.under_plainId PySem.F.plain_extend_loop _]
    show wpAny _ A.in1 (pyNext (.ref it) >>= _) _ _ _
    have hu' : ItmU h it u f := by
      rcases hu with q | ⟨a, oa, e, hm⟩
      · exact .inl q
      · exact .inr ⟨a, oa, e, (Z.go.has _ hm).1, (Z.offD _ hm).2 _ (.head _)⟩
    refine wpAny_bind (itmNext (s := sA s h tk) Z.go.fs.hd hit (Z.go.has _ (hD _ hl)).1 hd hu' (fun e h' u' f' ok' ov' he => ?_) fun h' he hx => ?_)
    · rw [Array.getElem?_eq_none (Nat.le_refl _)] at he; cases he
    · exact wpAny_pure (hR h' tk D' vs c hD hv (Z.goneL (L := [(it, _)]) (.extBut hx (.head _) ⟨_, hit, notFrm_cls (by show Value.type _ ≠ Value.type _; decide)⟩)))
  | succ k ih =>
    intro i h tk D' u f ok ov vs c hk hi hD hu hv Z
    have hlt : i < es.size := by omega
    have hit := (Z.mu _ (.head _)).1
    have hSl := (Z.mu _ (.tail _ (.head _))).1
    refine codeAny_builtin PySem.F.entry_extend_loop ?_
    rw [Around.under_plainId PySem.F.plain_extend_loop _]
    show wpAny _ A.in1 (pyNext (.ref it) >>= _) _ _ _
    have hu' : ItmU h it u f := by
      rcases hu with q | ⟨a, oa, e, hm⟩
      · exact .inl q
      · exact .inr ⟨a, oa, e, (Z.go.has _ hm).1, (Z.offD _ hm).2 _ (.head _)⟩
    refine wpAny_bind (itmNext (s := sA s h tk) Z.go.fs.hd hit (Z.go.has _ (hD _ hl)).1 hd hu' (fun e h' u' f' ok' ov' he hit' hu2 ht hx => ?_) fun h' he hx => ?_)
    rotate_left
    · rw [Array.getElem?_eq_getElem hlt] at he; cases he
    have Z₁ := Z.turnMD (S := [it]) (h' := h') (M' := (it, itmO u' f' d (i + 1) es.size ep ok' ov') :: (S, lsOf vs c) :: M) (D' := [(h.objs.size, tupOf [e.key, e.val] 0)])
      (.extBut hx (.head _) ⟨_, hit, notFrm_cls (by show Value.type _ ≠ Value.type _; decide)⟩) (fun b hb => by rw [List.mem_singleton.mp hb]; simp) (by simp) (by
        intro p hp
        rcases List.mem_cons.mp hp with rfl | hp
        · exact ⟨hit', by show Value.type _ ≠ Value.type _; decide⟩
        · have hne : p.1 ≠ it := fun q => by
            have nd := Z.ndM
            simp only [List.map_cons] at nd
            have := (List.nodup_cons.mp nd).1
            exact this (q ▸ (by simpa using List.mem_map_of_mem (f := Prod.fst) hp))
          have := Z.mu p (.tail _ hp)
          exact ⟨hx _ _ hne this.1, this.2⟩) (Has.cons ht (by show Value.type _ ≠ Value.type _; decide) .nil) (fun p hp => by rw [List.mem_singleton.mp hp]; exact fresh_size _)
    have hS := (Z₁.mu _ (.tail _ (.head _))).1
    show wpAny _ A.in1 (updateSeq S (·.push (.ref h.objs.size)) >>= _) _ _ _
    refine wpAny_bind ?_
    have e' := Heap.get?_update_self (Obj.mapSeq (·.push (.ref h.objs.size))) hS (by rw [Obj.mapSeq_push_plain]; rfl)
    rw [Obj.mapSeq_push_plain, List.push_toArray] at e'
    have Z₂ : St T h₀ B O env A.in1 m ((h.objs.size, tupOf [e.key, e.val] 0) :: D') ((it, itmO u' f' d (i + 1) es.size ep ok' ov') :: (S, lsOf (vs ++ [Value.ref h.objs.size]) (c + 1)) :: M) _ := St.turn1 (L := [(it, itmO u' f' d (i + 1) es.size ep ok' ov')]) Z₁ (Heap.SameBut.update ..) e' (by show Value.type _ ≠ Value.type _; decide) (fun vs q => by cases q)
    have hvl := hv.1
    refine wpAny_updateSeq (s := sA s h' tk) hS rfl (wpAny_pure ⟨plainId_quiet PySem.F.plain_extend_loop _, ih (i + 1) _ tk ((h.objs.size, tupOf [e.key, e.val] 0) :: D') u' f' ok' ov' (vs ++ [.ref h.objs.size]) (c + 1) (by omega) hlt (fun p hp => .tail _ (hD p hp)) ?_ ((hv.mono fun p hp => .tail _ hp).snoc he (.head _)) Z₂⟩)
      (by show vs.toArray.size ≤ 16777216; rw [List.size_toArray]; omega) (by show (vs.toArray.push _).size ≤ 16777216 + 1; rw [Array.size_push, List.size_toArray]; omega)
    obtain ⟨a, e1, e2⟩ := hu2
    rcases e2 with rfl | e2
    · exact .inr ⟨_, _, e1, .head _⟩
    · rcases hu with ⟨q1, _⟩ | ⟨b, ob, q1, q2⟩
      · rw [q1] at e2; cases e2
      · exact .inr ⟨b, ob, by rw [e1, ← e2, q1], .tail _ q2⟩
end
end Mine
end
section
namespace Mine
noncomputable abbrev itmView (d : Addr) : Obj := { cls := .type "dict_items", data := .fields #[.ref d] }
section
variable {prog : Program} {w : World} {K : Frag} {T h₀ h h' : Heap} {O : List Addr} {env : Env} {A A' : Around} {m : Str → Option Value} {B D D' M M' L L' : Led} {s : Shared} {tk : Nat} {E : Value → Shared → Prop}
theorem iterItems {v d : Addr} {o : Obj} {es : Array DictEntry} {ep : Nat} {Q : Value → Shared → Prop} (hv : s.heap.get? v = some (itmView d)) (ho : s.heap.get? d = some o) (hd : o.data = .dict es ep)
    (hQ : Q (.ref s.heap.objs.size) { s with heap := s.heap.push (itmO .none false d 0 es.size ep .none .none) }) :
    wpAny (model prog w) A (pyIter (.ref v)) Q E s := by
  have hT : s.TypeIs (.ref v) "dict_items" := ⟨_, hv, rfl⟩
  refine wpAny_pyIter_slot hT PySem.F.slot_dict_items_iter (wpAny_call_entry PySem.F.slot_dict_items_iter hT PySem.F.entry_dict_items_iter ?_ (PySem.F.args_dict_items_iter_1 _))
  unfold Builtin.«dict_items.__iter__»
  refine wpAny_bind (wpAny_pure ?_)
  refine wpAny_bind ?_
  unfold Builtin.Dict_items.dictOf
  refine wpAny_bind (wpAny_field hv rfl (x := .ref d) rfl (wpAny_pure ?_))
  refine wpAny_bind ?_
  unfold Builtin.Dict_items.newIterator
  refine wpAny_bind (wpAny_dictEntries ho hd ?_)
  refine wpAny_bind (wpAny_dictEpoch ho hd ?_)
  have hown : Builtin.Dict_items.ownsTuple "dict_itemiterator" = true := by decide
  simp only [hown, if_true]
  refine wpAny_newObj_type (wpAny_pure ⟨_, rfl, "dict_itemiterator", _, ⟨_, Heap.get?_push_size _ rfl, rfl⟩, PySem.F.slot_dict_itemiterator_next.lookup, ?_⟩)
    (by simp only [sizeOk, Builtin.Dict_items.ownedTupleFields, List.size_toArray, List.length_append, List.length_cons, List.length_nil, sizeLine_eq]; omega)
  simpa [rawInt, itmO, Builtin.Dict_items.ownedTupleFields] using hQ
/-- list(items) -/
theorem listItems {v d : Addr} {o : Obj} {es : Array DictEntry} {ep : Nat} {Q : Value → Shared → Prop} (Z : St T h₀ B O env A m D M h) (hv : (v, itmView d) ∈ D) (hl : (d, o) ∈ D) (hd : o.data = .dict es ep) (hn : es.size ≤ 10000)
    (hQ : ∀ a vs c h' tk' D', (∀ p ∈ D, p ∈ D') → ItmAll es D' vs es.size → (a, lsOf vs c) ∈ D' → St T h₀ B O env A m D' M h' → Q (.ref a) (sA s h' tk')) :
    wpAny (model prog w) A (call (.type "list") [.ref v]) Q E (sA s h tk) := by
  refine callType_codes (s := sA s h tk) (Q₁ := fun obj s₁ => obj = .ref h.objs.size ∧ s₁ = sA s (h.push { cls := .type "list", data := .seq #[] }) tk) PySem.F.called_list (PySem.F.typeCall_list_1 _) PySem.F.entry_list_init
    (code_list_new _ ⟨rfl, rfl⟩) fun obj s₁ h₁ => ?_
  obtain ⟨rfl, rfl⟩ := h₁
  have e0 := Heap.get?_push_size (o := lsOf [] 0) h rfl
  refine ⟨⟨_, e0, rfl⟩, PySem.F.args_list_init_2 _ _, ?_⟩
  have Z₁ := Z.moreM (.push (lsOf [] 0)) e0 (by show Value.type _ ≠ Value.type _; decide) (fresh_size h)
  have hSx : h.objs.size ≠ v := fun q => by have := Heap.lt_size (Z.go.has _ hv).1; rw [q] at this; exact Nat.lt_irrefl _ this
  show wpAny _ A.in1.in1 (do let old ← Builtin.List.listItems (.ref h.objs.size); Builtin.List.listUpdate (.ref h.objs.size) (fun _ => #[]); letGo old.toList.reverse; Builtin.List.listExtendWith (.ref h.objs.size) (.ref v) .none) _ _ (sA s (h.push (lsOf [] 0)) tk)
  refine wpAny_bind ?_
  unfold Builtin.List.listItems
  refine wpAny_bind (wpAny_seqItems (s := sA s (h.push (lsOf [] 0)) tk) e0 rfl (wpAny_pure ?_))
  show wpAny _ A.in1.in1 (updateSeq h.objs.size (fun _ => #[]) >>= fun _ => letGo (#[] : Array Value).toList.reverse >>= fun _ => Builtin.List.listExtendWith (.ref h.objs.size) (.ref v) .none) _ _ (sA s (h.push (lsOf [] 0)) tk)
  refine wpAny_bind (wpAny_updateSeq (s := sA s (h.push (lsOf [] 0)) tk) e0 rfl ?_)
  have e1 := Heap.get?_update_self (Obj.mapSeq (fun _ => (#[] : Array Value))) e0 rfl
  have e2 : ∃ c, Obj.mapSeq (fun _ => (#[] : Array Value)) (lsOf [] 0) = lsOf [] c := ⟨_, by simp [Obj.mapSeq]; rfl⟩
  obtain ⟨c, e2⟩ := e2
  rw [e2] at e1
  have Z₂ := St.turn1 (L := []) Z₁ (Heap.SameBut.update ..) e1 (by show Value.type _ ≠ Value.type _; decide) (fun vs q => by cases q)
  generalize (h.push (lsOf [] 0)).update h.objs.size (Obj.mapSeq (fun _ => (#[] : Array Value))) = h₃ at *
  refine wpAny_bind (wpAny_letGo ?_)
  unfold Builtin.List.listExtendWith
  have hT : ∀ {h' : Heap} {tk' : Nat}, h'.get? v = some (itmView d) → (sA s h' tk').TypeIs (.ref v) "dict_items" := fun e => ⟨_, e, rfl⟩
  refine wpAny_bind (wpAny_typeOf (hT (Z₂.go.has _ hv).1) ?_)
  have h1 : Builtin.List.listSameRef (.ref h.objs.size) (.ref v) = false := by simp [Builtin.List.listSameRef, hSx]
  have h2 : (Value.type "dict_items" == Value.type "list") = false := by decide
  have h3 : (Value.type "dict_items" == Value.type "tuple") = false := by decide
  simp only [h1, h2, h3, Bool.or_false, Bool.false_eq_true, if_false]
  refine wpAny_bind (iterItems (s := sA s h₃ tk) (Z₂.go.has _ hv).1 (Z₂.go.has _ hl).1 hd ?_)
  have ei := Heap.get?_push_size (o := itmO .none false d 0 es.size ep .none .none) h₃ rfl
  have Z₃ := Z₂.moreM (.push _) ei (by show Value.type _ ≠ Value.type _; decide) (fresh_size h₃)
  refine wpAny_bind (wpAny_holding (kdx_hint (hT (Z₃.go.has _ hv).1) ?_))
  have go : ∀ (h₄ : Heap) (tk₄ c₄ : Nat), St T h₀ B O env A m D ((h₃.objs.size, itmO .none false d 0 es.size ep .none .none) :: (h.objs.size, lsOf [] c₄) :: M) h₄ →
      codeAny (model prog w) A.in1 (.builtin "list.extend.loop" ⟨[.ref h.objs.size, .ref h₃.objs.size, .none], []⟩) (wants (fun r s₂ => r = Value.none ∧ Q (.ref h.objs.size) s₂) E) (sA s h₄ tk₄) := fun h₄ tk₄ c₄ Z₄ =>
    itmLoop (A := A.in1) (B := B) (h₀ := h₀) (O := O) (env := env) (m := m) (M := M) hl hd hn (fun h' tk' D' vs c' hD' hvs Z' => ⟨rfl, hQ _ vs c' h' tk' _ (fun p hp => List.mem_append_right _ (hD' p hp)) (hvs.mono fun p hp => List.mem_append_right _ hp) (List.mem_append_left _ (.head _)) ((Z'.settle (L := [(h.objs.size, lsOf vs c')]) (M := M)).around ⟨Z'.go.fs.hd, Z'.go.fs.fr⟩)⟩)
      es.size 0 h₄ tk₄ D .none false .none .none [] c₄ (by omega) (Nat.zero_le _) (fun _ q => q) (.inl ⟨rfl, rfl⟩) ⟨rfl, fun j v q => by simp at q⟩ Z₄.in1.in1
  refine wpAny_ite_split (fun _ => ?_) (fun _ => wpAny_pure ⟨plainId_quiet PySem.F.plain_extend_loop _, ?_⟩)
  · refine wpAny_bind (wpAny_rule ?_)
    refine wpAny_bind ?_
    show wpAny _ A.in1.in1 (updateSeq h.objs.size (·.push .none) >>= fun _ => updateSeq h.objs.size (·.pop)) _ _ _
    have e3 := (Z₃.mu _ (.tail _ (.head _))).1
    refine wpAny_bind (wpAny_updateSeq (s := sA s _ tk) e3 rfl ?_)
    have e4 := Heap.get?_update_self (Obj.mapSeq (·.push Value.none)) e3 rfl
    have e5' : Obj.mapSeq (·.push Value.none) (lsOf [] c) = lsOf [.none] (c + 1) := by rw [Obj.mapSeq_push_plain]; rfl
    rw [e5'] at e4
    have Z₄ := St.turn1 (L := [(h₃.objs.size, itmO .none false d 0 es.size ep .none .none)]) Z₃ (Heap.SameBut.update ..) e4 (by show Value.type _ ≠ Value.type _; decide) (fun vs q => by cases q)
    refine wpAny_updateSeq (s := sA s ((h₃.push (itmO .none false d 0 es.size ep .none .none)).update h.objs.size (Obj.mapSeq (·.push Value.none))) tk) e4 rfl ?_
    have e6 := Heap.get?_update_self (Obj.mapSeq (·.pop)) e4 rfl
    have e7 : ∃ c', Obj.mapSeq (·.pop) (lsOf [.none] (c + 1)) = lsOf [] c' := ⟨_, by simp [Obj.mapSeq]; rfl⟩
    obtain ⟨c', e7⟩ := e7
    rw [e7] at e6
    have Z₅ := St.turn1 (L := [(h₃.objs.size, itmO .none false d 0 es.size ep .none .none)]) Z₄ (Heap.SameBut.update ..) e6 (by show Value.type _ ≠ Value.type _; decide) (fun vs q => by cases q)
    exact wpAny_pure ⟨plainId_quiet PySem.F.plain_extend_loop _, go _ tk c' Z₅⟩
  · exact go _ tk c Z₃
end
end Mine
end
section
namespace Mine
section
variable {prog : Program} {w : World} {K : Frag} {T h₀ h h' : Heap} {O : List Addr} {env : Env} {A A' : Around} {m : Str → Option Value} {B D D' M M' L L' : Led} {s : Shared} {tk : Nat} {E : Value → Shared → Prop}
/-- items() of an object that bears a dict's data -/
theorem itemsO {C d : Addr} {o : Obj} {od : Option Obj} {Q : Value → Shared → Prop} (Z : St T h₀ B O env A m D M h) (X : K.In h) (I : InstAt h d o C od) (hi : subIn K (.ref C) (.type "dict") = some true) (hO : subIn K (.ref C) (.type "collections.OrderedDict") = some false) (hsys : (d == sysModules) = false)
    (hQ : ∀ v h' tk', St T h₀ B O env A m ((v, itmView d) :: D) M h' → Q (.ref v) (sA s h' tk')) :
    wpAny (model prog w) A (call (.builtin "dict.items") [.ref d]) Q E (sA s h tk) := by
  refine wpAny_call (bi_dict_items.code PySem.F.entry_dict_items (inst_isi X I hi) (PySem.F.args_dict_items_1 _) ?_)
  unfold Builtin.«dict.items» Builtin.Dict.noArgs
  refine wpAny_bind (wpAny_bind (notOrd (s := sA s h tk) X I hO ?_))
  show wpAny _ _ (pure d) _ _ (sA s h tk)
  refine wpAny_pure ?_
  show wpAny _ _ (Builtin.Dict.showsAll d >>= _) _ _ (sA s h tk)
  unfold Builtin.Dict.showsAll
  rw [if_neg (by rw [hsys]; exact Bool.false_ne_true)]
  have e := Heap.get?_push_size (o := itmView d) h rfl
  exact wpAny_bind (wpAny_pure (wpAny_bind (wpAny_newObj_type (wpAny_pure (hQ _ _ tk (Z.more (D' := [(h.objs.size, itmView d)]) (.push _) (Has.cons e (by show Value.type _ ≠ Value.type _; decide) .nil) (fun p hp => by rw [List.mem_singleton.mp hp]; exact fresh_size _)))))))
/-- items() of an exact dict -/
theorem itemsD {d : Addr} {o : Obj} {kvs : List (Str × Value)} {Q : Value → Shared → Prop} (Z : St T h₀ B O env A m D M h) (hl : (d, o) ∈ D) (lo : (d == sysModules) = false) (hd : o.IsDictOf (strKind prog w) kvs)
    (hQ : ∀ v h' tk', St T h₀ B O env A m ((v, itmView d) :: D) M h' → Q (.ref v) (sA s h' tk')) :
    wpAny (model prog w) A (call (.builtin "dict.items") [.ref d]) Q E (sA s h tk) := by
  have hD : (sA s h tk).heap.DictOf (strKind prog w) d kvs := Heap.dictOf_iff.mpr ⟨o, (Z.go.has _ hl).1, hd⟩
  have e := Heap.get?_push_size (o := itmView d) h rfl
  exact call_meetsIn PySem.F.slot_dict_items hD.typeIs PySem.F.entry_dict_items (PySem.F.args_dict_items_1 _) (meets_dict_items _ d lo) ⟨⟨kvs, hD⟩, hQ _ _ tk (Z.more (D' := [(h.objs.size, itmView d)]) (.push _) (Has.cons e (by show Value.type _ ≠ Value.type _; decide) .nil) (fun p hp => by rw [List.mem_singleton.mp hp]; exact fresh_size _))⟩
theorem datOf {D : Led} : ∀ {vs : List Value} {ds : List Dat}, vs.length = ds.length → (∀ (j : Nat) (v : Value) (d : Dat), vs[j]? = some v → ds[j]? = some d → DatIn D v d) → DatAll D vs ds
  | [], [], _, _ => .nil
  | v :: vs, d :: ds, hl, h => .cons (h 0 v d rfl rfl) (datOf (by simpa using hl) fun j v d a b => h (j + 1) v d a b)
  | [], _ :: _, hl, _ => by simp at hl
  | _ :: _, [], hl, _ => by simp at hl
end
end Mine
end
section
namespace Mine
theorem strs_okD2 {l : List Str} (h : okS l) (n : Nat) : kqdOk (n + 2) (strsD l) = true := by
  show (l.map Dat.str).all (kqdOk (n + 1)) = true
  rw [List.all_eq_true]
  intro d hd
  obtain ⟨x, hx, rfl⟩ := List.mem_map.mp hd
  exact h x hx
noncomputable abbrev pairsD (nd : List (Str × Str)) : Dat := .list (nd.map fun p => Dat.tuple [.str p.1, .str p.2])
theorem pairs_okD {nd : List (Str × Str)} (h : Small nd) : kqdOk 9 (pairsD nd) = true := by
  show (nd.map fun p => Dat.tuple [.str p.1, .str p.2]).all (kqdOk 8) = true
  rw [List.all_eq_true]
  intro d hd
  obtain ⟨p, hp, rfl⟩ := List.mem_map.mp hd
  show [Dat.str p.1, Dat.str p.2].all (kqdOk 7) = true
  simp only [List.all_cons, List.all_nil, Bool.and_true, Bool.and_eq_true]
  exact (h p hp).2
theorem got_ok {nd : List (Str × Str)} (h : Small nd) (x : Str) : PyData.strOk (got nd x) = true := by
  unfold got
  cases q : look nd x with
  | none => exact (by decide +kernel : PyData.strOk nil0 = true)
  | some b => exact (h _ (look_mem q)).2.2
section
variable {prog : Program} {w : World}
theorem itmDatS {es : Array DictEntry} {kvs : List (Str × Value)} {nd : List (Str × Str)} {D : Led} {vs : List Value} (hp : Pairs (strKind prog w) es.toList kvs) (hkv : KV SV kvs nd) (h : ItmAll es D vs es.size) : DatAll D vs (nd.map fun p => Dat.tuple [.str p.1, .str p.2]) := by
  have hl := pairs_len hp
  have hl2 : es.size = kvs.length := by simpa using hl
  refine datOf (by rw [h.1, List.length_map, hl2, hkv.len]) fun j v d hv hd => ?_
  obtain ⟨t, e, he, rfl, ht⟩ := h.2 j v hv
  rw [← Array.getElem?_toList] at he
  have hj := (List.getElem?_eq_some_iff.mp he).1
  have hk : kvs[j]? = some (kvs[j]'(by omega)) := List.getElem?_eq_getElem _
  obtain ⟨g1, g2⟩ := hp.get? he hk
  obtain ⟨b, hb, t2, g3⟩ := hkv.get hk
  rw [List.getElem?_map, hb] at hd
  cases hd
  have : ∃ t, e.key = .str (kvs[j]'(by omega)).1 t := by
    revert g1
    generalize e.key = kk
    intro g1
    cases kk <;> simp [PySem.strKind, Value.isStrOf] at g1
    exact ⟨_, by rw [g1]⟩
  obtain ⟨t', ht'⟩ := this
  have g4 : e.val = .str b t2 := g2.trans g3
  rw [ht', g4] at ht
  exact .tuple ht (.cons (.str _ _) (.cons (.str _ _) .nil))
end
noncomputable abbrev askL : List Str := ["a", "b", "c", "d", "a b"]
noncomputable abbrev toldD (nd : List (Str × Str)) (n : Nat) : List Dat := List.replicate n (strsD (askL.map (got nd)))
theorem told_ok {nd : List (Str × Str)} (h : Small nd) (n : Nat) : kqdOk 9 (.list (toldD nd n)) = true := by
  show (List.replicate n (strsD (askL.map (got nd)))).all (kqdOk 8) = true
  rw [List.all_eq_true]
  intro d hd
  rw [List.eq_of_mem_replicate hd]
  refine strs_okD2 (fun x hx => ?_) 6
  obtain ⟨y, _, rfl⟩ := List.mem_map.mp hx
  exact got_ok h y
theorem told_succ {nd : List (Str × Str)} {D : Led} {us : List Value} {n : Nat} {v : Value} (h : DatAll D us (toldD nd n)) (g : DatIn D v (strsD (askL.map (got nd)))) : DatAll D (us ++ [v]) (toldD nd (n + 1)) := by
  have e : toldD nd (n + 1) = toldD nd n ++ [strsD (askL.map (got nd))] := List.replicate_succ'
  rw [e]
  exact h.append (.one g)
section
variable {w : World} {T h₀ h : Heap} {A : Around} {env : Env} {m : Str → Option Value} {O : List Addr} {B D M L : Led} {s : Shared} {tk : Nat} {E : Value → Shared → Prop}
set_option maxHeartbeats 2000000 in
theorem holds_spec {x d : Addr} {nd : List (Str × Str)} {Q : Value → Shared → Prop} (C : Cx (K01 w.params) T) (Z₀ : St T h₀ B O env A m D M h) (hroom : Room 60 A)
  (hb : Bk w D x nd) (hd : Pl w D d nd) (hsm : Small nd) (hlen : nd.length ≤ 100)
  (hQ : ∀ h' tk' D', (∀ p ∈ D, p ∈ D') → St T h₀ B O env A m D' M h' → Q (.bool true) (sA s h' tk')) :
  wpAny (model PySem.Challenge.rw_il0126_02.row.prog w) A (call (.ref 288) [.ref x, .ref d]) Q E (sA s h tk) := by
  have go := Z₀.go
  have ret : ∀ {O' : List Addr} {env' : Env} {A' : Around} {m' : Str → Option Value} {D' M' : Led} {h' : Heap}, St T h D O' env' A' m' D' M' h' → St T h₀ B O env A m (D' ++ D) M h' := fun Y => Z₀.ret Y
  clear Z₀
  have C0 := C
  revert C; k_fill; intro C
  refine' callFn0 (binds := [("book", .ref x), ("plain", .ref d)]) ?C ?go ?room ?ho ?hd ?hbody ?hcd ?hbind ?hcl ?hk ?hco ?hgen ?hnames ?hlook ?hbs ?hB
  walk_at "enter"
  intro Lf O h₁ tk₁ E' hL hO Z
  subst hO
  dsimp only [bindAll, List.foldl] at Z ⊢
  walk_at "es"
  rename_i t1 _ t2 _ t3 _ t4 _ t5 _ al h₂ tk₂ _ h₃ tk₃ Z₃
  have hask : StrsAre [Value.str "a" t1, Value.str "b" t2, Value.str "c" t3, Value.str "d" t4, Value.str "a b" t5] askL := .cons _ _ (.cons _ _ (.cons _ _ (.cons _ _ (.cons _ _ .nil))))
  clear Z
  refine' compU Z₃ ?hsw ?hy ?hlo ?hke ?hgens ?hs ?hrs ?hclos ?hkind ?hnames ?hcl ?hclN ?hnm ?hlook ?hcll ?hh
  case hsw => rfl
  case hy => rfl
  case hlo => exact .head _
  case hke => rfl
  walk_at "comp"
  intro E₃
  have Z₉ := Z₃.sub
  walk_at "ss"
  have hbA := hb.mono (D' := (al, lsOf [Value.str "a" t1, Value.str "b" t2, Value.str "c" t3, Value.str "d" t4, Value.str "a b" t5] 0) :: D) fun p hp => .tail _ hp
  have hdA := hd.mono (D' := (al, lsOf [Value.str "a" t1, Value.str "b" t2, Value.str "c" t3, Value.str "d" t4, Value.str "a b" t5] 0) :: D) fun p hp => .tail _ hp
  have hmA : (al, lsOf [Value.str "a" t1, Value.str "b" t2, Value.str "c" t3, Value.str "d" t4, Value.str "a b" t5] 0) ∈ (al, lsOf [Value.str "a" t1, Value.str "b" t2, Value.str "c" t3, Value.str "d" t4, Value.str "a b" t5] 0) :: D := .head _
  refine bk_iter C0 Z₉ hbA ?_
  intro it₂ h₆ tk₆ L₃ Mi₂ hM₂ I₂ _ _ _ Z₁₀
  refine ⟨it₂, _, _, _, _, _, h₆, tk₆, rfl, rfl, I₂, hM₂, Z₁₀.permM (fun _ q => List.mem_append_left _ q) (nd_left Z₁₀.ndM), hroom.deeper.le (by decide), ?_⟩
  intro acc c h₇ tk₇ L₄ Z₁₁
  refine compLast rfl rfl I₂ (fun j D₅ us => DatAll D₅ us (toldD nd j)) Z₁₁ hM₂ .nil (hroom.deeper.le (by decide)) ?sz ?step2 ?fin2
  case sz =>
    intro j D₃ us hj hJ
    rw [hJ.length, List.length_replicate]
    show _ ≤ 16777216
    omega
  case step2 =>
    rintro j v D₃ L₉ us c₃ h₁₂ tk₁₂ E₁₀ hj ⟨p, t, hp, rfl⟩ hJ hD₃ Z₁₆
    walk_at "ss"
    refine tests0 ?_
    walk_at "ss"
    rename_i h₁₃ tk₁₃ Z₁₇
    refine' compI Z₁₇ ?hgens2 ?hs2 ?hrs2 ?hclos2 ?hkind2 ?hnames2 ?hcl2 ?hclN2 ?hnm2 ?hlook2 ?hcll2 ?hh2
    walk_at "comp2"
    intro E₁₁
    have Z₁₈ := Z₁₇.sub
    walk_at "ss"
    refine iterL Z₁₈ (hD₃ _ hmA) ?_
    intro it₃ h₁₄ tk₁₄ L₅ hM₃ _ I₃ _ _ Z₁₉
    refine ⟨it₃, _, _, _, _, _, h₁₄, tk₁₄, rfl, rfl, I₃, hM₃, Z₁₉.permM (fun _ q => List.mem_append_left _ q) (nd_left Z₁₉.ndM), hroom.deeper.le (by decide), ?_⟩
    intro acc2 c2 h₁₅ tk₁₅ L₆ Z₂₀
    refine compLast rfl rfl I₃ (fun q _ us => StrsAre us ((askL.take q).map (got nd))) Z₂₀ hM₃ .nil (hroom.deeper.le (by decide)) ?sz3 ?step3 ?fin3
    case sz3 =>
      intro q D₄ xs hq hJ2
      rw [strs_len hJ2, List.length_map, List.length_take]
      show min q 5 ≤ 16777216
      omega
    case step3 =>
      intro q v D₄ L₁₀ xs c₄ h₁₆ tk₁₆ E₁₂ hq hv hJ2 hD₄ Z₂₁
      obtain ⟨y, ty, hy, rfl⟩ := strs_get hask hv
      walk_at "ss"
      refine tests0 ?_
      walk_at "ss"
      rename_i Z₂₂
      refine bk_get C0 Z₂₂ (hroom.deeper.le (by decide)) (hbA.mono fun p hp => hD₄ _ (hD₃ _ hp)) (by with_unfolding_all rfl) ?_
      intro t' h₁₇ tk₁₇ D₆ hD₆ Z₂₃
      refine ⟨_, _, _, D₆, rfl, hD₆, up_none rfl, Z₂₃, ?_⟩
      rw [List.take_add_one, hy, Option.toList, List.map_append]
      exact strs_snoc hJ2
    case fin3 =>
      intro h₁₆ tk₁₆ D₄ xs c₄ hD₄ hJ2 Z₂₁
      refine ⟨rfl, h₁₆, tk₁₆, D₄, xs, c₄, _, _, rfl, Z₂₁, ?_⟩
      intro h₁₇ tk₁₇ hk₁₇ Z₂₂
      refine ⟨_, _, _, _, rfl, fun _ q => List.mem_append_right _ q, up_none rfl, Z₂₂, ?_⟩
      exact told_succ (hJ.mono fun p hp => List.mem_append_right _ hp) (.list (List.mem_append_left _ (.head _)) (datX hJ2))
  case fin2 =>
    intro h₁₂ tk₁₂ D₃ us c₂ hD₃ hJ Z₁₃
    refine ⟨rfl, h₁₂, tk₁₂, D₃, us, c₂, _, _, rfl, Z₁₃, ?_⟩
    intro h₁₃ tk₁₃ Z₁₄
    clear Z₁₃ Z₁₁ Z₁₀ Z₉
    walk_at "ss"
    have upA : ∀ p ∈ (al, lsOf [Value.str "a" t1, Value.str "b" t2, Value.str "c" t3, Value.str "d" t4, Value.str "a b" t5] 0) :: D, p ∈ (acc, lsOf us c₂) :: D₃ ++ (al, lsOf [Value.str "a" t1, Value.str "b" t2, Value.str "c" t3, Value.str "d" t4, Value.str "a b" t5] 0) :: D := fun p hp => List.mem_append_right _ hp
    have hmB := upA _ hmA
    have hbB := hbA.mono upA
    have hdB := hdA.mono upA
    have hmT : (acc, lsOf us c₂) ∈ (acc, lsOf us c₂) :: D₃ ++ (al, lsOf [Value.str "a" t1, Value.str "b" t2, Value.str "c" t3, Value.str "d" t4, Value.str "a b" t5] 0) :: D := .head _
    have hJB : DatAll ((acc, lsOf us c₂) :: D₃ ++ (al, lsOf [Value.str "a" t1, Value.str "b" t2, Value.str "c" t3, Value.str "d" t4, Value.str "a b" t5] 0) :: D) us (toldD nd nd.length) := hJ.mono fun p hp => .tail _ (List.mem_append_left _ hp)
    generalize (acc, lsOf us c₂) :: D₃ ++ (al, lsOf [Value.str "a" t1, Value.str "b" t2, Value.str "c" t3, Value.str "d" t4, Value.str "a b" t5] 0) :: D = DB at *
    clear hJ hbA hdA upA hD₃
    refine PyProof.Rows.BoolOp_and ?_
    walk_at "ss"
    refine' compI Z₁₄ ?hgens3 ?hs3 ?hrs3 ?hclos3 ?hkind3 ?hnames3 ?hcl3 ?hclN3 ?hnm3 ?hlook3 ?hcll3 ?hh3
    walk_at "comp3"
    intro E₅
    have Z₁₅ := Z₁₄.sub
    walk_at "ss"
    obtain ⟨od, kvs, hmd, hdsys, hdi, hkv⟩ := id hdB
    refine iterD Z₁₅ hmd hdsys hdi ?_
    intro it₄ h₁₆ tk₁₆ L₅ Mi₄ hM₄ I₄ _ _ Z₁₆
    refine ⟨it₄, _, _, _, _, _, h₁₆, tk₁₆, rfl, rfl, I₄, hM₄, Z₁₆.permM (fun _ q => List.mem_append_left _ q) (nd_left Z₁₆.ndM), hroom.deeper.le (by decide), ?_⟩
    intro acc3 c3 h₁₇ tk₁₇ L₆ Z₁₇
    refine compLast rfl rfl I₄ (fun j D₅ us => DatAll D₅ us (toldD nd j)) Z₁₇ hM₄ .nil (hroom.deeper.le (by decide)) ?sz4 ?step4 ?fin4
    case sz4 =>
      intro j D₃ us hj hJ
      rw [hJ.length, List.length_replicate]
      have := hkv.len
      show _ ≤ 16777216
      omega
    case step4 =>
      rintro j v D₃ L₉ us3 c₅ h₁₈ tk₁₈ E₁₀ hj ⟨p, t, hp, rfl⟩ hJ hD₃ Z₁₈
      walk_at "ss"
      refine tests0 ?_
      walk_at "ss"
      rename_i h₁₉ tk₁₉ Z₁₉
      refine' compI Z₁₉ ?hgens4 ?hs4 ?hrs4 ?hclos4 ?hkind4 ?hnames4 ?hcl4 ?hclN4 ?hnm4 ?hlook4 ?hcll4 ?hh4
      walk_at "comp4"
      intro E₁₁
      have Z₂₀ := Z₁₉.sub
      walk_at "ss"
      refine iterL Z₂₀ (hD₃ _ hmB) ?_
      intro it₅ h₂₀ tk₂₀ L₇ hM₅ _ I₅ _ _ Z₂₁
      refine ⟨it₅, _, _, _, _, _, h₂₀, tk₂₀, rfl, rfl, I₅, hM₅, Z₂₁.permM (fun _ q => List.mem_append_left _ q) (nd_left Z₂₁.ndM), hroom.deeper.le (by decide), ?_⟩
      intro acc4 c4 h₂₁ tk₂₁ L₈ Z₂₂
      refine compLast rfl rfl I₅ (fun q _ us => StrsAre us ((askL.take q).map (got nd))) Z₂₂ hM₅ .nil (hroom.deeper.le (by decide)) ?sz5 ?step5 ?fin5
      case sz5 =>
        intro q D₄ xs hq hJ2
        rw [strs_len hJ2, List.length_map, List.length_take]
        show min q 5 ≤ 16777216
        omega
      case step5 =>
        intro q v D₄ L₁₀ xs c₆ h₂₂ tk₂₂ E₁₂ hq hv hJ2 hD₄ Z₂₃
        obtain ⟨y, ty, hy, rfl⟩ := strs_get hask hv
        walk_at "ss"
        refine tests0 ?_
        walk_at "ss"
        rename_i h₂₃ tk₂₃ Z₂₄
        have hmd4 := hD₄ _ (hD₃ _ hmd)
        refine mtGet Z₂₄.go.has hmd4 hdi ?_
        walk_at "ss"
        refine getD Z₂₄.go.has hmd4 hdsys hdi ?_
        intro tk₂₄
        have hgot : ∀ u, ∃ t', (valueAt kvs y).getD (.str nil0 u) = .str (got nd y) t' := fun u => by
          unfold got
          rcases hkv.value y with ⟨q1, q2⟩ | ⟨v, b, q1, q2, t', rfl⟩
          · rw [q1, q2]; exact ⟨_, rfl⟩
          · rw [q1, q2]; exact ⟨_, rfl⟩
        obtain ⟨t', e'⟩ := hgot _
        rw [e']
        refine ⟨_, _, _, D₄, rfl, fun _ q => q, up_none rfl, Z₂₄, ?_⟩
        rw [List.take_add_one, hy, Option.toList, List.map_append]
        exact strs_snoc hJ2
      case fin5 =>
        intro h₂₂ tk₂₂ D₄ xs c₆ hD₄ hJ2 Z₂₃
        refine ⟨rfl, h₂₂, tk₂₂, D₄, xs, c₆, _, _, rfl, Z₂₃, ?_⟩
        intro h₂₃ tk₂₃ hk₂₃ Z₂₄
        refine ⟨_, _, _, _, rfl, fun _ q => List.mem_append_right _ q, up_none rfl, Z₂₄, ?_⟩
        exact told_succ (hJ.mono fun p hp => List.mem_append_right _ hp) (.list (List.mem_append_left _ (.head _)) (datX hJ2))
    case fin4 =>
      intro h₁₈ tk₁₈ D₃ us3 c₅ hD₃ hJ Z₁₈
      refine ⟨rfl, h₁₈, tk₁₈, D₃, us3, c₅, _, _, rfl, Z₁₈, ?_⟩
      intro h₁₉ tk₁₉ hk₁₉ Z₁₉
      rw [hkv.len] at hJ
      clear Z₁₈ Z₁₇ Z₁₆ Z₁₅
      have upC : ∀ p ∈ DB, p ∈ (acc3, lsOf us3 c₅) :: D₃ ++ DB := fun p hp => List.mem_append_right _ hp
      have hunits : ∀ n, n ≤ 50 → A.units + n + 64 < cLine := fun n hn => by have := hroom.2; omega
      refine eqDat (b := true) (da := .list (toldD nd nd.length)) (db := .list (toldD nd nd.length)) Z₁₉.go.has (.list (upC _ hmT) (hJB.mono upC)) (.list (List.mem_append_left _ (.head _)) (hJ.mono fun p hp => .tail _ (List.mem_append_left _ hp))) (told_ok hsm _) (told_ok hsm _) (hunits 3 (by decide)) ⟨fun _ => rfl, fun _ => rfl⟩ ?_
      walk_at "ss"
      refine PyProof.Rows.BoolOp_one ?_
      walk_at "ss"
      have hbC := hbB.mono upC
      have hmdC := upC _ hmd
      have hm2 := fun (q : Addr × Obj) (hq : q ∈ DB) => upC q hq
      generalize (acc3, lsOf us3 c₅) :: D₃ ++ DB = DC at *
      obtain ⟨lf, dx, ox, odx, kvb, hbo, hx, hdx, hz, hfac, hkvb, hsys⟩ := id hbC
      obtain ⟨_, _, _, _, _, _, _, _, _, _, _, _, _, _, _, hz8⟩ := hz
      refine' al_method (f := .builtin "dict.items") (tf := .type "method_descriptor") ga_dd ?X7 (hbo.inst (Z₁₉.go.has _ hx).1 (Z₁₉.go.has _ hdx).1) ?hga7 ?hk7 ?hf7 ?ht7 ?htf7 hz8.1 ?_
      case X7 => exact C.inn Z₁₉.go.kT
      case hga7 => k_is
      case hk7 => k_is
      case hf7 => k_is
      case ht7 => k_is
      case htf7 => decide +kernel
      dsimp only
      walk_at "s"
      refine' itemsO (C := 152) Z₁₉ ?X8 (hbo.inst (Z₁₉.go.has _ hx).1 (Z₁₉.go.has _ hdx).1) ?hi8 ?hO8 hsys ?_
      case X8 => exact C.inn Z₁₉.go.kT
      case hi8 => k_is
      case hO8 => k_is
      intro v1 h₄₅ tk₄₅ Z₄₅
      walk_at "ss"
      obtain ⟨esb, epb, hdb, hkb, hpb, hnb⟩ := hbo.bears
      have hlb : esb.size = kvb.length := by have := pairs_len hpb; simpa using this
      refine listItems Z₄₅ (.head _) (.tail _ hx) hdb (by rw [hlb, hkvb.len]; omega) ?_
      intro a4 vs4 c4 h₄₆ tk₄₆ D₁₄ hD₁₄ hi4 hm4 Z₄₆
      walk_at "ss"
      have upL : ∀ p ∈ DC, p ∈ D₁₄ := fun p hp => hD₁₄ _ (.tail _ hp)
      refine kdl_method (knd := PySem.strKind _ _) (s := sA s h₄₆ _) PySem.F.slot_dict_items PySem.F.type_dict_items Z₄₆.go.has.news (upL _ hmdC) hdi ?_
      dsimp only
      walk_at "s"
      refine itemsD Z₄₆ (upL _ hmdC) hdsys hdi ?_
      intro v5 h₄₇ tk₄₇ Z₄₇
      walk_at "ss"
      obtain ⟨esd, epd, hxd, hdd, hkd, hpd, hnd⟩ := hdi
      have hld : esd.size = kvs.length := by have := pairs_len hpd; simpa using this
      refine listItems Z₄₇ (.head _) (.tail _ (upL _ hmdC)) hdd (by rw [hld, hkv.len]; omega) ?_
      intro a6 vs6 c6 h₄₈ tk₄₈ D₁₅ hD₁₅ hi6 hm6 Z₄₈
      have upM : ∀ p ∈ D₁₄, p ∈ D₁₅ := fun p hp => hD₁₅ _ (.tail _ hp)
      have hA := itmDatS hpb hkvb (hi4.mono upM)
      have hB := itmDatS hpd hkv hi6
      walk_at "ss"
      refine eqDat (b := true) (da := pairsD nd) (db := pairsD nd) Z₄₈.go.has (.list (upM _ hm4) hA) (.list hm6 hB) (pairs_okD hsm) (pairs_okD hsm) (hunits 3 (by decide)) ⟨fun _ => rfl, fun _ => rfl⟩ ?_
      walk_at "ss"
      exact hQ _ _ _ (fun p hp => List.mem_append_right _ hp) (ret Z₄₈)
end
end Mine
end
section
open PySem PySem.W PyProof.Rows PySem.Calls Builtin Builtin.ObjectAttr
namespace Mine
theorem bi_dict_keys_type : typeOf (.builtin "dict.keys") = pure (.type "method_descriptor") := by
  show builtinType _ = _
  rw [builtinType_eq_fast]; kernel_rfl
theorem inst_keeps {h h' : Heap} {x C : Addr} {ox : Obj} {od : Option Obj} (I : InstAt h x ox C od) (k : ∀ b o, h.get? b = some o → h'.get? b = some o) : InstAt h' x ox C od :=
  ⟨k _ _ I.at_, I.cls, I.no, by have := I.dict; revert this; cases ox.dict <;> cases od <;> simp <;> exact fun e => k _ _ e⟩
theorem findObj_meth {K : Frag} {C : Addr} {od : Obj} {name : Str} {a g : Value} (hh : hasDictIn K C = true) (ha : findIn K (.ref C) name = some (some a)) (hg : specialIn K a "__get__" = some (some g)) (ht : takesIn K a = some false) (hl : lookIn name od = some none) (hc : copiedNames.contains name = false) : findObj K C (some od) name = some (.bind g a) := by
  obtain ⟨cd, hc', hd⟩ := any_some hh
  unfold findObj
  have ho : PySem.W.ownOf cd (some od) name = some none := by unfold PySem.W.ownOf; rw [if_pos hd]; exact hl
  rw [hc', Option.bind_some, ha, Option.bind_some]
  dsimp only
  rw [hg, Option.bind_some]
  dsimp only
  rw [ht, Option.bind_some]
  dsimp only
  rw [ho, Option.bind_some, hc]
  rfl
section
variable {prog : Program} {w : World} {A : Around} {E : Value → Shared → Prop} {h : Heap} {g : Array GenState} {d : Drawn} {t : Nat} {os : OsState} {K : Frag} {x C so : Addr}
/-- method_descriptor.__get__ of dict.keys -/
theorem keys_get {ox : Obj} {od : Option Obj} {R : Result → Shared → Prop} (X : K.In h) (I : InstAt h x ox C od) (hi : subIn K (.ref C) (.type "dict") = some true) (hq : R (.ok (.ret (.ref h.objs.size))) ⟨h.push { cls := .type "builtin_function_or_method", data := .fields #[.builtin "dict.keys", .ref x] }, g, d, t, os⟩) :
    codeAny (model prog w) A (.call (.builtin "method_descriptor.__get__") ⟨[.builtin "dict.keys", .ref x, .ref C], []⟩) R ⟨h, g, d, t, os⟩ := by
  have hT5 : (⟨h, g, d, t, os⟩ : Shared).TypeIs (.builtin "dict.keys") "method_descriptor" := bi_dict_keys_type
  have f8 := inst_isi (M := model prog w) X I hi
  have e8 : (".".intercalate ("dict.keys".cutAt '.').dropLast) = "dict" := by decide +kernel
  rw [← e8] at f8
  refine codeAny_call_builtin F.slot_md_get.plain F.entry_md_get (F.slot_md_get.check _ _ _ _ _ _ _ _ hT5 (F.args_md_get _ _ _) ?_)
  unfold Builtin.«method_descriptor.__get__»
  repeat (any_goals (first | assumption | (with_reducible refine f8.here ?_) | lk | wp_step))
end
section
variable {prog : Program} {w : World} {A : Around} {E : Value → Shared → Prop} {s : Shared} {n o : Addr} {oo : Obj} {kvs : List (Str × Value)}
theorem key_part {es : Array DictEntry} (hp : Pairs (strKind prog w) es.toList kvs) : es.all (fun e => (keyPart e.key).isSome) = true := by
  rw [← Array.all_toList, List.all_eq_true]
  intro e he
  obtain ⟨i, hi, rfl⟩ := List.mem_iff_getElem.mp he
  have hl := pairs_len hp
  have hk : kvs[i]? = some (kvs[i]'(by omega)) := List.getElem?_eq_getElem _
  have g1 := (hp.get? (List.getElem?_eq_getElem hi) hk).1
  revert g1
  generalize (es.toList[i]).key = kk
  intro g1
  cases kk <;> simp [PySem.strKind, Value.isStrOf] at g1
  rfl
/-- an exact empty dict takes what a bearer has, of at most 8 texts -/
theorem takeAll {nm : String} {Q : Unit → Shared → Prop} (hno : n ≠ o) (hsys : (o == sysModules) = false) (hN : s.heap.DictOf (strKind prog w) n []) (ho : s.heap.get? o = some oo) (hb : Bears (strKind prog w) oo kvs) (h8 : kvs.length ≤ 8)
    (hQ : ∀ h', h'.DictOf (strKind prog w) n kvs → Heap.SameBut n s.heap h' → Q () { s with heap := h' }) : wpAny (model prog w) A (Builtin.Dict.mergeDict nm n o) Q E s := by
  obtain ⟨es, ep, hdt, hk, hp, hnd⟩ := hb
  have hl : es.size = kvs.length := by have := pairs_len hp; simpa using this
  have hfew : (decide (es.size ≤ 8) && es.all fun e => (keyPart e.key).isSome) = true := by rw [key_part hp, Bool.and_true]; exact decide_eq_true (by omega)
  unfold Builtin.Dict.mergeDict Builtin.Dict.showsAll
  rw [if_neg (by simpa using hno), if_neg (by rw [hsys]; exact Bool.false_ne_true)]
  refine wpAny_bind (wpAny_pure (wpAny_bind (wpAny_dictEntries ho hdt ?_)))
  dsimp only
  rw [hfew, if_neg (by decide)]
  refine wpAny_bind (wpAny_dictEpoch ho hdt (wpAny_bind (wpAny_dictEntries ho hdt (wpAny_bind ?_))))
  rw [Std.Legacy.Range.forIn_eq_forIn_range']
  simp only [Std.Legacy.Range.size, Nat.sub_zero, Nat.add_sub_cancel, Nat.div_one]
  have step : ∀ (k i : Nat) (h₁ : Heap), es.size - i = k → i ≤ es.size → h₁.DictOf (strKind prog w) n (merged [] (kvs.take i)) → Heap.SameBut n s.heap h₁ →
      wpAny (model prog w) A (forIn (List.range' i (es.size - i)) PUnit.unit fun i (_ : PUnit) => (do
          let l' ← dictEntries o
          match l'[i]? with
            | some e => do
              holding [e.key, e.val] (dictSetHashed n e.key e.hash e.val)
              let ep' ← dictEpoch o
              if (ep' != ep) = true then do
                  (unsupported (toString nm ++ toString ":source-changed-during-callback") : Sem PUnit)
                  pure (ForInStep.yield PUnit.unit)
                else pure (ForInStep.yield PUnit.unit)
            | _ => do
              (unsupported "internal:dict-merge" : Sem PUnit)
              pure (ForInStep.yield PUnit.unit) : Sem (ForInStep PUnit))) (fun _ s' => wpAny (model prog w) A (pure () : Sem Unit) Q E s') E { s with heap := h₁ } := by
    intro k
    induction k with
    | zero =>
      intro i h₁ hk' hi hd hs
      have hin : i = es.size := by omega
      rw [hk']
      refine wpAny_pure (wpAny_pure (hQ h₁ ?_ hs))
      rw [hin, hl, List.take_length, merged_nil_of_nodup kvs hnd] at hd
      exact hd
    | succ k ih =>
      intro i h₁ hk' hi hd hs
      have hlt : i < es.size := by omega
      have ho₁ : h₁.get? o = some oo := (hs.2 o (Ne.symm hno)).trans ho
      rw [hk', List.range'_succ, List.forIn_cons]
      refine wpAny_bind (wpAny_bind (wpAny_dictEntries (s := { s with heap := h₁ }) ho₁ hdt ?_))
      rw [Array.getElem?_eq_getElem hlt]
      have hkv : kvs[i]? = some (kvs[i]'(by omega)) := List.getElem?_eq_getElem _
      obtain ⟨g1, g2⟩ := hp.get? (by rw [Array.getElem?_toList]; exact Array.getElem?_eq_getElem hlt) hkv
      obtain ⟨k', hk1, hh⟩ := hk es[i] (Array.getElem_mem hlt)
      obtain rfl : k' = _ := (strKind prog w).inj _ _ _ hk1 g1
      dsimp only
      rw [hh, g2]
      have hsz : (merged [] (kvs.take i)).length ≤ sizeLine := by
        have e1 := merged_length_le ([] : List (Str × Value)) (kvs.take i)
        have e2 : (kvs.take i).length ≤ kvs.length := by rw [List.length_take]; omega
        rw [sizeLine_eq]
        simp only [List.length_nil] at e1
        omega
      refine wpAny_bind (wpAny_holding (wpAny_dictSetHashed_pairs (hsz := hsz) g1 hd fun h₂ hd₂ hs₂ => ?_))
      have ho₂ : h₂.get? o = some oo := (hs₂.2 o (Ne.symm hno)).trans ho₁
      refine wpAny_bind (wpAny_dictEpoch (s := { s with heap := h₂ }) ho₂ hdt ?_)
      rw [if_neg (by simp)]
      refine wpAny_pure ?_
      have e3 : es.size - (i + 1) = k := by omega
      have := ih (i + 1) h₂ e3 hlt (by rw [merged_take_succ [] kvs i _ hkv]; exact hd₂) (hs.trans hs₂)
      rw [e3] at this
      exact this
  have := step (es.size - 0) 0 s.heap rfl (Nat.zero_le _) (by simpa [merged] using hN) (Heap.SameBut.refl _ _)
  rw [Nat.sub_zero] at this
  exact this
end
section
variable {prog : Program} {w : World} {K : Frag} {T h₀ h h' : Heap} {O : List Addr} {env : Env} {A A' : Around} {m : Str → Option Value} {B D D' M M' L L' : Led} {s : Shared} {tk : Nat} {E : Value → Shared → Prop} {owner ga : String}
/-- dict(bearer) -/
theorem dictOfO {C o : Addr} {oo od : Obj} {kvs : List (Str × Value)} {Q : Value → Shared → Prop} (G : Ga owner ga) (C0 : Cx K T) (Z : St T h₀ B O env A m D M h) (I : InstAt h o oo C (some od)) (hga : findIn K (.ref C) "__getattribute__" = some (some (.builtin ga))) (hk : findIn K (.ref C) "__getattr__" = some none) (hio : subIn K (.ref C) (.type owner) = some true)
    (hf : findObj K C (some od) "keys" = some (.bind (.builtin "method_descriptor.__get__") (.builtin "dict.keys")))
    (hs : findIn K (.ref C) "__iter__" = some (some (.builtin "dict.__iter__"))) (hi : subIn K (.ref C) (.type "dict") = some true)
    (lo : (o == sysModules) = false) (hb : Bears (strKind prog w) oo kvs) (h8 : kvs.length ≤ 8) (hlow : sysModules < h.objs.size)
    (hQ : ∀ d o' h' tk', o'.IsDictOf (strKind prog w) kvs → (d == sysModules) = false → St T h₀ B O env A m D ((d, o') :: M) h' → Q (.ref d) (sA s h' tk')) :
    wpAny (model prog w) A (call (.type "dict") [.ref o]) Q E (sA s h tk) := by
  refine callType_codes (s := sA s h tk) (Q₁ := fun obj s₁ => obj = .ref h.objs.size ∧ s₁ = sA s (h.push { cls := .type "dict", data := .dict #[] }) tk) PySem.F.kt_called_dict (PySem.F.kt_typeCall_dict_1 _) PySem.F.entry_dict_init (kt_code_dict_new _ ⟨rfl, rfl⟩) ?_
  rintro obj s₁ ⟨rfl, rfl⟩
  have hdn : (h.push { cls := .type "dict", data := .dict #[] }).DictOf (strKind prog w) h.objs.size [] := Heap.DictOf.new h
  have Z₁ : St T h₀ B O env A m D ((h.objs.size, { cls := .type "dict", data := .dict #[] }) :: M) (h.push { cls := .type "dict", data := .dict #[] }) := Z.moreM (.push _) (Heap.get?_push_size _ rfl) (by show Value.type _ ≠ Value.type _; decide) (fresh_size h)
  have I₁ := inst_keeps I (h' := h.push { cls := .type "dict", data := .dict #[] }) fun b o e => Heap.get?_push_of_some _ e
  have hlt := Heap.lt_size I.at_
  have hne : h.objs.size ≠ o := fun e => by rw [e] at hlt; exact Nat.lt_irrefl _ hlt
  have hns : (h.objs.size == sysModules) = false := by simp only [beq_eq_false_iff_ne, ne_eq]; exact Nat.ne_of_gt hlow
  refine ⟨hdn.typeIs, PySem.F.args_dict_init_2 _ _, ?_⟩
  unfold Builtin.«dict.__init__»
  refine wpAny_bind ?_
  unfold Builtin.Dict.selfAndRest
  refine wpAny_bind (wpAny_notOrdered_dict hdn.typeIs ?_)
  show wpAny _ _ (pure (h.objs.size, [Value.ref o])) _ _ _
  refine wpAny_pure ?_
  show wpAny _ _ (Builtin.Dict.updateFrom "dict.__init__" h.objs.size (.ref o) [] .none) _ _ _
  unfold Builtin.Dict.updateFrom
  refine wpAny_bind (I₁.type.here ?_)
  rw [if_pos (show (Value.ref C != .type "dict") = true from rfl)]
  refine wpAny_bind ?_
  unfold getAttr? getAttrBy?
  refine wpAny_bind (wpAny_mkText (wpAny_bind (wpAny_attempt ?_)))
  refine al_bind (s := sA s (h.push { cls := .type "dict", data := .dict #[] }) (tk + 1)) G (C0.inn Z₁.go.kT) I₁ hga hk hio hf ?_
  intro E₂
  refine wpAny_call ?_
  refine keys_get (C0.inn Z₁.go.kT) I₁ hi ?_
  refine handed_on rfl ?_
  refine wpAny_pure ?_
  rw [if_neg (by simp)]
  have Z₂ := Z₁.step (.push { cls := .type "builtin_function_or_method", data := .fields #[.builtin "dict.keys", .ref o] })
  have I₂ := inst_keeps I₁ (h' := (h.push { cls := .type "dict", data := .dict #[] }).push { cls := .type "builtin_function_or_method", data := .fields #[.builtin "dict.keys", .ref o] }) fun b o e => Heap.get?_push_of_some _ e
  have hdn₂ : ((h.push { cls := .type "dict", data := .dict #[] }).push { cls := .type "builtin_function_or_method", data := .fields #[.builtin "dict.keys", .ref o] }).DictOf (strKind prog w) h.objs.size [] := hdn.push _
  generalize (h.push { cls := .type "dict", data := .dict #[] }).push { cls := .type "builtin_function_or_method", data := .fields #[.builtin "dict.keys", .ref o] } = h₂ at Z₂ I₂ hdn₂ ⊢
  have X₂ := C0.inn Z₂.go.kT
  refine wpAny_bind ?_
  unfold Builtin.Dict.merge
  refine wpAny_bind ?_
  unfold Builtin.Dict.readDirectly
  refine wpAny_bind ((inst_isi (M := model prog w) X₂ I₂ hi).here ?_)
  rw [if_neg (by decide)]
  unfold specialOf
  refine wpAny_bind (wpAny_bind (I₂.type.here ((looks_findIn X₂ hs).here (wpAny_pure ?_))))
  rw [if_pos (by decide)]
  refine wpAny_bind (wpAny_pure ?_)
  refine takeAll (s := sA s h₂ (tk + 1)) hne lo hdn₂ I₂.at_ hb h8 fun h₃ hd₃ hs₃ => ?_
  refine wpAny_bind (wpAny_pure (wpAny_pure ⟨rfl, ?_⟩))
  obtain ⟨o₃, e₃, hd₃'⟩ := Heap.dictOf_iff.mp hd₃
  have Z₃ := St.turn1 (L := []) Z₂ hs₃ e₃ (isDict_nf hd₃').1 (isDict_nf hd₃').2
  exact hQ _ o₃ h₃ (tk + 1) hd₃' hns Z₃
end
end Mine
end
section
namespace Mine
noncomputable def del {β : Type} (l : List (Str × β)) (x : Str) : List (Str × β) := l.filter fun p => decide (p.1 ≠ x)
theorem KV.del {β : Type} {R : Value → β → Prop} {kvs : List (Str × Value)} {nds : List (Str × β)} {x : Str} (h : KV R kvs nds) : KV R (PySem.without kvs x) (del nds x) := by
  induction h with
  | nil => exact .nil
  | @cons y v b kvs nds a _ ih =>
    unfold PySem.without Mine.del at ih ⊢
    simp only [List.filter_cons]
    by_cases q : y = x
    · simp only [q, ne_eq, not_true_eq_false, decide_false, Bool.false_eq_true, if_false]; exact ih
    · simp only [q, ne_eq, not_false_eq_true, decide_true, if_true]; exact .cons a ih
section
variable {prog : Program} {w : World} {T h₀ h h' : Heap} {O : List Addr} {env : Env} {A A' : Around} {m : Str → Option Value} {B D M L : Led} {s : Shared} {tk : Nat} {E : Value → Shared → Prop}
/-- d.pop(x) of a name that is there -/
theorem popD {d : Addr} {o : Obj} {kvs : List (Str × Value)} {x : Str} {t : Tok} {v : Value} {Q : Value → Shared → Prop} (Z : St T h₀ B O env A m D (L ++ (d, o) :: M) h) (hd : o.IsDictOf (strKind prog w) kvs) (hl : valueAt kvs x = some v) (hsz : kvs.length ≤ sizeLine)
    (hQ : ∀ o' h' tk', o'.IsDictOf (strKind prog w) (PySem.without kvs x) → St T h₀ B O env A m D (L ++ (d, o') :: M) h' → Q v (sA s h' tk')) : wpAny (model prog w) A' (call (.builtin "dict.pop") [.ref d, .str x t]) Q E (sA s h tk) := by
  have hD : (sA s h tk).heap.DictOf (strKind prog w) d kvs := Heap.dictOf_iff.mpr ⟨o, (Z.mu _ (List.mem_append_right _ (.head _))).1, hd⟩
  refine call_meetsIn PySem.F.slot_dict_pop hD.typeIs PySem.F.entry_dict_pop (PySem.F.args_dict_pop_2 _ _) (meets_dict_pop_there (strKind prog w) d (strKind_is prog w x t) [] (.inl rfl) rfl) ⟨kvs, v, hD, hsz, hl, fun h' hmm hs => ?_⟩
  obtain ⟨o', e', hd'⟩ := Heap.dictOf_iff.mp hmm
  exact hQ o' h' _ hd' (Z.turn1 hs e' (isDict_nf hd').1 (isDict_nf hd').2)
/-- d.pop, fetched -/
theorem mtPop {X : Led} {d : Addr} {o : Obj} {kvs : List (Str × Value)} {pl : Sem Bool} {Q : Value × List Value → Shared → Prop} (hX : Has h X) (hm : (d, o) ∈ X) (hd : o.IsDictOf (strKind prog w) kvs) (hQ : Q (.builtin "dict.pop", [.ref d]) (sA s h tk)) :
    wpAny (model prog w) A (getMethod (.ref d) "pop" pl) Q E (sA s h tk) := by
  have hD : (sA s h tk).heap.DictOf (strKind prog w) d kvs := Heap.dictOf_iff.mpr ⟨o, (hX _ hm).1, hd⟩
  exact getMethod_builtin hD.typeIs PySem.F.plainAttrs_dict PySem.F.slot_dict_pop PySem.F.type_dict_pop hD.mapOf.noDict hQ
noncomputable def SVV (v : Value) (x : Str) : Prop := ∃ t, v = .str x t
theorem hits_all {kb : List (Str × Value)} {nb : List (Str × Str)} (hkb : KV SVV kb nb) {ka : List (Str × Value)} {na : List (Str × Str)} (hka : KV SVV ka na) (hall : ∀ p ∈ na, look nb p.1 = some p.2) : KeqHits A s kb ka true := by
  induction hka with
  | nil => exact .nil
  | @cons y v b ka na a _ ih =>
    obtain ⟨t, rfl⟩ := a
    have h1 := hall _ (.head _)
    rcases hkb.value y with ⟨_, q2⟩ | ⟨v', b', q1, q2, u, rfl⟩
    · rw [q2] at h1; cases h1
    · rw [q2] at h1
      simp only [Option.some.injEq] at h1
      subst h1
      have := KeqHits.hit (A := A) (s := s) q1 (SeqAt.EqAt.str_str b' t b' u) (ih fun p hp => hall p (.tail _ hp))
      simpa using this
/-- two dicts of texts that hold the same -/
theorem eqDicts {X : Led} {a b : Addr} {oa ob : Obj} {ka kb : List (Str × Value)} {na nb : List (Str × Str)} {Q : Value → Shared → Prop} (hX : Has h X) (ha : (a, oa) ∈ X) (hb : (b, ob) ∈ X) (lo : (a == sysModules) = false) (lo2 : (b == sysModules) = false) (hda : oa.IsDictOf (strKind prog w) ka) (hdb : ob.IsDictOf (strKind prog w) kb)
    (hka : KV SVV ka na) (hkb : KV SVV kb nb) (hl : na.length = nb.length) (hall : ∀ p ∈ na, look nb p.1 = some p.2) (hu : A.units < cLine) (hQ : Q (.bool true) (sA s h tk)) : wpAny (model prog w) A (compareOp .Eq (.ref a) (.ref b)) Q E (sA s h tk) := by
  refine keq_eq (s := sA s h tk) (r := true) lo lo2 (Heap.dictOf_iff.mpr ⟨oa, (hX _ ha).1, hda⟩) (Heap.dictOf_iff.mpr ⟨ob, (hX _ hb).1, hdb⟩) hu (fun _ => hits_all hkb hka hall) ?_
  rw [hka.len, hkb.len, hl, beq_self_eq_true, Bool.true_and]
  exact hQ
end
end Mine
end
section
namespace Mine
noncomputable def stepP (nd : List (Str × Str)) (p : Str × Str) : List (Str × Str) := if p.2 = nil0 then del nd p.1 else put nd p.1 p.2
theorem del_len {β : Type} (l : List (Str × β)) (x : Str) : (del l x).length ≤ l.length := List.length_filter_le _ _
theorem step_len (ls nd : List (Str × Str)) : (ls.foldl stepP nd).length ≤ nd.length + ls.length := by
  induction ls generalizing nd with
  | nil => exact Nat.le_refl _
  | cons p ls ih =>
    have h1 := ih (stepP nd p)
    have h2 : (stepP nd p).length ≤ nd.length + 1 := by
      unfold stepP
      split
      · exact Nat.le_trans (del_len _ _) (Nat.le_succ _)
      · exact put_len _ _ _
    simp only [List.foldl_cons, List.length_cons]
    omega
section
variable {w : World} {T h₀ h : Heap} {A : Around} {env : Env} {m : Str → Option Value} {O : List Addr} {B D M L : Led} {s : Shared} {tk : Nat} {E : Value → Shared → Prop}
/-- dict(book) -/
theorem bk_dict {x : Addr} {nd : List (Str × Str)} {Q : Value → Shared → Prop} (C : Cx (K01 w.params) T) (Z : St T h₀ B O env A m D M h) (hb : Bk w D x nd) (hn : nd.length ≤ 8)
  (hQ : ∀ d o kvs h' tk', o.IsDictOf (strKind PySem.Challenge.rw_il0126_02.row.prog w) kvs → KV SV kvs nd → (d == sysModules) = false → St T h₀ B O env A m D ((d, o) :: M) h' → Q (.ref d) (sA s h' tk')) :
  wpAny (model PySem.Challenge.rw_il0126_02.row.prog w) A (call (.type "dict") [.ref x]) Q E (sA s h tk) := by
  obtain ⟨lf, dx, ox, od, kvs, hbo, hx, hdx, hz, hfac, hkv, hsys⟩ := hb
  obtain ⟨_, _, _, _, _, _, _, _, _, _, _, _, _, _, _, hz8⟩ := hz
  have C0 := C
  revert C; k_fill; intro C
  have X := C.inn Z.go.kT
  have hlow : sysModules < h.objs.size := by
    obtain ⟨o, e⟩ : ∃ o, List.lookup 152 (K01 w.params) = some o := ⟨_, by k_is⟩
    exact Nat.lt_trans (by decide) (Heap.lt_size (X _ _ e))
  have I := hbo.inst (Z.go.has _ hx).1 (Z.go.has _ hdx).1
  have hl := hkv.len
  refine' dictOfO ga_dd C0 Z I ?hga ?hk ?hio ?hf ?hs ?hi hsys hbo.bears (by omega) hlow ?_
  case hga => k_is
  case hk => k_is
  case hio => k_is
  case hf => exact findObj_meth (by k_is) (by k_is) (by k_is) (by k_is) hz8.2 (by decide +kernel)
  case hs => k_is
  case hi => k_is
  intro d o h' tk' hd hds Z'
  exact hQ d o kvs h' tk' hd hkv hds Z'
set_option maxHeartbeats 1000000 in
theorem patched_spec {x l : Addr} {lv : List Value} {kl : Nat} {ws : List Str} {na es : List (Str × Str)} {Q : Value → Shared → Prop} (C : Cx (K01 w.params) T) (Z₀ : St T h₀ B O env A m D M h) (hroom : Room 60 A)
  (hb : Bk w D x na) (hn : na.length ≤ 8) (hl : (l, lsOf lv kl) ∈ D) (hvs : StrsAre lv ws) (hwl : ws.length = es.length) (hws : ∀ (i : Nat) (x : Str) (p : Str × Str), ws[i]? = some x → es[i]? = some p → LineOk x p.1 p.2) (hlen : es.length ≤ 100)
  (hthere : ∀ (i : Nat) (p : Str × Str), es[i]? = some p → p.2 = nil0 → (look ((es.take i).foldl stepP na) p.1).isSome = true)
  (hQ : ∀ d h' tk' D', Pl w D' d (es.foldl stepP na) → (∀ p ∈ D, p ∈ D') → St T h₀ B O env A m D' M h' → Q (.ref d) (sA s h' tk')) :
  wpAny (model PySem.Challenge.rw_il0126_02.row.prog w) A (call (.ref 305) [.ref x, .ref l]) Q E (sA s h tk) := by
  have go := Z₀.go
  have ret : ∀ {O' : List Addr} {env' : Env} {A' : Around} {m' : Str → Option Value} {D' M' : Led} {h' : Heap}, St T h D O' env' A' m' D' M' h' → St T h₀ B O env A m (D' ++ D) M h' := fun Y => Z₀.ret Y
  clear Z₀
  have C0 := C
  revert C; k_fill; intro C
  refine' callFn0 (binds := [("book", .ref x), ("lines", .ref l)]) ?C ?go ?room ?ho ?hd ?hbody ?hcd ?hbind ?hcl ?hk ?hco ?hgen ?hnames ?hlook ?hbs ?hB
  walk_at "enter"
  intro Lf O h₁ tk₁ E' hL hO Z
  subst hO
  dsimp only [bindAll, List.foldl] at Z ⊢
  walk_at "ss"
  refine bk_dict C0 Z hb hn ?_
  intro d o kvs h₂ tk₂ hdi hkv0 lo Z₂
  walk_at "ss"
  refine wpAny_For ?_
  walk_at "ss"
  rename_i Z₃
  refine iterL Z₃ hl ?_
  intro it₁ h₄ tk₄ L₁ hM₁ _ I₁ _ _ Z₄
  refine forI I₁ (fun i m₁ D₁ M₁ => m₁ = upd (upd (upd (fun _ => none) "book" (.ref x)) "lines" (.ref l)) "state" (.ref d) ∧ ∃ o kvs, M₁ = [(d, o)] ∧ o.IsDictOf (strKind PySem.Challenge.rw_il0126_02.row.prog w) kvs ∧ KV SV kvs ((es.take i).foldl stepP na)) Z₄ hM₁ ⟨rfl, o, kvs, rfl, hdi, hkv0⟩ (hroom.deeper.le (by decide)) ?stepF ?finF
  case finF =>
    rintro h₅ tk₅ m₂ D₂ M₂ hD₂ ⟨rfl, o', kvs, rfl, hdi', hkv⟩ Z₅
    walk_at "ss"
    have e : List.take lv.length es = es := by rw [strs_len hvs, hwl, List.take_length]
    rw [e] at hkv
    have Z₆ := Z₅.settle (L := [(d, o')]) (M := [])
    exact hQ d _ _ _ ⟨o', kvs, List.mem_append_left _ (.head _), lo, hdi', hkv⟩ (fun p hp => List.mem_append_right _ hp) (ret Z₆)
  case stepF =>
    rintro i v m₂ D₂ M₂ L₂ h₅ tk₅ E₂ hi hv ⟨rfl, o', kvs, rfl, hdi', hkv⟩ hD₂ Z₅
    obtain ⟨xs, t, hxs, rfl⟩ := strs_get hvs hv
    have hi' : i < es.length := by rw [strs_len hvs, hwl] at hi; exact hi
    have hLine := hws i xs es[i] hxs (List.getElem?_eq_getElem hi')
    have hth := hthere i es[i] (List.getElem?_eq_getElem hi')
    have hsl := step_len (es.take i) na
    rw [List.length_take] at hsl
    have hkl := hkv.len
    walk_at "ss"
    rename_i h₆ tk₆ Z₆
    refine' cmAttr (C := 247) (p := 243) (f := .ref 241) (mc := .type "type") ?X4 ?hg4 ?hr4 ?e4 ?hp4 ?_
    case X4 => exact C.inn Z₆.go.kT
    case hg4 => k_is
    case hr4 => k_is
    case e4 => k_is
    case hp4 => k_is
    have Z₇ := Z₆.step (.push (methodObj (.ref 241) (.ref 247)))
    have hq : (h₆.push (methodObj (.ref 241) (.ref 247))).get? h₆.objs.size = some (methodObj (.ref 241) (.ref 247)) := Heap.get?_push_size _ rfl
    generalize h₆.push (methodObj (.ref 241) (.ref 247)) = h₇ at Z₇ hq ⊢
    generalize h₆.objs.size = q at hq ⊢
    dsimp only
    refine' callWith_Me (K := K01 w.params) (g := 241) (self := .ref 247) ?hf4 ?_
    case hf4 => k_is
    walk_at "ss"
    refine ⟨⟨hq, C.inn Z₇.go.kT⟩, ?_⟩
    refine callMe hq ?_
    refine parse_code C0 Z₇.sub (hroom.deeper.le (by decide)) hLine ?_
    intro y dy t1 t2 h₈ tk₈ D₈ kp hs8 hn8 hy hdy
    have Z₈ := Z₇.moreN kp hs8 hn8
    have up8 : ∀ p ∈ D₂, p ∈ D₈ ++ D₂ := fun p hp => List.mem_append_right _ hp
    have hy8 : (y, pairOf 247 dy [.str es[i].1 t1, .str es[i].2 t2] 0) ∈ D₈ ++ D₂ := List.mem_append_left _ hy
    have hdy8 : (dy, emptyDict) ∈ D₈ ++ D₂ := List.mem_append_left _ hdy
    clear Z₇ Z₆ Z₅
    walk_at "ss"
    rename_i h₉ tk₉ Z₉
    refine pair_attr_value C0 Z₉ (hroom.deeper.le (by decide)) hy8 hdy8 ?_
    intro h₁₀ tk₁₀ Z₁₀
    clear Z₈ Z₉
    walk_at "ss"
    refine iteB (fun hbb => ?_) (fun hbb => ?_)
    · have hnil : es[i].2 = nil0 := of_decide_eq_true hbb
      walk_at "ss"
      refine mtPop Z₁₀.mu (List.mem_append_right _ (.head _)) hdi' ?_
      walk_at "ss"
      refine pair_attr_name C0 Z₁₀ (hroom.deeper.le (by decide)) hy8 hdy8 ?_
      intro h₁₁ tk₁₁ Z₁₁
      walk_at "ss"
      rcases hkv.value es[i].1 with ⟨_, q2⟩ | ⟨v, b, q1, q2, t', rfl⟩
      · have := hth hnil
        rw [q2] at this; cases this
      · refine popD Z₁₁ hdi' q1 (by show _ ≤ 16777216; omega) ?_
        intro o₂ h₁₂ tk₁₂ hdi₂ Z₁₂
        walk_at "ss"
        refine ⟨.inl rfl, _, _, _, _, _, rfl, up8, Z₁₂.weak fun x u hu => up_none rfl x u (up_none rfl x u hu), rfl, o₂, _, rfl, hdi₂, ?_⟩
        rw [fold_take (List.getElem?_eq_getElem hi'), stepP, if_pos hnil]
        exact hkv.del
    · have hnil : ¬ es[i].2 = nil0 := of_decide_eq_false hbb
      walk_at "ss"
      refine pair_attr_value C0 Z₁₀ (hroom.deeper.le (by decide)) hy8 hdy8 ?_
      intro h₁₁ tk₁₁ Z₁₁
      walk_at "ss"
      refine pair_attr_name C0 Z₁₁ (hroom.deeper.le (by decide)) hy8 hdy8 ?_
      intro h₁₂ tk₁₂ Z₁₂
      walk_at "ss"
      refine setD Z₁₂ hdi' (by show _ ≤ 16777216; omega) ?_
      intro o₂ h₁₃ tk₁₃ hdi₂ Z₁₃
      walk_at "ss"
      refine ⟨.inl rfl, _, _, _, _, _, rfl, up8, Z₁₃.weak fun x u hu => up_none rfl x u (up_none rfl x u hu), rfl, o₂, _, rfl, hdi₂, ?_⟩
      rw [fold_take (List.getElem?_eq_getElem hi'), stepP, if_neg hnil]
      exact hkv.stored ⟨t2, rfl⟩
end
end Mine
end
section
set_option maxRecDepth 1000000
namespace Mine
noncomputable abbrev valL : List Str := ["x", "y", "x=y", "=", "x y", "y =="]
noncomputable abbrev aroL : List Str := ["", " ", "\t", " \t "]
noncomputable def Good (nd : List (Str × Str)) : Prop := (∀ p ∈ nd, p.1 ∈ askL ∧ p.2 ∈ valL) ∧ (nd.map (·.1)).Nodup
theorem getD_mem {l : List Str} {i : Nat} (h : i < l.length) : l.getD i Str.empty ∈ l := by
  rw [List.getD_eq_getElem?_getD, List.getElem?_eq_getElem h]
  exact List.getElem_mem h
theorem name_mem (n : Int) : nameOf n ∈ askL := getD_mem (by show (n % 5).toNat < 5; omega)
theorem val_mem (n : Int) : valOf n ∈ valL := getD_mem (by show (n / 5 % 6).toNat < 6; omega)
theorem around_mem {n : Int} (h0 : 0 ≤ n) (h1 : n < 480) : around n ∈ aroL := getD_mem (by show (n / 120).toNat < 4; omega)
theorem put_keys (nd : List (Str × Str)) (x v : Str) : (put nd x v).map (·.1) = if x ∈ nd.map (·.1) then nd.map (·.1) else nd.map (·.1) ++ [x] := by
  unfold put
  by_cases q : nd.any (fun p => decide (p.1 = x)) = true
  · rw [if_pos q]
    have hm : x ∈ nd.map (·.1) := by
      obtain ⟨p, hp, e⟩ := List.any_eq_true.mp q
      exact List.mem_map.mpr ⟨p, hp, of_decide_eq_true e⟩
    rw [if_pos hm, List.map_map]
    refine List.map_congr_left fun p _ => ?_
    show (if p.1 = x then (p.1, v) else p).1 = p.1
    split <;> rfl
  · rw [if_neg q]
    have hm : ¬ x ∈ nd.map (·.1) := fun h => by
      obtain ⟨p, hp, e⟩ := List.mem_map.mp h
      exact q (List.any_eq_true.mpr ⟨p, hp, decide_eq_true e⟩)
    rw [if_neg hm, List.map_append]; rfl
theorem put_mem2 {nd : List (Str × Str)} {x v : Str} {p : Str × Str} (h : p ∈ put nd x v) : p ∈ nd ∨ p = (x, v) := by
  unfold put at h
  split at h
  · obtain ⟨q, hq, rfl⟩ := List.mem_map.mp h
    by_cases e : q.1 = x
    · rw [if_pos e]; exact .inr (by rw [e])
    · rw [if_neg e]; exact .inl hq
  · rcases List.mem_append.mp h with h | h
    · exact .inl h
    · exact .inr (List.mem_singleton.mp h)
theorem put_nodup {nd : List (Str × Str)} {x v : Str} (h : (nd.map (·.1)).Nodup) : ((put nd x v).map (·.1)).Nodup := by
  rw [put_keys]
  split
  · exact h
  · rename_i q
    exact List.nodup_append.mpr ⟨h, by simp, fun a ha b hb e => by rw [List.mem_singleton.mp hb] at e; exact q (e ▸ ha)⟩
theorem good_put {nd : List (Str × Str)} {x v : Str} (h : Good nd) (hx : x ∈ askL) (hv : v ∈ valL) : Good (put nd x v) :=
  ⟨fun p hp => by
    rcases put_mem2 hp with q | rfl
    · exact h.1 p q
    · exact ⟨hx, hv⟩, put_nodup h.2⟩
theorem good_book {es : List (Str × Str)} (h : ∀ p ∈ es, p.1 ∈ askL ∧ p.2 ∈ valL) : Good (bookOf es) := by
  have key : ∀ (es nd : List (Str × Str)), (∀ p ∈ es, p.1 ∈ askL ∧ p.2 ∈ valL) → Good nd → Good (es.foldl putP nd) := by
    intro es
    induction es with
    | nil => intro nd _ g; exact g
    | cons p es ih => intro nd h g; exact ih _ (fun q hq => h q (.tail _ hq)) (good_put g (h p (.head _)).1 (h p (.head _)).2)
  exact key es [] h ⟨fun _ q => (nomatch q), List.nodup_nil⟩
theorem good_nums (ns : List Int) : Good (bookOf (ns.map entOf)) := good_book fun p hp => by
  obtain ⟨n, _, rfl⟩ := List.mem_map.mp hp
  exact ⟨name_mem n, val_mem n⟩
theorem ask_ok : askL.all (fun x => decide (x.length ≤ 10) && PyData.strOk x) = true := by decide +kernel
theorem val_ok : valL.all (fun x => decide (x.length ≤ 10) && PyData.strOk x) = true := by decide +kernel
theorem Good.small {nd : List (Str × Str)} (h : Good nd) : Small nd := fun p hp => by
  have a := List.all_eq_true.mp ask_ok _ (h.1 p hp).1
  have b := List.all_eq_true.mp val_ok _ (h.1 p hp).2
  simp only [Bool.and_eq_true, decide_eq_true_eq] at a b
  exact ⟨⟨a.1, b.1⟩, a.2, b.2⟩
theorem Good.len {nd : List (Str × Str)} (h : Good nd) : nd.length ≤ 5 := by
  have := List.Nodup.length_le_of_subset h.2 (l₂ := askL) fun x hx => by
    obtain ⟨p, hp, rfl⟩ := List.mem_map.mp hx
    exact (h.1 p hp).1
  rw [List.length_map] at this
  exact this
theorem look_none {nd : List (Str × Str)} {x : Str} : look nd x = none ↔ x ∉ nd.map (·.1) := by
  unfold look
  rw [Option.map_eq_none_iff, List.find?_eq_none]
  constructor
  · intro h q
    obtain ⟨p, hp, e⟩ := List.mem_map.mp q
    exact h p hp (decide_eq_true e)
  · intro h p hp e
    exact h (List.mem_map.mpr ⟨p, hp, of_decide_eq_true e⟩)
theorem look_some {nd : List (Str × Str)} {p : Str × Str} (h : (nd.map (·.1)).Nodup) (hp : p ∈ nd) : look nd p.1 = some p.2 := by
  induction nd with
  | nil => cases hp
  | cons q nd ih =>
    unfold look at ih ⊢
    rw [List.map_cons, List.nodup_cons] at h
    rw [List.find?_cons]
    rcases List.mem_cons.mp hp with rfl | hp
    · simp
    · have hne : ¬ q.1 = p.1 := fun e => h.1 (e ▸ List.mem_map_of_mem hp)
      rw [decide_eq_false hne]
      exact ih h.2 hp
noncomputable abbrev lineP (p : Str × Str) : Str := p.1 ++ eqS0 ++ p.2
theorem writ_eq {nd : List (Str × Str)} (h : (nd.map (·.1)).Nodup) {p : Str × Str} (hp : p ∈ nd) : writ nd p = lineP p := by
  unfold writ got
  rw [look_some h hp]; rfl
theorem inj_all : askL.all (fun a => valL.all fun v => askL.all fun b => valL.all fun u => !decide (lineP (a, v) = lineP (b, u)) || (decide (a = b) && decide (v = u))) = true := by decide +kernel
theorem lineP_inj {p q : Str × Str} (hp : p.1 ∈ askL ∧ p.2 ∈ valL) (hq : q.1 ∈ askL ∧ q.2 ∈ valL) (e : lineP p = lineP q) : p = q := by
  have := List.all_eq_true.mp (List.all_eq_true.mp (List.all_eq_true.mp (List.all_eq_true.mp inj_all _ hp.1) _ hp.2) _ hq.1) _ hq.2
  rw [decide_eq_true (show lineP (p.1, p.2) = lineP (q.1, q.2) from e)] at this
  simp only [Bool.not_true, Bool.false_or, Bool.and_eq_true, decide_eq_true_eq] at this
  exact Prod.ext this.1 this.2
noncomputable def comeL (na nb : List (Str × Str)) : List (Str × Str) := nb.filter fun p => !decide (look na p.1 = some p.2)
theorem minus_come {na nb : List (Str × Str)} (ha : Good na) (hb : Good nb) : minusS (nb.map (writ nb)) (na.map (writ na)) = (comeL na nb).map lineP := by
  unfold minusS comeL
  rw [List.filter_map]
  have e : nb.filter ((fun y => !decide (y ∈ na.map (writ na))) ∘ writ nb) = nb.filter fun p => !decide (look na p.1 = some p.2) := by
    refine List.filter_congr fun p hp => ?_
    show (!decide (writ nb p ∈ na.map (writ na))) = _
    congr 1
    refine decide_eq_decide.mpr ⟨fun h => ?_, fun h => ?_⟩
    · obtain ⟨q, hq, e⟩ := List.mem_map.mp h
      rw [writ_eq ha.2 hq, writ_eq hb.2 hp] at e
      have := lineP_inj (ha.1 q hq) (hb.1 p hp) e
      subst this
      exact look_some ha.2 hq
    · have hm := look_mem h
      refine List.mem_map.mpr ⟨p, hm, ?_⟩
      rw [writ_eq ha.2 hm, writ_eq hb.2 hp]
  rw [e]
  exact List.map_congr_left fun p hp => writ_eq hb.2 (List.mem_filter.mp hp).1
noncomputable def pairsOf (na nb : List (Str × Str)) : List (Str × Str) := (goneOf na nb).map (fun x => (x, nil0)) ++ comeL na nb
theorem gone_ask {na nb : List (Str × Str)} (ha : Good na) {x : Str} (hx : x ∈ goneOf na nb) : x ∈ askL := by
  obtain ⟨p, hp, rfl⟩ := List.mem_map.mp (List.mem_filter.mp hx).1
  exact (ha.1 p hp).1
theorem patch_pairs {na nb : List (Str × Str)} (ha : Good na) (hb : Good nb) : patchOf na nb = (pairsOf na nb).map lineP := by
  unfold patchOf pairsOf
  rw [minus_come ha hb, List.map_append, List.map_map]
  congr 1
theorem pairs_len2 {na nb : List (Str × Str)} (ha : Good na) (hb : Good nb) : (pairsOf na nb).length ≤ 10 := by
  have h1 := ha.len
  have h2 := hb.len
  have h3 : (goneOf na nb).length ≤ na.length := Nat.le_trans (minusS_len _ _) (by rw [List.length_map]; exact Nat.le_refl _)
  have h4 : (comeL na nb).length ≤ nb.length := List.length_filter_le _ _
  unfold pairsOf
  rw [List.length_append, List.length_map]
  omega
end Mine
end
section
set_option maxRecDepth 1000000
namespace Mine
noncomputable def lineB (x a b : Str) : Bool :=
  let ps := Builtin.Str.partsBetween x (Builtin.Str.occurrences x "=" 0 x.length (limitOf x 1)) ("=" : Str).length
  decide (x.length ≤ 500) && !(decide (x.length < ("=" : Str).length) || decide (Builtin.Str.strKind x < Builtin.Str.strKind "=")) && !(Builtin.Str.occurrences x "=" 0 x.length (limitOf x 1)).isEmpty &&
  (match ps with
  | [p, q] => Txt.strip p == a && Txt.strip q == b && decide (p.length ≤ 1000) && decide (q.length ≤ 1000)
  | _ => false)
theorem lineB_ok {x a b : Str} (hb : lineB x a b = true) : LineOk x a b := by
  unfold lineB at hb
  simp only [Bool.and_eq_true, decide_eq_true_eq, Bool.not_eq_true'] at hb
  obtain ⟨⟨⟨a1, a2⟩, a3⟩, a4⟩ := hb
  refine ⟨a1, a2, a3, ?_⟩
  split at a4
  · rename_i p q hp
    simp only [Bool.and_eq_true, decide_eq_true_eq, beq_iff_eq] at a4
    obtain ⟨⟨⟨b1, b2⟩, b3⟩, b4⟩ := a4
    exact ⟨p, q, hp, b1, b2, b3, b4⟩
  · cases a4
noncomputable abbrev lineR (r : Str) (p : Str × Str) : Str := r ++ p.1 ++ r ++ "=" ++ r ++ p.2 ++ r
theorem lines_all : aroL.all (fun r => askL.all fun a => valL.all fun b => lineB (lineR r (a, b)) a b) = true := by kernel_rfl
theorem wrote_all : askL.all (fun a => valL.all fun b => lineB (lineP (a, b)) a b) = true := by kernel_rfl
theorem gone_all : askL.all (fun a => lineB (lineP (a, nil0)) a nil0) = true := by kernel_rfl
theorem line_ok {n : Int} (h0 : 0 ≤ n) (h1 : n < 480) : LineOk (lineOf n) (nameOf n) (valOf n) :=
  lineB_ok (List.all_eq_true.mp (List.all_eq_true.mp (List.all_eq_true.mp lines_all _ (around_mem h0 h1)) _ (name_mem n)) _ (val_mem n))
theorem pairs_line {na nb : List (Str × Str)} (ha : Good na) (hb : Good nb) : ∀ p ∈ pairsOf na nb, LineOk (lineP p) p.1 p.2 := fun p hp => by
  rcases List.mem_append.mp hp with q | q
  · obtain ⟨x, hx, rfl⟩ := List.mem_map.mp q
    exact lineB_ok (List.all_eq_true.mp gone_all _ (gone_ask ha hx))
  · have hp := hb.1 p (List.mem_filter.mp q).1
    exact lineB_ok (List.all_eq_true.mp (List.all_eq_true.mp wrote_all _ hp.1) _ hp.2)
theorem val_ne : valL.all (fun v => !decide (v = nil0)) = true := by decide +kernel
theorem come_ne {na nb : List (Str × Str)} (hb : Good nb) {p : Str × Str} (hp : p ∈ comeL na nb) : p.2 ≠ nil0 := by
  have := List.all_eq_true.mp val_ne _ (hb.1 p (List.mem_filter.mp hp).1).2
  simpa using this

theorem look_del (nd : List (Str × Str)) (x y : Str) : look (del nd x) y = if y = x then none else look nd y := by
  induction nd with
  | nil => unfold look del; simp
  | cons q nd ih =>
    unfold look del at ih ⊢
    rw [List.filter_cons]
    by_cases e : q.1 = x
    · rw [if_neg (by simpa using e)]
      rw [ih, List.find?_cons]
      by_cases e2 : y = x
      · rw [if_pos e2, if_pos e2]
      · rw [if_neg e2, if_neg e2, decide_eq_false (fun e3 => e2 (e3.symm.trans e))]
    · rw [if_pos (by simpa using e), List.find?_cons, List.find?_cons]
      by_cases e3 : q.1 = y
      · rw [decide_eq_true e3]
        rw [if_neg (fun e4 => e (e3.trans e4))]
      · rw [decide_eq_false e3]
        exact ih
theorem gone_look (l : List Str) : ∀ (nd : List (Str × Str)) (y : Str), look ((l.map fun x => (x, nil0)).foldl stepP nd) y = if y ∈ l then none else look nd y := by
  induction l with
  | nil => intro nd y; simp
  | cons x l ih =>
    intro nd y
    rw [List.map_cons, List.foldl_cons, ih, stepP, if_pos rfl, look_del]
    by_cases q : y ∈ l
    · rw [if_pos q, if_pos (.tail _ q)]
    · rw [if_neg q]
      by_cases e : y = x
      · rw [if_pos e, if_pos (by rw [e]; exact .head _)]
      · rw [if_neg e, if_neg (fun h => by rcases List.mem_cons.mp h with h | h; exact e h; exact q h)]
theorem come_look (l : List (Str × Str)) : ∀ (nd : List (Str × Str)) (y : Str), (l.map (·.1)).Nodup → (∀ p ∈ l, p.2 ≠ nil0) → look (l.foldl stepP nd) y = match look l y with | some v => some v | none => look nd y := by
  induction l with
  | nil => intro nd y _ _; rfl
  | cons p l ih =>
    intro nd y hn hne
    rw [List.map_cons, List.nodup_cons] at hn
    rw [List.foldl_cons, ih _ _ hn.2 (fun q hq => hne q (.tail _ hq)), stepP, if_neg (hne p (.head _)), look_put]
    by_cases e : y = p.1
    · have h1 : look l y = none := look_none.mpr (by rw [e]; exact hn.1)
      have h2 : look (p :: l) y = some p.2 := by unfold look; rw [List.find?_cons, decide_eq_true e.symm]; rfl
      rw [h1, h2, if_pos e]
    · have h2 : look (p :: l) y = look l y := by unfold look; rw [List.find?_cons, decide_eq_false (fun q => e q.symm)]
      rw [h2, if_neg e]
theorem step_nodup (l : List (Str × Str)) : ∀ nd : List (Str × Str), (nd.map (·.1)).Nodup → ((l.foldl stepP nd).map (·.1)).Nodup := by
  induction l with
  | nil => intro nd h; exact h
  | cons p l ih =>
    intro nd h
    refine ih _ ?_
    unfold stepP
    split
    · exact List.Nodup.sublist (List.Sublist.map _ List.filter_sublist) h
    · exact put_nodup h
theorem come_nodup {na nb : List (Str × Str)} (hb : Good nb) : ((comeL na nb).map (·.1)).Nodup := List.Nodup.sublist (List.Sublist.map _ List.filter_sublist) hb.2
theorem mem_gone {na nb : List (Str × Str)} {x : Str} : x ∈ goneOf na nb ↔ x ∈ na.map (·.1) ∧ x ∉ nb.map (·.1) := by
  unfold goneOf minusS
  rw [List.mem_filter]
  simp
/-- the patch makes the second of the first -/
theorem fold_look {na nb : List (Str × Str)} (hb : Good nb) (y : Str) : look ((pairsOf na nb).foldl stepP na) y = look nb y := by
  unfold pairsOf
  rw [List.foldl_append, come_look _ _ _ (come_nodup hb) (fun p hp => come_ne hb hp), gone_look]
  cases q : look (comeL na nb) y with
  | some v =>
    have h1 := (List.mem_filter.mp (look_mem q)).1
    exact (look_some hb.2 h1).symm
  | none =>
    dsimp only
    cases r : look nb y with
    | none =>
      have hy := look_none.mp r
      by_cases hg : y ∈ goneOf na nb
      · rw [if_pos hg]
      · rw [if_neg hg]
        exact look_none.mpr fun h => hg (mem_gone.mpr ⟨h, hy⟩)
    | some v =>
      have hm := look_mem r
      have hk : y ∈ nb.map (·.1) := List.mem_map.mpr ⟨_, hm, rfl⟩
      have hg : ¬ y ∈ goneOf na nb := fun h => (mem_gone.mp h).2 hk
      rw [if_neg hg]
      by_cases e : look na y = some v
      · exact e
      · have hc : (y, v) ∈ comeL na nb := List.mem_filter.mpr ⟨hm, by simpa using e⟩
        have := look_some (come_nodup hb) hc
        rw [q] at this; cases this
theorem fold_same {na nb : List (Str × Str)} (ha : Good na) (hb : Good nb) : ((pairsOf na nb).foldl stepP na).length = nb.length ∧ ∀ p ∈ (pairsOf na nb).foldl stepP na, look nb p.1 = some p.2 := by
  have hn := step_nodup (pairsOf na nb) na ha.2
  have hl := fold_look (na := na) hb
  refine ⟨?_, fun p hp => by rw [← hl]; exact look_some hn hp⟩
  have hp := (List.perm_ext_iff_of_nodup hn hb.2).mpr fun x => by
    have h1 := look_none (nd := (pairsOf na nb).foldl stepP na) (x := x)
    have h2 := look_none (nd := nb) (x := x)
    rw [hl] at h1
    exact Decidable.not_iff_not.mp (h1.symm.trans h2)
  have := hp.length_eq
  rw [List.length_map, List.length_map] at this
  exact this
theorem gone_nodup {na nb : List (Str × Str)} (ha : Good na) : (goneOf na nb).Nodup := List.Nodup.sublist List.filter_sublist ha.2
theorem fold_there {na nb : List (Str × Str)} (ha : Good na) (hb : Good nb) (i : Nat) (p : Str × Str) (hp : (pairsOf na nb)[i]? = some p) (hnil : p.2 = nil0) : (look (((pairsOf na nb).take i).foldl stepP na) p.1).isSome = true := by
  unfold pairsOf at hp ⊢
  by_cases hi : i < ((goneOf na nb).map fun x => (x, nil0)).length
  · rw [List.getElem?_append_left hi, List.getElem?_map] at hp
    rw [List.take_append_of_le_length (Nat.le_of_lt hi), ← List.map_take, gone_look]
    cases q : (goneOf na nb)[i]? with
    | none => rw [q] at hp; cases hp
    | some x =>
      rw [q] at hp
      cases hp
      have hx := (mem_gone.mp (List.mem_of_getElem? q)).1
      have hnt : ¬ x ∈ (goneOf na nb).take i := fun h => by
        obtain ⟨j, hj, e⟩ := List.mem_iff_getElem.mp h
        rw [List.length_take] at hj
        rw [List.getElem_take] at e
        have hi2 := (List.getElem?_eq_some_iff.mp q).1
        have e2 := (List.getElem?_eq_some_iff.mp q).2
        have := (List.getElem_inj (gone_nodup ha)).mp (e.trans e2.symm)
        omega
      rw [if_neg hnt]
      cases r : look na x with
      | some _ => rfl
      | none => exact absurd hx (look_none.mp r)
  · rw [List.getElem?_append_right (Nat.le_of_not_lt hi)] at hp
    exact absurd hnil (come_ne hb (List.mem_of_getElem? hp))
end Mine
end
section
namespace Mine
noncomputable def goneE (na nb : List (Str × Str)) : List (Str × Str) := na.filter fun p => !(look nb p.1).isSome
noncomputable def comeE (na nb : List (Str × Str)) : List (Str × Str) := nb.filter fun p => !decide (look na p.1 = look nb p.1)
noncomputable def optD : Option Str → Dat
  | some x => .str x
  | none => .none
theorem optD_inj {a b : Option Str} : optD a = optD b ↔ a = b := by cases a <;> cases b <;> simp [optD]
theorem optD_ok {nd : List (Str × Str)} (h : Small nd) (x : Str) : kqdOk 9 (optD (look nd x)) = true := by
  cases q : look nd x with
  | none => rfl
  | some b => exact (h _ (look_mem q)).2.2
theorem optD_in {D : Led} {kvs : List (Str × Value)} {nd : List (Str × Str)} (hkv : KV SV kvs nd) (x : Str) : DatIn D ((valueAt kvs x).getD .none) (optD (look nd x)) := by
  rcases hkv.value x with ⟨q1, q2⟩ | ⟨v, b, q1, q2, t, rfl⟩ <;> rw [q1, q2]
  · exact .none
  · exact .str _ _
theorem goneE_eq (na nb : List (Str × Str)) : (goneE na nb).map (fun p => p.1 ++ eqS0) = (goneOf na nb).map (· ++ eqS0) := by
  have e : (goneE na nb).map (·.1) = goneOf na nb := by
    unfold goneE goneOf minusS
    rw [List.filter_map]
    congr 1
    refine List.filter_congr fun p _ => ?_
    show _ = !decide (p.1 ∈ nb.map (·.1))
    have := look_none (nd := nb) (x := p.1)
    cases q : look nb p.1 with
    | none => rw [decide_eq_false (this.mp q)]; rfl
    | some v =>
      have hm : p.1 ∈ nb.map (·.1) := Decidable.byContradiction fun h => by rw [this.mpr h] at q; cases q
      rw [decide_eq_true hm]; rfl
  rw [← e, List.map_map]; rfl
theorem comeE_eq {na nb : List (Str × Str)} (hb : Good nb) : comeE na nb = comeL na nb := by
  unfold comeE comeL
  refine List.filter_congr fun p hp => ?_
  rw [look_some hb.2 hp]
theorem come_lines {na nb : List (Str × Str)} (hb : Good nb) : (comeE na nb).map (writ nb) = (comeL na nb).map lineP := by
  rw [comeE_eq hb]
  exact List.map_congr_left fun p hp => writ_eq hb.2 (List.mem_filter.mp hp).1
theorem lines_okS : askL.all (fun a => (nil0 :: valL).all fun v => PyData.strOk (lineP (a, v))) = true := by decide +kernel
theorem pairs_okS {na nb : List (Str × Str)} (ha : Good na) (hb : Good nb) : okS ((pairsOf na nb).map lineP) := fun x hx => by
  obtain ⟨p, hp, rfl⟩ := List.mem_map.mp hx
  rcases List.mem_append.mp hp with q | q
  · obtain ⟨y, hy, rfl⟩ := List.mem_map.mp q
    exact List.all_eq_true.mp (List.all_eq_true.mp lines_okS _ (gone_ask ha hy)) _ (.head _)
  · have h := hb.1 p (List.mem_filter.mp q).1
    exact List.all_eq_true.mp (List.all_eq_true.mp lines_okS _ h.1) _ (.tail _ h.2)
section
variable {w : World} {T h₀ h : Heap} {A : Around} {env : Env} {m : Str → Option Value} {O : List Addr} {B D M L : Led} {s : Shared} {tk : Nat} {E : Value → Shared → Prop}
set_option maxHeartbeats 2000000 in
theorem pholds_spec {a b p q : Addr} {na nb : List (Str × Str)} {Q : Value → Shared → Prop} (C : Cx (K01 w.params) T) (Z₀ : St T h₀ B O env A m D M h) (hroom : Room 66 A)
  (ha : Bk w D a na) (hb : Bk w D b nb) (hp : Pl w D p na) (hq : Pl w D q nb) (ga : Good na) (gb : Good nb)
  (hQ : ∀ h' tk' D', (∀ p ∈ D, p ∈ D') → St T h₀ B O env A m D' M h' → Q (.bool true) (sA s h' tk')) :
  wpAny (model PySem.Challenge.rw_il0126_02.row.prog w) A (call (.ref 310) [.ref a, .ref b, .ref p, .ref q]) Q E (sA s h tk) := by
  have go := Z₀.go
  have ret : ∀ {O' : List Addr} {env' : Env} {A' : Around} {m' : Str → Option Value} {D' M' : Led} {h' : Heap}, St T h D O' env' A' m' D' M' h' → St T h₀ B O env A m (D' ++ D) M h' := fun Y => Z₀.ret Y
  clear Z₀
  have hla := ga.len
  have hlb := gb.len
  have C0 := C
  revert C; k_fill; intro C
  refine' callFn0 (binds := [("book", .ref a), ("other", .ref b), ("plain", .ref p), ("second", .ref q)]) ?C ?go ?room ?ho ?hd ?hbody ?hcd ?hbind ?hcl ?hk ?hco ?hgen ?hnames ?hlook ?hbs ?hB
  walk_at "enter"
  intro Lf O h₁ tk₁ E' hL hO Z
  subst hO
  dsimp only [bindAll, List.foldl] at Z ⊢
  walk_at "ss"
  refine patch_spec C0 Z (hroom.deeper.le (by decide)) ha hb ga.small gb.small (by omega) (by omega) ?_
  intro al us c h₂ tk₂ D₂ hm1 hs1 hD₂ Z₂
  have ha2 := ha.mono hD₂
  have hp2 := hp.mono hD₂
  have hq2 := hq.mono hD₂
  clear Z
  walk_at "ss"
  rename_i h₃ tk₃ Z₃
  clear Z₂
  obtain ⟨op, kvp, hmp, lop, hdp, hkp⟩ := id hp2
  obtain ⟨oq, kvq, hmq, loq, hdq, hkq⟩ := id hq2
  refine' compU Z₃ ?hsw ?hy ?hlo ?hke ?hgens ?hs ?hrs ?hclos ?hkind ?hnames ?hcl ?hclN ?hnm ?hlook ?hcll ?hh
  case hsw => rfl
  case hy => rfl
  case hlo => exact .head _
  case hke => rfl
  walk_at "comp"
  intro E₃
  have Z₄ := Z₃.sub
  walk_at "ss"
  refine iterD Z₄ hmp lop hdp ?_
  intro it₁ h₅ tk₅ L₅ Mi₁ hM₁ I₁ _ _ Z₅
  refine ⟨it₁, _, _, _, _, _, h₅, tk₅, rfl, rfl, I₁, hM₁, Z₅.permM (fun _ q => List.mem_append_left _ q) (nd_left Z₅.ndM), hroom.deeper.le (by decide), ?_⟩
  intro acc c1 h₆ tk₆ L₆ Z₆
  refine compLast rfl rfl I₁ (fun j _ us => StrsAre us (((na.take j).filter fun p => !(look nb p.1).isSome).map fun p => p.1 ++ eqS0)) Z₆ hM₁ .nil (hroom.deeper.le (by decide)) ?sz ?step2 ?fin2
  case sz =>
    intro j D₃ us hj hJ
    rw [strs_len hJ, List.length_map]
    exact Nat.le_trans (List.length_filter_le _ _) (by rw [List.length_take]; show _ ≤ 16777216; omega)
  case step2 =>
    rintro j v D₃ L₉ us2 c₃ h₁₂ tk₁₂ E₁₀ hj ⟨pp, t, hpp, rfl⟩ hJ hD₃ Z₁₆
    obtain ⟨bb, hbb, hsv⟩ := hkp.get hpp
    have hin := ga.small _ (List.mem_of_getElem? hbb)
    have hxl : pp.1.length ≤ 10 := hin.1.1
    have l4 : (Str.ofString "=").length = 1 := by decide +kernel
    walk_at "ss"
    refine tests1 ?_
    walk_at "ss"
    rename_i h₁₇ tk₁₇ Z₁₇
    refine notInD Z₁₇.go.has (hD₃ _ hmq) loq hdq ?_
    intro tk₁₈
    have hlk : (valueAt kvq pp.1).isSome = (look nb pp.1).isSome := by
      rcases hkq.value pp.1 with ⟨q1, q2⟩ | ⟨v, b, q1, q2, q3⟩ <;> rw [q1, q2] <;> rfl
    rw [hlk]
    walk_at "ss"
    have htk : ((na.take (j + 1)).filter fun p => !(look nb p.1).isSome) = ((na.take j).filter fun p => !(look nb p.1).isSome) ++ if (!(look nb pp.1).isSome) = true then [(pp.1, bb)] else [] := by
      rw [List.take_add_one, hbb, Option.toList, List.filter_append]
      simp only [List.filter_cons, List.filter_nil]
    refine iteB (fun hbb2 => ?_) (fun hbb2 => ?_)
    · walk_at "ss"
      refine ⟨_, _, _, _, rfl, fun _ q => q, up_none rfl, Z₁₇, ?_⟩
      rw [htk, if_pos hbb2, List.map_append]
      exact strs_snoc hJ
    · refine ⟨_, _, _, _, rfl, fun _ q => q, up_none rfl, Z₁₇, ?_⟩
      rw [htk, if_neg (by rw [hbb2]; decide)]
      simpa using hJ
  case fin2 =>
    intro h₁₂ tk₁₂ D₃ us2 c₂ hD₃ hJ Z₁₃
    refine ⟨rfl, h₁₂, tk₁₂, D₃, us2, c₂, _, _, rfl, Z₁₃, ?_⟩
    intro h₁₃ tk₁₃ Z₁₄
    rw [hkp.len, List.take_length] at hJ
    change StrsAre us2 ((goneE na nb).map fun p => p.1 ++ eqS0) at hJ
    rw [goneE_eq] at hJ
    clear Z₁₃ Z₆ Z₅ Z₄ Z₃
    have upA : ∀ p ∈ D₂, p ∈ (acc, lsOf us2 c₂) :: D₃ ++ D₂ := fun p hp => List.mem_append_right _ hp
    have hm1B := upA _ hm1
    have haB := ha2.mono upA
    have hmpB := upA _ hmp
    have hmqB := upA _ hmq
    have hmG : (acc, lsOf us2 c₂) ∈ (acc, lsOf us2 c₂) :: D₃ ++ D₂ := .head _
    generalize (acc, lsOf us2 c₂) :: D₃ ++ D₂ = DB at *
    walk_at "ss"
    refine' compU Z₁₄ ?hsw3 ?hy3 ?hlo3 ?hke3 ?hgens3 ?hs3 ?hrs3 ?hclos3 ?hkind3 ?hnames3 ?hcl3 ?hclN3 ?hnm3 ?hlook3 ?hcll3 ?hh3
    case hsw3 => rfl
    case hy3 => rfl
    case hlo3 => exact .head _
    case hke3 => rfl
    walk_at "comp3"
    intro E₅
    have Z₁₅ := Z₁₄.sub
    walk_at "ss"
    refine iterD Z₁₅ hmqB loq hdq ?_
    intro it₂ h₁₆ tk₁₆ L₇ Mi₂ hM₂ I₂ _ _ Z₁₆
    refine ⟨it₂, _, _, _, _, _, h₁₆, tk₁₆, rfl, rfl, I₂, hM₂, Z₁₆.permM (fun _ q => List.mem_append_left _ q) (nd_left Z₁₆.ndM), hroom.deeper.le (by decide), ?_⟩
    intro acc2 c2 h₁₇ tk₁₇ L₈ Z₁₇
    refine compLast rfl rfl I₂ (fun j _ us => StrsAre us (((nb.take j).filter fun p => !decide (look na p.1 = look nb p.1)).map (writ nb))) Z₁₇ hM₂ .nil (hroom.deeper.le (by decide)) ?sz4 ?step4 ?fin4
    case sz4 =>
      intro j D₃ us hj hJ
      rw [strs_len hJ, List.length_map]
      exact Nat.le_trans (List.length_filter_le _ _) (by rw [List.length_take]; show _ ≤ 16777216; omega)
    case step4 =>
      rintro j v D₃ L₉ us3 c₃ h₁₈ tk₁₈ E₁₀ hj ⟨pp, t, hpp, rfl⟩ hJ3 hD₃ Z₁₈
      obtain ⟨bb, hbb, tv, hsv⟩ := hkq.get hpp
      have hin := gb.small _ (List.mem_of_getElem? hbb)
      have hxl : pp.1.length ≤ 10 := hin.1.1
      have hbl : bb.length ≤ 10 := hin.1.2
      have hlb2 : look nb pp.1 = some bb := look_some gb.2 (List.mem_of_getElem? hbb)
      obtain ⟨tv, hva⟩ : ∃ tv, valueAt kvq pp.1 = some (.str bb tv) := by
        rcases hkq.value pp.1 with ⟨_, q2⟩ | ⟨v, b, q1, q2, t', rfl⟩
        · rw [hlb2] at q2; cases q2
        · rw [hlb2] at q2; cases q2; exact ⟨t', q1⟩
      have l4 : (Str.ofString "=").length = 1 := by decide +kernel
      walk_at "ss"
      refine tests1 ?_
      walk_at "ss"
      rename_i h₁₉ tk₁₉ Z₁₉
      refine mtGet Z₁₉.go.has (hD₃ _ hmpB) hdp ?_
      walk_at "ss"
      refine getD1 Z₁₉.go.has (hD₃ _ hmpB) lop hdp ?_
      intro tk₂₀
      walk_at "ss"
      refine itemD Z₁₉.go.has (hD₃ _ hmqB) hdq hva ?_ (by with_unfolding_all rfl) (by intro _; with_unfolding_all rfl)
      intro tk₂₁
      have hunits : ∀ n, n ≤ 60 → A.units + n + 64 < cLine := fun n hn => by have := hroom.2; omega
      have hin1 : DatIn D₃ (.str bb tv) (optD (look nb pp.1)) := by rw [hlb2]; exact .str _ _
      refine neDat (b := decide (look na pp.1 = look nb pp.1)) Z₁₉.go.has (optD_in hkp pp.1) hin1 (optD_ok ga.small _) (optD_ok gb.small _) (hunits 3 (by decide)) ⟨fun e => optD_inj.mpr (of_decide_eq_true e), fun e => decide_eq_true (optD_inj.mp e)⟩ ?_
      walk_at "ss"
      have htk : ((nb.take (j + 1)).filter fun p => !decide (look na p.1 = look nb p.1)) = ((nb.take j).filter fun p => !decide (look na p.1 = look nb p.1)) ++ if (!decide (look na pp.1 = look nb pp.1)) = true then [(pp.1, bb)] else [] := by
        rw [List.take_add_one, hbb, Option.toList, List.filter_append]
        simp only [List.filter_cons, List.filter_nil]
      refine iteB (fun hbb2 => ?_) (fun hbb2 => ?_)
      · walk_at "ss"
        refine itemD Z₁₉.go.has (hD₃ _ hmqB) hdq hva ?_ (by with_unfolding_all rfl) (by intro _; with_unfolding_all rfl)
        intro tk₂₂
        walk_at "ss"
        refine ⟨_, _, _, _, rfl, fun _ q => q, up_none rfl, Z₁₉, ?_⟩
        rw [htk, if_pos hbb2, List.map_append]
        have e2 : List.map (writ nb) [(pp.1, bb)] = [pp.1 ++ eqS0 ++ bb] := by
          show [pp.1 ++ eqS0 ++ (look nb pp.1).getD nil0] = _
          rw [hlb2]; rfl
        rw [e2]
        exact strs_snoc hJ3
      · refine ⟨_, _, _, _, rfl, fun _ q => q, up_none rfl, Z₁₉, ?_⟩
        rw [htk, if_neg (by rw [hbb2]; decide)]
        simpa using hJ3
    case fin4 =>
      intro h₁₈ tk₁₈ D₃ us3 c₃ hD₃ hJ3 Z₁₈
      refine ⟨rfl, h₁₈, tk₁₈, D₃, us3, c₃, _, _, rfl, Z₁₈, ?_⟩
      intro h₁₉ tk₁₉ Z₁₉
      rw [hkq.len, List.take_length] at hJ3
      change StrsAre us3 ((comeE na nb).map (writ nb)) at hJ3
      rw [come_lines gb] at hJ3
      clear Z₁₈ Z₁₇ Z₁₆ Z₁₅ Z₁₄
      have upC : ∀ p ∈ DB, p ∈ (acc2, lsOf us3 c₃) :: D₃ ++ DB := fun p hp => List.mem_append_right _ hp
      have hm1C := upC _ hm1B
      have haC := haB.mono upC
      have hmqC := upC _ hmqB
      have hmGC := upC _ hmG
      have hmHC : (acc2, lsOf us3 c₃) ∈ (acc2, lsOf us3 c₃) :: D₃ ++ DB := .head _
      generalize (acc2, lsOf us3 c₃) :: D₃ ++ DB = DC at *
      walk_at "ss"
      refine PyProof.Rows.BoolOp_and ?_
      walk_at "ss"
      have hpat := patch_pairs ga gb
      have hgl : (goneOf na nb).length ≤ 5 := Nat.le_trans (minusS_len _ _) (by rw [List.length_map]; exact hla)
      have hcl : (comeL na nb).length ≤ 5 := Nat.le_trans (List.length_filter_le _ _) hlb
      refine addL Z₁₉ (List.mem_append_left _ hmGC) (List.mem_append_left _ hmHC) (by
        rw [strs_len hJ, strs_len hJ3, List.length_map, List.length_map]
        show _ ≤ 16777216
        omega) ?_
      intro ar h₂₀ tk₂₀ Z₂₀
      have hsum := strs_app hJ hJ3
      have hlines : (goneOf na nb).map (· ++ eqS0) ++ (comeL na nb).map lineP = patchOf na nb := by
        rw [patchOf, minus_come ga gb]
      rw [hlines] at hsum
      have hunits : ∀ n, n ≤ 60 → A.units + n + 64 < cLine := fun n hn => by have := hroom.2; omega
      have hokP : okS (patchOf na nb) := hpat ▸ pairs_okS ga gb
      walk_at "ss"
      refine eqDat (b := true) (da := strsD (patchOf na nb)) (db := strsD (patchOf na nb)) Z₂₀.go.has (.list (.tail _ hm1C) (datX hs1)) (.list (.head _) (datX hsum)) (strs_okD2 hokP 7) (strs_okD2 hokP 7) (hunits 3 (by decide)) ⟨fun _ => rfl, fun _ => rfl⟩ ?_
      walk_at "ss"
      refine PyProof.Rows.BoolOp_one ?_
      walk_at "ss"
      refine patched_spec (es := pairsOf na nb) C0 Z₂₀ (hroom.deeper.le (by decide)) (haC.mono fun p hp => .tail _ hp) (by omega) (.tail _ hm1C) (hpat ▸ hs1) (by rw [List.length_map]) (fun i x pr hx hpr => ?_) (Nat.le_trans (pairs_len2 ga gb) (by decide)) (fold_there ga gb) ?_
      · rw [List.getElem?_map, hpr] at hx
        cases hx
        exact pairs_line ga gb pr (List.mem_of_getElem? hpr)
      intro dF h₂₁ tk₂₁ D₂₁ hF hD₂₁ Z₂₁
      obtain ⟨oF, kvF, hmF, loF, hdF, hkF⟩ := hF
      have hfs := fold_same ga gb
      walk_at "ss"
      refine eqDicts Z₂₁.go.has hmF (hD₂₁ _ (.tail _ hmqC)) loF loq hdF hdq hkF hkq hfs.1 hfs.2 (by have := hunits 6 (by decide); show A.units + 3 < cLine; omega) ?_
      walk_at "ss"
      exact hQ _ _ _ (fun p hp => List.mem_append_right _ hp) (ret Z₂₁)
end
end Mine
end
section
namespace Mine
section
variable {prog : Program} {w : World} {T h₀ h h' : Heap} {O : List Addr} {env : Env} {A A' : Around} {m : Str → Option Value} {B D M L : Led} {s : Shared} {tk : Nat} {E : Value → Shared → Prop}
/-- all of a list of True -/
theorem allT {l : Addr} {vs : List Value} {k : Nat} {Q : Value → Shared → Prop} (Z : St T h₀ B O env A m D M h) (hl : (l, lsOf vs k) ∈ D) (hb : ∀ v ∈ vs, v = .bool true)
    (hQ : ∀ h' tk', St T h₀ B O env A m D M h' → Q (.bool true) (sA s h' tk')) : wpAny (model prog w) A (call (.builtin "all") [.ref l]) Q E (sA s h tk) := by
  have hL : (sA s h tk).heap.IsList l vs.toArray := ⟨_, (Z.go.has _ hl).1, rfl, k, rfl⟩
  have hlt : l < h.objs.size := Heap.lt_size (Z.go.has _ hl).1
  refine call_all_walk (wpAny_pyIter_list hL ?_)
  refine ⟨h.objs.size, [h.objs.size, l], [h.objs.size], vs.toArray.size, _, _, fun _ => true, rfl, Walks.list (A := A.in1) Z.go.fs.hd _ l (Nat.ne_of_lt hlt) vs.toArray,
    ⟨⟨_, Heap.get?_push_size _ rfl, rfl, rfl⟩, hL.push _⟩, fun i v s' Q' E' hP hQ => ?_, fun h' tk' hk => ?_⟩
  · have hm : v ∈ vs := List.mem_of_getElem? (by simpa using hP)
    rw [hb v hm]
    exact wpAny_truthy_bool hQ
  · have e : ((List.range vs.toArray.size).all fun _ => true) = true := by simp
    rw [e]
    exact hQ h' tk' (Z.step (.of_keeps (LSm.kept_iter (s := sA s h tk) hk)))
end
end Mine
end
section
namespace Mine
section
variable {prog : Program} {w : World} {K : Frag} {T h₀ h h' : Heap} {O : List Addr} {env : Env} {A A' : Around} {m : Str → Option Value} {B D D' M M' L L' : Led} {s : Shared} {tk : Nat} {E : Value → Shared → Prop}
/-- the last clause of a comprehension whose turns may turn M -/
theorem compLastM {M₀ : Led} {elt : Expr} {gens : List Comprehension} {scope : Scope} {pos : Pos} {k : Nat} {target iter : Expr} {ifs : List Expr} {it acc : Addr} {n c : Nat} {Mi : Nat → Led → Prop} {Val : Nat → Value → Prop} {R : Result → Shared → Prop} {L₀ : Led} {vs₀ : List Value}
    (hg : gens[k]? = some ⟨target, iter, ifs, 0⟩) (hl : gens[k + 1]? = none)
    (I : Itr prog w T D it n Mi Val) (J : Nat → Led → List Value → Led → Prop) (Z : St T h₀ B O env A m D (L₀ ++ (acc, lsOf vs₀ c) :: M₀) h) (hM₀ : Mi 0 L₀) (h0 : J 0 D vs₀ M₀) (hd : Room 8 A)
    (hJ : ∀ i D₁ vs M, i ≤ n → J i D₁ vs M → vs.length ≤ sizeLine)
    (step : ∀ i v D₁ L₁ vs c h₁ tk₁ E₁ M, i < n → Val i v → J i D₁ vs M → (∀ p ∈ D, p ∈ D₁) → St T h₀ B O env A m D₁ (L₁ ++ (acc, lsOf vs c) :: M) h₁ →
      wpAny (model prog w) A (assign target env v) (fun _ s₂ => wpAny (model prog w) A (testsOf ifs env) (fun ok s₃ =>
        if ok = true then wpAny (model prog w) A (eval elt env) (fun y s₄ => ∃ h₂ tk₂ m₂ D₂ M₂, s₄ = sA s h₂ tk₂ ∧ (∀ p ∈ D₁, p ∈ D₂) ∧ (∀ x u, m x = some u → m₂ x = some u) ∧ St T h₀ B O env A m₂ D₂ (L₁ ++ (acc, lsOf vs c) :: M₂) h₂ ∧ J (i + 1) D₂ (vs ++ [y]) M₂) E₁ s₃
        else ∃ h₂ tk₂ m₂ D₂ M₂, s₃ = sA s h₂ tk₂ ∧ (∀ p ∈ D₁, p ∈ D₂) ∧ (∀ x u, m x = some u → m₂ x = some u) ∧ St T h₀ B O env A m₂ D₂ (L₁ ++ (acc, lsOf vs c) :: M₂) h₂ ∧ J (i + 1) D₂ vs M₂) E₁ s₂) E₁ (sA s h₁ tk₁))
    (hQ : ∀ h' tk' D' vs c' M, (∀ p ∈ D, p ∈ D') → J n D' vs M → St T h₀ B O env A m D' ((acc, lsOf vs c') :: M) h' → R (.ok .next) (sA s h' tk')) :
    codeAny (model prog w) A (.compLoop (.ListComp elt gens scope pos) k (.ref it) (.ref acc) env) R (sA s h tk) := by
  refine codeAny_loop rfl (fun j s' => ∃ h' tk' D' vs c' L' i M, s' = sA s h' tk' ∧ St T h₀ B O env A m D' (L' ++ (acc, lsOf vs c') :: M) h' ∧ (∀ p ∈ D, p ∈ D') ∧ Mi i L' ∧ J i D' vs M ∧ i ≤ n ∧ j = n + 1 - i) ?_ (n + 1)
    ⟨h, tk, D, vs₀, c, L₀, 0, M₀, rfl, Z, fun _ q => q, hM₀, h0, Nat.zero_le _, rfl⟩
  rintro j s' ⟨h', tk', D', vs, c', L', i, M, rfl, Z', hD', hM', hJi, hi, rfl⟩
  show wpAny _ A ((compTurn (.ListComp elt gens scope pos) k (.ref it) (.ref acc) env).onRaise (fun x => do noteFrame x env; theTreesLotGoes x)) _ _ _
  refine wpAny_noted ?_
  rw [compTurn_last hg hl]
  refine wpAny_bind (wpAny_standAt (wpAny_bind ?_))
  by_cases hlt : i < n
  · refine Z'.item (I.mono hD') hlt hd hM' fun v h₁ tk₁ L₁ hM₁ hv Z₁ => ?_
    refine wpAny_bind ((I.mono hD').lg Z₁.goL hM₁ Z₁.go.has ?_)
    refine wpAny_bind (wpAny_mono (step i v D' L₁ vs c' h₁ tk₁ _ M hlt hv hJi hD' Z₁) (fun _ s₂ h₂' => wpAny_bind (wpAny_mono h₂' (fun ok s₃ h₃ => ?_) fun _ _ e => e)) fun _ _ e => e)
    have fin : ∀ {h₂ : Heap} {tk₂ : Nat} {m₂ : Str → Option Value} {D₂ : Led} {vs₂ : List Value} {c₂ : Nat} {M : Led}, (∀ p ∈ D', p ∈ D₂) → (∀ x u, m x = some u → m₂ x = some u) → St T h₀ B O env A m₂ D₂ (L₁ ++ (acc, lsOf vs₂ c₂) :: M) h₂ → J (i + 1) D₂ vs₂ M →
        ∃ j, j < n + 1 - i ∧ ∃ h' tk' D' vs c' L' i M, sA s h₂ tk₂ = sA s h' tk' ∧ St T h₀ B O env A m D' (L' ++ (acc, lsOf vs c') :: M) h' ∧ (∀ p ∈ D, p ∈ D') ∧ Mi i L' ∧ J i D' vs M ∧ i ≤ n ∧ j = n + 1 - i := fun {h₂ tk₂ m₂ D₂ vs₂ c₂ M} hD₂ hm Z₂ hJ₂ =>
      ⟨n + 1 - (i + 1), by omega, h₂, tk₂, D₂, vs₂, c₂, L₁, i + 1, M, rfl, Z₂.weak hm, fun p hp => hD₂ p (hD' p hp), hM₁, hJ₂, hlt, rfl⟩
    cases ok with
    | false =>
      rw [if_neg (by decide)] at h₃
      obtain ⟨h₂, tk₂, m₂, D₂, M₂, rfl, hD₂, hm, Z₂, hJ₂⟩ := h₃
      exact wpAny_pure ⟨rfl, fin hD₂ hm Z₂ hJ₂⟩
    | true =>
      rw [if_pos rfl] at h₃
      refine wpAny_bind (wpAny_bind (wpAny_mono h₃ (fun y s₄ h₄ => ?_) fun _ _ e => e))
      obtain ⟨h₂, tk₂, m₂, D₂, M₂, rfl, hD₂, hm, Z₂, hJ₂⟩ := h₄
      exact wpAny_bind (appendL Z₂ (hJ i D' vs M hi hJi) fun h₅ tk₅ k₅ Z₅ => wpAny_pure (wpAny_pure ⟨rfl, fin hD₂ hm Z₅ hJ₂⟩))
  · have hin : i = n := by omega
    subst hin
    refine Z'.done (I.mono hD') hd hM' fun h₁ tk₁ Z₁ => wpAny_pure ?_
    exact hQ h₁ tk₁ D' vs c' M hD' hJi Z₁
/-- lent objects come back, told by the parts -/
theorem St.retMk (Z : St T h₀ B O env A m D M h) (kp : Kp T (without h (M.map (·.1))) h') (has : Has h' D') (gr : ∀ p ∈ D', p ∈ D ∨ (without h (M.map (·.1))).get? p.1 = none) (mu : Has h' M') (off : ∀ p ∈ D', ∀ q ∈ M', p.1 ≠ q.1) (hM : M'.map (·.1) = M.map (·.1)) :
    St T h₀ B O env A m (D' ++ D) M' h' := by
  have k : KpX T (M.map (·.1)) h h' := ⟨fun b o hb e => kp.keep b o (by simp) (by rw [without_get, if_neg hb]; exact e), fun b o e n => by
    by_cases hb : b ∈ M.map (·.1)
    · obtain ⟨p, hp, rfl⟩ := List.mem_map.mp hb
      have hc := (Z.mu p hp).2
      have := (Z.mu p hp).1
      rw [e] at this
      cases this
      exact absurd n (notFrm_cls hc)
    · exact kp.nf b o (by rw [without_get, if_neg hb]; exact e) n⟩
  have Z' := Z.turnM k (fun _ q => q) (fun a ha => hM ▸ ha) (hM ▸ Z.ndM) mu
  have nw : ∀ p ∈ D', p ∈ D ∨ h.get? p.1 = none := fun p hp => by
    rcases gr p hp with q | q
    · exact .inl q
    · rw [without_get] at q
      split at q
      · rename_i hb
        exfalso
        rw [← hM] at hb
        obtain ⟨r, hr, e⟩ := List.mem_map.mp hb
        exact off p hp r hr e.symm
      · exact .inr q
  exact { Z' with
    go := ⟨Z'.go.kT, Z'.go.fs, has.append Z'.go.has⟩
    gr := fun p hp => (List.mem_append.mp hp).elim (fun q => (nw p q).elim (Z.gr p) fun q => .inr (Kp.back Z.kp q)) (Z.gr p)
    offD := fun p hp => (List.mem_append.mp hp).elim (fun q => ⟨(nw p q).elim (fun r => (Z'.offD p r).1) fun r ho => (by obtain ⟨_, o, e⟩ := Z.own _ ho; rw [r] at e; cases e), off p q⟩) (Z'.offD p) }

/-- what is to be shown at the start of a list comprehension whose turns may turn the lent objects -/
noncomputable def CompInM (prog : Program) (w : World) (T hb : Heap) (D : Led) (env : Env) (A : Around) (m : Str → Option Value) (s : Shared) (elt : Expr) (gens : List Comprehension) (scope rs : Scope) (pos : Pos) (cl : List (Str × Addr)) (P : Addr → List Value → Nat → Led → Led → Prop) (itv : Value) (s₂ : Shared) : Prop :=
  ∃ it n Mi Val D₁ L₁ M₁ h₂ tk₂, itv = .ref it ∧ s₂ = sA s h₂ tk₂ ∧ Itr prog w T D₁ it n Mi Val ∧ Mi 0 L₁ ∧ St T hb D [] env A m D₁ (L₁ ++ M₁) h₂ ∧ Room 8 A ∧
    ∀ acc c h₄ tk₄ L, St T hb D (ownOf L (cellsFrom (L + 1) scope.names cl)) (cpEnv scope rs cl L env) A (newM cl m) D₁ (L₁ ++ (acc, lsOf [] c) :: M₁) h₄ →
      codeAny (model prog w) A (.compLoop (.ListComp elt gens scope pos) 0 (.ref it) (.ref acc) (cpEnv scope rs cl L env)) (fun r s₅ => r = .ok .next ∧ ∃ h₅ tk₅ D₅ vs c₅ m₅ M₅, s₅ = sA s h₅ tk₅ ∧ St T hb D (ownOf L (cellsFrom (L + 1) scope.names cl)) (cpEnv scope rs cl L env) A m₅ D₅ ((acc, lsOf vs c₅) :: M₅) h₅ ∧ P acc vs c₅ D₅ M₅) (sA s h₄ tk₄)

/-- a list comprehension whose turns may turn the lent objects -/
theorem compIM {elt : Expr} {gens : List Comprehension} {target iter : Expr} {ifs : List Expr} {gs : List Comprehension} {scope rs : Scope} {pos : Pos} {cl : List (Str × Addr)} {Q : Value → Shared → Prop}
    (Z : St T h₀ B O env A m D M h)
    (hgens : gens = ⟨target, iter, ifs, 0⟩ :: gs)
    (hs : ∀ x, foldedSetIterable iter env x = pure x) (hrs : relabel scope env = rs) (hclos : closureFor scope env = pure cl) (hkind : scope.kind = .function) (hnames : ∀ x ∈ scope.names, x.2 = .local → scope.names.lookup x.1 = some .local)
    (hcl : ClOk env cl) (hclN : nodupS (cl.map (·.1)) = true) (hnm : nodupS ((cellsFrom 0 scope.names cl).map (·.1)) = true)
    (hlook : ∀ L : Nat, looksOk rs.names (cellsFrom (L + 1) scope.names cl) = true) (hcll : (cl.all fun p => !(rs.names.lookup p.1 == some .local)) = true)
    (hh : ∀ E', wpAny (model prog w) A (eval iter env) (fun x s₁ => wpAny (model prog w) A (pyIter x) (CompInM prog w T (without h (M.map (·.1))) D env A m s elt gens scope rs pos cl fun acc vs c D₅ M₅ => M₅.map (·.1) = M.map (·.1) ∧ ∀ h₆ tk₆, St T h₀ B O env A m ((acc, lsOf vs c) :: D₅ ++ D) M₅ h₆ → Q (.ref acc) (sA s h₆ tk₆)) E' s₁) E' (sA s h tk)) :
    wpAny (model prog w) A (eval (.ListComp elt gens scope pos) env) Q E (sA s h tk) := by
  rw [eval_ListComp (env := env) elt gens scope pos]
  subst hgens hrs
  refine wpAny_comprehension_free rfl hs hclos hkind hnames (wpAny_mono (hh E) (fun x s₁ h₁ => wpAny_mono h₁ (fun itv s₂ h₂ => ?_) fun _ _ e => e) fun _ _ e => e)
  obtain ⟨it, n, Mi, Val, D₁, L₁, M₁, h₂, tk₂, rfl, rfl, I, hM₀, Z₂, hd, body⟩ := h₂
  refine nwLM Z₂ (by show (0 : Nat) ≤ sizeLine; exact Nat.zero_le _) fun acc h₃ tk₃ Z₃ => ?_
  have Z₃' : St T (without h (M.map (·.1))) D [] env A m D₁ (L₁ ++ (acc, lsOf [] 0) :: M₁) h₃ := Z₃.bringBack
  obtain ⟨cm, hcm, hweak⟩ := newM_weak hcl Z₃'.vr
  have hnd := hcl.nodup Z₃'.sep.2.1 hclN
  refine newScope (rs := relabel scope env) (cm := cm) Z₃'.go Z₃'.kT0 Z₃'.kp Z₃'.gr Z₃'.mu Z₃'.muNew Z₃'.ndM (fun p hp => (Z₃'.offD p hp).2)
    (fun x c hc => ⟨hcm x c hc, (Z₃'.offC c (List.mem_map.mpr ⟨_, mem_of_lookup (hcl.mem _ hc).1, rfl⟩)).2⟩) hnd (fun h₄ tk₄ Z₄ _ => ?_) hkind hnm (hlook _) hcll (.inl rfl)
  have Z₄' := Z₄.weak hweak
  refine compStartI (L := L₁) (M := (acc, lsOf [] 0) :: M₁) rfl I Z₄' hM₀ hd fun h₄' tk₄' Z₄'' => ?_
  refine codeAny_mono (body acc 0 h₄' tk₄' h₃.objs.size Z₄'') ?_
  rintro r s₅ ⟨rfl, h₅, tk₅, D₅, vs, c₅, m₅, M₅, rfl, Z₅, hM₅, hP⟩
  obtain ⟨m₀, n₀, _⟩ := Z₅.vr.loc
  have hC : (without h (M.map (·.1))).get? h₃.objs.size = none := Kp.back Z₃'.kp (fresh_size h₃)
  refine ⟨m₀, n₀, fun h' hs0 => ?_⟩
  have hs' : Heap.SameBut h₃.objs.size h₅ h' := hs0
  have ndm := Z₅.ndM
  rw [List.map_cons, List.nodup_cons] at ndm
  have neM : ∀ q ∈ (acc, lsOf vs c₅) :: M₅, q.1 ≠ h₃.objs.size := fun q hq e => Z₅.offM q hq (e ▸ .head _)
  have neD : ∀ p ∈ D₅, p.1 ≠ h₃.objs.size := fun p hp e => (Z₅.offD p hp).1 (e ▸ .head _)
  have kp' : Kp T (without h (M.map (·.1))) h' := ⟨fun b o _ e => by
      obtain ⟨sl, e1, k1⟩ := Z₅.kp.keep b o (by simp) e
      exact ⟨sl, (hs'.2 b fun q => by rw [q, hC] at e; cases e).trans e1, k1⟩, fun b o e n => by
      obtain ⟨o1, e1, n1⟩ := Z₅.kp.nf b o e n
      exact ⟨o1, (hs'.2 b fun q => by rw [q, hC] at e; cases e).trans e1, n1⟩⟩
  refine hP h' tk₅ (Z.retMk kp' (fun p hp => ?_) (fun p hp => ?_) (fun p hp => ?_) (fun p hp q hq => ?_) hM₅)
  · rcases List.mem_cons.mp hp with rfl | hp
    · exact ⟨(hs'.2 _ (neM _ (.head _))).trans (Z₅.mu _ (.head _)).1, (Z₅.mu _ (.head _)).2⟩
    · exact ⟨(hs'.2 _ (neD p hp)).trans (Z₅.go.has p hp).1, (Z₅.go.has p hp).2⟩
  · rcases List.mem_cons.mp hp with rfl | hp
    · exact .inr (Z₅.muNew _ (.head _))
    · exact Z₅.gr p hp
  · exact ⟨(hs'.2 _ (neM p (.tail _ hp))).trans (Z₅.mu p (.tail _ hp)).1, (Z₅.mu p (.tail _ hp)).2⟩
  · rcases List.mem_cons.mp hp with rfl | hp
    · exact fun e => ndm.1 (e ▸ List.mem_map_of_mem hq)
    · exact (Z₅.offD p hp).2 q (.tail _ hq)
end
end Mine
end
section
namespace Mine
noncomputable abbrev own6 : List Int := [0, 131, 276, 47, 474, 65]
noncomputable def numsOf2 (xs : List Int) : List Int := (own6 ++ xs.take 8).map (· % 480)
theorem nums_len (xs : List Int) : (numsOf2 xs).length ≤ 14 := by
  unfold numsOf2
  simp only [List.length_map, List.length_append, List.length_cons, List.length_nil, List.length_take]
  omega
theorem nums_in {xs : List Int} {n : Int} (h : n ∈ numsOf2 xs) : 0 ≤ n ∧ n < 480 := by
  unfold numsOf2 at h
  obtain ⟨y, _, rfl⟩ := List.mem_map.mp h
  omega
noncomputable def ndAt (xs : List Int) (i : Nat) : List (Str × Str) := bookOf (((numsOf2 xs).filter (isOf (i : Int))).map entOf)
theorem ndAt_good (xs : List Int) (i : Nat) : Good (ndAt xs i) := good_nums _
theorem chosen_len (xs : List Int) (i : Int) : ((numsOf2 xs).filter (isOf i)).length ≤ 14 := Nat.le_trans (List.length_filter_le _ _) (nums_len xs)
/-- a list of addresses, what each holds -/
noncomputable def AllAt (P : Led → Addr → Nat → Prop) (D : Led) (us : List Value) (j : Nat) : Prop := us.length = j ∧ ∀ i v, us[i]? = some v → ∃ d, v = .ref d ∧ P D d i
theorem AllAt.nil {P : Led → Addr → Nat → Prop} {D : Led} : AllAt P D [] 0 := ⟨rfl, fun i v h => by simp at h⟩
theorem AllAt.mono {P : Led → Addr → Nat → Prop} {D D' : Led} {us : List Value} {j : Nat} (h : AllAt P D us j) (k : ∀ d i, P D d i → P D' d i) : AllAt P D' us j :=
  ⟨h.1, fun i v e => by obtain ⟨d, e1, e2⟩ := h.2 i v e; exact ⟨d, e1, k d i e2⟩⟩
theorem AllAt.snoc {P : Led → Addr → Nat → Prop} {D : Led} {us : List Value} {j : Nat} {d : Addr} (h : AllAt P D us j) (e : P D d j) : AllAt P D (us ++ [.ref d]) (j + 1) := by
  refine ⟨by simp [h.1], fun i v hv => ?_⟩
  by_cases q : i < us.length
  · rw [List.getElem?_append_left q] at hv
    exact h.2 i v hv
  · rw [List.getElem?_append_right (Nat.le_of_not_lt q)] at hv
    have hi : i = us.length := by
      have := (List.getElem?_eq_some_iff.mp hv).1
      simp at this
      omega
    subst hi
    simp at hv
    exact ⟨d, hv.symm, h.1 ▸ e⟩
theorem AllAt.get {P : Led → Addr → Nat → Prop} {D : Led} {us : List Value} {j i : Nat} (h : AllAt P D us j) (hi : i < j) : ∃ d, us[i]? = some (.ref d) ∧ P D d i := by
  have hl : i < us.length := by rw [h.1]; exact hi
  obtain ⟨d, e, p⟩ := h.2 i _ (List.getElem?_eq_getElem hl)
  exact ⟨d, by rw [List.getElem?_eq_getElem hl, e], p⟩
section
variable {w : World} {T h₀ h h' : Heap} {A : Around} {env : Env} {m : Str → Option Value} {O : List Addr} {B D M L : Led} {s : Shared} {tk : Nat} {E : Value → Shared → Prop}
theorem St.front2 {x p q : Addr × Obj} (Z : St T h₀ B O env A m D (L ++ x :: [p, q]) h) : St T h₀ B O env A m D (p :: q :: (L ++ [x])) h :=
  Z.permM (fun r hr => by simp at hr ⊢; rcases hr with h | h | h | h <;> simp [h]) (by
    have h := Z.ndM
    have : ((p :: q :: (L ++ [x])).map (·.1)).Perm ((L ++ x :: [p, q]).map (·.1)) := List.Perm.map _ (by
      have e : L ++ x :: [p, q] = (L ++ [x]) ++ [p, q] := by simp
      rw [e]
      exact List.perm_append_comm (l₁ := [p, q]))
    exact this.nodup_iff.mpr h)
theorem St.back2 {x p q : Addr × Obj} (Z : St T h₀ B O env A m D (p :: q :: (L ++ [x])) h) : St T h₀ B O env A m D (L ++ x :: [p, q]) h :=
  Z.permM (fun r hr => by simp at hr ⊢; rcases hr with h | h | h | h <;> simp [h]) (by
    have h := Z.ndM
    have : ((L ++ x :: [p, q]).map (·.1)).Perm ((p :: q :: (L ++ [x])).map (·.1)) := List.Perm.map _ (by
      have e : L ++ x :: [p, q] = (L ++ [x]) ++ [p, q] := by simp
      rw [e]
      exact List.perm_append_comm (l₂ := [p, q]))
    exact this.nodup_iff.mpr h)
set_option maxHeartbeats 4000000 in
theorem law_spec {l : Addr} {ol : Obj} {vs : List Value} {k : Nat} {xs : List Int} {Q : Value → Shared → Prop} (C : Cx (K01 w.params) T) (Z : St T h₀ B O env A m [(l, ol)] [(144, tabObj #[]), (271, tabObj #[])] h) (hroom : Room 76 A) (hcl : ol.cls = .type "list") (hdt : ol.data = .seq vs.toArray k) (hxs : IntsAre vs xs) (hlen : xs.length ≤ 63)
  (hQ : ∀ h' tk' M', Kp T h₀ h' → Has h' M' → M'.map (·.1) = [144, 271] → (∀ p ∈ M', ∃ ps, p.2 = tabObj ps) → Q (.bool true) (sA s h' tk')) :
  wpAny (model PySem.Challenge.rw_il0126_02.row.prog w) A (call (.ref 315) [.ref l]) Q E (sA s h tk) := by
  have Zl := Z.lend
  have C0 := C
  revert C; k_fill; intro C
  refine wpAny_call ?_
  refine' codeFnM0 (s := s) (tk := tk) (binds := [("script", .ref l)]) ?C Zl ?fs ?room ?ho ?hd ?hbody ?hcd ?hbind ?hcl ?hk ?hco ?hgen ?hnames ?hlook ?hbs ?hB
  case fs => exact Zl.go.fs
  case room => exact (hroom.le (Nat.zero_le _)).1
  walk_at "enterM"
  intro Lf O h₁ tk₁ E' hL hO Z₁
  subst hO
  dsimp only [bindAll, List.foldl] at Z₁ ⊢
  walk_at "ss"
  refine' compI Z₁ ?hgens ?hs ?hrs ?hclos ?hkind ?hnames ?hcl ?hclN ?hnm ?hlook ?hcll ?hh
  walk_at "comp"
  intro E₁
  have Z₂ := Z₁.sub
  walk_at "ss"
  rename_i u0 _ u1 _ u2 _ u3 _ u4 _ u5 _
  refine nwL Z₂ (by walk_at "sz") ?_
  intro a1 h₂ tk₂ Z₃
  refine wpAny_Subscript_list_slice ?_ ?ht
  case ht => intro _ _; with_unfolding_all rfl
  walk_at "ss"
  rw [evalPart_none]
  refine wpAny_pure ?_
  refine wpAny_evalPart_some ?_
  walk_at "ss"
  rename_i t8 tk8
  have hlo := (Z₃.go.has _ (.tail _ (.head _))).1
  have hvl := hxs.length
  refine ⟨l, vs.toArray, none, some 8, rfl, ⟨ol, hlo, hcl, k, hdt⟩, by rw [List.size_toArray]; show _ ≤ 16777216; omega, .none, .int _ _, ?_⟩
  have Z₄ := Z₃.step (.push ({ cls := .type "slice", data := .fields #[.none, .int 8 t8, .none] } : Obj))
  have hsl : IntsAre (slicePick vs.toArray none (some 8) none).toList (xs.take 8) := kmk_upto hxs (by decide)
  generalize hpk : (slicePick vs.toArray none (some 8) none).toList = pk at hsl
  have hpk2 : slicePick vs.toArray none (some 8) none = pk.toArray := by rw [← hpk, Array.toArray_toList]
  rw [hpk2]
  have e5 := Heap.get?_push_size (o := lsOf pk 0) (h₂.push ({ cls := .type "slice", data := .fields #[.none, .int 8 t8, .none] } : Obj)) rfl
  have Z₅ := Z₄.more (D' := [((h₂.push ({ cls := .type "slice", data := .fields #[.none, .int 8 t8, .none] } : Obj)).objs.size, lsOf pk 0)]) (.push _) (Has.cons e5 (by show Value.type _ ≠ Value.type _; decide) .nil) (fun p hp => by rw [List.mem_singleton.mp hp]; exact fresh_size _)
  rw [Heap.size_push] at Z₅
  have hpl : pk.length ≤ 8 := by rw [hsl.length, List.length_take]; omega
  clear Z₄ Z₃
  refine addL Z₅ (List.mem_append_left _ (.tail _ (.head _))) (List.mem_append_left _ (.head _)) (by simp only [List.length_cons, List.length_nil]; show _ ≤ 16777216; omega) ?_
  intro a2 h₆ tk₆ Z₆
  clear Z₅ Z₂
  refine iterL Z₆ (.head _) ?_
  intro it₁ h₇ tk₇ L₁ hM₁ _ I₁ _ _ Z₇
  refine ⟨it₁, _, _, _, _, _, h₇, tk₇, rfl, rfl, I₁, hM₁, Z₇.permM (fun _ q => List.mem_append_left _ q) (nd_left Z₇.ndM), hroom.deeper.le (by decide), ?_⟩
  intro acc c h₈ tk₈ L₂ Z₈
  have hall : IntsAre ([.int 0 u0, .int 131 u1, .int 276 u2, .int 47 u3, .int 474 u4, .int 65 u5] ++ pk) (own6 ++ xs.take 8) := ints_append (.cons 0 u0 (.cons 131 u1 (.cons 276 u2 (.cons 47 u3 (.cons 474 u4 (.cons 65 u5 .nil)))))) hsl
  refine compLast rfl rfl I₁ (fun j _ us => IntsAre us (((own6 ++ xs.take 8).take j).map (· % 480))) Z₈ hM₁ .nil (hroom.deeper.le (by decide)) ?sz ?step2 ?fin2
  case sz =>
    intro j D₃ us hj hJ
    rw [hJ.length, List.length_map, List.length_take]
    have : j ≤ 14 := by
      simp only [List.length_append, List.length_cons, List.length_nil] at hj
      omega
    show _ ≤ 16777216
    omega
  case step2 =>
    intro j v D₃ L₃ us c₂ h₉ tk₉ E₄ hj hv hJ hD₃ Z₉
    obtain ⟨y, t, hy, rfl⟩ := ints_get hall hv
    walk_at "ss"
    refine tests0 ?_
    walk_at "ss"
    refine ⟨_, _, _, D₃, rfl, fun _ q => q, up_none rfl, by assumption, ?_⟩
    rw [List.take_add_one, hy, List.map_append]
    exact ints_snoc hJ _ _
  case fin2 =>
    intro h₉ tk₉ D₃ nv c₃ hD₃ hJ Z₉
    refine ⟨rfl, h₉, tk₉, D₃, nv, c₃, _, _, rfl, Z₉, ?_⟩
    intro h₁₀ tk₁₀ hk₁₀ Z₁₀
    clear Z₉ Z₈ Z₇ Z₆
    have hnv : IntsAre nv (numsOf2 xs) := by
      rw [hall.length, List.take_length] at hJ
      exact hJ
    clear hJ hall
    have hnl := nums_len xs
    have hnvl := hnv.length
    have hmN : (acc, lsOf nv c₃) ∈ (acc, lsOf nv c₃) :: D₃ ++ [(l, ol)] := .head _
    generalize (acc, lsOf nv c₃) :: D₃ ++ [(l, ol)] = DA at *
    walk_at "ss"
    rename_i h₁₁ tk₁₁ Z₁₁
    clear Z₁₀
    refine' compI Z₁₁ ?hgens2 ?hs2 ?hrs2 ?hclos2 ?hkind2 ?hnames2 ?hcl2 ?hclN2 ?hnm2 ?hlook2 ?hcll2 ?hh2
    walk_at "comp2"
    intro E₂
    have Z₁₂ := Z₁₁.sub
    walk_at "ss"
    refine callR (N := 3) (by assumption) ?_
    intro r1 s1 s2 s3 h₁₃ tk₁₃ Z₁₃
    refine iterR (n := 3) Z₁₃ (.head _) (by decide) ?_
    intro it₂ h₁₄ tk₁₄ L₃ hM₂ _ I₂ _ _ Z₁₄
    refine ⟨it₂, _, _, _, _, _, h₁₄, tk₁₄, rfl, rfl, I₂, hM₂, Z₁₄.permM (fun _ q => List.mem_append_left _ q) (nd_left Z₁₄.ndM), hroom.deeper.le (by decide), ?_⟩
    intro ap c4 h₁₅ tk₁₅ L₄ Z₁₅
    refine compLast rfl rfl I₂ (fun j D₅ us => AllAt (fun D d i => Pl w D d (ndAt xs i)) D₅ us j) Z₁₅ hM₂ .nil (hroom.deeper.le (by decide)) ?sz3 ?step3 ?fin3
    case sz3 =>
      intro j D₅ us hj hJ
      rw [hJ.1]
      show _ ≤ 16777216
      omega
    case step3 =>
      rintro j v D₅ L₅ us c₅ h₁₆ tk₁₆ E₃ hj ⟨tj, rfl⟩ hJ hD₅ Z₁₆
      walk_at "ss"
      refine tests0 ?_
      walk_at "ss"
      rename_i Z₁₇
      refine chosen_spec C0 Z₁₇ (hroom.deeper.le (by decide)) (hD₅ _ (.tail _ hmN)) hnv (by omega) ?_
      intro ac uc cc h₁₈ tk₁₈ D₆ hmc hvc hD₆ Z₁₈
      walk_at "ss"
      refine plain_spec C0 Z₁₈ (hroom.deeper.le (by decide)) hmc hvc (Nat.le_trans (chosen_len xs _) (by decide)) ?_
      intro dp h₁₉ tk₁₉ D₇ hPl hD₇ Z₁₉
      refine ⟨_, _, _, D₇, rfl, fun p hp => hD₇ _ (hD₆ _ hp), up_none rfl, Z₁₉, ?_⟩
      exact (hJ.mono fun d i q => q.mono fun p hp => hD₇ _ (hD₆ _ hp)).snoc hPl
    case fin3 =>
      intro h₁₆ tk₁₆ D₅ pv c₅ hD₅ hJ Z₁₆
      refine ⟨rfl, h₁₆, tk₁₆, D₅, pv, c₅, _, _, rfl, Z₁₆, ?_⟩
      intro h₁₇ tk₁₇ hk₁₇ Z₁₇
      clear Z₁₆ Z₁₅ Z₁₄ Z₁₃ Z₁₂ Z₁₁
      have upB : ∀ p ∈ DA, p ∈ (ap, lsOf pv c₅) :: D₅ ++ DA := fun p hp => List.mem_append_right _ hp
      have hmNB := upB _ hmN
      have hmP : (ap, lsOf pv c₅) ∈ (ap, lsOf pv c₅) :: D₅ ++ DA := .head _
      have hP : AllAt (fun D d i => Pl w D d (ndAt xs i)) ((ap, lsOf pv c₅) :: D₅ ++ DA) pv 3 := hJ.mono fun d i q => q.mono fun p hp => .tail _ (List.mem_append_left _ hp)
      generalize (ap, lsOf pv c₅) :: D₅ ++ DA = DB at *
      clear hJ hD₅ upB
      walk_at "ss"
      rename_i h₁₈ tk₁₈ Z₁₈
      clear Z₁₇
      refine' compIM Z₁₈ ?hgens3 ?hs3 ?hrs3 ?hclos3 ?hkind3 ?hnames3 ?hcl3 ?hclN3 ?hnm3 ?hlook3 ?hcll3 ?hh3
      walk_at "comp3"
      intro E₅
      have Z₁₉ := Z₁₈.lend
      walk_at "ss"
      refine callR (N := 3) (by assumption) ?_
      intro r2 s4 s5 s6 h₂₀ tk₂₀ Z₂₀
      refine iterR (n := 3) Z₂₀ (.head _) (by decide) ?_
      intro it₃ h₂₁ tk₂₁ L₆ hM₃ _ I₃ _ _ Z₂₁
      refine ⟨it₃, _, _, _, _, _, _, h₂₁, tk₂₁, rfl, rfl, I₃, hM₃, Z₂₁, hroom.deeper.le (by decide), ?_⟩
      intro ab c6 h₂₂ tk₂₂ L₇ Z₂₂
      refine compLastM rfl rfl I₃ (fun j D₅ us M => (∃ ps qs, M = [(144, tabObj ps), (271, tabObj qs)] ∧ TabIs frzPos frzQ D₅ ps ∧ TabIs bkPos bkQ D₅ qs) ∧ AllAt (fun D d i => Bk w D d (ndAt xs i)) D₅ us j) Z₂₂ hM₃ ⟨⟨_, _, rfl, .inl rfl, .inl rfl⟩, .nil⟩ (hroom.deeper.le (by decide)) ?sz4 ?step4 ?fin4
      case sz4 =>
        rintro j D₅ us M₅ hj ⟨_, hJ⟩
        rw [hJ.1]
        show _ ≤ 16777216
        omega
      case step4 =>
        rintro j v D₅ L₈ us c₇ h₂₃ tk₂₃ E₆ M₅ hj ⟨tj, rfl⟩ ⟨⟨ps, qs, rfl, hps, hqs⟩, hJ⟩ hD₅ Z₂₃
        walk_at "ss"
        refine tests0 ?_
        walk_at "ss"
        rename_i h₂₄ tk₂₄ Z₂₄
        refine' compI Z₂₄ ?hgens4 ?hs4 ?hrs4 ?hclos4 ?hkind4 ?hnames4 ?hcl4 ?hclN4 ?hnm4 ?hlook4 ?hcll4 ?hh4
        walk_at "comp4"
        intro E₇
        have Z₂₅ := Z₂₄.sub
        walk_at "ss"
        refine chosen_spec C0 Z₂₅ (hroom.deeper.le (by decide)) (hD₅ _ (.tail _ hmNB)) hnv (by omega) ?_
        intro ac uc cc h₂₆ tk₂₆ D₆ hmc hvc hD₆ Z₂₆
        refine iterL Z₂₆ hmc ?_
        intro it₄ h₂₇ tk₂₇ L₉ hM₄ _ I₄ _ _ Z₂₇
        refine ⟨it₄, _, _, _, _, _, h₂₇, tk₂₇, rfl, rfl, I₄, hM₄, Z₂₇.permM (fun _ q => List.mem_append_left _ q) (nd_left Z₂₇.ndM), hroom.deeper.le (by decide), ?_⟩
        intro al c8 h₂₈ tk₂₈ L₁₀ Z₂₈
        refine compLast rfl rfl I₄ (fun q _ us => StrsAre us ((((numsOf2 xs).filter (isOf (j : Int))).take q).map lineOf)) Z₂₈ hM₄ .nil (hroom.deeper.le (by decide)) ?sz5 ?step5 ?fin5
        case sz5 =>
          intro q D₄ us hq hJ2
          rw [strs_len hJ2, List.length_map, List.length_take]
          have := chosen_len xs (j : Int)
          show _ ≤ 16777216
          omega
        case step5 =>
          intro q v D₄ L₁₁ us2 c9 h₂₉ tk₂₉ E₈ hq hv hJ2 hD₄ Z₂₉
          obtain ⟨y, ty, hy, rfl⟩ := ints_get hvc hv
          have hyn := nums_in (List.mem_filter.mp (List.mem_of_getElem? hy)).1
          walk_at "ss"
          refine tests0 ?_
          walk_at "ss"
          rename_i Z₃₀
          refine line_spec y ty C0 Z₃₀ (hroom.deeper.le (by decide)) hyn.1 hyn.2 ?_
          intro t' h₃₁ tk₃₁ kp₃₁
          refine ⟨_, _, _, D₄, rfl, fun _ q => q, up_none rfl, Z₃₀.step kp₃₁, ?_⟩
          rw [List.take_add_one, hy, Option.toList, List.map_append]
          exact strs_snoc hJ2
        case fin5 =>
          intro h₂₉ tk₂₉ D₄ us2 c9 hD₄ hJ2 Z₂₉
          refine ⟨rfl, h₂₉, tk₂₉, D₄, us2, c9, _, _, rfl, Z₂₉, ?_⟩
          intro h₃₀ tk₃₀ hk₃₀ Z₃₀
          rw [hvc.length, List.take_length] at hJ2
          clear Z₂₉ Z₂₈ Z₂₇ Z₂₆ Z₂₅ Z₂₄ Z₂₃
          walk_at "ss"
          have upE : ∀ p ∈ D₅, p ∈ (al, lsOf us2 c9) :: D₄ ++ D₅ := fun p hp => List.mem_append_right _ hp
          refine book_spec (es := ((numsOf2 xs).filter (isOf (j : Int))).map entOf) C0 Z₃₀.front2 (hroom.deeper.le (by decide)) (List.mem_append_left _ (.head _)) hJ2 (by simp) (fun q x pr hx hpr => ?_) (by rw [List.length_map]; exact Nat.le_trans (chosen_len xs _) (by decide)) (hps.mono upE) (hqs.mono upE) ?_
          · rw [List.getElem?_map] at hx hpr
            cases hy : ((numsOf2 xs).filter (isOf (j : Int)))[q]? with
            | none => rw [hy] at hx; cases hx
            | some y =>
              rw [hy] at hx hpr
              cases hx
              cases hpr
              have hyn := nums_in (List.mem_filter.mp (List.mem_of_getElem? hy)).1
              exact line_ok hyn.1 hyn.2
          · intro xb ps' qs' h₃₁ tk₃₁ D₇ hD₇ hbk hps' hqs' Z₃₁
            refine ⟨_, _, _, D₇, _, rfl, fun p hp => hD₇ _ (upE p hp), up_none rfl, Z₃₁.back2, ⟨ps', qs', rfl, hps', hqs'⟩, ?_⟩
            exact (hJ.mono fun d i q => q.mono fun p hp => hD₇ _ (upE p hp)).snoc hbk
      case fin4 =>
        rintro h₂₃ tk₂₃ D₅ bv c₇ M₅ hD₅ ⟨⟨ps, qs, rfl, hps, hqs⟩, hJ⟩ Z₂₃
        refine ⟨rfl, h₂₃, tk₂₃, D₅, bv, c₇, _, _, rfl, Z₂₃, rfl, ?_⟩
        intro h₂₄ tk₂₄ Z₂₄
        clear Z₂₃ Z₂₂ Z₂₁ Z₂₀ Z₁₉ Z₁₈
        have upC : ∀ p ∈ DB, p ∈ (ab, lsOf bv c₇) :: D₅ ++ DB := fun p hp => List.mem_append_right _ hp
        have hmPC := upC _ hmP
        have hmB : (ab, lsOf bv c₇) ∈ (ab, lsOf bv c₇) :: D₅ ++ DB := .head _
        have hPC := hP.mono (D' := (ab, lsOf bv c₇) :: D₅ ++ DB) fun d i q => q.mono upC
        have hB : AllAt (fun D d i => Bk w D d (ndAt xs i)) ((ab, lsOf bv c₇) :: D₅ ++ DB) bv 3 := hJ.mono fun d i q => q.mono fun p hp => .tail _ (List.mem_append_left _ hp)
        generalize (ab, lsOf bv c₇) :: D₅ ++ DB = DC at *
        clear hJ hD₅ upC
        walk_at "ss"
        rename_i h₂₅ tk₂₅ Z₂₅
        clear Z₂₄
        refine' compI Z₂₅ ?hgens5 ?hs5 ?hrs5 ?hclos5 ?hkind5 ?hnames5 ?hcl5 ?hclN5 ?hnm5 ?hlook5 ?hcll5 ?hh5
        case hgens5 => exact rfl
        case hs5 => (intro _; exact rfl)
        case hrs5 => exact rfl
        case hclos5 => exact rfl
        case hkind5 => exact rfl
        case hnames5 => decide
        case hcl5 => repeat (first | exact Mine.ClOk.nil | refine Mine.ClOk.cons rfl (by first | exact Or.inl rfl | exact Or.inr rfl) ?_)
        case hclN5 => exact rfl
        case hnm5 => exact rfl
        case hlook5 => (intro _; exact rfl)
        case hcll5 => exact rfl
        intro E₈
        have Z₂₆ := Z₂₅.sub
        walk_at "ss"
        refine callR (N := 3) (by assumption) ?_
        intro r3 s7 s8 s9 h₂₇ tk₂₇ Z₂₇
        refine iterR (n := 3) Z₂₇ (.head _) (by decide) ?_
        intro it₅ h₂₈ tk₂₈ L₁₂ hM₅ _ I₅ _ _ Z₂₈
        refine ⟨it₅, _, _, _, _, _, h₂₈, tk₂₈, rfl, rfl, I₅, hM₅, Z₂₈.permM (fun _ q => List.mem_append_left _ q) (nd_left Z₂₈.ndM), hroom.deeper.le (by decide), ?_⟩
        intro aq c10 h₂₉ tk₂₉ L₁₃ Z₂₉
        refine compLast rfl rfl I₅ (fun i _ us => us.length = i ∧ ∀ v ∈ us, v = .bool true) Z₂₉ hM₅ ⟨rfl, fun v hv => nomatch hv⟩ (hroom.deeper.le (by decide)) ?sz6 ?step6 ?fin6
        case sz6 =>
          rintro j D₆ us hj ⟨hJ, _⟩
          rw [hJ]
          show _ ≤ 16777216
          omega
        case step6 =>
          rintro j v D₆ L₁₄ us c₁₁ h₃₀ tk₃₀ E₉ hj ⟨tj, rfl⟩ hJ hD₆ Z₃₀
          walk_at "ss"
          refine tests0 ?_
          walk_at "ss"
          rename_i h₃₁ tk₃₁ Z₃₁
          obtain ⟨xb, hxb, hbk⟩ := hB.get hj
          obtain ⟨dp, hdp, hpl⟩ := hPC.get hj
          have upG : ∀ p ∈ DC, p ∈ D₆ := fun p hp => hD₆ _ (.tail _ hp)
          refine itLV (i := j) Z₃₁.go.has (upG _ hmB) (by omega) hxb ?_ (by with_unfolding_all rfl) (by intro _; with_unfolding_all rfl)
          walk_at "ss"
          refine itLV (i := j) Z₃₁.go.has (upG _ hmPC) (by omega) hdp ?_ (by with_unfolding_all rfl) (by intro _; with_unfolding_all rfl)
          walk_at "ss"
          have gj := ndAt_good xs j
          refine holds_spec C0 Z₃₁ (hroom.deeper.le (by decide)) (hbk.mono upG) (hpl.mono upG) gj.small (Nat.le_trans gj.len (by decide)) ?_
          intro h₃₂ tk₃₂ D₇ hD₇ Z₃₂
          refine ⟨_, _, _, D₇, rfl, hD₇, up_none rfl, Z₃₂, by simp [hJ.1], fun v hv => ?_⟩
          rcases List.mem_append.mp hv with h | h
          · exact hJ.2 v h
          · exact List.mem_singleton.mp h
        case fin6 =>
          rintro h₃₀ tk₃₀ D₆ rv c₁₁ hD₆ hJ Z₃₀
          refine ⟨rfl, h₃₀, tk₃₀, D₆, rv, c₁₁, _, _, rfl, Z₃₀, ?_⟩
          intro h₃₁ tk₃₁ hk₃₁ Z₃₁
          clear Z₃₀ Z₂₉ Z₂₈ Z₂₇ Z₂₆ Z₂₅
          have upD : ∀ p ∈ DC, p ∈ (aq, lsOf rv c₁₁) :: D₆ ++ DC := fun p hp => List.mem_append_right _ hp
          have hmPD := upD _ hmPC
          have hmBD := upD _ hmB
          have hmR : (aq, lsOf rv c₁₁) ∈ (aq, lsOf rv c₁₁) :: D₆ ++ DC := .head _
          have hPD := hPC.mono (D' := (aq, lsOf rv c₁₁) :: D₆ ++ DC) fun d i q => q.mono upD
          have hBD := hB.mono (D' := (aq, lsOf rv c₁₁) :: D₆ ++ DC) fun d i q => q.mono upD
          generalize (aq, lsOf rv c₁₁) :: D₆ ++ DC = DD at *
          clear hD₆ upD
          walk_at "ss"
          refine allT Z₃₁ hmR hJ.2 ?_
          intro h₃₂ tk₃₂ Z₃₂
          clear Z₃₁
          walk_at "ss"
          refine PyProof.Rows.BoolOp_and ?_
          walk_at "ss"
          refine PyProof.Rows.BoolOp_one ?_
          walk_at "ss"
          rename_i h₃₃ tk₃₃ Z₃₃
          clear Z₃₂
          refine' compI Z₃₃ ?hgens6 ?hs6 ?hrs6 ?hclos6 ?hkind6 ?hnames6 ?hcl6 ?hclN6 ?hnm6 ?hlook6 ?hcll6 ?hh6
          case hgens6 => exact rfl
          case hs6 => (intro _; exact rfl)
          case hrs6 => exact rfl
          case hclos6 => exact rfl
          case hkind6 => exact rfl
          case hnames6 => decide
          case hcl6 => repeat (first | exact Mine.ClOk.nil | refine Mine.ClOk.cons rfl (by first | exact Or.inl rfl | exact Or.inr rfl) ?_)
          case hclN6 => exact rfl
          case hnm6 => exact rfl
          case hlook6 => (intro _; exact rfl)
          case hcll6 => exact rfl
          intro E₁₀
          have Z₃₄ := Z₃₃.sub
          walk_at "ss"
          refine callR (N := 3) (by assumption) ?_
          intro r4 s10 s11 s12 h₃₅ tk₃₅ Z₃₅
          refine iterR (n := 3) Z₃₅ (.head _) (by decide) ?_
          intro it₆ h₃₆ tk₃₆ L₁₅ hM₆ _ I₆ _ _ Z₃₆
          refine ⟨it₆, _, _, _, _, _, h₃₆, tk₃₆, rfl, rfl, I₆, hM₆, Z₃₆.permM (fun _ q => List.mem_append_left _ q) (nd_left Z₃₆.ndM), hroom.deeper.le (by decide), ?_⟩
          intro ar c12 h₃₇ tk₃₇ L₁₆ Z₃₇
          refine compMid rfl rfl I₆ (fun i _ us => us.length = 3 * i ∧ ∀ v ∈ us, v = .bool true) Z₃₇ hM₆ ⟨rfl, fun v hv => nomatch hv⟩ (hroom.deeper.le (by decide)) (fun _ => rfl) ?step7 ?fin7
          case step7 =>
            rintro j v D₇ L₁₇ us c₁₃ h₃₈ tk₃₈ E₁₁ hj ⟨tj, rfl⟩ hJ hD₇ Z₃₈
            walk_at "ss"
            refine tests0 ?_
            walk_at "ss"
            refine callR (N := 3) (by assumption) ?_
            intro r5 s13 s14 s15 h₃₉ tk₃₉ Z₃₉
            refine iterR (n := 3) Z₃₉ (.head _) (by decide) ?_
            intro it₇ h₄₀ tk₄₀ L₁₈ hM₇ _ I₇ _ _ Z₄₀
            refine compStartI rfl I₇ Z₄₀ hM₇ (hroom.deeper.le (by decide)) ?_
            intro h₄₁ tk₄₁ Z₄₁
            refine compLast rfl rfl I₇ (fun q _ us => us.length = 3 * j + q ∧ ∀ v ∈ us, v = .bool true) Z₄₁.bring hM₇ (by simpa using hJ) (hroom.deeper.le (by decide)) ?sz8 ?step8 ?fin8
            case sz8 =>
              rintro q D₈ us hq ⟨hJ2, _⟩
              rw [hJ2]
              show _ ≤ 16777216
              omega
            case step8 =>
              rintro q v D₈ L₁₉ us3 c₁₄ h₄₂ tk₄₂ E₁₂ hq ⟨tq, rfl⟩ hJ2 hD₈ Z₄₂
              walk_at "ss"
              refine tests0 ?_
              walk_at "ss"
              rename_i h₄₃ tk₄₃ Z₄₃
              obtain ⟨xb, hxb, hbk⟩ := hBD.get hj
              obtain ⟨xc, hxc, hbc⟩ := hBD.get hq
              obtain ⟨dp, hdp, hpl⟩ := hPD.get hj
              obtain ⟨dq, hdq, hpq⟩ := hPD.get hq
              have upG : ∀ p ∈ DD, p ∈ D₈ := fun p hp => hD₈ _ (.tail _ (hD₇ _ (.tail _ hp)))
              refine itLV (i := j) Z₄₃.go.has (upG _ hmBD) (by omega) hxb ?_ (by with_unfolding_all rfl) (by intro _; with_unfolding_all rfl)
              walk_at "ss"
              refine itLV (i := q) Z₄₃.go.has (upG _ hmBD) (by omega) hxc ?_ (by with_unfolding_all rfl) (by intro _; with_unfolding_all rfl)
              walk_at "ss"
              refine itLV (i := j) Z₄₃.go.has (upG _ hmPD) (by omega) hdp ?_ (by with_unfolding_all rfl) (by intro _; with_unfolding_all rfl)
              walk_at "ss"
              refine itLV (i := q) Z₄₃.go.has (upG _ hmPD) (by omega) hdq ?_ (by with_unfolding_all rfl) (by intro _; with_unfolding_all rfl)
              walk_at "ss"
              refine pholds_spec C0 Z₄₃ (hroom.deeper.le (by decide)) (hbk.mono upG) (hbc.mono upG) (hpl.mono upG) (hpq.mono upG) (ndAt_good xs j) (ndAt_good xs q) ?_
              intro h₄₄ tk₄₄ D₉ hD₉ Z₄₄
              refine ⟨_, _, _, D₉, rfl, hD₉, up_none rfl, Z₄₄, by simp [hJ2.1]; omega, fun v hv => ?_⟩
              rcases List.mem_append.mp hv with h | h
              · exact hJ2.2 v h
              · exact List.mem_singleton.mp h
            case fin8 =>
              intro h₄₂ tk₄₂ D₈ us3 c₁₄ hD₈ hJ2 Z₄₂
              refine ⟨rfl, h₄₂, tk₄₂, _, D₈, us3, c₁₄, rfl, fun p hp => hD₈ _ (.tail _ hp), ?_, Z₄₂.bringBack, by rw [hJ2.1]; omega, hJ2.2⟩
              exact up_none rfl
          case fin7 =>
            intro h₃₈ tk₃₈ D₇ us c₁₃ hD₇ hJ Z₃₈
            refine ⟨rfl, h₃₈, tk₃₈, D₇, us, c₁₃, _, _, rfl, Z₃₈, ?_⟩
            intro h₃₉ tk₃₉ hk₃₉ Z₃₉
            clear Z₃₈ Z₃₇ Z₃₆ Z₃₅ Z₃₄ Z₃₃
            walk_at "ss"
            refine allT Z₃₉ (List.mem_append_left _ (.head _)) hJ.2 ?_
            intro h₄₀ tk₄₀ Z₄₀
            walk_at "ss"
            have Zr := Z.retM Z₄₀ rfl
            exact hQ _ _ [(144, tabObj ps), (271, tabObj qs)] Zr.kp Zr.mu rfl (fun p hp => by
              rcases List.mem_cons.mp hp with rfl | hp
              · exact ⟨_, rfl⟩
              · rw [List.mem_singleton.mp hp]; exact ⟨_, rfl⟩)
end
end Mine
end
section
namespace Mine
theorem t_open (w : World) : (fenceT treeTable PySem.Challenge.pw_il0126_02 w 6000).map (fun s => (s.heap, s.gens, s.drawn, s.toks)) = some (H0 w.params, #[], ⟨0, 0, 0, 0⟩, 273) := by kernel_rfl
theorem t_size (w : World) : ((H0 w.params).isNs mainGlobals && (#[] : Array GenState).size == 0, (H0 w.params).objs.size, (H0 w.params).nsMap mainGlobals "__annotations__") = (true, 29, (some (rf 6))) := by kernel_rfl
theorem t_pre (w : World) (os : OsState) : topGo treeTable PySem.Challenge.pw_il0126_02 w 29 (some (rf 6)) 12 ⟨H0 w.params, #[], ⟨0, 0, 0, 0⟩, 273, os⟩ (topStub PySem.Challenge.pw_il0126_02) = some (⟨H1 w.params, #[], ⟨0, 0, 0, 0⟩, 279, os⟩, ⟨denote treeTable tC, tC, ⟨0, 0, 0, 0⟩, [topFrame ⟨0, 0, 0, 0⟩]⟩) := by kernel_rfl
theorem t_block (w : World) (os : OsState) : segRunH treeTable PySem.Challenge.pw_il0126_02 w 29 (some (rf 6)) 1 1 ⟨H1 w.params, #[], ⟨0, 0, 0, 0⟩, 279, os⟩ (blockOf tB tEnv tC ⟨0, 0, 0, 0⟩ [topFrame ⟨0, 0, 0, 0⟩]) = some (.next, ⟨H2 w.params, #[], ⟨0, 0, 0, 0⟩, 279, os⟩, tC, ⟨0, 0, 0, 0⟩) := by kernel_rfl
theorem t_g0 (w : World) (os : OsState) : segRunH treeTable PySem.Challenge.pw_il0126_02 w 29 (some (rf 6)) 1 405 ⟨H2 w.params, #[], ⟨0, 0, 0, 0⟩, 279, os⟩ (piecesOf ((tB.drop 0).take 6) tEnv tC ⟨0, 0, 0, 0⟩ [topFrame ⟨0, 0, 0, 0⟩]) = some (.next, ⟨H3 w.params, #[], ⟨0, 0, 0, 0⟩, 351, os⟩, tC, ⟨32, 0, 32, 8⟩) := by kernel_rfl
theorem t_g1 (w : World) (os : OsState) : segRunH treeTable PySem.Challenge.pw_il0126_02 w 29 (some (rf 6)) 1 324 ⟨H3 w.params, #[], ⟨0, 0, 0, 0⟩, 351, os⟩ (piecesOf ((tB.drop 6).take 1) tEnv tC ⟨32, 0, 32, 8⟩ [topFrame ⟨0, 0, 0, 0⟩]) = some (.next, ⟨H4 w.params, #[], ⟨0, 0, 0, 0⟩, 408, os⟩, tC, ⟨33, 0, 50, 54⟩) := by kernel_rfl
theorem t_g2 (w : World) (os : OsState) : segRunH treeTable PySem.Challenge.pw_il0126_02 w 29 (some (rf 6)) 1 288 ⟨H4 w.params, #[], ⟨0, 0, 0, 0⟩, 408, os⟩ (piecesOf ((tB.drop 7).take 1) tEnv tC ⟨33, 0, 50, 54⟩ [topFrame ⟨0, 0, 0, 0⟩]) = some (.next, ⟨H5 w.params, #[], ⟨0, 0, 0, 0⟩, 451, os⟩, tC, ⟨51, 0, 70, 57⟩) := by kernel_rfl
theorem t_g3 (w : World) (os : OsState) : segRunH treeTable PySem.Challenge.pw_il0126_02 w 29 (some (rf 6)) 1 900 ⟨H5 w.params, #[], ⟨0, 0, 0, 0⟩, 451, os⟩ (piecesOf ((tB.drop 8).take 1) tEnv tC ⟨51, 0, 70, 57⟩ [topFrame ⟨0, 0, 0, 0⟩]) = some (.next, ⟨H6 w.params, #[], ⟨0, 0, 0, 0⟩, 566, os⟩, tC, ⟨71, 0, 112, 55⟩) := by kernel_rfl
theorem t_g4 (w : World) (os : OsState) : segRunH treeTable PySem.Challenge.pw_il0126_02 w 29 (some (rf 6)) 1 482 ⟨H6 w.params, #[], ⟨0, 0, 0, 0⟩, 566, os⟩ (piecesOf ((tB.drop 9).take 5) tEnv tC ⟨71, 0, 112, 55⟩ [topFrame ⟨0, 0, 0, 0⟩]) = some (.next, ⟨H7 w.params, #[], ⟨0, 0, 0, 0⟩, 629, os⟩, tC, ⟨125, 0, 126, 74⟩) := by kernel_rfl
theorem t_g5 (w : World) (os : OsState) : segRunH treeTable PySem.Challenge.pw_il0126_02 w 29 (some (rf 6)) 1 229 ⟨H7 w.params, #[], ⟨0, 0, 0, 0⟩, 629, os⟩ (piecesOf ((tB.drop 14).take 8) tEnv tC ⟨125, 0, 126, 74⟩ [topFrame ⟨0, 0, 0, 0⟩]) = some (.next, ⟨H8 w.params, #[], ⟨0, 0, 0, 0⟩, 691, os⟩, tC, ⟨162, 0, 167, 142⟩) := by kernel_rfl
theorem t_fin (w : World) (os : OsState) : topRun treeTable PySem.Challenge.pw_il0126_02 w 29 (some (rf 6)) 2 ⟨H8 w.params, #[], ⟨0, 0, 0, 0⟩, 691, os⟩ ⟨doneF .next, tC, ⟨162, 0, 167, 142⟩, [topFrame ⟨0, 0, 0, 0⟩]⟩ = some ⟨H9 w.params, #[], ⟨0, 0, 0, 0⟩, 691, os⟩ := by kernel_rfl
theorem t_run (w : World) (os : OsState) : topRun treeTable PySem.Challenge.pw_il0126_02 w 29 (some (rf 6)) (12 + (1 + (405 + (324 + (288 + (900 + (482 + (229 + 2)))))))) ⟨H0 w.params, #[], ⟨0, 0, 0, 0⟩, 273, os⟩ (topStub PySem.Challenge.pw_il0126_02) = some ⟨H9 w.params, #[], ⟨0, 0, 0, 0⟩, 691, os⟩ :=
  go_top (t_pre w os) (piece_block (segRunH_of (t_block w os)) (tb_more (segRunH_of (t_g0 w os)) (tb_more (segRunH_of (t_g1 w os)) (tb_more (segRunH_of (t_g2 w os)) (tb_more (segRunH_of (t_g3 w os)) (tb_more (segRunH_of (t_g4 w os)) (tb_more (segRunH_of (t_g5 w os)) (tb_end (by kernel_rfl) (t_fin w os)))))))))
end Mine
end
section
namespace Mine
abbrev R02 := PySem.Challenge.rw_il0126_02
noncomputable abbrev view02 : Program := view PySem.Challenge.pw_il0126_02 [0, 1, 3, 5, 7, 8, 9, 10, 12, 13, 14, 15, 16, 17, 18, 19, 20, 21, 22]
noncomputable abbrev loose02 : List Str := [Str.ofString "filterfalse", Str.ofString "_tuplegetter", Str.ofString "Pair"]
noncomputable abbrev hook02 : Hook := kmHook K01 as01 (fun _ => by kernel_rfl) [144, 271]
theorem left02 : LeftO R02.row.prog view02 loose02 (fun s => xlAt view02 [] s && recOk (RowW.records R02.row.toRowW) s) hook02.obs hook02.val 6000 :=
  LeftO.of_pieces (fun w => open_ofT (t_open w)) t_size t_run (by decide) (fun w => by kernel_rfl)

def LawSpec (prog : Program) (K : Params → Frag) (law : Addr) (tabs : List Addr) : Prop := ∀ (w : World) (T h₀ h : Heap) (env : Env) (A : Around) (O : List Addr) (B : Led) (m : Str → Option Value) (s : Shared) (tk : Nat) (E : Value → Shared → Prop) (l : Addr) (ol : Obj) (vs : List Value) (k : Nat) (ns : List Int) (Q : Value → Shared → Prop),
  Cx (K w.params) T → St T h₀ B O env A m [(l, ol)] (tabs.map fun a => (a, tabObj #[])) h → Room 76 A → ol.cls = .type "list" → ol.data = .seq vs.toArray k → IntsAre vs ns → ns.length ≤ 63 →
  (∀ h' tk' M', Kp T h₀ h' → Has h' M' → M'.map (·.1) = tabs → (∀ p ∈ M', ∃ ps, p.2 = tabObj ps) → Q (.bool true) (sA s h' tk')) → wpAny (model prog w) A (call (.ref law) [.ref l]) Q E (sA s h tk)

def dumEnv : Env := { scope := { kind := .function, names := [], isGenerator := false, isCoroutine := false, more := [] }, locals := mainGlobals, globals := mainGlobals, cells := [] }
theorem isTab_of {h : Heap} {c P : Addr} (C : CodeHd h c P) : isCodeTable h P := by
  obtain ⟨o, vs, _, _, _, _, _, _, _, e1, e2, e3, e4, _⟩ := C
  exact ⟨c, o, vs, e1, e2, e3, e4⟩
theorem joinLaw {r : RowW} {w : World} {K : Params → Frag} {law : Addr} {cp : List (Addr × Addr)} {s₁ : Shared} {cl : Str → Option Addr} {mean mean' : ExcName → Option Value} {args : List WData} {l : Addr} {vs : List Value} {ns : List Int}
    {p : Program} {loose : List Str} {mg mb : Str → Option Value}
    (spec : LawSpec r.prog K law (cp.map (·.2))) (X : (K w.params).In s₁.heap) (hK : noTabs (K w.params) = true) (hT : TabsAt cp s₁.heap) (hnd : (cp.map (·.2)).Nodup)
    (T : Top p loose mean' mg mb s₁.heap)
    (hl : s₁.heap.IsList l vs.toArray) (hi : IntsAre vs ns) (hn : ns.length ≤ 63) (hg : s₁.gens = #[])
    (hra : ∀ cls, r.claim.raises args cls = false) (hpo : r.claim.post args (.bool true) args = true) :
    wpAny (model r.prog w) callerA (call (.ref law) [.ref l]) (fun v s' => GoodWG r.claim cl mean args s₁ (.ok (.ret v)) s') (fun e s' => GoodWG r.claim cl mean args s₁ (.error e) s') s₁ := by
  obtain ⟨ol, hol, hcl, k, hdl⟩ := hl
  have hsub : ∀ b o, (ghostOf s₁.heap cp).get? b = some o → s₁.heap.get? b = some o := fun b o e => of_hideAll _ e
  have TG := ghost_top hT T
  have C : Cx (K w.params) (ghostOf s₁.heap cp) := ⟨ghost_K hT X hK, ⟨_, _, mg, mb, topRead_of TG⟩, ⟨mg, TG.g, TG.bmain⟩⟩
  have hM : (cp.map fun q => (q.2, tabObj #[])) = (cp.map (·.2)).map fun a => (a, tabObj #[]) := by rw [List.map_map]; rfl
  have inM : ∀ q ∈ (cp.map (·.2)).map (fun a => (a, tabObj #[])), q.2 = tabObj #[] ∧ s₁.heap.get? q.1 = some (tabObj #[]) ∧ (ghostOf s₁.heap cp).get? q.1 = none := fun q hq => by
    rw [← hM] at hq
    obtain ⟨c, hc, rfl⟩ := List.mem_map.mp hq
    exact ⟨rfl, (hT c hc).2, hideAll_none _ (List.mem_map_of_mem hc)⟩
  have hng : ∀ q ∈ (cp.map (·.2)).map (fun a => (a, tabObj #[])), mainGlobals ≠ q.1 := fun q hq e => by
    obtain ⟨o, es, ep, e2, hd, _⟩ := T.g
    rw [e, (inM q hq).2.1] at e2; cases e2; cases hd
  have hlt : ∀ q ∈ (cp.map (·.2)).map (fun a => (a, tabObj #[])), l ≠ q.1 := fun q hq e => by
    have := (inM q hq).2.1
    rw [← e, hol] at this; cases this; cases hcl
  have ndm : (((cp.map (·.2)).map (fun a => (a, tabObj #[]))).map (·.1)).Nodup := by
    rw [List.map_map]
    have : ((fun x : Addr × Obj => x.1) ∘ fun a => (a, tabObj #[])) = id := rfl
    rw [this, List.map_id]; exact hnd
  have Z : St (ghostOf s₁.heap cp) (ghostOf s₁.heap cp) [(l, ol)] [] dumEnv callerA (fun _ => none) [(l, ol)] ((cp.map (·.2)).map fun a => (a, tabObj #[])) s₁.heap :=
    { go := ⟨hsub, ⟨rfl, [], rfl, trivial, fun _ hb => nomatch hb⟩, Has.cons hol (by rw [hcl]; decide) .nil⟩
      kT0 := fun _ _ e => e
      kp := .of_keeps hsub
      vr := ⟨⟨mg, T.g, fun x hx => nomatch hx⟩, fun x hx => by rcases hx with hx | hx <;> cases hx⟩
      own := fun _ ha => nomatch ha
      offL := ⟨(by obtain ⟨o, _, _, e, _⟩ := T.g; exact ⟨o, e⟩), hng⟩
      mu := fun q hq => ⟨(inM q hq).1 ▸ (inM q hq).2.1, by rw [(inM q hq).1]; intro e; cases e⟩
      muNew := fun q hq => (inM q hq).2.2
      gr := fun q hq => .inl hq
      offD := fun q hq => ⟨List.not_mem_nil, fun q' hq' => by rw [List.mem_singleton.mp hq]; exact hlt q' hq'⟩
      offM := fun _ _ => List.not_mem_nil
      ndM := ndm
      offC := fun _ h => absurd h List.not_mem_nil
      sep := ⟨List.not_mem_nil, List.nodup_nil, List.nodup_nil⟩ }
  have e : s₁ = sA s₁ s₁.heap s₁.toks := rfl
  rw [e]
  refine spec w _ _ _ _ _ _ _ _ s₁ s₁.toks _ l ol vs k ns _ C Z ⟨by decide +kernel, by decide +kernel⟩ hcl hdl hi hn fun h' tk' M' kp hM' hMa hMt => ?_
  have tabOf : ∀ b ∈ cp.map (·.2), ∃ ps, h'.get? b = some (tabObj ps) := fun b hb => by
    rw [← hMa] at hb
    obtain ⟨q, hq, rfl⟩ := List.mem_map.mp hb
    obtain ⟨ps, e⟩ := hMt q hq
    exact ⟨ps, by rw [(hM' q hq).1, e]⟩
  have old : ∀ b o, s₁.heap.get? b = some o → b ∉ cp.map (·.2) → h'.get? b = some o := fun b o e hb => by
    have := hideAll_get _ e hb
    exact kp.top this (by simp) this
  refine ⟨.inl ⟨.bool true, .bool true, [], rfl, hra, readsW_of_reads (.bool true), hpo, fun _ => ⟨List.nodup_nil, fun _ h => absurd h List.not_mem_nil⟩⟩, ⟨fun b o e => ?_, fun b o e => ?_⟩, rfl, .of_eq hg⟩
  · by_cases hb : b ∈ cp.map (·.2)
    · obtain ⟨c, hc, rfl⟩ := List.mem_map.mp hb
      have := (hT c hc).2
      rw [e] at this
      cases this
      obtain ⟨ps, e'⟩ := tabOf _ hb
      exact .inr (.inl ⟨isTab_of (hT c hc).1, rfl, #[], ps, rfl, by rw [e']; simp⟩)
    · exact .inl (old b o e hb)
  · by_cases hb : b ∈ cp.map (·.2)
    · obtain ⟨ps, e'⟩ := tabOf _ hb
      exact ⟨_, e'⟩
    · exact ⟨o, old b o e hb⟩

theorem head02 (spec : LawSpec R02.row.prog K01 315 [144, 271]) : R02.Holds := by
  refine holds_law (by decide +kernel) fun said => ?_
  refine holds_open (q := view02) (loose := loose02) (Xt := fun s => xlAt view02 [] s && recOk (RowW.records R02.row.toRowW) s) (XP := XL view02 []) (Yf := hook02.obs) (Ya := hook02.val) (YP := hook02.says) (N := 6000) left02 (Hook.of hook02) (Hook.keeps hook02) (fun s e => xl_of s (Bool.and_eq_true_iff.mp e).1) XL.keeps (by rfl) (by rfl) (by rfl) (fun s e => recFacts_of (Bool.and_eq_true_iff.mp e).2) (by rfl) (by assumption) (by decide +kernel) ⟨rfl, rfl, rfl, rfl, rfl, by decide +kernel⟩ ?hw ?hc
  case hw => w_witness2
  case hc =>
    intro w s₀ s₁ mg mb G Y fa o pm cd doc dV kV ho hd hcd hD hmg hg args vals as hpre hlay hrd hwl hlo
    have KX := km_in_of Y
    have KT := km_tabs_of Y
    have X := (Ground.X G).1
    refine Ground.open G ?_
    intro T B D TE TW
    have hfa : fa = 315 := by
      have := mg_of KX T.g (n := "law") (v := .ref 315) (by kernel_rfl)
      have e2 : mg "law" = some (.ref fa) := hmg
      rw [this] at e2; cases e2; rfl
    subst hfa
    clear D hD hcd hd TE TW
    wrow_args hpre hlay hrd hwl hlo
    refine joinLaw (cp := [(148, 144), (275, 271)]) spec KX (by kernel_rfl) (fun q hq => ?_) (by decide) T (by assumption) (by assumption) ?_ hg (raisesW_false (by wrow_none_raised)) ?_
    · rcases List.mem_cons.mp hq with rfl | hq
      · exact ⟨codeHd_of_K KX (by kernel_rfl), KT 144 (.head _)⟩
      · rw [List.mem_singleton.mp hq]
        exact ⟨codeHd_of_K KX (by kernel_rfl), KT 271 (.tail _ (.head _))⟩
    · rename_i hlen _
      omega
    · exact postW_of (by wrow_shape) (by wtm_val) (by w_fin)
end Mine
end
section
namespace Mine
theorem spec02 : LawSpec R02.row.prog K01 315 [144, 271] := fun w T h₀ h env A O B m s tk E l ol vs k ns Q C Z hr hc hd hi hn hQ => law_spec C Z hr hc hd hi hn hQ
end Mine
end
set_option maxHeartbeats 4000000 in
theorem PySem.Challenge.cw_il0126_02_holds : PySem.Challenge.rw_il0126_02.Holds := by
  exact Mine.head02 Mine.spec02
