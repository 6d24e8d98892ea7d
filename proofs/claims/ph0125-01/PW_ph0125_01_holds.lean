import PyProof.Rows.All
import Wide.All
import OpenK.AllK
import Wide.FinOn
import KE.KxPercentT
import PySem.Challenge.RW_ph0125_01
set_option Elab.async false
section
open PySem PySem.W PyProof.Rows
namespace Mine

/-! the ground: what stands before the call, and the two code tables that may grow -/
structure Tab where
  c : Addr
  P : Addr
  pos : Pos
  qual : Str

structure Bs where
  prog : Program
  w : World
  hB : Heap
  mg : Str → Option Value
  mb : Str → Option Value
  p0 : Program
  loose : List Str
  mean : ExcName → Option Value
  tabs : List Tab
  T : Top p0 loose mean mg mb hB
  code : ∀ t ∈ tabs, CodeHd hB t.c t.P
  hid : ∀ t ∈ tabs, hB.get? t.P = none

noncomputable abbrev Bs.M (B : Bs) : Model := model B.prog B.w

noncomputable def TabAt (t : Tab) (h : Heap) : Prop :=
  ∃ ps, h.get? t.P = some (tabObj ps) ∧ (ps = #[] ∨ ∃ c', ps = #[rawInt t.pos.line, rawInt t.pos.col, .ref c'] ∧ h.CodeRec (.ref c') t.qual)

structure Gd (B : Bs) (h : Heap) : Prop where
  keep : ∀ b o, B.hB.get? b = some o → h.get? b = some o
  tab : ∀ t ∈ B.tabs, TabAt t h

/-- objects at addresses outside mu (and the tables) stay; the ground stays -/
structure Kp (B : Bs) (mu : List Addr) (s s' : Shared) : Prop where
  keep : ∀ b o, b ∉ mu → (∀ t ∈ B.tabs, b ≠ t.P) → s.heap.get? b = some o → s'.heap.get? b = some o
  gd : Gd B s.heap → Gd B s'.heap
  alive : ∀ b, (s.heap.get? b).isSome = true → (s'.heap.get? b).isSome = true
  gens : s'.gens = s.gens
  os : s'.os = s.os

theorem TabAt.keeps {t : Tab} {h h' : Heap} (x : TabAt t h) (hk : ∀ b o, h.get? b = some o → h'.get? b = some o) : TabAt t h' := by
  obtain ⟨ps, h1, h2⟩ := x
  refine ⟨ps, hk _ _ h1, h2.imp id ?_⟩
  rintro ⟨c', e, hc⟩
  exact ⟨c', e, hc.keeps hk⟩

theorem Gd.keeps {B : Bs} {h h' : Heap} (x : Gd B h) (hk : ∀ b o, h.get? b = some o → h'.get? b = some o) : Gd B h' :=
  ⟨fun b o e => hk b o (x.keep b o e), fun t ht => (x.tab t ht).keeps hk⟩

theorem Kp.ofKeep {B : Bs} {mu : List Addr} {s s' : Shared} (hk : ∀ b o, s.heap.get? b = some o → s'.heap.get? b = some o) (hg : s'.gens = s.gens) (ho : s'.os = s.os) : Kp B mu s s' :=
  ⟨fun b o _ _ e => hk b o e, fun g => g.keeps hk, fun b h => by
    cases e : s.heap.get? b with
    | none => rw [e] at h; cases h
    | some o => rw [hk b o e]; rfl, hg, ho⟩
theorem Kp.refl {B : Bs} {mu : List Addr} (s : Shared) : Kp B mu s s := .ofKeep (fun _ _ e => e) rfl rfl
theorem Kp.trans {B : Bs} {mu : List Addr} {s s' s'' : Shared} (x : Kp B mu s s') (y : Kp B mu s' s'') : Kp B mu s s'' :=
  ⟨fun b o hm ht e => y.keep b o hm ht (x.keep b o hm ht e), fun g => y.gd (x.gd g), fun b h => y.alive b (x.alive b h), y.gens.trans x.gens, y.os.trans x.os⟩
theorem Kp.weaken {B : Bs} {mu mu' : List Addr} {s s' : Shared} (x : Kp B mu s s') (hm : ∀ a ∈ mu, a ∈ mu') : Kp B mu' s s' :=
  ⟨fun b o hb ht e => x.keep b o (fun h => hb (hm b h)) ht e, x.gd, x.alive, x.gens, x.os⟩
theorem Kp.up {B : Bs} {mu : List Addr} {s s' : Shared} (x : Kp B [] s s') : Kp B mu s s' := x.weaken (fun _ h => nomatch h)
theorem Kp.toks {B : Bs} {mu : List Addr} {s s' : Shared} {tk : Nat} (x : Kp B mu s s') : Kp B mu s { s' with toks := tk } := ⟨x.keep, x.gd, x.alive, x.gens, x.os⟩
theorem Kp.tk {B : Bs} {mu : List Addr} (s : Shared) (tk : Nat) : Kp B mu s { s with toks := tk } := (Kp.refl s).toks
theorem Kp.push {B : Bs} {mu : List Addr} (s : Shared) (o : Obj) (tk : Nat) : Kp B mu s { s with heap := s.heap.push o, toks := tk } :=
  .ofKeep (fun _ _ e => Heap.get?_push_of_some o e) rfl rfl

/-- an object that is neither a code table nor a code record -/
noncomputable def NotCode (o : Obj) : Prop := ∀ vs, o.data = .fields vs → o.cls ≠ .none ∧ ∀ q t, vs[1]? ≠ some (.str q t)

theorem TabAt.but {t : Tab} {h h' : Heap} {a : Addr} {o : Obj} (x : TabAt t h) (ho : h.get? a = some o) (hn : NotCode o) (hk : ∀ b o, b ≠ a → h.get? b = some o → h'.get? b = some o) : TabAt t h' := by
  obtain ⟨ps, h1, h2⟩ := x
  have hP : t.P ≠ a := fun e => by rw [e, ho] at h1; cases h1; exact (hn _ rfl).1 rfl
  refine ⟨ps, hk _ _ hP h1, h2.imp id ?_⟩
  rintro ⟨c', e, c, oc, vs, tk, e1, e2, e3, e4⟩
  refine ⟨c', e, c, oc, vs, tk, e1, hk _ _ (fun q => ?_) e2, e3, e4⟩
  rw [q, ho] at e2
  cases e2
  exact (hn _ e3).2 _ _ e4

theorem Gd.but {B : Bs} {h h' : Heap} {a : Addr} {o : Obj} (x : Gd B h) (ha : B.hB.get? a = none) (ho : h.get? a = some o) (hn : NotCode o) (hk : ∀ b o, b ≠ a → h.get? b = some o → h'.get? b = some o) : Gd B h' :=
  ⟨fun b o e => hk b o (fun q => by rw [q, ha] at e; cases e) (x.keep b o e), fun t ht => (x.tab t ht).but ho hn hk⟩

theorem Kp.but {B : Bs} {mu : List Addr} {s : Shared} {h' : Heap} {tk : Nat} {a : Addr} {o : Obj} (hm : a ∈ mu) (ha : B.hB.get? a = none) (ho : s.heap.get? a = some o) (hn : NotCode o)
    (hk : ∀ b o, b ≠ a → s.heap.get? b = some o → h'.get? b = some o) (hal : (h'.get? a).isSome = true) : Kp B mu s { s with heap := h', toks := tk } :=
  ⟨fun b o hb _ e => hk b o (fun q => hb (q ▸ hm)) e, fun g => g.but ha ho hn hk, fun b h => by
    by_cases q : b = a
    · rw [q]; exact hal
    · cases e : s.heap.get? b with
      | none => rw [e] at h; cases h
      | some o => show (h'.get? b).isSome = true; rw [hk b o q e]; rfl, rfl, rfl⟩

/-- a step of an iterator at I -/
structure KpI (B : Bs) (I : Addr) (s s' : Shared) : Prop where
  keep : ∀ b o, b ≠ I → (∀ t ∈ B.tabs, b ≠ t.P) → s.heap.get? b = some o → s'.heap.get? b = some o
  gd : Gd B s.heap → Gd B s'.heap
  gens : s'.gens = s.gens
  os : s'.os = s.os
theorem KpI.alive {B : Bs} {I : Addr} {s s' : Shared} (x : KpI B I s s') (g : Gd B s.heap) {b : Addr} (hb : b ≠ I) (h : (s.heap.get? b).isSome = true) : (s'.heap.get? b).isSome = true := by
  by_cases ht : ∃ t ∈ B.tabs, b = t.P
  · obtain ⟨t, ht, rfl⟩ := ht
    obtain ⟨ps, h1, _⟩ := (x.gd g).tab t ht
    rw [h1]; rfl
  · cases e : s.heap.get? b with
    | none => rw [e] at h; cases h
    | some o => rw [x.keep b o hb (fun t h q => ht ⟨t, h, q⟩) e]; rfl
theorem KpI.but {B : Bs} {s : Shared} {h' : Heap} {tk : Nat} {a : Addr} {o : Obj} (ha : B.hB.get? a = none) (ho : s.heap.get? a = some o) (hn : NotCode o)
    (hk : ∀ b o, b ≠ a → s.heap.get? b = some o → h'.get? b = some o) : KpI B a s { s with heap := h', toks := tk } :=
  ⟨fun b o hb _ e => hk b o hb e, fun g => g.but ha ho hn hk, rfl, rfl⟩

/-! data -/
noncomputable def dct (l : List (Str × PyData)) : PyData := .dict (l.map fun p => (.str p.1, p.2))

mutual
inductive Rep (B : Bs) (X : List Addr) (h : Heap) : Value → PyData → Prop
  | none : Rep B X h .none .none
  | bool (b : Bool) : Rep B X h (.bool b) (.bool b)
  | int (i : Int) (t : Tok) : Rep B X h (.int i t) (.int i)
  | str (x : Str) (t : Tok) : Rep B X h (.str x t) (.str x)
  | list {a : Addr} {vs : List Value} {ds : List PyData} : h.PlainList a vs.toArray → a ∉ X → Reps B X h vs ds → Rep B X h (.ref a) (.list ds)
  | tuple {a : Addr} {vs : List Value} {ds : List PyData} : IsTup h a vs.toArray → a ∉ X → Reps B X h vs ds → Rep B X h (.ref a) (.tuple ds)
  | dict {a : Addr} {kvs : List (Str × Value)} {l : List (Str × PyData)} : h.DictOf (strKind B.prog B.w) a kvs → (a == sysModules) = false → a ∉ X → kvs.map (·.1) = l.map (·.1) →
      Reps B X h (kvs.map (·.2)) (l.map (·.2)) → Rep B X h (.ref a) (.dict (l.map fun p => (.str p.1, p.2)))
inductive Reps (B : Bs) (X : List Addr) (h : Heap) : List Value → List PyData → Prop
  | nil : Reps B X h [] []
  | cons {v : Value} {vs : List Value} {d : PyData} {ds : List PyData} : Rep B X h v d → Reps B X h vs ds → Reps B X h (v :: vs) (d :: ds)
end

/-- a list, tuple or dict by its data -/
noncomputable def Cont (o : Obj) : Prop := (∃ xs n, o.data = .seq xs n) ∨ ∃ es n, o.data = .dict es n
section
variable {B : Bs} {X X' : List Addr} {h h' : Heap}
mutual
theorem Rep.imp {v : Value} {d : PyData} (x : Rep B X h v d) (hX : ∀ a, a ∉ X → (h.get? a).isSome → a ∉ X') (hk : ∀ b o, b ∉ X → h.get? b = some o → Cont o → h'.get? b = some o) : Rep B X' h' v d :=
  match x with
  | .none => .none
  | .bool b => .bool b
  | .int i t => .int i t
  | .str s t => .str s t
  | .list (a := a) hl ha hr => by
    obtain ⟨n, ho⟩ := hl
    exact .list ⟨n, hk _ _ ha ho (.inl ⟨_, _, rfl⟩)⟩ (hX a ha (by rw [ho]; rfl)) (Reps.imp hr hX hk)
  | .tuple (a := a) hl ha hr => by
    obtain ⟨o, ho, hc, n, hd⟩ := hl
    exact .tuple ⟨o, hk _ _ ha ho (.inl ⟨_, _, hd⟩), hc, n, hd⟩ (hX a ha (by rw [ho]; rfl)) (Reps.imp hr hX hk)
  | .dict (a := a) hl hs ha hm hr => by
    obtain ⟨o, es, ep, ho, r1, hd, r2⟩ := hl
    exact .dict ⟨o, es, ep, hk _ _ ha ho (.inr ⟨_, _, hd⟩), r1, hd, r2⟩ hs (hX a ha (by rw [ho]; rfl)) hm (Reps.imp hr hX hk)
theorem Reps.imp {vs : List Value} {ds : List PyData} (x : Reps B X h vs ds) (hX : ∀ a, a ∉ X → (h.get? a).isSome → a ∉ X') (hk : ∀ b o, b ∉ X → h.get? b = some o → Cont o → h'.get? b = some o) : Reps B X' h' vs ds :=
  match x with
  | .nil => .nil
  | .cons a b => .cons (Rep.imp a hX hk) (Reps.imp b hX hk)
end
theorem Rep.keeps {v : Value} {d : PyData} (x : Rep B X h v d) (hk : ∀ b o, h.get? b = some o → h'.get? b = some o) : Rep B X h' v d := x.imp (fun _ h _ => h) fun b o _ e _ => hk b o e
theorem Reps.keeps {vs : List Value} {ds : List PyData} (x : Reps B X h vs ds) (hk : ∀ b o, h.get? b = some o → h'.get? b = some o) : Reps B X h' vs ds := x.imp (fun _ h _ => h) fun b o _ e _ => hk b o e
theorem Rep.sub {v : Value} {d : PyData} (x : Rep B X h v d) (hX : ∀ a, a ∈ X' → a ∈ X) : Rep B X' h v d := x.imp (fun _ h _ q => h (hX _ q)) fun _ _ _ e _ => e
theorem Reps.sub {vs : List Value} {ds : List PyData} (x : Reps B X h vs ds) (hX : ∀ a, a ∈ X' → a ∈ X) : Reps B X' h vs ds := x.imp (fun _ h _ q => h (hX _ q)) fun _ _ _ e _ => e
/-- addresses that are not there yet may be shut out -/
theorem Rep.more {v : Value} {d : PyData} (x : Rep B X h v d) (hX : ∀ a, a ∈ X' → a ∈ X ∨ h.get? a = Option.none) : Rep B X' h v d :=
  x.imp (fun a ha hs q => (hX a q).elim ha fun e => by rw [e] at hs; cases hs) fun _ _ _ e _ => e
theorem Reps.more {vs : List Value} {ds : List PyData} (x : Reps B X h vs ds) (hX : ∀ a, a ∈ X' → a ∈ X ∨ h.get? a = none) : Reps B X' h vs ds :=
  x.imp (fun a ha hs q => (hX a q).elim ha fun e => by rw [e] at hs; cases hs) fun _ _ _ e _ => e
theorem notTab {t : Tab} (ht : TabAt t h) {b : Addr} {o : Obj} (e : h.get? b = some o) (hf : Cont o) : b ≠ t.P := fun q => by
  obtain ⟨ps, h1, _⟩ := ht
  rw [← q, e] at h1
  cases h1
  rcases hf with ⟨_, _, e⟩ | ⟨_, _, e⟩ <;> cases e

noncomputable def MuX (X mu : List Addr) (h : Heap) : Prop := ∀ a ∈ mu, ∀ o, h.get? a = some o → Cont o → a ∈ X
theorem MuX.nil : MuX X [] h := fun _ ha => nomatch ha
theorem kpCont {s s' : Shared} {mu : List Addr} (g : Gd B s.heap) (k : Kp B mu s s') (hm : MuX X mu s.heap) : ∀ b o, b ∉ X → s.heap.get? b = some o → Cont o → s'.heap.get? b = some o :=
  fun b o hb e hc => k.keep b o (fun hmu => hb (hm b hmu o e hc)) (fun t ht => notTab (g.tab t ht) e hc) e
theorem Rep.kp {s s' : Shared} {mu : List Addr} {v : Value} {d : PyData} (x : Rep B X s.heap v d) (g : Gd B s.heap) (k : Kp B mu s s') (hm : MuX X mu s.heap := by exact MuX.nil) : Rep B X s'.heap v d :=
  x.imp (fun _ h _ => h) (kpCont g k hm)
theorem Reps.kp {s s' : Shared} {mu : List Addr} {vs : List Value} {ds : List PyData} (x : Reps B X s.heap vs ds) (g : Gd B s.heap) (k : Kp B mu s s') (hm : MuX X mu s.heap := by exact MuX.nil) : Reps B X s'.heap vs ds :=
  x.imp (fun _ h _ => h) (kpCont g k hm)

/-- the top object may be shut out, not what it holds -/
inductive RepO (B : Bs) (X : List Addr) (h : Heap) : Value → PyData → Prop
  | rep {v : Value} {d : PyData} : Rep B X h v d → RepO B X h v d
  | list {a : Addr} {vs : List Value} {ds : List PyData} : h.PlainList a vs.toArray → Reps B X h vs ds → RepO B X h (.ref a) (.list ds)
  | dict {a : Addr} {kvs : List (Str × Value)} {l : List (Str × PyData)} : h.DictOf (strKind B.prog B.w) a kvs → (a == sysModules) = false → kvs.map (·.1) = l.map (·.1) →
      Reps B X h (kvs.map (·.2)) (l.map (·.2)) → RepO B X h (.ref a) (.dict (l.map fun p => (.str p.1, p.2)))

theorem RepO.list_inv {v : Value} {ds : List PyData} (x : RepO B X h v (.list ds)) : ∃ a vs, v = .ref a ∧ h.PlainList a vs.toArray ∧ Reps B X h vs ds := by
  cases x with
  | rep r => cases r with | list hl _ hr => exact ⟨_, _, rfl, hl, hr⟩
  | list hl hr => exact ⟨_, _, rfl, hl, hr⟩
theorem Rep.list_inv {v : Value} {ds : List PyData} (x : Rep B X h v (.list ds)) : ∃ a vs, v = .ref a ∧ h.PlainList a vs.toArray ∧ a ∉ X ∧ Reps B X h vs ds := by
  cases x with | list hl ha hr => exact ⟨_, _, rfl, hl, ha, hr⟩
theorem Rep.tuple_inv {v : Value} {ds : List PyData} (x : Rep B X h v (.tuple ds)) : ∃ a vs, v = .ref a ∧ IsTup h a vs.toArray ∧ a ∉ X ∧ Reps B X h vs ds := by
  cases x with | tuple hl ha hr => exact ⟨_, _, rfl, hl, ha, hr⟩
theorem RepO.tuple_inv {v : Value} {ds : List PyData} (x : RepO B X h v (.tuple ds)) : ∃ a vs, v = .ref a ∧ IsTup h a vs.toArray ∧ Reps B X h vs ds := by
  cases x with
  | rep r => cases r with | tuple hl _ hr => exact ⟨_, _, rfl, hl, hr⟩
theorem Rep.int_inv {v : Value} {i : Int} (x : Rep B X h v (.int i)) : ∃ t, v = .int i t := by cases x; exact ⟨_, rfl⟩
theorem Rep.str_inv {v : Value} {i : Str} (x : Rep B X h v (.str i)) : ∃ t, v = .str i t := by cases x; exact ⟨_, rfl⟩
theorem Rep.bool_inv {v : Value} {i : Bool} (x : Rep B X h v (.bool i)) : v = .bool i := by cases x; rfl
theorem Rep.none_inv {v : Value} (x : Rep B X h v .none) : v = .none := by cases x; rfl
theorem pairs_inj {l l' : List (Str × PyData)} (e : (l.map fun p => (PyData.str p.1, p.2)) = l'.map fun p => (PyData.str p.1, p.2)) : l = l' := by
  induction l generalizing l' with
  | nil => cases l' with | nil => rfl | cons => cases e
  | cons p r ih =>
    cases l' with
    | nil => cases e
    | cons q r' =>
      simp only [List.map_cons, List.cons.injEq, Prod.mk.injEq, PyData.str.injEq] at e
      rw [ih e.2, Prod.ext e.1.1 e.1.2]
theorem Rep.dct_inv {v : Value} {l : List (Str × PyData)} (x : Rep B X h v (dct l)) : ∃ a kvs, v = .ref a ∧ h.DictOf (strKind B.prog B.w) a kvs ∧ (a == sysModules) = false ∧ a ∉ X ∧ kvs.map (·.1) = l.map (·.1) ∧ Reps B X h (kvs.map (·.2)) (l.map (·.2)) := by
  unfold dct at x
  generalize hd : PyData.dict (l.map fun p => (PyData.str p.1, p.2)) = d at x
  cases x with
  | dict h1 h2 h3 h4 h5 =>
    have := pairs_inj (PyData.dict.inj hd)
    subst this
    exact ⟨_, _, rfl, h1, h2, h3, h4, h5⟩
  | _ => cases hd
theorem RepO.dct_inv {v : Value} {l : List (Str × PyData)} (x : RepO B X h v (dct l)) : ∃ a kvs, v = .ref a ∧ h.DictOf (strKind B.prog B.w) a kvs ∧ (a == sysModules) = false ∧ kvs.map (·.1) = l.map (·.1) ∧ Reps B X h (kvs.map (·.2)) (l.map (·.2)) := by
  unfold dct at x
  generalize hd : PyData.dict (l.map fun p => (PyData.str p.1, p.2)) = d at x
  cases x with
  | rep r => subst hd; obtain ⟨a, kvs, h1, h2, h3, _, h5⟩ := Rep.dct_inv r; exact ⟨a, kvs, h1, h2, h3, h5⟩
  | dict h1 h2 h4 h5 =>
    have := pairs_inj (PyData.dict.inj hd)
    subst this
    exact ⟨_, _, rfl, h1, h2, h4, h5⟩
  | list => cases hd
theorem RepO.keeps {v : Value} {d : PyData} (x : RepO B X h v d) (hk : ∀ b o, h.get? b = some o → h'.get? b = some o) : RepO B X h' v d := by
  cases x with
  | rep r => exact .rep (r.keeps hk)
  | list hl hr => exact .list (hl.at fun o e => hk _ o e) (hr.keeps hk)
  | dict h1 h2 h3 h4 => exact .dict (h1.keep hk) h2 h3 (h4.keeps hk)
theorem Reps.length {vs : List Value} {ds : List PyData} (x : Reps B X h vs ds) : vs.length = ds.length := by
  match x with
  | .nil => rfl
  | .cons _ r => simp [Reps.length r]
theorem Reps.get {vs : List Value} {ds : List PyData} (x : Reps B X h vs ds) {i : Nat} {d : PyData} (e : ds[i]? = some d) : ∃ v, vs[i]? = some v ∧ Rep B X h v d := by
  match x, i with
  | .nil, _ => simp at e
  | .cons a r, 0 => simp at e; subst e; exact ⟨_, rfl, a⟩
  | .cons a r, i + 1 => simp at e; obtain ⟨v, h1, h2⟩ := Reps.get r e; exact ⟨v, by simpa using h1, h2⟩
theorem Reps.append {vs vs' : List Value} {ds ds' : List PyData} (x : Reps B X h vs ds) (y : Reps B X h vs' ds') : Reps B X h (vs ++ vs') (ds ++ ds') := by
  match x with
  | .nil => exact y
  | .cons a r => exact .cons a (Reps.append r y)
theorem Reps.take {vs : List Value} {ds : List PyData} (x : Reps B X h vs ds) (n : Nat) : Reps B X h (vs.take n) (ds.take n) := by
  match x, n with
  | .nil, _ => simpa using Reps.nil
  | .cons _ _, 0 => simpa using Reps.nil
  | .cons a r, n + 1 => simpa using Reps.cons a (Reps.take r n)
theorem Reps.drop {vs : List Value} {ds : List PyData} (x : Reps B X h vs ds) (n : Nat) : Reps B X h (vs.drop n) (ds.drop n) := by
  match x, n with
  | .nil, _ => simpa using Reps.nil
  | .cons a r, 0 => simpa using Reps.cons a r
  | .cons a r, n + 1 => simpa using Reps.drop r n
end
end Mine
end
section
open PySem PySem.W PyProof.Rows
set_option linter.unusedVariables false
namespace Mine

inductive Slot where
  | val (d : PyData)
  | own (a : Addr) (d : PyData)
  | raw (v : Value)
noncomputable abbrev Rho := List (Str × Slot)
noncomputable def Slot.addr : Slot → Option Addr
  | .val _ => none
  | .own a _ => some a
  | .raw _ => none
noncomputable def owns (ρ : Rho) : List Addr := ρ.filterMap fun p => p.2.addr
noncomputable abbrev xs (env : Env) (Xc : List Addr) (ρ : Rho) : List Addr := env.locals :: (owns ρ ++ Xc)
/-- the cells that are the frame's own to store into -/
noncomputable def cellsOf (env : Env) : List Addr := if env.func.isSome then (env.cells.filter fun p => env.kindOf p.1 == some .cell).map (·.2) else []
theorem cellsOf_mem {env : Env} {a : Addr} (h : a ∈ cellsOf env) : ∃ p ∈ env.cells, p.2 = a := by
  unfold cellsOf at h
  split at h
  · obtain ⟨p, hp, e⟩ := List.mem_map.mp h; exact ⟨p, (List.mem_filter.mp hp).1, e⟩
  · cases h
theorem mem_cellsOf {env : Env} {p : Str × Addr} (hf : env.func.isSome = true) (h : p ∈ env.cells) (hk : env.kindOf p.1 = some .cell) : p.2 ∈ cellsOf env := by
  unfold cellsOf; rw [if_pos hf]; exact List.mem_map_of_mem (List.mem_filter.mpr ⟨h, by rw [hk]; rfl⟩)
noncomputable abbrev mu (env : Env) (ρ : Rho) : List Addr := env.locals :: (cellsOf env ++ owns ρ)

noncomputable def SRep (B : Bs) (X : List Addr) (h : Heap) (v : Value) : Slot → Prop
  | .val d => Rep B X h v d
  | .own a d => v = .ref a ∧ RepO B X h v d
  | .raw w => v = w

structure Fok (B : Bs) (env : Env) (Xc : List Addr) (ρ : Rho) (h : Heap) : Prop where
  g : Gd B h
  xin : ∀ a ∈ Xc, (h.get? a).isSome = true
  kind : env.scope.kind = .function
  glob : env.globals = mainGlobals
  bi : env.builtins = builtinsNs
  loc : ∃ m, h.Ns env.locals m ∧ ∀ x sl, ρ.lookup x = some sl → env.kindOf x = some .local → ∃ v, m x = some v ∧ SRep B (xs env Xc ρ) h v sl
  cel : ∀ p ∈ env.cells, ∃ v, h.IsCell p.2 v
  celv : ∀ x sl, ρ.lookup x = some sl → (env.kindOf x = some .cell ∨ env.kindOf x = some .free) → ∃ c v, env.cells.lookup x = some c ∧ h.IsCell c (some v) ∧ SRep B (xs env Xc ρ) h v sl
  fl : B.hB.get? env.locals = none
  fc : ∀ a ∈ cellsOf env, B.hB.get? a = none
  fo : ∀ a ∈ owns ρ, B.hB.get? a = none ∧ a ∉ Xc ∧ a ≠ env.locals ∧ ∃ o, h.get? a = some o ∧ Cont o

structure Rm (k : Nat) (A : Around) : Prop where
  handled : A.handled = none
  depth : A.depth + k < recursionLimit
  units : A.units + 80 * k + 200 < cLine

section
variable {B : Bs} {env : Env} {Xc : List Addr} {ρ : Rho}

theorem SRep.imp {X : List Addr} {h h' : Heap} {v : Value} {sl : Slot} (x : SRep B X h v sl) (hk : ∀ b o, h.get? b = some o → Cont o → h'.get? b = some o) : SRep B X h' v sl := by
  cases sl with
  | raw w => exact x
  | val d => exact Rep.imp x (fun _ h _ => h) fun b o _ e c => hk b o e c
  | own a d =>
    obtain ⟨rfl, x⟩ := x
    refine ⟨rfl, ?_⟩
    cases x with
    | rep r => exact .rep (r.imp (fun _ h _ => h) fun b o _ e c => hk b o e c)
    | list hl hr =>
      obtain ⟨n, ho⟩ := hl
      exact .list ⟨n, hk _ _ ho (.inl ⟨_, _, rfl⟩)⟩ (hr.imp (fun _ h _ => h) fun b o _ e c => hk b o e c)
    | dict h1 h2 h3 h4 =>
      obtain ⟨o, es, ep, ho, r1, hd, r2⟩ := h1
      exact .dict ⟨o, es, ep, hk _ _ ho (.inr ⟨_, _, hd⟩), r1, hd, r2⟩ h2 h3 (h4.imp (fun _ h _ => h) fun b o _ e c => hk b o e c)

theorem Fok.alive {h : Heap} (F : Fok B env Xc ρ h) : ∀ a ∈ xs env Xc ρ, (h.get? a).isSome = true := by
  intro a ha
  rcases List.mem_cons.mp ha with rfl | ha
  · obtain ⟨m, ⟨o, es, ep, e, _⟩, _⟩ := F.loc; rw [e]; rfl
  · rcases List.mem_append.mp ha with ha | ha
    · obtain ⟨_, _, _, o, e, _⟩ := F.fo a ha; rw [e]; rfl
    · exact F.xin a ha

/-- an expression's run: nothing that stood is changed -/
theorem Fok.kp {s s' : Shared} (F : Fok B env Xc ρ s.heap) (k : Kp B [] s s') : Fok B env Xc ρ s'.heap := by
  have hk : ∀ b o, s.heap.get? b = some o → Cont o → s'.heap.get? b = some o := fun b o e c => kpCont (X := []) F.g k MuX.nil b o (fun h => nomatch h) e c
  have hg := k.gd F.g
  have hcell : ∀ c v, s.heap.IsCell c v → s'.heap.IsCell c v := fun c v ⟨o, e, hd⟩ => ⟨o, k.keep c o (fun h => nomatch h) (fun t ht q => by
    obtain ⟨ps, h1, _⟩ := F.g.tab t ht; rw [← q, e] at h1; cases h1; cases hd) e, hd⟩
  have hns : ∀ a m, s.heap.Ns a m → s'.heap.Ns a m := fun a m ⟨o, es, ep, e, hd, r⟩ => ⟨o, es, ep, hk _ _ e (.inr ⟨_, _, hd⟩), hd, r⟩
  refine ⟨hg, fun a ha => ?_, F.kind, F.glob, F.bi, ?_, fun p hp => ?_, fun x sl hx hc => ?_, F.fl, F.fc, fun a ha => ?_⟩
  · have hs := F.xin a ha
    cases e : s.heap.get? a with
    | none => rw [e] at hs; cases hs
    | some o =>
      by_cases ht : ∃ t ∈ B.tabs, a = t.P
      · obtain ⟨t, ht, rfl⟩ := ht
        obtain ⟨ps, h1, _⟩ := hg.tab t ht
        rw [h1]; rfl
      · rw [k.keep a o (fun h => nomatch h) (fun t h q => ht ⟨t, h, q⟩) e]; rfl
  · obtain ⟨m, hm, hv⟩ := F.loc
    refine ⟨m, hns _ _ hm, fun x sl hx hl => ?_⟩
    obtain ⟨v, h1, h2⟩ := hv x sl hx hl
    exact ⟨v, h1, h2.imp hk⟩
  · obtain ⟨v, hv⟩ := F.cel p hp; exact ⟨v, hcell _ _ hv⟩
  · obtain ⟨c, v, h1, h2, h3⟩ := F.celv x sl hx hc
    exact ⟨c, v, h1, hcell _ _ h2, h3.imp hk⟩
  · obtain ⟨h1, h2, h3, o, e, hc⟩ := F.fo a ha
    exact ⟨h1, h2, h3, o, hk _ _ e hc, hc⟩

/-- fewer names -/
theorem Fok.sub {ρ' : Rho} {h : Heap} (F : Fok B env Xc ρ h) (hs : ∀ p ∈ ρ', ρ.lookup p.1 = some p.2) (ho : ∀ a ∈ owns ρ', a ∈ owns ρ) : Fok B env Xc ρ' h := by
  have hl : ∀ x sl, ρ'.lookup x = some sl → ρ.lookup x = some sl := by
    intro x sl e
    have : (x, sl) ∈ ρ' := mem_lookup e
    exact hs _ this
  have hx : ∀ a, a ∈ xs env Xc ρ' → a ∈ xs env Xc ρ := by
    intro a ha
    simp only [List.mem_cons, List.mem_append] at ha ⊢
    rcases ha with h | h | h
    · exact .inl h
    · exact .inr (.inl (ho a h))
    · exact .inr (.inr h)
  have hr : ∀ v sl, SRep B (xs env Xc ρ) h v sl → SRep B (xs env Xc ρ') h v sl := by
    intro v sl x
    cases sl with
    | raw w => exact x
    | val d => exact Rep.sub x hx
    | own a d =>
      obtain ⟨rfl, x⟩ := x
      refine ⟨rfl, ?_⟩
      cases x with
      | rep r => exact .rep (r.sub hx)
      | list hl hr => exact .list hl (hr.sub hx)
      | dict h1 h2 h3 h4 => exact .dict h1 h2 h3 (h4.sub hx)
  refine ⟨F.g, F.xin, F.kind, F.glob, F.bi, ?_, F.cel, ?_, F.fl, F.fc, fun a ha => F.fo a (ho a ha)⟩
  · obtain ⟨m, hm, hv⟩ := F.loc
    refine ⟨m, hm, fun x sl e hk => ?_⟩
    obtain ⟨v, h1, h2⟩ := hv x sl (hl x sl e) hk
    exact ⟨v, h1, hr _ _ h2⟩
  · intro x sl e hk
    obtain ⟨c, v, h1, h2, h3⟩ := F.celv x sl (hl x sl e) hk
    exact ⟨c, v, h1, h2, hr _ _ h3⟩
where
  mem_lookup {x : Str} {sl : Slot} : ∀ {l : Rho}, l.lookup x = some sl → (x, sl) ∈ l
    | [], e => by simp at e
    | (y, t) :: r, e => by
      rw [List.lookup_cons] at e
      by_cases hy : x == y
      · rw [hy] at e; cases e; rw [eq_of_beq hy]; exact .head _
      · rw [Bool.not_eq_true] at hy; rw [hy] at e; exact .tail _ (mem_lookup e)

/-! judgements -/
variable (B) in
noncomputable def Ev (k : Nat) (env : Env) (ρ : Rho) (e : Expr) (d : PyData) : Prop :=
  ∀ A Xc s, Rm k A → Fok B env Xc ρ s.heap → wpAny B.M A (eval e env) (fun v s' => Kp B [] s s' ∧ Rep B (xs env Xc ρ) s'.heap v d) (fun _ _ => False) s
variable (B) in
noncomputable def EvO (k : Nat) (env : Env) (ρ : Rho) (e : Expr) (d : PyData) : Prop :=
  ∀ A Xc s, Rm k A → Fok B env Xc ρ s.heap → wpAny B.M A (eval e env) (fun v s' => Kp B [] s s' ∧ RepO B (xs env Xc ρ) s'.heap v d) (fun _ _ => False) s
variable (B) in
noncomputable def Tst (k : Nat) (env : Env) (ρ : Rho) (e : Expr) (b : Bool) : Prop :=
  ∀ A Xc s, Rm k A → Fok B env Xc ρ s.heap → wpAny B.M A (isTrue e env (eval e env)) (fun r s' => Kp B [] s s' ∧ r = b) (fun _ _ => False) s

variable (B) in
noncomputable def EvV (k : Nat) (env : Env) (ρ : Rho) (e : Expr) (v₀ : Value) : Prop :=
  ∀ A Xc s, Rm k A → Fok B env Xc ρ s.heap → wpAny B.M A (eval e env) (fun v s' => Kp B [] s s' ∧ v = v₀) (fun _ _ => False) s

inductive Out where
  | nxt (ρ : Rho)
  | ret (d : PyData)

variable (B) in
noncomputable def Res (env : Env) (Xc : List Addr) (ρ : Rho) (s : Shared) (f : Flow) (s' : Shared) : Out → Prop
  | .nxt ρ' => f = .next ∧ Fok B env Xc ρ' s'.heap ∧ Kp B (mu env ρ) s s' ∧ ∀ a ∈ owns ρ', a ∈ owns ρ ∨ s.heap.get? a = none
  | .ret d => ∃ v, f = .ret v ∧ Rep B Xc s'.heap v d ∧ Kp B (mu env ρ) s s'
variable (B) in
noncomputable def Ex (k : Nat) (env : Env) (ρ : Rho) (ss : List Stmt) (Post : Out → Prop) : Prop :=
  ∀ A Xc s, Rm k A → Fok B env Xc ρ s.heap → wpAny B.M A (execs ss env) (fun f s' => ∃ o, Post o ∧ Res B env Xc ρ s f s' o) (fun _ _ => False) s
variable (B) in
noncomputable def Ex1 (k : Nat) (env : Env) (ρ : Rho) (st : Stmt) (Post : Out → Prop) : Prop :=
  ∀ A Xc s, Rm k A → Fok B env Xc ρ s.heap → wpAny B.M A (exec st env) (fun f s' => ∃ o, Post o ∧ Res B env Xc ρ s f s' o) (fun _ _ => False) s

variable (B) in
noncomputable def Spec (k : Nat) (f : Addr) (ds : List PyData) (d : PyData) : Prop :=
  ∀ A X s vs, Rm k A → Gd B s.heap → (∀ a ∈ X, (s.heap.get? a).isSome = true) → Reps B X s.heap vs ds →
    codeAny B.M A (.call (.ref f) ⟨vs, []⟩) (fun r s' => ∃ v, r = .ok (.ret v) ∧ Kp B [] s s' ∧ Rep B X s'.heap v d) s

theorem Ev.o {k : Nat} {e : Expr} {d : PyData} (x : Ev B k env ρ e d) : EvO B k env ρ e d := fun A Xc s r F => wpAny_mono (x A Xc s r F) (fun _ _ h => ⟨h.1, .rep h.2⟩) fun _ _ h => h
theorem Rm.le {k k' : Nat} {A : Around} (x : Rm k A) (h : k' ≤ k) : Rm k' A := ⟨x.handled, by have := x.depth; omega, by have := x.units; omega⟩
theorem Ev.le {k k' : Nat} {e : Expr} {d : PyData} (x : Ev B k env ρ e d) (h : k ≤ k') : Ev B k' env ρ e d := fun A Xc s r F => x A Xc s (r.le h) F
theorem Rm.in1 {k : Nat} {A : Around} (x : Rm (k + 1) A) : Rm k A.in1 := ⟨x.handled, by have := x.depth; show A.depth + k < _; omega, by have := x.units; show A.units + 1 + 80 * k + 200 < _; omega⟩
theorem Rm.deeper {k : Nat} {A : Around} {env : Env} (x : Rm (k + 1) A) : Rm k (A.deeper env) := ⟨x.handled, by have := x.depth; show A.depth + 1 + k < _; omega, by have := x.units; show A.units + 3 + 80 * k + 200 < _; omega⟩

/-- sequencing of two expressions -/
theorem Ev.bind {k : Nat} {e : Expr} {d : PyData} {A : Around} {s : Shared} {Q : Value → Shared → Prop} {E : Value → Shared → Prop} (x : Ev B k env ρ e d) (r : Rm k A) (F : Fok B env Xc ρ s.heap)
    (h : ∀ v s', Kp B [] s s' → Fok B env Xc ρ s'.heap → Rep B (xs env Xc ρ) s'.heap v d → Q v s') : wpAny B.M A (eval e env) Q E s :=
  wpAny_mono (x A Xc s r F) (fun v s' ⟨h1, h2⟩ => h v s' h1 (F.kp h1) h2) fun _ _ h => h.elim
theorem EvO.bind {k : Nat} {e : Expr} {d : PyData} {A : Around} {s : Shared} {Q : Value → Shared → Prop} {E : Value → Shared → Prop} (x : EvO B k env ρ e d) (r : Rm k A) (F : Fok B env Xc ρ s.heap)
    (h : ∀ v s', Kp B [] s s' → Fok B env Xc ρ s'.heap → RepO B (xs env Xc ρ) s'.heap v d → Q v s') : wpAny B.M A (eval e env) Q E s :=
  wpAny_mono (x A Xc s r F) (fun v s' ⟨h1, h2⟩ => h v s' h1 (F.kp h1) h2) fun _ _ h => h.elim
theorem EvV.bind {k : Nat} {e : Expr} {v₀ : Value} {A : Around} {s : Shared} {Q : Value → Shared → Prop} {E : Value → Shared → Prop} (x : EvV B k env ρ e v₀) (r : Rm k A) (F : Fok B env Xc ρ s.heap)
    (h : ∀ s', Kp B [] s s' → Fok B env Xc ρ s'.heap → Q v₀ s') : wpAny B.M A (eval e env) Q E s :=
  wpAny_mono (x A Xc s r F) (fun v s' ⟨h1, h2⟩ => h2 ▸ h s' h1 (F.kp h1)) fun _ _ h => h.elim
theorem Tst.bind {k : Nat} {e : Expr} {b : Bool} {A : Around} {s : Shared} {Q : Bool → Shared → Prop} {E : Value → Shared → Prop} (x : Tst B k env ρ e b) (r : Rm k A) (F : Fok B env Xc ρ s.heap)
    (h : ∀ s', Kp B [] s s' → Fok B env Xc ρ s'.heap → Q b s') : wpAny B.M A (isTrue e env (eval e env)) Q E s :=
  wpAny_mono (x A Xc s r F) (fun v s' ⟨h1, h2⟩ => h2 ▸ h s' h1 (F.kp h1)) fun _ _ h => h.elim
end
end Mine
end
section
open PySem PySem.W PyProof.Rows
set_option linter.unusedVariables false
namespace Mine
section
variable {B : Bs} {env : Env} {ρ : Rho} {k : Nat}

theorem RepO.kp {X : List Addr} {s s' : Shared} {v : Value} {d : PyData} (x : RepO B X s.heap v d) (g : Gd B s.heap) (k : Kp B [] s s') : RepO B X s'.heap v d := by
  have hk : ∀ b o, s.heap.get? b = some o → Cont o → s'.heap.get? b = some o := fun b o e c => kpCont (X := []) g k MuX.nil b o (fun h => nomatch h) e c
  cases x with
  | rep r => exact .rep (r.kp g k)
  | list hl hr => exact .list (let ⟨n, e⟩ := hl; ⟨n, hk _ _ e (.inl ⟨_, _, rfl⟩)⟩) (hr.kp g k)
  | dict h1 h2 h3 h4 =>
    obtain ⟨o, es, ep, ho, r1, hd, r2⟩ := h1
    exact .dict ⟨o, es, ep, hk _ _ ho (.inr ⟨_, _, hd⟩), r1, hd, r2⟩ h2 h3 (h4.kp g k)
theorem RepO.int_inv {X : List Addr} {h : Heap} {v : Value} {i : Int} (x : RepO B X h v (.int i)) : ∃ t, v = .int i t := by cases x with | rep r => exact r.int_inv
theorem RepO.str_inv {X : List Addr} {h : Heap} {v : Value} {i : Str} (x : RepO B X h v (.str i)) : ∃ t, v = .str i t := by cases x with | rep r => exact r.str_inv
theorem RepO.bool_inv {X : List Addr} {h : Heap} {v : Value} {i : Bool} (x : RepO B X h v (.bool i)) : v = .bool i := by cases x with | rep r => exact r.bool_inv
theorem RepO.none_inv {X : List Addr} {h : Heap} {v : Value} (x : RepO B X h v .none) : v = .none := by cases x with | rep r => exact r.none_inv

/-! constants and names -/
theorem Ev.int {i : Int} {n : Nat} {pos : Pos} : Ev B k env ρ (.Constant (.int i) n pos) (.int i) := fun A Xc s _ _ => wpAny_Constant_int ⟨.tk s _, .int i _⟩
theorem Ev.str {x : Str} {n : Nat} {pos : Pos} : Ev B k env ρ (.Constant (.str x) n pos) (.str x) := fun A Xc s _ _ => wpAny_Constant_str ⟨.tk s _, .str x _⟩
theorem Ev.bool {b : Bool} {n : Nat} {pos : Pos} : Ev B k env ρ (.Constant (.bool b) n pos) (.bool b) := fun A Xc s _ _ => wpAny_Constant_bool ⟨.refl s, .bool b⟩
theorem Ev.none {n : Nat} {pos : Pos} : Ev B k env ρ (.Constant .none n pos) .none := fun A Xc s _ _ => wpAny_Constant_none ⟨.refl s, .none⟩

theorem Ev.name {x : Str} {pos : Pos} {d : PyData} (h : ρ.lookup x = some (.val d)) (hk : env.kindOf x = some .local) (hd : (x == ("__debug__" : Str)) = false := by decide) : Ev B k env ρ (.Name x pos) d := fun A Xc s _ F => by
  obtain ⟨m, hm, hv⟩ := F.loc
  obtain ⟨v, h1, h2⟩ := hv x _ h hk
  exact wpAny_Name (wpAny_loadName_local F.kind hk hm h1 ⟨.refl s, h2⟩) hd
theorem Ev.cell {x : Str} {pos : Pos} {d : PyData} (h : ρ.lookup x = some (.val d)) (hk : env.kindOf x = some .cell) (hd : (x == ("__debug__" : Str)) = false := by decide) : Ev B k env ρ (.Name x pos) d := fun A Xc s _ F => by
  obtain ⟨c, v, h1, h2, h3⟩ := F.celv x _ h (.inl hk)
  exact wpAny_Name (wpAny_loadName_cell F.kind hk h1 h2 ⟨.refl s, h3⟩) hd
theorem Ev.free {x : Str} {pos : Pos} {d : PyData} (h : ρ.lookup x = some (.val d)) (hk : env.kindOf x = some .free) (hd : (x == ("__debug__" : Str)) = false := by decide) (hn : (x == ("__classdict__" : Str)) = false := by decide) : Ev B k env ρ (.Name x pos) d := fun A Xc s _ F => by
  obtain ⟨c, v, h1, h2, h3⟩ := F.celv x _ h (.inr hk)
  exact wpAny_Name (wpAny_loadName_free F.kind hk h1 h2 ⟨.refl s, h3⟩ hn) hd
theorem EvO.own {x : Str} {pos : Pos} {a : Addr} {d : PyData} (h : ρ.lookup x = some (.own a d)) (hk : env.kindOf x = some .local) (hd : (x == ("__debug__" : Str)) = false := by decide) : EvO B k env ρ (.Name x pos) d := fun A Xc s _ F => by
  obtain ⟨m, hm, hv⟩ := F.loc
  obtain ⟨v, h1, h2⟩ := hv x _ h hk
  exact wpAny_Name (wpAny_loadName_local F.kind hk hm h1 ⟨.refl s, h2.2⟩) hd
theorem EvV.raw {x : Str} {pos : Pos} {w : Value} (h : ρ.lookup x = some (.raw w)) (hk : env.kindOf x = some .local) (hd : (x == ("__debug__" : Str)) = false := by decide) : EvV B k env ρ (.Name x pos) w := fun A Xc s _ F => by
  obtain ⟨m, hm, hv⟩ := F.loc
  obtain ⟨v, h1, h2⟩ := hv x _ h hk
  exact wpAny_Name (wpAny_loadName_local F.kind hk hm h1 ⟨.refl s, h2⟩) hd
theorem EvV.glob {x : Str} {pos : Pos} {v : Value} (h : B.mg x = some v) (hk : env.kindOf x = some .globalImplicit) (hd : (x == ("__debug__" : Str)) = false := by decide) : EvV B k env ρ (.Name x pos) v := fun A Xc s _ F =>
  Calls.Name_function_global F.kind hk (Calls.loadGlobal_global (F.glob ▸ B.T.g.keeps F.g.keep) h ⟨.refl s, rfl⟩) hd
theorem EvV.boot {x : Str} {pos : Pos} {v : Value} (h : B.mg x = Option.none) (hb : bootBuiltins x = some v) (hn : x ≠ "__name__") (hk : env.kindOf x = some .globalImplicit) (hd : (x == ("__debug__" : Str)) = false := by decide) : EvV B k env ρ (.Name x pos) v := fun A Xc s _ F =>
  Calls.Name_function_global F.kind hk (Calls.loadGlobal_builtin (F.glob ▸ B.T.g.keeps F.g.keep) h (F.bi ▸ B.T.b.keeps F.g.keep) ((B.T.builtins x hn).trans hb) ⟨.refl s, rfl⟩) hd
theorem Ev.globStr {x y : Str} {t : Tok} {pos : Pos} (h : B.mg x = some (.str y t)) (hk : env.kindOf x = some .globalImplicit) (hd : (x == ("__debug__" : Str)) = false := by decide) : Ev B k env ρ (.Name x pos) (.str y) := fun A Xc s r F =>
  wpAny_mono (EvV.glob h hk hd A Xc s r F) (fun v s' ⟨h1, h2⟩ => ⟨h1, h2 ▸ .str y t⟩) fun _ _ h => h

/-! operators -/
noncomputable def Bop (B : Bs) (op : Operator) (d1 d2 d : PyData) : Prop :=
  ∀ A X s v1 v2, Rm 0 A → Gd B s.heap → (∀ a ∈ X, (s.heap.get? a).isSome = true) → Rep B X s.heap v1 d1 → Rep B X s.heap v2 d2 → wpAny B.M A (binaryOp op v1 v2) (fun v s' => Kp B [] s s' ∧ Rep B X s'.heap v d) (fun _ _ => False) s
theorem Ev.bop {l r : Expr} {op : Operator} {pos : Pos} {d1 d2 d : PyData} (h1 : Ev B k env ρ l d1) (h2 : Ev B k env ρ r d2) (h : Bop B op d1 d2 d) : Ev B k env ρ (.BinOp l op r pos) d := fun A Xc s rm F =>
  wpAny_BinOp (h1.bind rm F fun v1 s1 k1 F1 r1 => h2.bind rm F1 fun v2 s2 k2 F2 r2 =>
    wpAny_mono (h A _ s2 v1 v2 (rm.le (Nat.zero_le _)) F2.g F2.alive (r1.kp F1.g k2) r2) (fun v s3 ⟨k3, r3⟩ => ⟨(k1.trans k2).trans k3, r3⟩) fun _ _ h => h)
theorem Bop.add (a b : Int) : Bop B .Add (.int a) (.int b) (.int (a + b)) := fun A X s v1 v2 _ _ _ r1 r2 => by
  obtain ⟨t, rfl⟩ := r1.int_inv; obtain ⟨u, rfl⟩ := r2.int_inv
  exact add_int ⟨.tk s _, .int _ _⟩
theorem Bop.sub (a b : Int) : Bop B .Sub (.int a) (.int b) (.int (a - b)) := fun A X s v1 v2 _ _ _ r1 r2 => by
  obtain ⟨t, rfl⟩ := r1.int_inv; obtain ⟨u, rfl⟩ := r2.int_inv
  exact sub_int' ⟨.tk s _, .int _ _⟩
theorem Bop.mul {a b : Int} (hm : IntMulOk a b) : Bop B .Mult (.int a) (.int b) (.int (a * b)) := fun A X s v1 v2 _ _ _ r1 r2 => by
  obtain ⟨t, rfl⟩ := r1.int_inv; obtain ⟨u, rfl⟩ := r2.int_inv
  exact mul_int ⟨.tk s _, .int _ _⟩ hm
theorem Bop.mod {a b : Int} (hb : b ≠ 0) : Bop B .Mod (.int a) (.int b) (.int (a.fmod b)) := fun A X s v1 v2 _ _ _ r1 r2 => by
  obtain ⟨t, rfl⟩ := r1.int_inv; obtain ⟨u, rfl⟩ := r2.int_inv
  exact mod_int' hb ⟨.tk s _, .int _ _⟩
theorem Bop.div {a b : Int} (hb : b ≠ 0) (hp : Builtin.divisionGoesByPylong a b = false) : Bop B .FloorDiv (.int a) (.int b) (.int (a.fdiv b)) := fun A X s v1 v2 _ _ _ r1 r2 => by
  obtain ⟨t, rfl⟩ := r1.int_inv; obtain ⟨u, rfl⟩ := r2.int_inv
  exact floordiv_int hb ⟨.tk s _, .int _ _⟩ (.inl hp)
theorem Bop.pow {a n : Int} (hn : 0 ≤ n) (hn2 : n ≤ 1000000) (ha : a.natAbs < 2 ^ 64) : Bop B .Pow (.int a) (.int n) (.int (a ^ n.toNat)) := fun A X s v1 v2 _ _ _ r1 r2 => by
  obtain ⟨t, rfl⟩ := r1.int_inv; obtain ⟨u, rfl⟩ := r2.int_inv
  exact pow_int_small hn hn2 ha ⟨.tk s _, .int _ _⟩
theorem Bop.cat {x y : Str} (hl : x.length + y.length ≤ sizeLine) : Bop B .Add (.str x) (.str y) (.str (x ++ y)) := fun A X s v1 v2 _ _ _ r1 r2 => by
  obtain ⟨t, rfl⟩ := r1.str_inv; obtain ⟨u, rfl⟩ := r2.str_inv
  exact SB.add (fun t' k => ⟨.tk s _, .str _ _⟩) hl
theorem Bop.rpt {x : Str} {n : Int} (hok : MulOk x n) : Bop B .Mult (.str x) (.int n) (.str (Txt.mul x n)) := fun A X s v1 v2 _ _ _ r1 r2 => by
  obtain ⟨t, rfl⟩ := r1.str_inv; obtain ⟨u, rfl⟩ := r2.int_inv
  exact SB.mul hok (fun t' k => ⟨.tk s _, .str _ _⟩)
theorem Ev.neg {x : Expr} {pos : Pos} {i : Int} (h : Ev B k env ρ x (.int i)) : Ev B k env ρ (.UnaryOp .USub x pos) (.int (-i)) := fun A Xc s rm F =>
  wpAny_UnaryOp (h.bind rm F fun v s1 k1 F1 r1 => by
    obtain ⟨t, rfl⟩ := r1.int_inv
    exact P.neg_int ⟨k1.toks, .int _ _⟩)

/-! comparisons -/
noncomputable def Cmp (B : Bs) (op : CmpOp) (d1 d2 : PyData) (b : Bool) : Prop :=
  ∀ A X s v1 v2, Rm 0 A → Gd B s.heap → RepO B X s.heap v1 d1 → RepO B X s.heap v2 d2 → wpAny B.M A (compareOp op v1 v2) (fun v s' => Kp B [] s s' ∧ v = .bool b) (fun _ _ => False) s
theorem Ev.cmp {l r : Expr} {op : CmpOp} {pos : Pos} {d1 d2 : PyData} {b : Bool} (h1 : EvO B k env ρ l d1) (h2 : EvO B k env ρ r d2) (h : Cmp B op d1 d2 b) (hm : behindInMarks op r = false := by with_unfolding_all rfl) : Ev B k env ρ (.Compare l [op] [r] pos) (.bool b) := fun A Xc s rm F =>
  wpAny_Compare1 (h1.bind rm F fun v1 s1 k1 F1 r1 => h2.bind rm F1 fun v2 s2 k2 F2 r2 =>
    wpAny_mono (h A _ s2 v1 v2 (rm.le (Nat.zero_le _)) F2.g (r1.kp F1.g k2) r2) (fun v s3 ⟨k3, r3⟩ => ⟨(k1.trans k2).trans k3, r3 ▸ .bool b⟩) fun _ _ h => h) hm
theorem Tst.cmp {l r : Expr} {op : CmpOp} {pos : Pos} {d1 d2 : PyData} {b : Bool} (h1 : EvO B k env ρ l d1) (h2 : EvO B k env ρ r d2) (h : Cmp B op d1 d2 b) (hm : behindInMarks op r = false := by with_unfolding_all rfl) : Tst B k env ρ (.Compare l [op] [r] pos) b := fun A Xc s rm F =>
  wpAny_isTrue_Compare1 (h1.bind rm F fun v1 s1 k1 F1 r1 => h2.bind rm F1 fun v2 s2 k2 F2 r2 =>
    wpAny_mono (h A _ s2 v1 v2 (rm.le (Nat.zero_le _)) F2.g (r1.kp F1.g k2) r2) (fun v s3 ⟨k3, r3⟩ => by subst r3; exact wpAny_truthy_bool ⟨(k1.trans k2).trans k3, rfl⟩) fun _ _ h => h) hm
theorem Cmp.lt (a b : Int) : Cmp B .Lt (.int a) (.int b) (decide (a < b)) := fun A X s v1 v2 _ _ r1 r2 => by
  obtain ⟨t, rfl⟩ := r1.int_inv; obtain ⟨u, rfl⟩ := r2.int_inv
  exact lt_int ⟨.refl s, rfl⟩
theorem Cmp.gt (a b : Int) : Cmp B .Gt (.int a) (.int b) (decide (b < a)) := fun A X s v1 v2 _ _ r1 r2 => by
  obtain ⟨t, rfl⟩ := r1.int_inv; obtain ⟨u, rfl⟩ := r2.int_inv
  exact gt_int ⟨.refl s, rfl⟩
theorem Cmp.ge (a b : Int) : Cmp B .GtE (.int a) (.int b) (decide (b ≤ a)) := fun A X s v1 v2 _ _ r1 r2 => by
  obtain ⟨t, rfl⟩ := r1.int_inv; obtain ⟨u, rfl⟩ := r2.int_inv
  exact ge_int ⟨.refl s, rfl⟩
theorem Cmp.isNone (d : PyData) (b : Bool) (hb : b = (match d with | .none => true | _ => false)) : Cmp B .Is d .none b := fun A X s v1 v2 _ _ r1 r2 => by
  have := r2.none_inv; subst this; subst hb
  refine is_none ⟨.refl s, ?_⟩
  cases r1 with
  | rep r => cases r <;> rfl
  | list => rfl
  | dict => rfl
theorem Cmp.isNotBool (a b : Bool) : Cmp B .IsNot (.bool a) (.bool b) (!(a == b)) := fun A X s v1 v2 _ _ r1 r2 => by
  have := r1.bool_inv; subst this; have := r2.bool_inv; subst this
  show wpAny B.M A (do return Value.bool (!(← isSame (.bool a) (.bool b)))) _ _ s
  have e : isSame (.bool a) (.bool b) = pure (a == b) := by cases a <;> cases b <;> rfl
  rw [e]; exact wpAny_bind (wpAny_pure (wpAny_pure ⟨.refl s, rfl⟩))
theorem Cmp.notInStr (x y : Str) : Cmp B .NotIn (.str y) (.str x) (!Txt.contains x y) := fun A X s v1 v2 _ _ r1 r2 => by
  obtain ⟨t, rfl⟩ := r1.str_inv; obtain ⟨u, rfl⟩ := r2.str_inv
  exact SB.notContains ⟨.refl s, rfl⟩

/-! reading as the library's Reads -/
theorem dictReads {h : Heap} {a : Addr} {o : Obj} {es : Array DictEntry} {ep : Nat} {kvs : List (Str × Value)} {l : List (Str × PyData)} {bs : List Addr} (ho : h.get? a = some o) (r1 : o.ExactDict) (hd : o.data = .dict es ep)
    (r3 : Pairs (strKind B.prog B.w) es.toList kvs) (hm : kvs.map (·.1) = l.map (·.1)) (r : ReadsAll h (kvs.map (·.2)) (l.map (·.2)) bs) : ∃ as, Reads h (.ref a) (.dict (l.map fun p => (.str p.1, p.2))) as := by
  have hkeys : ∀ {es : List DictEntry} {kvs : List (Str × Value)}, Pairs (strKind B.prog B.w) es kvs → ReadsAll h (es.map (·.key)) ((kvs.map (·.1)).map PyData.str) [] ∧ es.map (·.val) = kvs.map (·.2) := by
    intro es kvs p
    induction p with
    | nil => exact ⟨.nil, rfl⟩
    | @cons e kv es kvs h1 h2 h3 ih =>
      obtain ⟨t, hk⟩ := Value.isStrOf_shape h1
      refine ⟨?_, by simp [h2, ih.2]⟩
      simp only [List.map_cons, hk]
      exact ReadsAll.cons (as := []) (bs := []) (.str _ _) ih.1
  obtain ⟨k1, k2⟩ := hkeys r3
  refine ⟨_, .dict (as := []) (bs := bs) ho r1.1 hd ?_ ?_⟩
  · rw [hm] at k1
    simpa [List.map_map, Function.comp_def] using k1
  · rw [k2]
    simpa [List.map_map, Function.comp_def] using r
section
variable {X : List Addr} {h : Heap}
mutual
theorem Rep.reads {v : Value} {d : PyData} (x : Rep B X h v d) : ∃ as, Reads h v d as :=
  match x with
  | .none => ⟨_, .none⟩
  | .bool b => ⟨_, .bool b⟩
  | .int i t => ⟨_, .int i t⟩
  | .str s t => ⟨_, .str s t⟩
  | .list hl _ hr => by obtain ⟨n, e⟩ := hl; obtain ⟨as, r⟩ := Reps.reads hr; exact ⟨_, .list e rfl rfl (by simpa using r)⟩
  | .tuple hl _ hr => by obtain ⟨o, e, hc, n, hd⟩ := hl; obtain ⟨as, r⟩ := Reps.reads hr; exact ⟨_, .tuple e hc hd (by simpa using r)⟩
  | .dict hl _ _ hm hr => by
    obtain ⟨o, es, ep, ho, r1, hd, r2, r3, r4⟩ := hl
    obtain ⟨bs, r⟩ := Reps.reads hr
    exact dictReads ho r1 hd r3 hm r
theorem Reps.reads {vs : List Value} {ds : List PyData} (x : Reps B X h vs ds) : ∃ as, ReadsAll h vs ds as :=
  match x with
  | .nil => ⟨_, .nil⟩
  | .cons a b => by obtain ⟨as, r⟩ := Rep.reads a; obtain ⟨bs, r'⟩ := Reps.reads b; exact ⟨_, .cons r r'⟩
end
theorem RepO.reads {v : Value} {d : PyData} (x : RepO B X h v d) : ∃ as, Reads h v d as := by
  cases x with
  | rep r => exact r.reads
  | list hl hr => obtain ⟨n, e⟩ := hl; obtain ⟨as, r⟩ := Reps.reads hr; exact ⟨_, .list e rfl rfl (by simpa using r)⟩
  | dict hl _ hm hr =>
    obtain ⟨o, es, ep, ho, r1, hd, r2, r3, r4⟩ := hl
    obtain ⟨bs, r⟩ := Reps.reads hr
    exact dictReads ho r1 hd r3 hm r
end
theorem Cmp.eq {d1 d2 : PyData} (h1 : PySem.SeqAt.shaped d1 = true) (h2 : PySem.SeqAt.shaped d2 = true) : Cmp B .Eq d1 d2 (PyData.eqv d1 d2) := fun A X s v1 v2 rm _ r1 r2 => by
  obtain ⟨as, r1⟩ := r1.reads; obtain ⟨bs, r2⟩ := r2.reads
  exact eq_dataH r1 r2 h1 h2 (by have := rm.units; omega) ⟨.refl s, rfl⟩
theorem Cmp.ne {d1 d2 : PyData} (h1 : PySem.SeqAt.shaped d1 = true) (h2 : PySem.SeqAt.shaped d2 = true) : Cmp B .NotEq d1 d2 (!PyData.eqv d1 d2) := fun A X s v1 v2 rm _ r1 r2 => by
  obtain ⟨as, r1⟩ := r1.reads; obtain ⟨bs, r2⟩ := r2.reads
  exact ne_dataH r1 r2 h1 h2 (by have := rm.units; omega) ⟨.refl s, rfl⟩
end
end Mine
end
section
open PySem PySem.W PyProof.Rows
set_option linter.unusedVariables false
namespace Mine
section
variable {B : Bs} {env : Env} {ρ : Rho} {k : Nat}

theorem Cmp.eqStr (x y : Str) : Cmp B .Eq (.str x) (.str y) (x == y) := fun A X s v1 v2 rm _ r1 r2 => by
  obtain ⟨t, rfl⟩ := r1.str_inv; obtain ⟨u, rfl⟩ := r2.str_inv
  exact SeqAt.RcAt.str_str x t y u B.prog B.w _ _ ⟨.refl s, rfl⟩
theorem Cmp.eqNoneStr (y : Str) : Cmp B .Eq .none (.str y) false := fun A X s v1 v2 rm _ r1 r2 => by
  have := r1.none_inv; subst this; obtain ⟨u, rfl⟩ := r2.str_inv
  exact SeqAt.RcAt.none_str y u B.prog B.w _ _ ⟨.refl s, rfl⟩
theorem Cmp.eqInt (x y : Int) : Cmp B .Eq (.int x) (.int y) (x == y) := fun A X s v1 v2 rm _ r1 r2 => by
  obtain ⟨t, rfl⟩ := r1.int_inv; obtain ⟨u, rfl⟩ := r2.int_inv
  exact eq_int ⟨.refl s, rfl⟩
theorem Cmp.neInt (x y : Int) : Cmp B .NotEq (.int x) (.int y) (x != y) := fun A X s v1 v2 rm _ r1 r2 => by
  obtain ⟨t, rfl⟩ := r1.int_inv; obtain ⟨u, rfl⟩ := r2.int_inv
  exact ne_int ⟨.refl s, rfl⟩

/-! tests -/
theorem Tst.ofBool {e : Expr} {b : Bool} (h : Ev B k env ρ e (.bool b)) (he : ∀ whole, isTrue e env whole = (do let v ← whole; standAt e.pos; holding [v] (truthy v)) := by intro _; rfl) : Tst B k env ρ e b := fun A Xc s rm F =>
  wpAny_isTrue_value (h.bind rm F fun v s1 k1 F1 r1 => by have := r1.bool_inv; subst this; exact wpAny_truthy_bool ⟨k1, rfl⟩) (he _)
theorem Tst.ofStr {e : Expr} {x : Str} (h : Ev B k env ρ e (.str x)) (hx : x.length ≤ sizeLine) (he : ∀ whole, isTrue e env whole = (do let v ← whole; standAt e.pos; holding [v] (truthy v)) := by intro _; rfl) : Tst B k env ρ e ((x.length : Int) != 0) := fun A Xc s rm F =>
  wpAny_isTrue_value (h.bind rm F fun v s1 k1 F1 r1 => by
    obtain ⟨t, rfl⟩ := r1.str_inv
    exact P.truthy_str (by rw [sizeLine_eq] at hx; omega) ⟨k1.toks, rfl⟩) (he _)
theorem Tst.and2 {x y : Expr} {pos : Pos} {a b : Bool} (h1 : Tst B k env ρ x a) (h2 : a = true → Tst B k env ρ y b) : Tst B k env ρ (.BoolOp .And [x, y] pos) (a && b) := fun A Xc s rm F =>
  wpAny_isTrue_BoolOp (wpAny_allTrue_And_cons (h1.bind rm F fun s1 k1 F1 => by
    cases a with
    | false => exact ⟨k1, rfl⟩
    | true => exact wpAny_allTrue_And_cons ((h2 rfl).bind rm F1 fun s2 k2 F2 => by
        cases b with
        | false => exact ⟨k1.trans k2, rfl⟩
        | true => exact wpAny_allTrue_And_nil ⟨k1.trans k2, rfl⟩)))
theorem Tst.or2 {x y : Expr} {pos : Pos} {a b : Bool} (h1 : Tst B k env ρ x a) (h2 : a = false → Tst B k env ρ y b) : Tst B k env ρ (.BoolOp .Or [x, y] pos) (a || b) := fun A Xc s rm F =>
  wpAny_isTrue_BoolOp (wpAny_allTrue_Or_cons (h1.bind rm F fun s1 k1 F1 => by
    cases a with
    | true => exact ⟨k1, rfl⟩
    | false => exact wpAny_allTrue_Or_cons ((h2 rfl).bind rm F1 fun s2 k2 F2 => by
        cases b with
        | true => exact ⟨k1.trans k2, rfl⟩
        | false => exact wpAny_allTrue_Or_nil ⟨k1.trans k2, rfl⟩)))
theorem Ev.ifexp {test body orelse : Expr} {pos : Pos} {b : Bool} {d : PyData} (h : Tst B k env ρ test b) (h1 : b = true → Ev B k env ρ body d) (h2 : b = false → Ev B k env ρ orelse d) : Ev B k env ρ (.IfExp test body orelse pos) d := fun A Xc s rm F =>
  wpAny_IfExp (h.bind rm F fun s1 k1 F1 => by
    cases b with
    | true => exact (h1 rfl).bind rm F1 fun v s2 k2 F2 r2 => ⟨k1.trans k2, r2⟩
    | false => exact (h2 rfl).bind rm F1 fun v s2 k2 F2 r2 => ⟨k1.trans k2, r2⟩)
theorem Ev.and2 {x y : Expr} {pos : Pos} {a b : Bool} (h1 : Ev B k env ρ x (.bool a)) (h2 : a = true → Ev B k env ρ y (.bool b)) : Ev B k env ρ (.BoolOp .And [x, y] pos) (.bool (a && b)) := fun A Xc s rm F =>
  wpAny_And2 (h1.bind rm F fun v s1 k1 F1 r1 => by
    have := r1.bool_inv; subst this
    refine wpAny_truthy_bool ?_
    cases a with
    | false => exact ⟨k1, .bool _⟩
    | true => exact (h2 rfl).bind rm F1 fun v s2 k2 F2 r2 => ⟨k1.trans k2, r2⟩)
theorem Ev.and3 {x y z : Expr} {pos : Pos} {a b c : Bool} (h1 : Ev B k env ρ x (.bool a)) (h2 : a = true → Ev B k env ρ y (.bool b)) (h3 : a = true → b = true → Ev B k env ρ z (.bool c)) : Ev B k env ρ (.BoolOp .And [x, y, z] pos) (.bool (a && (b && c))) := fun A Xc s rm F => by
  show wpAny B.M A (do
    let v ← eval x env
    standAt pos
    let t ← holding [v] (truthy v)
    match BoolOp.And, t with
    | .And, false | .Or, true => pure v
    | _, _ => boolOp pos .And [eval y env, eval z env]) _ _ s
  refine wpAny_bind (h1.bind rm F fun v s1 k1 F1 r1 => wpAny_bind (wpAny_standAt (wpAny_bind (wpAny_holding ?_))))
  have := r1.bool_inv; subst this
  refine wpAny_truthy_bool ?_
  cases a with
  | false => exact wpAny_pure ⟨k1, .bool _⟩
  | true =>
    have := Ev.and2 (pos := pos) (h2 rfl) (h3 rfl)
    exact this.bind rm F1 fun v s2 k2 F2 r2 => ⟨k1.trans k2, r2⟩

/-! displays -/
noncomputable def notStar : Expr → Bool
  | .Starred .. => false
  | _ => true
theorem starEach_cons {e : Expr} {es : List Expr} {env : Env} (h : notStar e = true) : starEach (e :: es) env = (false, eval e env) :: starEach es env := by
  cases e <;> first | rfl | cases h
variable (B) in
noncomputable def Evs (k : Nat) (env : Env) (ρ : Rho) (es : List Expr) (ds : List PyData) : Prop :=
  ∀ A Xc s pos, Rm k A → Fok B env Xc ρ s.heap → wpAny B.M A (spliced (backTo pos (starEach es env))) (fun vs s' => Kp B [] s s' ∧ Reps B (xs env Xc ρ) s'.heap vs ds) (fun _ _ => False) s
theorem Evs.nil : Evs B k env ρ [] [] := fun A Xc s pos rm F => wpAny_items_nil ⟨.refl s, .nil⟩
theorem Evs.cons {e : Expr} {es : List Expr} {d : PyData} {ds : List PyData} (h1 : Ev B k env ρ e d) (h2 : Evs B k env ρ es ds) (he : starEach (e :: es) env = (false, eval e env) :: starEach es env := by exact starEach_cons rfl) : Evs B k env ρ (e :: es) (d :: ds) := fun A Xc s pos rm F =>
  wpAny_items_cons (h1.bind rm F fun v s1 k1 F1 r1 => wpAny_mono (h2 A Xc s1 pos rm F1) (fun vs s2 ⟨k2, r2⟩ => ⟨k1.trans k2, .cons (r1.kp F1.g k2) r2⟩) fun _ _ h => h) he
theorem fresh_not {X : List Addr} {h : Heap} (hX : ∀ a ∈ X, (h.get? a).isSome = true) : h.objs.size ∉ X := fun hm => by
  have := hX _ hm
  cases e : h.get? h.objs.size with
  | none => rw [e] at this; cases this
  | some o => exact absurd (Heap.lt_size e) (Nat.lt_irrefl _)
theorem Rep.newTuple {X : List Addr} {h : Heap} {vs : List Value} {ds : List PyData} (r : Reps B X h vs ds) (hX : ∀ a ∈ X, (h.get? a).isSome = true) : Rep B X (h.push { cls := .type "tuple", data := .seq vs.toArray }) (.ref h.objs.size) (.tuple ds) :=
  .tuple (IsTup.new _ _) (fresh_not hX) (r.keeps fun _ _ e => Heap.get?_push_of_some _ e)
theorem Rep.newList {X : List Addr} {h : Heap} {vs : List Value} {ds : List PyData} (r : Reps B X h vs ds) (hX : ∀ a ∈ X, (h.get? a).isSome = true) : Rep B X (h.push { cls := .type "list", data := .seq vs.toArray }) (.ref h.objs.size) (.list ds) :=
  .list ⟨_, Heap.get?_push_size _ rfl⟩ (fresh_not hX) (r.keeps fun _ _ e => Heap.get?_push_of_some _ e)
theorem Ev.tuple {es : List Expr} {n : Nat} {pos : Pos} {ds : List PyData} (h : Evs B k env ρ es ds) (hl : ds.length ≤ 1000 := by simp) : Ev B k env ρ (.Tuple es n pos) (.tuple ds) := fun A Xc s rm F =>
  wpAny_Tuple (wpAny_mono (h A Xc s pos rm F) (fun vs s1 ⟨k1, r1⟩ => ⟨by rw [r1.length, sizeLine_eq]; omega, k1.trans (.push _ _ _), .newTuple r1 (F.kp k1).alive⟩) fun _ _ h => h)
theorem Ev.list {es : List Expr} {pos : Pos} {ds : List PyData} (h : Evs B k env ρ es ds) (hl : ds.length ≤ 1000 := by simp) : Ev B k env ρ (.List es pos) (.list ds) := fun A Xc s rm F =>
  wpAny_List (wpAny_mono (h A Xc s pos rm F) (fun vs s1 ⟨k1, r1⟩ => ⟨by rw [r1.length, sizeLine_eq]; omega, k1.trans (.push _ _ _), .newList r1 (F.kp k1).alive⟩) fun _ _ h => h)

/-! items -/
theorem Ev.item {value slice : Expr} {pos : Pos} {ds : List PyData} {i : Int} {d : PyData} (h1 : EvO B k env ρ value (.list ds)) (h2 : Ev B k env ρ slice (.int i)) (h0 : 0 ≤ i) (hi : ds[i.toNat]? = some d) (hb : i < 2 ^ 63)
    (hs : ∀ a u, subscripted slice false (.ref a) (.int i u) = operate [.ref a, .int i u] (getItem (.ref a) (.int i u)) := by intro _ _; with_unfolding_all rfl) : Ev B k env ρ (.Subscript value slice pos) d := fun A Xc s rm F =>
  Subscript_ (h1.bind rm F fun v s1 k1 F1 r1 => h2.bind rm F1 fun w s2 k2 F2 r2 => by
    obtain ⟨u, rfl⟩ := r2.int_inv
    obtain ⟨a, vs, rfl, hl, hr⟩ := (r1.kp F1.g k2).list_inv
    obtain ⟨x, hx, rx⟩ := hr.get hi
    exact tail_any hl.isList.typeIs slot_list_getitem.lookup (wpAny_getItem_list hl.isList h0 hb (by simpa using hx) ⟨k1.trans k2, rx⟩) (hs a u))
theorem Ev.last {value slice : Expr} {pos : Pos} {ds : List PyData} {d : PyData} (h1 : EvO B k env ρ value (.list ds)) (h2 : Ev B k env ρ slice (.int (-1))) (hi : ds.getLast? = some d)
    (hs : ∀ a u, subscripted slice false (.ref a) (.int (-1) u) = operate [.ref a, .int (-1) u] (getItem (.ref a) (.int (-1) u)) := by intro _ _; with_unfolding_all rfl) : Ev B k env ρ (.Subscript value slice pos) d := fun A Xc s rm F =>
  Subscript_ (h1.bind rm F fun v s1 k1 F1 r1 => h2.bind rm F1 fun w s2 k2 F2 r2 => by
    obtain ⟨u, rfl⟩ := r2.int_inv
    obtain ⟨a, vs, rfl, hl, hr⟩ := (r1.kp F1.g k2).list_inv
    rw [List.getLast?_eq_getElem?] at hi
    obtain ⟨x, hx, rx⟩ := hr.get hi
    have hlen := hr.length
    have hpos : 0 < ds.length := by
      rcases Nat.eq_zero_or_pos ds.length with h | h
      · have : ds = [] := List.eq_nil_of_length_eq_zero h
        subst this; simp at hi
      · exact h
    refine tail_any hl.isList.typeIs slot_list_getitem.lookup (wpAny_getItem_list_neg hl.isList (by omega) (by simp; omega) (by omega) ?_ ⟨k1.trans k2, rx⟩) (hs a u)
    have : ((-1 : Int) + (vs.toArray.size : Int)).toNat = ds.length - 1 := by simp; omega
    rw [this]; simpa using hx)
theorem Ev.titem {value slice : Expr} {pos : Pos} {ds : List PyData} {i : Int} {d : PyData} (h1 : EvO B k env ρ value (.tuple ds)) (h2 : Ev B k env ρ slice (.int i)) (h0 : 0 ≤ i) (hi : ds[i.toNat]? = some d) (hb : i < 2 ^ 63)
    (hs : ∀ a u, subscripted slice false (.ref a) (.int i u) = operate [.ref a, .int i u] (getItem (.ref a) (.int i u)) := by intro _ _; with_unfolding_all rfl) : Ev B k env ρ (.Subscript value slice pos) d := fun A Xc s rm F =>
  Subscript_ (h1.bind rm F fun v s1 k1 F1 r1 => h2.bind rm F1 fun w s2 k2 F2 r2 => by
    obtain ⟨u, rfl⟩ := r2.int_inv
    obtain ⟨a, vs, rfl, hl, hr⟩ := (r1.kp F1.g k2).tuple_inv
    obtain ⟨x, hx, rx⟩ := hr.get hi
    refine item_tupleT hl (by omega) hb (j := i.toNat) ?_ hx ⟨k1.trans k2, rx⟩ (hs a u)
    have : i.toNat < ds.length := (List.getElem?_eq_some_iff.mp hi).1
    have hlen := hr.length
    have hneg : ¬ i < 0 := by omega
    have hin : (decide (0 ≤ i) && decide (i < (vs.length : Int))) = true := by simp only [Bool.and_eq_true, decide_eq_true_eq]; omega
    simp only [seqIndex?, hneg, if_false, hin, if_true])

/-! slices -/
theorem Ev.sliceTo {value up : Expr} {pos p : Pos} {ds : List PyData} {i : Int} {n : Nat} (h1 : EvO B k env ρ value (.list ds)) (h2 : Ev B k env ρ up (.int i)) (hn : (0 ≤ i ∧ n = i.toNat) ∨ (i < 0 ∧ n = ds.length - (-i).toNat)) (hl : ds.length ≤ 1000) :
    Ev B k env ρ (.Subscript value (.Slice Option.none (some up) Option.none p) pos) (.list (ds.take n)) := fun A Xc s rm F =>
  Subscript_ (h1.bind rm F fun v s1 k1 F1 r1 => wpAny_Slice (wpAny_evalPart_none (wpAny_evalPart_some (h2.bind rm F1 fun w s2 k2 F2 r2 => wpAny_evalPart_none (by
    obtain ⟨u, rfl⟩ := r2.int_inv
    have r1' := (r1.kp F1.g k2).keeps (h' := s2.heap.push { cls := .type "slice", data := .fields #[.none, .int i u, .none] }) fun _ _ e => Heap.get?_push_of_some _ e
    obtain ⟨a, vs, rfl, hl, hr⟩ := r1'.list_inv
    have hlen := hr.length
    refine tail_any (ops := [.ref s2.heap.objs.size, .ref a]) (Heap.IsList.typeIs (s := { s2 with heap := s2.heap.push { cls := .type "slice", data := .fields #[.none, .int i u, .none] } }) hl.isList) slot_list_getitem.lookup (wpAny_getItem_list_slice hl.isList (Heap.IsSliceOf.new ..) .none (.int i u) .none (by simp) ?_ (by simp [sizeLine_eq]; omega)) (by with_unfolding_all rfl)
    have hpick : slicePick vs.toArray Option.none (some i) Option.none = (vs.take n).toArray := by
      rcases hn with ⟨h0, rfl⟩ | ⟨h0, rfl⟩
      · have e : i = ((i.toNat : Nat) : Int) := by omega
        conv => lhs; rw [e]
        rw [slicePick_upto']
      · have e : i = -(((-i).toNat : Nat) : Int) := by omega
        conv => lhs; rw [e]
        rw [slicePick_butLast _ _ (by omega)]; simp [hlen]
    rw [hpick]
    exact ⟨((k1.trans k2).trans (.push _ _ s2.toks)).trans (.push _ _ s2.toks), .newList (hr.take n) (F2.kp (.push s2 _ s2.toks)).alive⟩)))))

theorem adjust_upto (b n : Nat) (hb : b ≤ n) : Builtin.Slice.sliceAdjust none (some (b : Int)) 1 (n : Int) = (0, (b : Int)) := by
  unfold Builtin.Slice.sliceAdjust
  have h1 : ¬ ((1 : Int) < 0) := by omega
  have h2 : ¬ ((b : Int) < 0) := by omega
  simp only [h1, h2, if_false]
  congr 1
  omega
theorem places_upto (b : Nat) : Builtin.Slice.slicePlaces 0 (b : Int) 1 = b := by
  unfold Builtin.Slice.slicePlaces
  have h1 : (1 : Int) > 0 := by omega
  simp only [h1, if_true, Int.ediv_one]
  split <;> omega
theorem sliceApplied_upto {prog : Program} {w : World} {A : Around} {E : Value → Shared → Prop} {s : Shared} {sl : Addr} {b n : Nat} {u : Tok} {Q : Int × Int × Nat → Shared → Prop} (hs : s.heap.IsSliceOf sl .none (.int b u) .none) (hb : b ≤ n) (h : Q (0, 1, b) s) :
    wpAny (model prog w) A (Builtin.Slice.sliceApplied (.ref sl) (pure (n : Int))) Q E s := by
  obtain ⟨os, hos, hcs, hds⟩ := id hs
  unfold Builtin.Slice.sliceApplied Builtin.Slice.sliceFields
  refine wpAny_bind (wpAny_bind (wpAny_field hos hds (x := .none) rfl (wpAny_bind (wpAny_field hos hds (x := .int b u) rfl (wpAny_bind (wpAny_field hos hds (x := .none) rfl (wpAny_pure ?_)))))))
  refine wpAny_bind (slicePart_none ?_)
  show wpAny _ _ (if ((1 : Int) == 0) = true then _ else _) _ _ s
  rw [if_neg (by decide)]
  refine wpAny_bind (slicePart_none (wpAny_bind (slicePart_int (wpAny_bind (wpAny_pure ?_)))))
  show wpAny _ _ (match Builtin.Slice.sliceAdjust none (some (b : Int)) 1 (n : Int) with | (lo, hi) => pure (lo, (1 : Int), Builtin.Slice.slicePlaces lo hi 1)) _ _ s
  rw [adjust_upto b n hb]
  show wpAny _ _ (pure ((0 : Int), (1 : Int), Builtin.Slice.slicePlaces 0 (b : Int) 1)) _ _ s
  rw [places_upto b]
  exact wpAny_pure h
theorem getItem_tuple_upto {prog : Program} {w : World} {A : Around} {E : Value → Shared → Prop} {s : Shared} {t sl : Addr} {items : Array Value} {b : Nat} {u : Tok} {Q : Value → Shared → Prop} (ht : IsTup s.heap t items) (hs : s.heap.IsSliceOf sl .none (.int b u) .none) (hb : b < items.size)
    (h : Q (.ref s.heap.objs.size) { s with heap := s.heap.push { cls := .type "tuple", data := .seq (items.toList.take b).toArray } })
    (hsz : items.size ≤ sizeLine) : wpAny (model prog w) A (getItem (.ref t) (.ref sl)) Q E s := by
  have hdrop : sizeOk (.seq (items.toList.take b).toArray) := by
    show (items.toList.take b).toArray.size ≤ sizeLine
    rw [List.size_toArray, List.length_take, Array.length_toList]
    omega
  obtain ⟨os, hos, hcs, hds⟩ := id hs
  have hTs : s.TypeIs (.ref sl) "slice" := ⟨os, hos, hcs⟩
  unfold getItem
  try with_reducible refine wpAny_holding ?_
  first | refine wpAny_bind (wpAny_pure ?_) | skip
  refine wpAny_bind (wpAny_sequenceKey ht.typeIs (by decide) ?_)
  refine wpAny_bind (wpAny_callSpecial?_slot (name := Str.ofString "__getitem__") ht.typeIs slot_tuple_getitem
    (wpAny_call_entry slot_tuple_getitem ht.typeIs entry_tuple_getitem ?_ (args_tuple_getitem _ _)))
  show wpAny _ _ (Builtin.Tuple.tupleItemsOf (.ref t) >>= _) _ _ s
  refine wpAny_bind (tupleItemsOf_ ht ?_)
  refine wpAny_bind (wpAny_typeOf hTs ?_)
  rw [if_pos (by decide)]
  refine wpAny_bind (sliceApplied_upto hs (Nat.le_of_lt hb) ?_)
  have hno : ¬ (((0 : Int) == 0 && (1 : Int) == 1 && b == items.size) = true) := by
    have : (b == items.size) = false := by rw [beq_eq_false_iff_ne]; omega
    rw [this]; simp
  show wpAny _ _ (if ((0 : Int) == 0 && (1 : Int) == 1 && b == items.size) = true then _ else _) _ _ s
  have hpick : ((List.range b).filterMap fun (k : Nat) => items[((0 : Int) + (k : Int) * 1).toNat]?).toArray = (items.toList.take b).toArray := by
    have e : (fun (k : Nat) => items[((0 : Int) + (k : Int) * 1).toNat]?) = fun k => items[0 + k]? := by
      funext k
      have : ((0 : Int) + (k : Int) * 1).toNat = 0 + k := by omega
      rw [this]
    rw [e]
    have := pick_run items 0 b
    rw [List.filterMap_map] at this
    have e2 : ((fun x => items[x]?) ∘ fun x => 0 + x) = fun k => items[0 + k]? := rfl
    rw [e2] at this
    rw [this]; simp
  rw [if_neg hno, hpick]
  first
    | exact wpAny_bind (m := Builtin.Tuple.tupleExact _) (wpAny_newObj_type (wpAny_pure ⟨_, rfl, wpAny_pure h⟩) hdrop)
    | exact wpAny_bind (m := Builtin.Tuple.tupleExact _) (wpAny_newObj_type (wpAny_bind (wpAny_pure (wpAny_pure ⟨_, rfl, wpAny_pure h⟩))) hdrop)
    | exact wpAny_bind (wpAny_bind (m := Builtin.Tuple.tupleExact _) (wpAny_newObj_type (wpAny_pure (wpAny_pure ⟨_, rfl, wpAny_pure h⟩)) hdrop))
    | exact wpAny_bind (wpAny_bind (m := Builtin.Tuple.tupleExact _) (wpAny_newObj_type (wpAny_pure ⟨_, rfl, wpAny_pure h⟩) hdrop))
theorem Ev.tsliceTo {value up : Expr} {pos p : Pos} {ds : List PyData} {b : Nat} (h1 : EvO B k env ρ value (.tuple ds)) (h2 : Ev B k env ρ up (.int b)) (hb : b < ds.length) (hl : ds.length ≤ 1000) :
    Ev B k env ρ (.Subscript value (.Slice Option.none (some up) Option.none p) pos) (.tuple (ds.take b)) := fun A Xc s rm F =>
  Subscript_ (h1.bind rm F fun v s1 k1 F1 r1 => wpAny_Slice (wpAny_evalPart_none (wpAny_evalPart_some (h2.bind rm F1 fun w s2 k2 F2 r2 => wpAny_evalPart_none (by
    obtain ⟨u, rfl⟩ := r2.int_inv
    have r1' := (r1.kp F1.g k2).keeps (h' := s2.heap.push { cls := .type "slice", data := .fields #[.none, .int b u, .none] }) fun _ _ e => Heap.get?_push_of_some _ e
    obtain ⟨a, vs, rfl, hl, hr⟩ := r1'.tuple_inv
    have hlen := hr.length
    refine tail_any (ops := [.ref s2.heap.objs.size, .ref a]) (IsTup.typeIs (s := { s2 with heap := s2.heap.push { cls := .type "slice", data := .fields #[.none, .int b u, .none] } }) hl) slot_tuple_getitem.lookup (getItem_tuple_upto hl (Heap.IsSliceOf.new ..) (by simp; omega) ?_ (by simp [sizeLine_eq]; omega)) (by with_unfolding_all rfl)
    exact ⟨((k1.trans k2).trans (.push _ _ s2.toks)).trans (.push _ _ s2.toks), by simpa using Rep.newTuple (hr.take b) (F2.kp (.push s2 _ s2.toks)).alive⟩)))))
theorem Ev.strSlice {value lo up : Expr} {pos p : Pos} {x : Str} {i j : Int} (h1 : Ev B k env ρ value (.str x)) (h2 : Ev B k env ρ lo (.int i)) (h3 : Ev B k env ρ up (.int j)) (hl : x.length ≤ sizeLine)
    (ht : ∀ o r, letTemporaryGo value o r = pure () := by intro _ _; rfl) :
    Ev B k env ρ (.Subscript value (.Slice (some lo) (some up) Option.none p) pos) (.str (Txt.slice x (some i) (some j))) := fun A Xc s rm F =>
  wpAny_Subscript_str_slice (h1.bind rm F fun v s1 k1 F1 r1 => wpAny_evalPart_some (h2.bind rm F1 fun w s2 k2 F2 r2 => wpAny_evalPart_some (h3.bind rm F2 fun z s3 k3 F3 r3 => by
    obtain ⟨t, rfl⟩ := r1.str_inv
    obtain ⟨u, rfl⟩ := r2.int_inv
    obtain ⟨u', rfl⟩ := r3.int_inv
    refine ⟨x, t, some (i, u), some (j, u'), rfl, rfl, rfl, ?_⟩
    exact post_val_or_str ⟨Nat.le_trans (Txt.slice_le x _ _) hl, fun t' k => ⟨(((k1.trans k2).trans k3).trans (.push _ _ s3.toks)).toks, .str _ _⟩⟩))) ht
end
end Mine
end
section
open PySem PySem.W PyProof.Rows
set_option linter.unusedVariables false
namespace Mine
section
variable {B : Bs} {env : Env} {ρ : Rho} {k : Nat}

inductive BRep (B : Bs) (X : List Addr) (h : Heap) : List (Str × Value) → Rho → Prop
  | nil : BRep B X h [] []
  | cons {n : Str} {v : Value} {d : PyData} {bs : List (Str × Value)} {ρ : Rho} : Rep B X h v d → BRep B X h bs ρ → BRep B X h ((n, v) :: bs) ((n, .val d) :: ρ)
  | raw {n : Str} {v : Value} {bs : List (Str × Value)} {ρ : Rho} : BRep B X h bs ρ → BRep B X h ((n, v) :: bs) ((n, .raw v) :: ρ)
theorem BRep.names {X : List Addr} {h : Heap} {bs : List (Str × Value)} {ρ : Rho} (x : BRep B X h bs ρ) : bs.map (·.1) = ρ.map (·.1) := by
  induction x with
  | nil => rfl
  | cons _ _ ih => simp [ih]
  | raw _ ih => simp [ih]
theorem BRep.owns {X : List Addr} {h : Heap} {bs : List (Str × Value)} {ρ : Rho} (x : BRep B X h bs ρ) : owns ρ = [] := by
  induction x with
  | nil => rfl
  | cons _ _ ih => simpa [Mine.owns, Slot.addr] using ih
  | raw _ ih => simpa [Mine.owns, Slot.addr] using ih
theorem BRep.get {X : List Addr} {h : Heap} {bs : List (Str × Value)} {ρ : Rho} (x : BRep B X h bs ρ) {n : Str} {sl : Slot} (e : ρ.lookup n = some sl) : ∃ v, (n, v) ∈ bs ∧ ∀ X' h', (∀ a, a ∈ X' → a ∈ X ∨ h.get? a = none) → (∀ b o, h.get? b = some o → h'.get? b = some o) → SRep B X' h' v sl := by
  induction x with
  | nil => simp at e
  | @cons n' v d bs ρ r x ih =>
    rw [List.lookup_cons] at e
    by_cases hy : n == n'
    · rw [hy] at e; cases e; rw [eq_of_beq hy]; exact ⟨v, .head _, fun X' h' hx hk => (r.more hx).keeps hk⟩
    · rw [Bool.not_eq_true] at hy; rw [hy] at e
      obtain ⟨v, h1, h2⟩ := ih e
      exact ⟨v, .tail _ h1, h2⟩
  | @raw n' v bs ρ x ih =>
    rw [List.lookup_cons] at e
    by_cases hy : n == n'
    · rw [hy] at e; cases e; rw [eq_of_beq hy]; exact ⟨v, .head _, fun X' h' hx hk => rfl⟩
    · rw [Bool.not_eq_true] at hy; rw [hy] at e
      obtain ⟨v, h1, h2⟩ := ih e
      exact ⟨v, .tail _ h1, h2⟩
theorem bindL_out {K : Str → Option NameKind} {x : Str} : ∀ {bs : List (Str × Value)} {m : Str → Option Value}, x ∉ bs.map (·.1) → bindL K bs m x = m x
  | [], m, _ => rfl
  | (n, v) :: r, m, h => by
    simp only [List.map_cons, List.mem_cons, not_or] at h
    unfold bindL
    rw [bindL_out h.2]
    split
    · exact if_neg h.1
    · rfl
theorem bindL_get {K : Str → Option NameKind} {x : Str} {v : Value} (hk : K x = some .local) : ∀ {bs : List (Str × Value)} {m : Str → Option Value}, (bs.map (·.1)).Nodup → (x, v) ∈ bs → bindL K bs m x = some v
  | (n, w) :: r, m, hn, h => by
    simp only [List.map_cons, List.nodup_cons] at hn
    unfold bindL
    rcases List.mem_cons.mp h with e | h
    · cases e
      rw [bindL_out hn.1, if_pos hk]; exact if_pos rfl
    · exact bindL_get hk hn.2 h
theorem bindC_out {K : Str → Option NameKind} {x : Str} : ∀ {bs : List (Str × Value)} {m : Str → Option Value}, x ∉ bs.map (·.1) → bindC K bs m x = m x
  | [], m, _ => rfl
  | (n, v) :: r, m, h => by
    simp only [List.map_cons, List.mem_cons, not_or] at h
    unfold bindC
    rw [bindC_out h.2]
    split
    · rfl
    · exact if_neg h.1
theorem bindC_get {K : Str → Option NameKind} {x : Str} {v : Value} (hk : K x ≠ some .local) : ∀ {bs : List (Str × Value)} {m : Str → Option Value}, (bs.map (·.1)).Nodup → (x, v) ∈ bs → bindC K bs m x = some v
  | (n, w) :: r, m, hn, h => by
    simp only [List.map_cons, List.nodup_cons] at hn
    unfold bindC
    rcases List.mem_cons.mp h with e | h
    · cases e
      rw [bindC_out hn.1, if_neg hk]; exact if_pos rfl
    · exact bindC_get hk hn.2 h

theorem Gd.above {h : Heap} (g : Gd B h) {a : Addr} (ha : h.objs.size ≤ a) : B.hB.get? a = none := by
  cases e : B.hB.get? a with
  | none => rfl
  | some o => exact absurd (Heap.lt_size (g.keep _ _ e)) (Nat.not_lt.mpr ha)
theorem notcode_dict {o : Obj} {es ep} (h : o.data = .dict es ep) : NotCode o := fun _ e => by rw [h] at e; cases e
theorem notcode_seq {o : Obj} {es ep} (h : o.data = .seq es ep) : NotCode o := fun _ e => by rw [h] at e; cases e
theorem notcode_cell {o : Obj} {v} (h : o.data = .cell v) : NotCode o := fun _ e => by rw [h] at e; cases e

theorem enter {A : Around} {X : List Addr} {s : Shared} {args : Args} {binds : List (Str × Value)} {f : Addr} {o : Obj} {fd : FuncData} {body : List Stmt} {d : PyData} {ρ0 : Rho}
    (rm : Rm (k + 1) A) (g : Gd B s.heap) (hX : ∀ a ∈ X, (s.heap.get? a).isSome = true)
    (ho : B.hB.get? f = some o) (hd : o.data = .func fd) (hcd : B.hB.CodeRec fd.code fd.qualname) (hbody : fd.body = .stmts body) (hclo : fd.closure = []) (hglob : fd.globals = mainGlobals) (hbi : fd.builtins = builtinsNs)
    (hbt : BindsTo s fd args binds) (hbr : BRep B X s.heap binds ρ0)
    (hnd : (ρ0.map (·.1)).Nodup)
    (hkinds : (ρ0.all fun y => fd.scope.names.lookup y.1 == some .local || fd.scope.names.lookup y.1 == some .cell) = true)
    (hcn : ((cellsFrom 0 fd.scope.names []).map (·.1)).Nodup)
    (h : ∀ L, Ex B k (callEnvC fd L f) ρ0 body (fun o => o = .ret d))
    (hco : fd.scope.isCoroutine = false) (hgen : fd.scope.isGenerator = false) (hk : fd.scope.kind = .function) :
    codeAny B.M A (.call (.ref f) args) (fun r s' => ∃ v, r = .ok (.ret v) ∧ Kp B [] s s' ∧ Rep B X s'.heap v d) s := by
  have hnames := hbr.names
  refine codeAny_call_function (by have := rm.depth; omega) (g.keep _ _ ho) hd hco hgen hbody (hcd.keeps g.keep) (hbt _ _ _ _ ?_)
  rw [hclo]
  have hkk : (binds.all fun y => fd.scope.names.lookup y.1 == some .local || fd.scope.names.lookup y.1 == some .cell) = true := by
    rw [List.all_eq_true] at hkinds ⊢
    intro y hy
    have : y.1 ∈ ρ0.map (·.1) := hnames ▸ List.mem_map_of_mem hy
    obtain ⟨z, hz, e⟩ := List.mem_map.mp this
    rw [← e]; exact hkinds z hz
  refine wpAny_newFunctionEnv_cells hk (kindsX hkk _) fun env he s₁ x => ?_
  subst he
  have hkeep := x.toInCall.keep
  obtain ⟨h₁, tk, hs₁, _⟩ := x.done
  have g1 : Gd B s₁.heap := g.keeps hkeep
  have hL : B.hB.get? s.heap.objs.size = none := g.above (Nat.le_refl _)
  refine ⟨(B.T.nolimit.keeps g.keep).keeps hkeep, codeAny_func ?_⟩
  have hfresh : ∀ b ob, s.heap.get? b = some ob → b ∉ mu (callEnvC fd s.heap.objs.size f) ρ0 := by
    intro b ob e hm
    have hb := Heap.lt_size e
    simp only [mu, hbr.owns, List.append_nil, List.mem_cons] at hm
    rcases hm with q | hm
    · rw [q] at hb; exact Nat.lt_irrefl _ hb
    · obtain ⟨p, hp, q⟩ := cellsOf_mem hm
      have := x.above p.1 p.2 hp
      rw [← q] at hb
      exact Nat.lt_irrefl _ (Nat.lt_trans hb this)
  have hnd' : (binds.map (·.1)).Nodup := hnames ▸ hnd
  have hxs : ∀ a ∈ xs (callEnvC fd s.heap.objs.size f) X ρ0, a ∈ X ∨ s.heap.get? a = none := by
    intro a ha
    simp only [xs, hbr.owns, List.nil_append, List.mem_cons] at ha
    rcases ha with rfl | ha
    · exact .inr (Heap.get?_none_of_le (Nat.le_refl _))
    · exact .inl ha
  have F : Fok B (callEnvC fd s.heap.objs.size f) X ρ0 s₁.heap := by
    refine ⟨g1, fun a ha => ?_, hk, hglob, hbi, ⟨_, x.toInCall.ns, fun y sl hy hl => ?_⟩, fun p hp => ?_, fun y sl hy hc => ?_, hL, fun p hp => ?_, fun a ha => by rw [hbr.owns] at ha; cases ha⟩
    · have := hX a ha
      cases e : s.heap.get? a with
      | none => rw [e] at this; cases this
      | some oo => rw [hkeep _ _ e]; rfl
    · obtain ⟨v, hm, hr⟩ := hbr.get hy
      exact ⟨v, bindL_get hl hnd' hm, hr _ _ hxs hkeep⟩
    · exact ⟨_, x.cell p.1 p.2 (lookup_of_mem_nodup (cellsFrom_names fd.scope.names 0 (s.heap.objs.size + 1) [] [] rfl ▸ hcn) hp)⟩
    · have hc : (callEnvC fd s.heap.objs.size f).kindOf y = some .cell := by
        rcases hc with h | h
        · exact h
        · have hy' : (y, sl) ∈ ρ0 := Fok.sub.mem_lookup hy
          have := (List.all_eq_true.mp hkinds) _ hy'
          have h : fd.scope.names.lookup y = some .free := h
          rw [h] at this; cases this
      obtain ⟨v, hm, hr⟩ := hbr.get hy
      have hl : (cellsFrom (s.heap.objs.size + 1) fd.scope.names []).lookup y |>.isSome := by
        exact cellsFrom_some _ _ _ (.inl hc)
      obtain ⟨c, hc'⟩ := Option.isSome_iff_exists.mp hl
      refine ⟨c, v, hc', ?_, hr _ _ hxs hkeep⟩
      have : s₁.heap.IsCell c (bindC (callEnvC fd s.heap.objs.size f).kindOf binds (fun _ => none) y) := x.cell y c hc'
      rw [bindC_get (K := (callEnvC fd s.heap.objs.size f).kindOf) (by rw [hc]; decide) hnd' hm] at this
      exact this
    · obtain ⟨q, hq, rfl⟩ := cellsOf_mem hp
      exact g.above (Nat.le_trans (Nat.le_succ _) (x.above q.1 q.2 hq))
  refine wpAny_mono (h s.heap.objs.size (A.deeper _) X s₁ rm.deeper F) (fun fl s' hr => ?_) fun _ _ hf => hf.elim
  obtain ⟨o', rfl, v, rfl, hrep, hkp⟩ := hr
  refine ⟨v, rfl, ⟨fun b ob _ ht e => hkp.keep b ob (hfresh b ob e) ht (hkeep b ob e), fun _ => hkp.gd g1, fun b h => hkp.alive b (by
    cases e : s.heap.get? b with
    | none => rw [e] at h; cases h
    | some o => rw [hkeep b o e]; rfl), ?_, ?_⟩, hrep⟩
  · rw [hkp.gens, hs₁]
  · rw [hkp.os, hs₁]

theorem Spec.intro {f : Addr} {o : Obj} {fd : FuncData} {body : List Stmt} {ds : List PyData} {d : PyData} {ρ0 : Rho}
    (ho : B.hB.get? f = some o) (hd : o.data = .func fd) (hcd : B.hB.CodeRec fd.code fd.qualname) (hbody : fd.body = .stmts body) (hclo : fd.closure = []) (hglob : fd.globals = mainGlobals) (hbi : fd.builtins = builtinsNs)
    (hbind : ∀ X s vs, Gd B s.heap → Reps B X s.heap vs ds → ∃ binds, BindsTo s fd ⟨vs, []⟩ binds ∧ BRep B X s.heap binds ρ0)
    (hnd : (ρ0.map (·.1)).Nodup)
    (hkinds : (ρ0.all fun y => fd.scope.names.lookup y.1 == some .local || fd.scope.names.lookup y.1 == some .cell) = true)
    (hcn : ((cellsFrom 0 fd.scope.names []).map (·.1)).Nodup)
    (h : ∀ L, Ex B k (callEnvC fd L f) ρ0 body (fun o => o = .ret d))
    (hco : fd.scope.isCoroutine = false) (hgen : fd.scope.isGenerator = false) (hk : fd.scope.kind = .function) : Spec B (k + 1) f ds d := fun A X s vs rm g hX r => by
  obtain ⟨binds, hbt, hbr⟩ := hbind X s vs g r
  exact enter rm g hX ho hd hcd hbody hclo hglob hbi hbt hbr hnd hkinds hcn h hco hgen hk

/-- a call of a text's own def by its name -/
theorem Ev.call {func : Expr} {args : List Expr} {pos : Pos} {f : Addr} {o : Obj} {fd : FuncData} {ds : List PyData} {d : PyData} {kf : Nat} (hf : EvV B k env ρ func (.ref f)) (ho : B.hB.get? f = some o) (hd : o.data = .func fd)
    (ha : Evs B k env ρ args ds) (hs : Spec B kf f ds d) (hk : kf ≤ k) (hne : args ≠ [] := by simp)
    (he : eval (.Call func args [] pos) env = (do callWith pos (← eval func env) [] (backTo pos (starEach args env)) (backToKw pos (keywordEach [] env))) := by rfl)
    (hst : ∃ x rest, backTo pos (starEach args env) = (false, x) :: rest := by exact ⟨_, _, rfl⟩) : Ev B k env ρ (.Call func args [] pos) d := fun A Xc s rm F => by
  rw [he]
  obtain ⟨x, rest, hst⟩ := hst
  refine wpAny_bind (hf.bind rm F fun s1 k1 F1 => ?_)
  show wpAny _ _ (callWith pos (.ref f) [] (backTo pos (starEach args env)) []) _ _ s1
  have := ha A Xc s1 pos rm F1
  rw [hst] at this ⊢
  refine Calls.callWith_function (o := o) (fd := fd) (Calls.evalArgs_plain (wpAny_mono this (fun vs s2 ⟨k2, r2⟩ => ?_) fun _ _ h => h))
  have F2 := F1.kp k2
  refine ⟨⟨F2.g.keep _ _ ho, hd⟩, wpAny_call ?_⟩
  refine codeAny_mono (hs A (xs env Xc ρ) s2 vs (rm.le hk) F2.g F2.alive r2) fun r s3 ⟨v, hr, k3, r3⟩ => ?_
  subst hr
  exact ⟨(k1.trans k2).trans k3, r3⟩
end
end Mine
end
section
open PySem PySem.W PyProof.Rows
set_option linter.unusedVariables false
namespace Mine
section
variable {B : Bs} {env : Env} {ρ : Rho} {k : Nat} {Xc : List Addr}

theorem Fok.muX {h : Heap} (F : Fok B env Xc ρ h) : MuX (xs env Xc ρ) (mu env ρ) h := by
  intro a ha o e hc
  simp only [mu, List.mem_cons, List.mem_append] at ha
  rcases ha with rfl | ha | ha
  · exact .head _
  · obtain ⟨p, hp, rfl⟩ := cellsOf_mem ha
    obtain ⟨v, o', e', hd⟩ := F.cel p hp
    rw [e] at e'; cases e'
    rcases hc with ⟨_, _, q⟩ | ⟨_, _, q⟩ <;> (rw [hd] at q; cases q)
  · exact .tail _ (List.mem_append_left _ ha)

/-- what a change of one object of the frame's own leaves standing -/
theorem Fok.but {s : Shared} {h' : Heap} {a : Addr} (F : Fok B env Xc ρ s.heap) (hk : ∀ b o, b ≠ a → s.heap.get? b = some o → h'.get? b = some o) (hX : a ∈ xs env Xc ρ ∨ ∃ o, s.heap.get? a = some o ∧ ¬ Cont o) {v : Value} {d : PyData} (r : Rep B (xs env Xc ρ) s.heap v d) : Rep B (xs env Xc ρ) h' v d :=
  r.imp (fun _ h _ => h) fun b o hb e hc => hk b o (fun q => by
    subst q
    rcases hX with h | ⟨o', e', hn⟩
    · exact hb h
    · rw [e] at e'; cases e'; exact hn hc) e

theorem SRep.but {X : List Addr} {h h' : Heap} {a : Addr} {v : Value} {sl : Slot} (x : SRep B X h v sl) (hk : ∀ b o, b ≠ a → h.get? b = some o → h'.get? b = some o) (hX : a ∈ X ∨ ∃ o, h.get? a = some o ∧ ¬ Cont o) (hs : ∀ b, sl.addr = some b → b ≠ a) : SRep B X h' v sl := by
  have hk' : ∀ b o, b ∉ X → h.get? b = some o → Cont o → h'.get? b = some o := fun b o hb e hc => hk b o (fun q => by
    subst q
    rcases hX with h | ⟨o', e', hn⟩
    · exact hb h
    · rw [e] at e'; cases e'; exact hn hc) e
  cases sl with
  | raw w => exact x
  | val d => exact Rep.imp x (fun _ h _ => h) hk'
  | own b d =>
    obtain ⟨rfl, x⟩ := x
    have hba := hs b rfl
    refine ⟨rfl, ?_⟩
    cases x with
    | rep r => exact .rep (r.imp (fun _ h _ => h) hk')
    | list hl hr => exact .list (let ⟨n, e⟩ := hl; ⟨n, hk _ _ hba e⟩) (hr.imp (fun _ h _ => h) hk')
    | dict h1 h2 h3 h4 =>
      obtain ⟨o, es, ep, ho, r⟩ := h1
      exact .dict ⟨o, es, ep, hk _ _ hba ho, r⟩ h2 h3 (h4.imp (fun _ h _ => h) hk')

theorem lookup_owns {x : Str} {sl : Slot} {b : Addr} {ρ : Rho} (h : ρ.lookup x = some sl) (hb : sl.addr = some b) : b ∈ owns ρ := by
  have : (x, sl) ∈ ρ := Fok.sub.mem_lookup h
  exact List.mem_filterMap.mpr ⟨_, this, hb⟩

theorem alive_but {X : List Addr} {h h' : Heap} {a : Addr} (hX : ∀ b ∈ X, (h.get? b).isSome = true) (hk : ∀ b o, b ≠ a → h.get? b = some o → h'.get? b = some o) (ha : (h'.get? a).isSome = true) : ∀ b ∈ X, (h'.get? b).isSome = true := fun b hb => by
  by_cases q : b = a
  · subst q; exact ha
  · have := hX b hb
    cases e : h.get? b with
    | none => rw [e] at this; cases this
    | some o => rw [hk b o q e]; rfl

theorem storeLocal {A : Around} {s : Shared} {x : Str} {v : Value} {d : PyData} {E : Value → Shared → Prop} (hx : env.kindOf x = some .local) (F : Fok B env Xc ρ s.heap) (r : Rep B (xs env Xc ρ) s.heap v d) :
    wpAny B.M A (storeName env x v) (fun _ s' => Fok B env Xc ((x, .val d) :: ρ) s'.heap ∧ Kp B (mu env ρ) s s') E s := by
  obtain ⟨m, hm, hv⟩ := F.loc
  refine wpAny_storeName_local hx hm (fun h' hn' hs' => ?_) (by rw [F.kind]; rfl)
  obtain ⟨oL, es, ep, eL, hdL, _⟩ := id hm
  obtain ⟨oL', es', ep', eL', hdL', _⟩ := id hn'
  have hk : ∀ b o, b ≠ env.locals → s.heap.get? b = some o → h'.get? b = some o := hs'.extBut
  have hX : env.locals ∈ xs env Xc ρ := .head _
  have hg : Gd B h' := F.g.but F.fl eL (notcode_dict hdL) hk
  have ho : owns ((x, .val d) :: ρ) = owns ρ := rfl
  have hr : Rep B (xs env Xc ρ) h' v d := F.but hk (.inl hX) r
  refine ⟨⟨hg, alive_but F.xin hk (by rw [eL']; rfl), F.kind, F.glob, F.bi, ⟨_, hn', fun y sl hy hl => ?_⟩, fun p hp => ?_, fun y sl hy hc => ?_, F.fl, F.fc, fun a ha => ?_⟩, .but (.head _) F.fl eL (notcode_dict hdL) hk (by rw [eL']; rfl)⟩
  · rw [List.lookup_cons] at hy
    by_cases q : y = x
    · subst q
      rw [beq_self_eq_true] at hy
      cases hy
      exact ⟨v, if_pos rfl, hr⟩
    · rw [beq_eq_false_iff_ne.mpr q] at hy
      obtain ⟨w, h1, h2⟩ := hv y sl hy hl
      exact ⟨w, by rw [if_neg q]; exact h1, h2.but hk (.inl hX) fun b hb => (F.fo b (lookup_owns hy hb)).2.2.1⟩
  · obtain ⟨w, o, e, hd⟩ := F.cel p hp
    exact ⟨w, o, hk _ _ (fun q => by rw [q, eL] at e; cases e; rw [hdL] at hd; cases hd) e, hd⟩
  · rw [List.lookup_cons] at hy
    by_cases q : y = x
    · subst q; rw [hx] at hc; rcases hc with hc | hc <;> cases hc
    · rw [beq_eq_false_iff_ne.mpr q] at hy
      obtain ⟨c, w, h1, ⟨o, e, hd⟩, h3⟩ := F.celv y sl hy hc
      exact ⟨c, w, h1, ⟨o, hk _ _ (fun q => by rw [q, eL] at e; cases e; rw [hdL] at hd; cases hd) e, hd⟩, h3.but hk (.inl hX) fun b hb => (F.fo b (lookup_owns hy hb)).2.2.1⟩
  · obtain ⟨h1, h2, h3, o, e, hc⟩ := F.fo a ha
    exact ⟨h1, h2, h3, o, hk _ _ h3 e, hc⟩

theorem storeCell {A : Around} {s : Shared} {x : Str} {v : Value} {d : PyData} {E : Value → Shared → Prop} {c : Addr} (hfn : env.func.isSome = true) (hx : env.kindOf x = some .cell) (hc : env.cells.lookup x = some c) (hnd : (env.cells.map (·.2)).Nodup) (F : Fok B env Xc ρ s.heap) (r : Rep B (xs env Xc ρ) s.heap v d) :
    wpAny B.M A (storeName env x v) (fun _ s' => Fok B env Xc ((x, .val d) :: ρ) s'.heap ∧ Kp B (mu env ρ) s s') E s := by
  have hmem : (x, c) ∈ env.cells := mem_of_lookup hc
  obtain ⟨v0, oc, ec, hdc⟩ := F.cel _ hmem
  refine wpAny_storeName_cell F.kind hx hc ⟨oc, ec, hdc⟩ fun h' hn' hs' => ?_
  obtain ⟨oc', ec', hdc'⟩ := id hn'
  have hk : ∀ b o, b ≠ c → s.heap.get? b = some o → h'.get? b = some o := hs'.extBut
  have hX : c ∈ xs env Xc ρ ∨ ∃ o, s.heap.get? c = some o ∧ ¬ Cont o := .inr ⟨oc, ec, fun q => by rcases q with ⟨_, _, q⟩ | ⟨_, _, q⟩ <;> (rw [hdc] at q; cases q)⟩
  have hg : Gd B h' := F.g.but (F.fc _ (mem_cellsOf hfn hmem hx)) ec (notcode_cell hdc) hk
  have hr : Rep B (xs env Xc ρ) h' v d := F.but hk hX r
  have hso : ∀ b ∈ owns ρ, b ≠ c := fun b hb q => by
    obtain ⟨_, _, _, o, e, hcont⟩ := F.fo b hb
    rw [q, ec] at e; cases e
    rcases hcont with ⟨_, _, q⟩ | ⟨_, _, q⟩ <;> (rw [hdc] at q; cases q)
  refine ⟨⟨hg, alive_but F.xin hk (by rw [ec']; rfl), F.kind, F.glob, F.bi, ?_, fun p hp => ?_, fun y sl hy hcy => ?_, F.fl, F.fc, fun a ha => ?_⟩, .but (tk := s.toks) (.tail _ (List.mem_append_left _ (mem_cellsOf hfn hmem hx))) (F.fc _ (mem_cellsOf hfn hmem hx)) ec (notcode_cell hdc) hk (by rw [ec']; rfl)⟩
  · obtain ⟨m, hm, hv⟩ := F.loc
    refine ⟨m, ?_, fun y sl hy hl => ?_⟩
    · obtain ⟨o, es, ep, e, hd, r⟩ := hm
      exact ⟨o, es, ep, hk _ _ (fun q => by rw [q, ec] at e; cases e; rw [hdc] at hd; cases hd) e, hd, r⟩
    · rw [List.lookup_cons] at hy
      by_cases q : y = x
      · subst q; rw [hx] at hl; cases hl
      · rw [beq_eq_false_iff_ne.mpr q] at hy
        obtain ⟨w, h1, h2⟩ := hv y sl hy hl
        exact ⟨w, h1, h2.but hk hX fun b hb => hso b (lookup_owns hy hb)⟩
  · by_cases q : p.2 = c
    · rw [q]; exact ⟨_, hn'⟩
    · obtain ⟨w, o, e, hd⟩ := F.cel p hp
      exact ⟨w, o, hk _ _ q e, hd⟩
  · rw [List.lookup_cons] at hy
    by_cases q : y = x
    · subst q
      rw [beq_self_eq_true] at hy
      cases hy
      exact ⟨c, v, hc, hn', hr⟩
    · rw [beq_eq_false_iff_ne.mpr q] at hy
      obtain ⟨c', w, h1, ⟨o, e, hd⟩, h3⟩ := F.celv y sl hy hcy
      have hcc : c' ≠ c := fun qq => q (by
        have hm' : (y, c') ∈ env.cells := mem_of_lookup h1
        exact congrArg Prod.fst (nodup_snd hnd hm' hmem qq))
      exact ⟨c', w, h1, ⟨o, hk _ _ hcc e, hd⟩, h3.but hk hX fun b hb => hso b (lookup_owns hy hb)⟩
  · obtain ⟨h1, h2, h3, o, e, hc⟩ := F.fo a ha
    exact ⟨h1, h2, h3, o, hk _ _ (hso a ha) e, hc⟩
where
  nodup_snd : ∀ {l : List (Str × Addr)}, (l.map (·.2)).Nodup → ∀ {p q : Str × Addr}, p ∈ l → q ∈ l → p.2 = q.2 → p = q
    | [], _, _, _, hp, _, _ => nomatch hp
    | a :: l, h, p, q, hp, hq, e => by
      simp only [List.map_cons, List.nodup_cons] at h
      rcases List.mem_cons.mp hp with e1 | hp1
      · rcases List.mem_cons.mp hq with e2 | hq1
        · rw [e1, e2]
        · exact absurd (by rw [← e1, e]; exact List.mem_map_of_mem hq1) h.1
      · rcases List.mem_cons.mp hq with e2 | hq1
        · exact absurd (by rw [← e2, ← e]; exact List.mem_map_of_mem hp1) h.1
        · exact nodup_snd h.2 hp1 hq1 e

/-- a step that changes one object that is none of the frame's (an iterator) -/
theorem Fok.iter {s s' : Shared} {I : Addr} {oI : Obj} (F : Fok B env Xc ρ s.heap) (k : KpI B I s s') (hX : I ∉ xs env Xc ρ) {vsI : Array Value} (eI : s.heap.get? I = some oI) (hdI : oI.data = .fields vsI) : Fok B env Xc ρ s'.heap := by
  have hc : ¬ Cont oI := fun q => by rcases q with ⟨_, _, q⟩ | ⟨_, _, q⟩ <;> (rw [hdI] at q; cases q)
  have hk : ∀ b o, s.heap.get? b = some o → Cont o → s'.heap.get? b = some o := fun b o e c => k.keep b o (fun h => by rw [h, eI] at e; cases e; exact hc c) (fun t ht => notTab (F.g.tab t ht) e c) e
  have hcell : ∀ p ∈ env.cells, ∀ v, s.heap.IsCell p.2 v → s'.heap.IsCell p.2 v := fun p hp v ⟨o, e, hd⟩ => ⟨o, k.keep p.2 o (fun h => by rw [h, eI] at e; cases e; rw [hdI] at hd; cases hd) (fun t ht q => by
    obtain ⟨ps, h1, _⟩ := F.g.tab t ht; rw [← q, e] at h1; cases h1; cases hd) e, hd⟩
  refine ⟨k.gd F.g, fun a ha => k.alive F.g (fun q => hX (q ▸ .tail _ (List.mem_append_right _ ha))) (F.xin a ha), F.kind, F.glob, F.bi, ?_, fun p hp => ?_, fun x sl hx hcx => ?_, F.fl, F.fc, fun a ha => ?_⟩
  · obtain ⟨m, ⟨o, es, ep, e, hd, r⟩, hv⟩ := F.loc
    refine ⟨m, ⟨o, es, ep, hk _ _ e (.inr ⟨_, _, hd⟩), hd, r⟩, fun x sl hx hl => ?_⟩
    obtain ⟨v, h1, h2⟩ := hv x sl hx hl
    exact ⟨v, h1, h2.imp hk⟩
  · obtain ⟨v, hv⟩ := F.cel p hp; exact ⟨v, hcell p hp _ hv⟩
  · obtain ⟨c, v, h1, h2, h3⟩ := F.celv x sl hx hcx
    exact ⟨c, v, h1, hcell (x, c) (mem_of_lookup h1) _ h2, h3.imp hk⟩
  · obtain ⟨h1, h2, h3, o, e, hc⟩ := F.fo a ha
    exact ⟨h1, h2, h3, o, hk _ _ e hc, hc⟩
end
end Mine
end
section
open PySem PySem.W PyProof.Rows
set_option linter.unusedVariables false
namespace Mine
section
variable {B : Bs} {env : Env} {ρ : Rho} {k : Nat} {Xc : List Addr}

/-! targets -/
variable (B) in
noncomputable def As (env : Env) (t : Expr) (ρ : Rho) (d : PyData) (ρ' : Rho) : Prop :=
  ∀ A Xc s v, A.handled = none → Fok B env Xc ρ s.heap → Rep B (xs env Xc ρ) s.heap v d →
    wpAny B.M A (assign t env v) (fun _ s' => Fok B env Xc ρ' s'.heap ∧ Kp B (mu env ρ) s s') (fun _ _ => False) s
variable (B) in
noncomputable def Sto (env : Env) (x : Str) (ρ : Rho) (d : PyData) : Prop :=
  ∀ A Xc s v (E : Value → Shared → Prop), Fok B env Xc ρ s.heap → Rep B (xs env Xc ρ) s.heap v d → wpAny B.M A (storeName env x v) (fun _ s' => Fok B env Xc ((x, .val d) :: ρ) s'.heap ∧ Kp B (mu env ρ) s s') E s
theorem Sto.loc {x : Str} {d : PyData} (hx : env.kindOf x = some .local) : Sto B env x ρ d := fun A Xc s v _ F r => storeLocal hx F r
theorem Sto.cell {x : Str} {d : PyData} {c : Addr} (hx : env.kindOf x = some .cell) (hc : env.cells.lookup x = some c) (hnd : (env.cells.map (·.2)).Nodup) (hfn : env.func.isSome = true := by rfl) : Sto B env x ρ d := fun A Xc s v _ F r => storeCell hfn hx hc hnd F r
theorem As.name {x : Str} {pos : Pos} {d : PyData} (h : Sto B env x ρ d) : As B env (.Name x pos) ρ d ((x, .val d) :: ρ) := fun A Xc s v _ F r => PyProof.Rows.assign_Name (h A Xc s v _ F r)

variable (B) in
noncomputable def AsL (env : Env) (ts : List Expr) (ρ : Rho) (ds : List PyData) (ρ' : Rho) : Prop :=
  ∀ A Xc s vs, A.handled = none → Fok B env Xc ρ s.heap → Reps B (xs env Xc ρ) s.heap vs ds →
    wpAny B.M A (assignInOrder ((assignEach ts env).map (·.2)) vs) (fun _ s' => Fok B env Xc ρ' s'.heap ∧ Kp B (mu env ρ) s s') (fun _ _ => False) s
theorem AsL.nil : AsL B env [] ρ [] ρ := fun A Xc s vs _ F r => by cases r; exact wpAny_pure ⟨F, .refl s⟩
theorem AsL.cons {x : Str} {pos : Pos} {ts : List Expr} {d : PyData} {ds : List PyData} {ρ' : Rho} (h1 : Sto B env x ρ d) (h2 : AsL B env ts ((x, .val d) :: ρ) ds ρ') : AsL B env (.Name x pos :: ts) ρ (d :: ds) ρ' := fun A Xc s vs hh F r => by
  cases r with
  | cons r1 r2 =>
    show wpAny _ _ (do holding _ (assign (.Name x pos) env _); assignInOrder ((assignEach ts env).map (·.2)) _) _ _ s
    refine wpAny_bind (wpAny_holding (wpAny_mono (As.name h1 A Xc s _ hh F r1) (fun _ s1 ⟨F1, k1⟩ => ?_) fun _ _ h => h))
    exact wpAny_mono (h2 A Xc s1 _ hh F1 (r2.kp F.g k1 F.muX)) (fun _ s2 ⟨F2, k2⟩ => ⟨F2, k1.trans k2⟩) fun _ _ h => h
theorem Kp.ext {s : Shared} {h' : Heap} {mu : List Addr} (he : Heap.ExtBut s.heap.objs.size s.heap h') : Kp B mu s { s with heap := h' } := .ofKeep (fun b o e => he b o (Nat.ne_of_lt (Heap.lt_size e)) e) rfl rfl
theorem AsL.len {ts : List Expr} {ds : List PyData} {ρ' : Rho} (h : (assignEach ts env).length = ds.length) : (assignEach ts env).length = ds.length := h
theorem As.tuple {ts : List Expr} {n : Nat} {pos : Pos} {ds : List PyData} {ρ' : Rho} (h : AsL B env ts ρ ds ρ') (hn : (assignEach ts env).length = ds.length := by rfl) (hst : (assignEach ts env).findIdx? (·.1) = Option.none := by rfl) : As B env (.Tuple ts n pos) ρ (.tuple ds) ρ' := fun A Xc s v hh F r => by
  obtain ⟨a, vs, rfl, ht, ha, hr⟩ := r.tuple_inv
  have hlen := hr.length
  refine assign_Tuple_tuple hh ht (by simp [hn, hlen]) hst fun h' he => ?_
  have k0 : Kp B [] s { s with heap := h' } := .ext he
  have F1 := F.kp k0
  exact wpAny_mono (h A Xc { s with heap := h' } vs hh F1 (hr.kp F.g k0)) (fun _ s2 ⟨F2, k2⟩ => ⟨F2, (Kp.ext he).trans k2⟩) fun _ _ h => h

/-! statements -/
theorem Ex.nil {Post : Out → Prop} (h : Post (.nxt ρ)) : Ex B k env ρ [] Post := fun A Xc s rm F => wpAny_execs_nil ⟨_, h, rfl, F, .refl s, fun a ha => .inl ha⟩
theorem mu_trans {ρ' : Rho} {s s1 s2 : Shared} (F : Fok B env Xc ρ s.heap) (k1 : Kp B (mu env ρ) s s1) (ho : ∀ a ∈ owns ρ', a ∈ owns ρ ∨ s.heap.get? a = none) (k2 : Kp B (mu env ρ') s1 s2) : Kp B (mu env ρ) s s2 :=
  ⟨fun b o hb ht e => k2.keep b o (fun hm => by
      simp only [mu, List.mem_cons, List.mem_append] at hm hb
      rcases hm with h | h | h
      · exact hb (.inl h)
      · exact hb (.inr (.inl h))
      · rcases ho b h with h | h
        · exact hb (.inr (.inr h))
        · rw [e] at h; cases h) ht (k1.keep b o hb ht e), fun g => k2.gd (k1.gd g), fun b h => k2.alive b (k1.alive b h), k2.gens.trans k1.gens, k2.os.trans k1.os⟩
theorem Res.trans {ρ' : Rho} {s s1 s2 : Shared} {f : Flow} {o : Out} (F : Fok B env Xc ρ s.heap) (k1 : Kp B (mu env ρ) s s1) (ho : ∀ a ∈ owns ρ', a ∈ owns ρ ∨ s.heap.get? a = none) (hr : Res B env Xc ρ' s1 f s2 o) : Res B env Xc ρ s f s2 o := by
  cases o with
  | nxt ρ2 =>
    obtain ⟨h1, h2, h3, h4⟩ := hr
    refine ⟨h1, h2, mu_trans F k1 ho h3, fun a ha => ?_⟩
    rcases h4 a ha with h | h
    · exact ho a h
    · cases e : s.heap.get? a with
      | none => exact .inr rfl
      | some x =>
        have := k1.alive a (by rw [e]; rfl)
        rw [h] at this; cases this
  | ret d =>
    obtain ⟨v, h1, h2, h3⟩ := hr
    exact ⟨v, h1, h2, mu_trans F k1 ho h3⟩

theorem Ex.cons {st : Stmt} {ss : List Stmt} {Post : Out → Prop} (h : Ex1 B k env ρ st (fun o => match o with | .nxt ρ' => Ex B k env ρ' ss Post | .ret d => Post (.ret d))) : Ex B k env ρ (st :: ss) Post := fun A Xc s rm F => by
  refine wpAny_execs_cons (wpAny_mono (h A Xc s rm F) (fun f s1 ⟨o, hp, hr⟩ => ?_) fun _ _ h => h)
  cases o with
  | nxt ρ' =>
    obtain ⟨rfl, F1, k1, ho⟩ := hr
    exact wpAny_mono (hp A Xc s1 rm F1) (fun f2 s2 ⟨o2, hp2, hr2⟩ => ⟨o2, hp2, Res.trans F k1 ho hr2⟩) fun _ _ h => h
  | ret d =>
    obtain ⟨v, rfl, r, k1⟩ := hr
    exact ⟨.ret d, hp, v, rfl, r, k1⟩
theorem Ex1.mono {st : Stmt} {P Q : Out → Prop} (h : Ex1 B k env ρ st P) (hpq : ∀ o, P o → Q o) : Ex1 B k env ρ st Q := fun A Xc s rm F => wpAny_mono (h A Xc s rm F) (fun _ _ ⟨o, hp, hr⟩ => ⟨o, hpq o hp, hr⟩) fun _ _ h => h
theorem Ex.mono {ss : List Stmt} {P Q : Out → Prop} (h : Ex B k env ρ ss P) (hpq : ∀ o, P o → Q o) : Ex B k env ρ ss Q := fun A Xc s rm F => wpAny_mono (h A Xc s rm F) (fun _ _ ⟨o, hp, hr⟩ => ⟨o, hpq o hp, hr⟩) fun _ _ h => h
/-- a statement that goes on to one state -/
theorem Ex.seq {st : Stmt} {ss : List Stmt} {ρ' : Rho} {Post : Out → Prop} (h : Ex1 B k env ρ st (fun o => o = .nxt ρ')) (h2 : Ex B k env ρ' ss Post) : Ex B k env ρ (st :: ss) Post :=
  .cons (h.mono fun o e => by subst e; exact h2)
/-- fewer names from here on -/
theorem Ex.sub {ss : List Stmt} {ρ' : Rho} {Post : Out → Prop} (h : Ex B k env ρ' ss Post) (hs : ∀ p ∈ ρ', ρ.lookup p.1 = some p.2) (ho : ∀ a ∈ owns ρ', a ∈ owns ρ) : Ex B k env ρ ss Post := fun A Xc s rm F =>
  wpAny_mono (h A Xc s rm (F.sub hs ho)) (fun f s1 ⟨o, hp, hr⟩ => ⟨o, hp, Res.trans F (.refl s) (fun a ha => .inl (ho a ha)) hr⟩) fun _ _ h => h

theorem Ex1.ret {e : Expr} {pos : Pos} {d : PyData} (h : Ev B k env ρ e d) : Ex1 B k env ρ (.Return (some e) pos) (fun o => o = .ret d) := fun A Xc s rm F =>
  wpAny_Return_some (h.bind rm F fun v s1 k1 F1 r1 => ⟨_, rfl, v, rfl, r1.sub (fun a ha => .tail _ (List.mem_append_right _ ha)), k1.up⟩)
theorem Ex1.set {x : Str} {pos' pos : Pos} {value : Expr} {d : PyData} (h : Ev B k env ρ value d) (ha : Sto B env x ρ d) (hs : swapsWith value (some (.Name x pos')) pos.line env = pure false := by rfl) :
    Ex1 B k env ρ (.Assign [.Name x pos'] value pos) (fun o => o = .nxt ((x, .val d) :: ρ)) := fun A Xc s rm F =>
  wpAny_Assign_Name (h.bind rm F fun v s1 k1 F1 r1 => wpAny_mono (ha A Xc s1 v (fun _ _ => False) F1 r1) (fun _ s2 ⟨F2, k2⟩ => ⟨_, rfl, rfl, F2, k1.up.trans k2, fun a ha => .inl ha⟩) fun _ _ h => h) hs
theorem Ex1.aug {x : Str} {op : Operator} {pos' pos : Pos} {value : Expr} {d1 d2 d : PyData} (h1 : Ev B k env ρ (.Name x pos') d1) (h2 : Ev B k env ρ value d2)
    (hop : ∀ A X s v1 v2, Rm 0 A → Gd B s.heap → (∀ a ∈ X, (s.heap.get? a).isSome = true) → Rep B X s.heap v1 d1 → Rep B X s.heap v2 d2 → wpAny B.M A (inplaceOp op v1 v2) (fun v s' => Kp B [] s s' ∧ Rep B X s'.heap v d) (fun _ _ => False) s) (ha : Sto B env x ρ d)
    (hl : ∀ {A : Around} {s : Shared} {Q : Value → Shared → Prop} {E : Value → Shared → Prop}, wpAny B.M A (eval (.Name x pos') env) Q E s → wpAny B.M A (loadName env x) Q E s) :
    Ex1 B k env ρ (.AugAssign (.Name x pos') op value pos) (fun o => o = .nxt ((x, .val d) :: ρ)) := fun A Xc s rm F =>
  wpAny_AugAssign_Name (hl (h1.bind rm F fun v1 s1 k1 F1 r1 => h2.bind rm F1 fun v2 s2 k2 F2 r2 =>
    wpAny_mono (hop A _ s2 v1 v2 (rm.le (Nat.zero_le _)) F2.g F2.alive (r1.kp F1.g k2) r2) (fun v s3 ⟨k3, r3⟩ => by
      have F3 := F2.kp k3
      exact wpAny_mono (ha A Xc s3 v (fun _ _ => False) F3 r3) (fun _ s4 ⟨F4, k4⟩ => ⟨_, rfl, rfl, F4, ((k1.trans k2).trans k3).up.trans k4, fun a ha => .inl ha⟩) fun _ _ h => h) fun _ _ h => h))
theorem Ex1.setTuple {ts : List Expr} {n : Nat} {tpos pos : Pos} {value : Expr} {d : PyData} {ρ' : Rho} (h : Ev B k env ρ value d) (ha : As B env (.Tuple ts n tpos) ρ d ρ') (ho : owns ρ' = owns ρ := by rfl)
    (hs : swapsWithSole [.Tuple ts n tpos] value pos.line env = pure false := by rfl) (hw : swappedStores [.Tuple ts n tpos] value env = pure Option.none := by rfl) :
    Ex1 B k env ρ (.Assign [.Tuple ts n tpos] value pos) (fun o => o = .nxt ρ') := fun A Xc s rm F =>
  Assign_Tuple (h.bind rm F fun v s1 k1 F1 r1 => wpAny_mono (ha A Xc s1 v rm.handled F1 r1) (fun _ s2 ⟨F2, k2⟩ => ⟨_, rfl, rfl, F2, k1.up.trans k2, fun a ha => .inl (ho ▸ ha)⟩) fun _ _ h => h) hs hw
theorem Ex1.if {test : Expr} {body orelse : List Stmt} {pos : Pos} {b : Bool} {Post : Out → Prop} (h : Tst B k env ρ test b) (h1 : b = true → Ex B k env ρ body Post) (h2 : b = false → Ex B k env ρ orelse Post) : Ex1 B k env ρ (.If test body orelse pos) Post := fun A Xc s rm F =>
  wpAny_If (h.bind rm F fun s1 k1 F1 => by
    have k1' : Kp B (mu env ρ) s s1 := k1.up
    cases b with
    | true => exact wpAny_mono (h1 rfl A Xc s1 rm F1) (fun f s2 ⟨o, hp, hr⟩ => ⟨o, hp, Res.trans F k1' (fun a ha => .inl ha) hr⟩) fun _ _ h => h
    | false => exact wpAny_mono (h2 rfl A Xc s1 rm F1) (fun f s2 ⟨o, hp, hr⟩ => ⟨o, hp, Res.trans F k1' (fun a ha => .inl ha) hr⟩) fun _ _ h => h)
theorem Ex1.assert {test : Expr} {msg : Option Expr} {pos : Pos} (h : Tst B k env ρ test true) : Ex1 B k env ρ (.Assert test msg pos) (fun o => o = .nxt ρ) := fun A Xc s rm F =>
  wpAny_Assert_holds (h.bind rm F fun s1 k1 F1 => ⟨rfl, _, rfl, rfl, F1, k1.up, fun a ha => .inl ha⟩)

/-! iteration -/
structure Iter (B : Bs) (A : Around) (X : List Addr) (I : Addr) (ds : List PyData) (target : Expr) (St : Nat → Heap → Prop) : Prop where
  frame : ∀ i h h', St i h → (∀ o, h.get? I = some o → h'.get? I = some o) → (∀ b o, b ∉ X → h.get? b = some o → Cont o → h'.get? b = some o) → St i h'
  obj : ∀ i h, St i h → ∃ o vs, h.get? I = some o ∧ NotCode o ∧ o.data = .fields vs
  item : ∀ i d s, ds[i]? = some d → St i s.heap → Gd B s.heap → (∀ a ∈ X, (s.heap.get? a).isSome = true) → wpAny B.M A (pyNext (.ref I)) (fun r s1 => ∃ v, r = some v ∧ wpAny B.M A (letOwnedTupleGo target (.ref I) v) (fun _ s' => KpI B I s s' ∧ St (i + 1) s'.heap ∧ Rep B X s'.heap v d) (fun _ _ => False) s1) (fun _ _ => False) s
  done : ∀ s, St ds.length s.heap → Gd B s.heap → wpAny B.M A (pyNext (.ref I)) (fun r s' => r = none ∧ KpI B I s s') (fun _ _ => False) s
  self : ∀ i s, St i s.heap → wpAny B.M A (pyIter (.ref I)) (fun v s' => v = .ref I ∧ s' = s) (fun _ _ => False) s

variable (B) in
/-- an expression that may stand behind «in» -/
noncomputable def EvI (k : Nat) (env : Env) (ρ : Rho) (e : Expr) (target : Expr) (ds : List PyData) : Prop :=
  ∀ A Xc s, Rm k A → Fok B env Xc ρ s.heap → wpAny B.M A (eval e env) (fun x s1 => wpAny B.M A (pyIter x) (fun v s2 => Kp B [] s s2 ∧ ∃ I, v = .ref I ∧ s.heap.get? I = Option.none ∧ B.hB.get? I = Option.none ∧ ∀ X', (∀ a ∈ X', a ∈ xs env Xc ρ ∨ s2.heap.get? a = Option.none) → ∃ St, Iter B A X' I ds target St ∧ St 0 s2.heap)
    (fun _ _ => False) s1) (fun _ _ => False) s

theorem Fok.notIn {s : Shared} (F : Fok B env Xc ρ s.heap) {I : Addr} (hI : s.heap.get? I = none) : I ∉ mu env ρ := by
  intro hm
  simp only [mu, List.mem_cons, List.mem_append] at hm
  have : (s.heap.get? I).isSome = true := by
    rcases hm with rfl | hm | hm
    · exact F.alive _ (.head _)
    · obtain ⟨p, hp, rfl⟩ := cellsOf_mem hm
      obtain ⟨v, o, e, _⟩ := F.cel p hp
      rw [e]; rfl
    · exact F.alive _ (.tail _ (List.mem_append_left _ hm))
  rw [hI] at this; cases this

theorem Ex1.for {target iter : Expr} {body : List Stmt} {pos : Pos} {ds : List PyData} {Post : Out → Prop} (J : Nat → Rho → Prop) (hi : EvI B k env ρ iter target ds) (h0 : J 0 ρ)
    (hown : ∀ i ρ', J i ρ' → ∀ a ∈ owns ρ', a ∈ owns ρ)
    (hstep : ∀ i d ρ', ds[i]? = some d → J i ρ' → ∃ ρ1, As B env target ρ' d ρ1 ∧ (∀ a ∈ owns ρ1, a ∈ owns ρ') ∧ Ex B k env ρ1 body (fun o => match o with | .nxt ρ2 => J (i + 1) ρ2 | .ret d => Post (.ret d)))
    (hend : ∀ ρ', J ds.length ρ' → Post (.nxt ρ'))
    (hs : ∀ x, foldedSetIterable iter env x = pure x := by intro _; rfl) : Ex1 B k env ρ (.For target iter body [] pos) Post := fun A Xc s rm F => by
  refine wpAny_For (wpAny_mono (hi A Xc s rm F) (fun x s1 h1 => wpAny_mono h1 (fun v s2 ⟨k2, I, hv, hI, hB, hW⟩ => ?_) fun _ _ h => h.elim) fun _ _ h => h.elim) hs
  subst hv
  obtain ⟨St, W, hst⟩ := hW (xs env Xc ρ) (fun a ha => .inl ha)
  have F2 := F.kp k2
  have hImu := F.notIn hI
  have hIX : I ∉ xs env Xc ρ := fun h => by have := F.alive I h; rw [hI] at this; cases this
  -- the loop
  have key : codeAny B.M A (.forLoop target (.ref I) body [] env) (fun r s' => ∃ f o, r = .ok f ∧ Post o ∧ Res B env Xc ρ s f s' o) s2 := by
    refine codeAny_forLoop_any (fun n s' => ∃ i ρ', n = ds.length + 1 - i ∧ i ≤ ds.length ∧ J i ρ' ∧ Fok B env Xc ρ' s'.heap ∧ Kp B (mu env ρ) s s' ∧ St i s'.heap) ?_ (ds.length + 1)
      ⟨0, ρ, rfl, Nat.zero_le _, h0, F2, k2.up, hst⟩
    rintro n s3 ⟨i, ρ', rfl, hle, hJ, F3, k3, hst3⟩
    have hsub : ∀ a ∈ xs env Xc ρ', a ∈ xs env Xc ρ := by
      intro a ha
      simp only [xs, List.mem_cons, List.mem_append] at ha ⊢
      rcases ha with h | h | h
      · exact .inl h
      · exact .inr (.inl (hown i ρ' hJ a h))
      · exact .inr (.inr h)
    have hmusub : ∀ a ∈ mu env ρ', a ∈ mu env ρ := by
      intro a ha
      simp only [mu, List.mem_cons, List.mem_append] at ha ⊢
      rcases ha with h | h | h
      · exact .inl h
      · exact .inr (.inl h)
      · exact .inr (.inr (hown i ρ' hJ a h))
    have halive : ∀ a ∈ xs env Xc ρ, (s3.heap.get? a).isSome = true := fun a ha => k3.alive a (F.alive a ha)
    obtain ⟨oI, vsI, eI, hnc, hdI⟩ := W.obj i _ hst3
    -- a step that changes the iterator alone
    have stepI : ∀ s4, KpI B I s3 s4 → Kp B (mu env ρ) s s4 ∧ Fok B env Xc ρ' s4.heap := by
      intro s4 k4
      refine ⟨⟨fun b o hb ht e => ?_, fun g => k4.gd (k3.gd g), fun b h => k4.alive F3.g (fun q => by rw [q, hI] at h; cases h) (k3.alive b h), k4.gens.trans k3.gens, k4.os.trans k3.os⟩, ?_⟩
      · exact k4.keep b o (fun h => by rw [h, hI] at e; cases e) ht (k3.keep b o hb ht e)
      · exact F3.iter k4 (fun h => hIX (hsub _ h)) eI hdI
    cases hd : ds[i]? with
    | none =>
      have : i = ds.length := Nat.le_antisymm hle (by simpa using hd)
      subst this
      refine wpAny_mono (W.done s3 hst3 F3.g) (fun r s4 ⟨hr, k4⟩ => ?_) fun _ _ h => h.elim
      subst hr
      obtain ⟨k5, F5⟩ := stepI s4 k4
      exact wpAny_execs_nil ⟨.next, .nxt ρ', rfl, hend ρ' hJ, rfl, F5, k5, fun a ha => .inl (hown _ ρ' hJ a ha)⟩
    | some d =>
      have hlt : i < ds.length := (List.getElem?_eq_some_iff.mp hd).1
      refine wpAny_mono (W.item i d s3 hd hst3 F3.g halive) (fun r s4 ⟨v, hr, h4⟩ => ?_) fun _ _ h => h.elim
      subst hr
      refine wpAny_mono h4 (fun _ s5 ⟨k5, hst5, r5⟩ => ?_) fun _ _ h => h.elim
      obtain ⟨k6, F6⟩ := stepI s5 k5
      obtain ⟨ρ1, ha, ho1, hbody⟩ := hstep i d ρ' hd hJ
      refine wpAny_mono (ha A Xc s5 v rm.handled F6 (r5.sub hsub)) (fun _ s7 ⟨F7, k7⟩ => ?_) fun _ _ h => h.elim
      refine wpAny_mono (hbody A Xc s7 rm F7) (fun f s8 ⟨o, hp, hr8⟩ => ?_) fun _ _ h => h.elim
      have hr9 : Res B env Xc ρ' s5 f s8 o := Res.trans F6 k7 (fun a ha => .inl (ho1 a ha)) hr8
      cases o with
      | nxt ρ2 =>
        obtain ⟨rfl, F8, k8, ho8⟩ := hr9
        refine ⟨ds.length + 1 - (i + 1), by omega, i + 1, ρ2, rfl, hlt, hp, F8, mu_trans F k6 (fun a ha => .inl (hown i ρ' hJ a ha)) k8, ?_⟩
        refine W.frame (i + 1) s5.heap s8.heap hst5 (fun o e => ?_) fun b o hb e hc => ?_
        · refine k8.keep I o (fun h => hImu (hmusub _ h)) (fun t ht q => ?_) e
          obtain ⟨ps, h1, _⟩ := F6.g.tab t ht
          obtain ⟨o'', _, e'', hnc'', _⟩ := W.obj (i + 1) _ hst5
          rw [q] at e''
          rw [h1] at e''
          cases e''
          exact (hnc'' _ rfl).1 rfl
        · exact k8.keep b o (fun h => hb (F.muX b (hmusub _ h) |> fun _ => by
            have := F6.muX b h o e hc
            exact hsub _ this)) (fun t ht => notTab (F6.g.tab t ht) e hc) e
      | ret dd =>
        obtain ⟨w, rfl, r8, k8⟩ := hr9
        exact ⟨.ret w, .ret dd, rfl, hp, w, rfl, r8, mu_trans F k6 (fun a ha => .inl (hown i ρ' hJ a ha)) k8⟩
  refine codeAny_mono key fun r s' ⟨f, o, hr, hp, hres⟩ => ?_
  subst hr
  exact ⟨o, hp, hres⟩
end
end Mine
end
section
open PySem PySem.W PyProof.Rows
set_option linter.unusedVariables false
namespace Mine
section
variable {B : Bs} {env : Env} {ρ : Rho} {k : Nat} {Xc : List Addr}

/-! builtin calls -/
inductive RepOs (B : Bs) (X : List Addr) (h : Heap) : List Value → List PyData → Prop
  | nil : RepOs B X h [] []
  | cons {v : Value} {vs : List Value} {d : PyData} {ds : List PyData} : RepO B X h v d → RepOs B X h vs ds → RepOs B X h (v :: vs) (d :: ds)
theorem RepOs.one {X : List Addr} {h : Heap} {vs : List Value} {d : PyData} (x : RepOs B X h vs [d]) : ∃ v, vs = [v] ∧ RepO B X h v d := by
  cases x with | cons a b => cases b; exact ⟨_, rfl, a⟩
theorem RepOs.two {X : List Addr} {h : Heap} {vs : List Value} {d e : PyData} (x : RepOs B X h vs [d, e]) : ∃ v w, vs = [v, w] ∧ RepO B X h v d ∧ RepO B X h w e := by
  cases x with | cons a b => obtain ⟨w, rfl, r⟩ := b.one; exact ⟨_, _, rfl, a, r⟩
variable (B) in
noncomputable def EvOs (k : Nat) (env : Env) (ρ : Rho) (es : List Expr) (ds : List PyData) : Prop :=
  ∀ A Xc s pos, Rm k A → Fok B env Xc ρ s.heap → wpAny B.M A (spliced (backTo pos (starEach es env))) (fun vs s' => Kp B [] s s' ∧ RepOs B (xs env Xc ρ) s'.heap vs ds) (fun _ _ => False) s
theorem EvOs.nil : EvOs B k env ρ [] [] := fun A Xc s pos rm F => wpAny_items_nil ⟨.refl s, .nil⟩
theorem EvOs.cons {e : Expr} {es : List Expr} {d : PyData} {ds : List PyData} (h1 : EvO B k env ρ e d) (h2 : EvOs B k env ρ es ds) (he : starEach (e :: es) env = (false, eval e env) :: starEach es env := by exact starEach_cons rfl) : EvOs B k env ρ (e :: es) (d :: ds) := fun A Xc s pos rm F =>
  wpAny_items_cons (h1.bind rm F fun v s1 k1 F1 r1 => wpAny_mono (h2 A Xc s1 pos rm F1) (fun vs s2 ⟨k2, r2⟩ => ⟨k1.trans k2, .cons (r1.kp F1.g k2) r2⟩) fun _ _ h => h) he
variable (B) in
noncomputable def BC (f : Value) (ds : List PyData) (d : PyData) : Prop :=
  ∀ A X s vs, Rm 1 A → Gd B s.heap → (∀ a ∈ X, (s.heap.get? a).isSome = true) → RepOs B X s.heap vs ds → wpAny B.M A (call f vs) (fun v s' => Kp B [] s s' ∧ Rep B X s'.heap v d) (fun _ _ => False) s
/-- the callee is a builtin function or a type -/
inductive Bare : Value → Prop
  | fn (id : String) : Bare (.builtin id)
  | ty (T : String) : Bare (.type T)
theorem callWith_bare {M : Model} {A : Around} {E : Value → Shared → Prop} {s : Shared} {pos : Pos} {f : Value} {first : List Value} {x : Sem Value} {rest : List (Bool × Sem Value)} {Q : Value → Shared → Prop} (hf : Bare f) (hp : rest.any (·.1) = false)
    (h : wpAny M A (spliced ((false, x) :: rest)) (fun vs s₁ => wpAny M A (call f (first ++ vs)) Q E s₁) E s) : wpAny M A (callWith pos f first ((false, x) :: rest) []) Q E s := by
  cases hf with
  | fn id => exact Calls.callWith_builtin (by simp [hp]) (Calls.evalArgs_plain h)
  | ty T => exact PySem.callWith_type (by simp [hp]) (Calls.evalArgs_plain h)
theorem Ev.bcall {func e : Expr} {es : List Expr} {pos : Pos} {f : Value} {ds : List PyData} {d : PyData} (hf : EvV B (k + 1) env ρ func f) (hb : Bare f) (ha : EvOs B (k + 1) env ρ (e :: es) ds) (hs : BC B f ds d)
    (he : eval (.Call func (e :: es) [] pos) env = (do callWith pos (← eval func env) [] (backTo pos (starEach (e :: es) env)) (backToKw pos (keywordEach [] env))) := by rfl)
    (hst : starEach (e :: es) env = (false, eval e env) :: starEach es env := by exact starEach_cons rfl) (hp : (backTo pos (starEach es env)).any (·.1) = false := by rfl) : Ev B (k + 1) env ρ (.Call func (e :: es) [] pos) d := fun A Xc s rm F => by
  rw [he]
  refine wpAny_bind (hf.bind rm F fun s1 k1 F1 => ?_)
  show wpAny _ _ (callWith pos f [] (backTo pos (starEach (e :: es) env)) []) _ _ s1
  have := ha A Xc s1 pos rm F1
  rw [hst] at this ⊢
  refine callWith_bare hb hp (wpAny_mono this (fun vs s2 ⟨k2, r2⟩ => ?_) fun _ _ h => h)
  have F2 := F1.kp k2
  exact wpAny_mono (hs A _ s2 vs (rm.le (by omega)) F2.g F2.alive r2) (fun v s3 ⟨k3, r3⟩ => ⟨(k1.trans k2).trans k3, r3⟩) fun _ _ h => h

/-- methods -/
noncomputable def tyOf : PyData → String
  | .str _ => "str"
  | .list _ => "list"
  | .dict _ => "dict"
  | .tuple _ => "tuple"
  | .int _ => "int"
  | .bool _ => "bool"
  | .none => "NoneType"
theorem RepO.ty {X : List Addr} {s : Shared} {v : Value} {d : PyData} (r : RepO B X s.heap v d) (hd : tyOf d = "str" ∨ tyOf d = "list" ∨ tyOf d = "dict") : s.TypeIs v (tyOf d) ∧ ∀ a, v = .ref a → ∃ ob, s.heap.get? a = some ob ∧ ob.dict = none := by
  have hl : ∀ {a : Addr} {vs : List Value}, s.heap.PlainList a vs.toArray → s.TypeIs (.ref a) "list" ∧ ∀ b, Value.ref a = .ref b → ∃ ob, s.heap.get? b = some ob ∧ ob.dict = none := fun {a vs} h => ⟨h.isList.typeIs, fun b e => by cases e; obtain ⟨n, e⟩ := h; exact ⟨_, e, rfl⟩⟩
  have hdd : ∀ {a : Addr} {kvs : List (Str × Value)}, s.heap.DictOf (strKind B.prog B.w) a kvs → s.TypeIs (.ref a) "dict" ∧ ∀ b, Value.ref a = .ref b → ∃ ob, s.heap.get? b = some ob ∧ ob.dict = none := fun {a kvs} h => ⟨h.typeIs, h.mapOf.noDict⟩
  cases r with
  | rep r =>
    cases r with
    | str x t => exact ⟨typeIs_str s x t, fun a e => nomatch e⟩
    | list h _ _ => exact hl h
    | dict h _ _ _ _ => exact hdd h
    | _ => rcases hd with h | h | h <;> exact absurd h (by simp [tyOf])
  | list h _ => exact hl h
  | dict h _ _ _ => exact hdd h
theorem Ev.meth {o e : Expr} {name : Str} {apos pos : Pos} {args : List Expr} {T id : String} {d0 : PyData} {ds : List PyData} {d : PyData} (ho : EvO B (k + 1) env ρ o d0) (ha : EvOs B (k + 1) env ρ (e :: args) ds) (hT : tyOf d0 = T) (hd : T = "str" ∨ T = "list" ∨ T = "dict")
    (pa : PlainAttrs T) (slot : PySem.Slot T name id) (hty : typeOf (.builtin id) = pure (.type "method_descriptor")) (hs : BC B (.builtin id) (d0 :: ds) d)
    (hbase : attributeBase o name env (eval o env) = eval o env := by rfl)
    (hfew : ((backTo pos (starEach (e :: args) env)).all (fun x => !x.1) && (backToKw pos (keywordEach [] env)).all (fun x => x.1.isSome)
      && decide ((e :: args).length + ([] : List Keyword).length + (if ([] : List Keyword).isEmpty then 0 else 1) < 30)) = true := by rfl)
    (hline : (apos.endLine == pos.line) = true := by rfl)
    (hst : starEach (e :: args) env = (false, eval e env) :: starEach args env := by exact starEach_cons rfl) (hp : (backTo pos (starEach args env)).any (·.1) = false := by rfl) : Ev B (k + 1) env ρ (.Call (.Attribute o name apos) (e :: args) [] pos) d := fun A Xc s rm F => by
  refine wpAny_Call_method hbase hfew hline pa slot hty (ho.bind rm F fun v s1 k1 F1 r1 => ?_)
  obtain ⟨t1, t2⟩ := r1.ty (hT ▸ hd)
  refine ⟨hT ▸ t1, t2, ?_⟩
  have := ha A Xc s1 pos rm F1
  rw [hst] at this ⊢
  refine callWith_bare (.fn id) hp (wpAny_mono this (fun vs s2 ⟨k2, r2⟩ => ?_) fun _ _ h => h)
  have F2 := F1.kp k2
  exact wpAny_mono (hs A _ s2 _ (rm.le (by omega)) F2.g F2.alive (.cons (r1.kp F1.g k2) r2)) (fun v s3 ⟨k3, r3⟩ => ⟨(k1.trans k2).trans k3, r3⟩) fun _ _ h => h

/-! iteration over a walk of the library -/
theorem letOwned {M : Model} {A : Around} {E : Value → Shared → Prop} {s : Shared} {target : Expr} {I : Addr} {v : Value} {o : Obj} {n : String} {Q : Unit → Shared → Prop} (ho : s.heap.get? I = some o) (hc : o.cls = .type n)
    (hn : ["enumerate", "zip", "dict_itemiterator", "dict_reverseitemiterator", "odict_iterator", "itertools.zip_longest", "itertools.pairwise"].contains n = false) (h : Q () s) : wpAny M A (letOwnedTupleGo target (.ref I) v) Q E s := by
  have key : wpAny M A (do
      let (.ref r, .ref a) := (Value.ref I, v) | return
      let o ← load r
      match o.cls, o.data with
      | .type n, .fields vs =>
        if ["enumerate", "zip", "dict_itemiterator", "dict_reverseitemiterator", "odict_iterator", "itertools.zip_longest", "itertools.pairwise"].contains n && vs[0]? == some (rawInt a) then
          rule "for.unpacks-the-owned-tuple"
          updateField r 0 .none
      | _, _ => pure ()) Q E s := by
    cases v with
    | ref a =>
      refine wpAny_bind (wpAny_load ho ?_)
      rw [hc]
      cases hd : o.data with
      | fields vs => simp only [hn, Bool.false_and]; exact wpAny_pure h
      | _ => exact wpAny_pure h
    | _ => exact wpAny_pure h
  cases target with
  | Tuple => exact key
  | List => exact key
  | _ => exact wpAny_pure h
theorem Iter.ofWalks {A : Around} {X : List Addr} {I : Addr} {fp : List Addr} {ds : List PyData} {target : Expr} {P : Nat → Value → Prop} {St : Nat → Heap → Prop} {n : String} (W : Walks B.prog B.w A I fp [I] ds.length P St) (R : Heap → Prop)
    (hcls : ∀ i h, St i h → ∃ o vs, h.get? I = some o ∧ o.cls = .type n ∧ o.data = .fields vs ∧ ∀ q t, vs[1]? ≠ some (.str q t))
    (hn : ["enumerate", "zip", "dict_itemiterator", "dict_reverseitemiterator", "odict_iterator", "itertools.zip_longest", "itertools.pairwise"].contains n = false)
    (hI : B.hB.get? I = none) (hIX : I ∉ X)
    (hR : ∀ h h', R h → (∀ b o, b ∉ X → h.get? b = some o → Cont o → h'.get? b = some o) → R h')
    (hfp : ∀ i h, St i h → R h → ∀ b ∈ fp, b = I ∨ (b ∉ X ∧ ∃ o, h.get? b = some o ∧ Cont o))
    (hP : ∀ h, R h → ∀ i v d, P i v → ds[i]? = some d → Rep B X h v d) : Iter B A X I ds target (fun i h => St i h ∧ R h) where
  frame := fun i h h' ⟨st, r⟩ hk1 hk2 => ⟨W.frame i h h' st fun b hb o e => by
    rcases hfp i h st r b hb with rfl | ⟨h1, o', e', hc⟩
    · exact hk1 o e
    · rw [e] at e'; cases e'; exact hk2 b o h1 e hc, hR h h' r hk2⟩
  obj := fun i h ⟨st, r⟩ => by
    obtain ⟨o, vs, e, hc, hd, hs⟩ := hcls i h st
    refine ⟨o, vs, e, fun vs' e' => ?_, hd⟩
    rw [hd] at e'; cases e'; exact ⟨(by rw [hc]; exact (fun q => nomatch q)), hs⟩
  item := fun i d s hd ⟨st, r⟩ g hX => by
    have hlt : i < ds.length := (List.getElem?_eq_some_iff.mp hd).1
    obtain ⟨o, vs, e, hc, hdd, hs⟩ := hcls i _ st
    have hnc : NotCode o := fun vs' e' => by rw [hdd] at e'; cases e'; exact ⟨(by rw [hc]; exact (fun q => nomatch q)), hs⟩
    refine W.item i s _ _ hlt st fun v h' tk hp st' hk => ⟨v, rfl, ?_⟩
    obtain ⟨o', vs', e', hc', _, _⟩ := hcls _ _ st'
    have hk' : ∀ b o, b ≠ I → s.heap.get? b = some o → h'.get? b = some o := fun b o hb e => hk b o (by simpa using hb) e
    have r' : R h' := hR _ _ r fun b ob hb eb hcont => hk' b ob (fun q => by
      rw [q, e] at eb; cases eb
      rcases hcont with ⟨_, _, q⟩ | ⟨_, _, q⟩ <;> (rw [hdd] at q; cases q)) eb
    exact letOwned e' hc' hn ⟨.but hI e hnc hk', ⟨st', r'⟩, hP h' r' i v d hp hd⟩
  done := fun s ⟨st, r⟩ g => by
    obtain ⟨o, vs, e, hc, hdd, hs⟩ := hcls _ _ st
    have hnc : NotCode o := fun vs' e' => by rw [hdd] at e'; cases e'; exact ⟨(by rw [hc]; exact (fun q => nomatch q)), hs⟩
    refine W.done s _ _ st fun h' tk hk => ⟨rfl, .but hI e hnc fun b o hb e => hk b o (by simpa using hb) e⟩
  self := fun i s ⟨st, r⟩ => W.self i s _ _ st ⟨rfl, rfl⟩
end
end Mine
end
section
open PySem PySem.W PyProof.Rows
set_option linter.unusedVariables false
namespace Mine
section
variable {B : Bs} {env : Env} {ρ : Rho} {k : Nat} {Xc : List Addr}

theorem freshI {s : Shared} (g : Gd B s.heap) {s1 : Shared} (k1 : Kp B [] s s1) : s.heap.get? s1.heap.objs.size = none ∧ B.hB.get? s1.heap.objs.size = none := by
  have g1 := k1.gd g
  refine ⟨?_, g1.above (Nat.le_refl _)⟩
  cases e : s.heap.get? s1.heap.objs.size with
  | none => rfl
  | some o =>
    have := k1.alive _ (by rw [e]; rfl)
    cases e' : s1.heap.get? s1.heap.objs.size with
    | none => rw [e'] at this; cases this
    | some o' => exact absurd (Heap.lt_size e') (Nat.lt_irrefl _)

theorem notX {s s1 : Shared} {o : Obj} {X' : List Addr} (F : Fok B env Xc ρ s.heap) (k1 : Kp B [] s s1) (ho : o.isFreed = false) (hX' : ∀ a ∈ X', a ∈ xs env Xc ρ ∨ (s1.heap.push o).get? a = none) : s1.heap.objs.size ∉ X' := fun hm =>
  (hX' _ hm).elim (fun q => by have := F.alive _ q; rw [(freshI F.g k1).1] at this; cases this) (fun q => by rw [Heap.get?_push_size _ ho] at q; cases q)
theorem EvI.list {e target : Expr} {ds : List PyData} (h : Ev B k env ρ e (.list ds)) : EvI B k env ρ e target ds := fun A Xc s rm F =>
  h.bind rm F fun v s1 k1 F1 r1 => by
    obtain ⟨a, vs, rfl, hl, ha, hr⟩ := r1.list_inv
    refine wpAny_pyIter_list hl.isList ⟨k1.trans (.push s1 _ s1.toks), s1.heap.objs.size, rfl, (freshI F.g k1).1, (freshI F.g k1).2, fun X' hX' => ⟨fun i h => (h.IsListIter s1.heap.objs.size a i ∧ h.IsList a vs.toArray) ∧ (h.PlainList a vs.toArray ∧ Reps B X' h vs ds), ?_, ?_⟩⟩
    all_goals
      have hX1 : ∀ b ∈ X', b ∈ xs env Xc ρ ∨ s1.heap.get? b = none := fun b hb => (hX' b hb).imp id fun e => by
        cases q : s1.heap.get? b with
        | none => rfl
        | some o => rw [Heap.get?_push_of_some _ q] at e; cases e
      have hr' : Reps B X' s1.heap vs ds := hr.more hX1
      have ha' : a ∉ X' := fun hm => (hX1 a hm).elim ha fun e => by obtain ⟨n, q⟩ := hl; rw [q] at e; cases e
    · have hne : a ≠ s1.heap.objs.size := by obtain ⟨n, e⟩ := hl; exact Nat.ne_of_lt (Heap.lt_size e)
      have W := Walks.list (prog := B.prog) (w := B.w) rm.handled s1.heap.objs.size a hne vs.toArray
      have hlen : vs.toArray.size = ds.length := by simp [hr.length]
      rw [hlen] at W
      refine Iter.ofWalks (n := "list_iterator") W (fun h => h.PlainList a vs.toArray ∧ Reps B X' h vs ds) (fun i h st => ?_) (by decide) (freshI F.g k1).2 ?_ (fun h h' ⟨p, r⟩ hk => ⟨?_, r.imp (fun _ h _ => h) hk⟩) (fun i h st ⟨p, r⟩ b hb => ?_) fun h ⟨p, r⟩ i v d hp hd => ?_
      · obtain ⟨⟨o, e, hc, hd⟩, _⟩ := st
        exact ⟨o, _, e, hc, hd, fun q t e => by simp at e⟩
      · exact notX F k1 rfl hX'
      · obtain ⟨n, e⟩ := p; exact ⟨n, hk _ _ ha' e (.inl ⟨_, _, rfl⟩)⟩
      · simp only [List.mem_cons, List.not_mem_nil, or_false] at hb
        rcases hb with rfl | rfl
        · exact .inl rfl
        · obtain ⟨n, e⟩ := p; exact .inr ⟨ha', _, e, .inl ⟨_, _, rfl⟩⟩
      · obtain ⟨w, h1, h2⟩ := r.get hd
        have : vs[i]? = some v := by simpa using hp
        rw [this] at h1; cases h1; exact h2
    · exact ⟨⟨⟨_, Heap.get?_push_size _ rfl, rfl, rfl⟩, hl.isList.push _⟩, let ⟨n, e⟩ := hl; ⟨n, Heap.get?_push_of_some _ e⟩, hr'.keeps fun _ _ e => Heap.get?_push_of_some _ e⟩

/-! ranges -/
noncomputable def rng (a b : Int) : List PyData := (List.range (b - a).toNat).map fun (i : Nat) => PyData.int (a + (i : Int))
variable (B) in
noncomputable def EvR (k : Nat) (env : Env) (ρ : Rho) (e : Expr) (a b : Int) : Prop :=
  ∀ A Xc s, Rm k A → Fok B env Xc ρ s.heap → wpAny B.M A (eval e env) (fun v s' => Kp B [] s s' ∧ ∃ r t u w, v = .ref r ∧ IsRange s'.heap r a b 1 t u w) (fun _ _ => False) s
theorem EvR.one {func e : Expr} {pos : Pos} {b : Int} (hf : EvV B k env ρ func (.type "range")) (h : Ev B k env ρ e (.int b))
    (he : eval (.Call func [e] [] pos) env = (do callWith pos (← eval func env) [] (backTo pos (starEach [e] env)) (backToKw pos (keywordEach [] env))) := by rfl)
    (hst : starEach [e] env = [(false, eval e env)] := by rfl) : EvR B k env ρ (.Call func [e] [] pos) 0 b := fun A Xc s rm F => by
  rw [he]
  refine wpAny_bind (hf.bind rm F fun s1 k1 F1 => ?_)
  show wpAny _ _ (callWith pos (.type "range") [] (backTo pos (starEach [e] env)) []) _ _ s1
  rw [hst]
  refine callWith_bare (.ty _) rfl (Calls.spliced_cons (h.bind rm F1 fun v s2 k2 F2 r2 => Calls.spliced_nil ?_))
  obtain ⟨t, rfl⟩ := r2.int_inv
  exact call_range_1 ⟨((k1.trans k2).trans (.push s2 _ _)), _, _, _, _, rfl, Heap.get?_push_size _ rfl⟩
theorem EvR.two {func e1 e2 : Expr} {pos : Pos} {a b : Int} (hf : EvV B k env ρ func (.type "range")) (h1 : Ev B k env ρ e1 (.int a)) (h2 : Ev B k env ρ e2 (.int b))
    (he : eval (.Call func [e1, e2] [] pos) env = (do callWith pos (← eval func env) [] (backTo pos (starEach [e1, e2] env)) (backToKw pos (keywordEach [] env))) := by rfl)
    (hst : starEach [e1, e2] env = [(false, eval e1 env), (false, eval e2 env)] := by rfl) : EvR B k env ρ (.Call func [e1, e2] [] pos) a b := fun A Xc s rm F => by
  rw [he]
  refine wpAny_bind (hf.bind rm F fun s1 k1 F1 => ?_)
  show wpAny _ _ (callWith pos (.type "range") [] (backTo pos (starEach [e1, e2] env)) []) _ _ s1
  rw [hst]
  refine callWith_bare (.ty _) rfl (Calls.spliced_cons (h1.bind rm F1 fun v s2 k2 F2 r2 => Calls.spliced_cons (h2.bind rm F2 fun v3 s3 k3 F3 r3 => Calls.spliced_nil ?_)))
  obtain ⟨t, rfl⟩ := r2.int_inv
  obtain ⟨u, rfl⟩ := r3.int_inv
  exact call_range_2 ⟨(((k1.trans k2).trans k3).trans (.push s3 _ _)), _, _, _, _, rfl, Heap.get?_push_size _ rfl⟩
theorem EvI.range {e target : Expr} {a b : Int} (h : EvR B k env ρ e a b) (ha : -(2 ^ 62) ≤ a) (ha' : a < 2 ^ 62) (hb : -(2 ^ 62) ≤ b) (hb' : b < 2 ^ 62) : EvI B k env ρ e target (rng a b) := fun A Xc s rm F => by
  refine wpAny_mono (h A Xc s rm F) (fun v s1 ⟨k1, r, t, u, w, hv, hr⟩ => ?_) fun _ _ h => h
  subst hv
  refine wpAny_pyIter_range hr (small_one ha ha' hb hb') ⟨k1.trans (.push s1 _ s1.toks), s1.heap.objs.size, rfl, (freshI F.g k1).1, (freshI F.g k1).2, fun X' hX' => ⟨fun i h => IsRangeIter h s1.heap.objs.size (a + (i : Nat) * 1) (((b - a).toNat : Int) - (i : Nat)) 1 ∧ True, ?_, ?_⟩⟩
  · have W := Walks.range (prog := B.prog) (w := B.w) rm.handled s1.heap.objs.size a 1 (b - a).toNat
    have hlen : (b - a).toNat = (rng a b).length := by simp [rng]
    have W' : Walks B.prog B.w A s1.heap.objs.size [s1.heap.objs.size] [s1.heap.objs.size] (rng a b).length (fun i v => ∃ t, v = .int (a + i * 1) t) (fun i h => IsRangeIter h s1.heap.objs.size (a + (i : Nat) * 1) (((b - a).toNat : Int) - (i : Nat)) 1) := hlen ▸ W
    refine Iter.ofWalks (n := "range_iterator") W' (fun h => True) (fun i h st => ?_) (by decide) (freshI F.g k1).2 ?_ (fun h h' _ hk => trivial) (fun i h st _ b hb => ?_) fun h _ i v d hp hd => ?_
    · exact ⟨_, _, st, rfl, rfl, fun q t e => by simp [rawInt] at e⟩
    · exact notX F k1 rfl hX'
    · exact .inl (List.mem_singleton.mp hb)
    · obtain ⟨t, rfl⟩ := hp
      have hi : i < (b - a).toNat := by
        have := (List.getElem?_eq_some_iff.mp hd).1
        simpa [rng] using this
      have : (rng a b)[i]? = some (.int (a + i)) := by simp [rng, hi]
      rw [this] at hd; cases hd
      rw [Int.mul_one]
      exact .int _ _
  · refine ⟨?_, trivial⟩
    have := Heap.get?_push_size s1.heap (o := { cls := .type "range_iterator", data := .fields #[rawInt a, rawInt (Builtin.Range.rangeSize a b 1), rawInt 1] }) rfl
    rw [rangeSize_nat] at this
    show IsRangeIter _ _ _ _ _
    rw [rangeSize_nat]
    simpa using this
end
end Mine
end
section
open PySem PySem.W PyProof.Rows
set_option linter.unusedVariables false
namespace Mine

/-! plain dictionaries -/
noncomputable def dget (l : List (Str × PyData)) (k : Str) : Option PyData := (l.find? fun p => p.1 = k).map (·.2)
noncomputable def dput (l : List (Str × PyData)) (k : Str) (d : PyData) : List (Str × PyData) :=
  if l.any (fun p => p.1 = k) then l.map (fun p => if p.1 = k then (p.1, d) else p) else l ++ [(k, d)]

section
variable {B : Bs} {env : Env} {ρ : Rho} {k : Nat} {Xc : List Addr} {X : List Addr} {h : Heap}
theorem dict_get : ∀ {kvs : List (Str × Value)} {l : List (Str × PyData)}, kvs.map (·.1) = l.map (·.1) → Reps B X h (kvs.map (·.2)) (l.map (·.2)) → ∀ x,
    (valueAt kvs x = none ∧ dget l x = none) ∨ ∃ v d, valueAt kvs x = some v ∧ dget l x = some d ∧ Rep B X h v d
  | [], [], _, _, x => .inl ⟨rfl, rfl⟩
  | [], _ :: _, e, _, _ => by cases e
  | _ :: _, [], e, _, _ => by cases e
  | (n, v) :: kvs, (n', d) :: l, e, r, x => by
    simp only [List.map_cons, List.cons.injEq] at e
    obtain ⟨e1, e2⟩ := e
    subst e1
    cases r with
    | cons r1 r2 =>
      by_cases hx : n = x
      · exact .inr ⟨v, d, by simp [valueAt, hx], by simp [dget, hx], r1⟩
      · rcases dict_get e2 r2 x with ⟨h1, h2⟩ | ⟨v', d', h1, h2, h3⟩
        · exact .inl ⟨by simpa [valueAt, hx] using h1, by simpa [dget, hx] using h2⟩
        · exact .inr ⟨v', d', by simpa [valueAt, hx] using h1, by simpa [dget, hx] using h2, h3⟩
theorem any_same : ∀ {kvs : List (Str × Value)} {l : List (Str × PyData)}, kvs.map (·.1) = l.map (·.1) → ∀ x, (kvs.any fun p => p.1 = x) = l.any fun p => p.1 = x
  | [], [], _, x => rfl
  | [], _ :: _, e, _ => by cases e
  | _ :: _, [], e, _ => by cases e
  | (n, v) :: kvs, (n', d) :: l, e, x => by
    simp only [List.map_cons, List.cons.injEq] at e
    simp only [List.any_cons, e.1, any_same e.2 x]
theorem map_same {x : Str} {v : Value} {d : PyData} (r : Rep B X h v d) : ∀ {kvs : List (Str × Value)} {l : List (Str × PyData)}, kvs.map (·.1) = l.map (·.1) → Reps B X h (kvs.map (·.2)) (l.map (·.2)) →
    (kvs.map fun p => if p.1 = x then (p.1, v) else p).map (·.1) = (l.map fun p => if p.1 = x then (p.1, d) else p).map (·.1) ∧
    Reps B X h ((kvs.map fun p => if p.1 = x then (p.1, v) else p).map (·.2)) ((l.map fun p => if p.1 = x then (p.1, d) else p).map (·.2))
  | [], [], _, _ => ⟨rfl, .nil⟩
  | [], _ :: _, e, _ => by cases e
  | _ :: _, [], e, _ => by cases e
  | (n, w) :: kvs, (n', d') :: l, e, r' => by
    simp only [List.map_cons, List.cons.injEq] at e
    obtain ⟨e1, e2⟩ := e
    subst e1
    cases r' with
    | cons r1 r2 =>
      obtain ⟨h1, h2⟩ := map_same r e2 r2
      by_cases hx : n = x
      · simp only [List.map_cons, hx, if_true]
        exact ⟨by rw [h1], .cons r h2⟩
      · simp only [List.map_cons, hx, if_false]
        exact ⟨by rw [h1], .cons r1 h2⟩
theorem dict_put {x : Str} {v : Value} {d : PyData} (r : Rep B X h v d) {kvs : List (Str × Value)} {l : List (Str × PyData)} (e : kvs.map (·.1) = l.map (·.1)) (r' : Reps B X h (kvs.map (·.2)) (l.map (·.2))) :
    (stored kvs x v).map (·.1) = (dput l x d).map (·.1) ∧ Reps B X h ((stored kvs x v).map (·.2)) ((dput l x d).map (·.2)) := by
  unfold stored dput
  rw [any_same e x]
  split
  · exact map_same r e r'
  · simp only [List.map_append, List.map_cons, List.map_nil]
    exact ⟨by rw [e], r'.append (.cons r .nil)⟩

/-! reading dictionaries -/
theorem Cmp.inDict (x : Str) (l : List (Str × PyData)) : Cmp B .In (.str x) (dct l) (dget l x).isSome := fun A X s v1 v2 rm g r1 r2 => by
  obtain ⟨t, rfl⟩ := r1.str_inv
  obtain ⟨a, kvs, rfl, hd, hs, hm, hr⟩ := r2.dct_inv
  refine wpAny_in_of (strKind_is B.prog B.w x t) hs hd.mapOf ⟨.tk s _, ?_⟩
  rcases dict_get hm hr x with ⟨h1, h2⟩ | ⟨v, d, h1, h2, _⟩ <;> simp [h1, h2]
noncomputable def closedTop : PyData → Bool
  | .list _ | .dict _ => false
  | _ => true
theorem RepO.closed {v : Value} {d : PyData} (r : RepO B X h v d) (hd : closedTop d = true) : Rep B X h v d := by
  cases r with
  | rep r => exact r
  | list => cases hd
  | dict => cases hd
theorem BC.dictGet {x : Str} {l : List (Str × PyData)} {dflt : PyData} (hd : closedTop dflt = true) : BC B (.builtin "dict.get") [dct l, .str x, dflt] ((dget l x).getD dflt) := fun A X s vs rm g hX r => by
  cases r with
  | cons r1 r =>
    obtain ⟨v2, v3, rfl, r2, r3⟩ := r.two
    obtain ⟨t, rfl⟩ := r2.str_inv
    obtain ⟨a, kvs, rfl, hdo, hs, hm, hr⟩ := r1.dct_inv
    refine call_meetsIn F.slot_dict_get hdo.typeIs F.entry_dict_get (F.args_dict_get_3 _ _ _) (meets_dict_get_default (strKind B.prog B.w) a (strKind_is B.prog B.w x t) hs v3) ⟨_, hdo.mapOf, ⟨.tk s _, ?_⟩⟩
    rcases dict_get hm hr x with ⟨h1, h2⟩ | ⟨v, d, h1, h2, h3⟩
    · rw [h1, h2]; exact r3.closed hd
    · rw [h1, h2]; exact h3
theorem Ev.ditem {value slice : Expr} {pos : Pos} {l : List (Str × PyData)} {x : Str} {d : PyData} (h1 : EvO B k env ρ value (dct l)) (h2 : Ev B k env ρ slice (.str x)) (hi : dget l x = some d)
    (hs : ∀ a u, subscripted slice false (.ref a) (.str x u) = operate [.ref a, .str x u] (getItem (.ref a) (.str x u)) := by intro _ _; with_unfolding_all rfl) : Ev B k env ρ (.Subscript value slice pos) d := fun A Xc s rm F =>
  Subscript_ (h1.bind rm F fun v s1 k1 F1 r1 => h2.bind rm F1 fun w s2 k2 F2 r2 => by
    obtain ⟨u, rfl⟩ := r2.str_inv
    obtain ⟨a, kvs, rfl, hd, hsy, hm, hr⟩ := (r1.kp F1.g k2).dct_inv
    rcases dict_get hm hr x with ⟨_, h2⟩ | ⟨v, d', h1, h2, h3⟩
    · rw [hi] at h2; cases h2
    · rw [hi] at h2; cases h2
      exact tail_any hd.typeIs slot_dict_getitem.lookup (wpAny_getItem_of (strKind_is B.prog B.w x u) hd.mapOf h1 ⟨(k1.trans k2).toks, h3⟩) (hs a u))

/-! owned objects -/
noncomputable def setOwn (d : PyData) (ρ : Rho) : Rho := ρ.map fun p => match p.2 with
  | .own a _ => (p.1, .own a d)
  | .val e => (p.1, .val e)
  | .raw w => (p.1, .raw w)
theorem owns_setOwn (d : PyData) : ∀ ρ : Rho, owns (setOwn d ρ) = owns ρ
  | [] => rfl
  | (x, .val e) :: r => by
    have := owns_setOwn d r
    simpa [owns, setOwn, Slot.addr] using this
  | (x, .own a e) :: r => by
    have := owns_setOwn d r
    simpa [owns, setOwn, Slot.addr] using this
  | (x, .raw w) :: r => by
    have := owns_setOwn d r
    simpa [owns, setOwn, Slot.addr] using this
theorem lookup_setOwn (d : PyData) (x : Str) (sl : Slot) : ∀ ρ : Rho, (setOwn d ρ).lookup x = some sl → (∃ e : Slot, (sl = e ∧ e.addr = none) ∧ ρ.lookup x = some e) ∨ ∃ a e, sl = .own a d ∧ ρ.lookup x = some (.own a e)
  | [], h => by simp [setOwn] at h
  | (y, s0) :: r, h => by
    have ih := lookup_setOwn d x sl r
    cases s0 with
    | val e =>
      simp only [setOwn, List.map_cons, List.lookup_cons] at h ⊢
      by_cases hy : x == y
      · rw [hy] at h ⊢; cases h; exact .inl ⟨_, ⟨rfl, rfl⟩, rfl⟩
      · rw [Bool.not_eq_true] at hy; rw [hy] at h ⊢; exact ih h
    | raw w =>
      simp only [setOwn, List.map_cons, List.lookup_cons] at h ⊢
      by_cases hy : x == y
      · rw [hy] at h ⊢; cases h; exact .inl ⟨_, ⟨rfl, rfl⟩, rfl⟩
      · rw [Bool.not_eq_true] at hy; rw [hy] at h ⊢; exact ih h
    | own a e =>
      simp only [setOwn, List.map_cons, List.lookup_cons] at h ⊢
      by_cases hy : x == y
      · rw [hy] at h ⊢; cases h; exact .inr ⟨a, e, rfl, rfl⟩
      · rw [Bool.not_eq_true] at hy; rw [hy] at h ⊢; exact ih h

theorem Fok.mut {s : Shared} {h' : Heap} {a : Addr} {d : PyData} (F : Fok B env Xc ρ s.heap) (hall : ∀ b ∈ owns ρ, b = a) (ha : a ∈ owns ρ) (hk : ∀ b o, b ≠ a → s.heap.get? b = some o → h'.get? b = some o)
    (hr : RepO B (xs env Xc ρ) h' (.ref a) d) (hc : ∃ o, h'.get? a = some o ∧ Cont o) (tk : Nat) : Fok B env Xc (setOwn d ρ) h' ∧ Kp B (mu env ρ) s { s with heap := h', toks := tk } := by
  obtain ⟨hB, hXc, hL, o, e, hcont⟩ := F.fo a ha
  have hnc : NotCode o := by rcases hcont with ⟨_, _, q⟩ | ⟨_, _, q⟩; exact notcode_seq q; exact notcode_dict q
  have hX : a ∈ xs env Xc ρ := .tail _ (List.mem_append_left _ ha)
  obtain ⟨o', e', hcont'⟩ := hc
  have hxs : xs env Xc (setOwn d ρ) = xs env Xc ρ := by simp only [xs, owns_setOwn]
  have hsl : ∀ v sl y, (setOwn d ρ).lookup y = some sl → (∀ s0, ρ.lookup y = some s0 → SRep B (xs env Xc ρ) s.heap v s0) → SRep B (xs env Xc (setOwn d ρ)) h' v sl := by
    intro v sl y hy hv
    rw [hxs]
    rcases lookup_setOwn d y sl ρ hy with ⟨e0, ⟨rfl, h0⟩, hl⟩ | ⟨b, e0, rfl, hl⟩
    · exact (hv _ hl).but hk (.inl hX) (fun b hb => by rw [h0] at hb; cases hb)
    · have := (hv _ hl).1
      have hb : b = a := hall b (lookup_owns hl rfl)
      subst hb
      exact ⟨this, this ▸ hr⟩
  refine ⟨⟨F.g.but hB e hnc hk, alive_but F.xin hk (by rw [e']; rfl), F.kind, F.glob, F.bi, ?_, fun p hp => ?_, fun y sl hy hcy => ?_, F.fl, F.fc, fun b hb => ?_⟩, .but (.tail _ (List.mem_append_right _ ha)) hB e hnc hk (by rw [e']; rfl)⟩
  · obtain ⟨m, hm, hv⟩ := F.loc
    refine ⟨m, ?_, fun y sl hy hl => ?_⟩
    · obtain ⟨oL, es, ep, eL, r⟩ := hm
      exact ⟨oL, es, ep, hk _ _ (Ne.symm hL) eL, r⟩
    · rcases lookup_setOwn d y sl ρ hy with ⟨e0, _, hl0⟩ | ⟨b, e0, _, hl0⟩ <;>
      · obtain ⟨v, h1, h2⟩ := hv y _ hl0 hl
        exact ⟨v, h1, hsl v sl y hy fun s0 hs0 => by rw [hl0] at hs0; cases hs0; exact h2⟩
  · obtain ⟨v, oc, ec, hd⟩ := F.cel p hp
    exact ⟨v, oc, hk _ _ (fun q => by rw [q, e] at ec; cases ec; rcases hcont with ⟨_, _, q⟩ | ⟨_, _, q⟩ <;> (rw [hd] at q; cases q)) ec, hd⟩
  · rcases lookup_setOwn d y sl ρ hy with ⟨e0, _, hl0⟩ | ⟨b, e0, _, hl0⟩ <;>
    · obtain ⟨c, v, h1, ⟨oc, ec, hd⟩, h3⟩ := F.celv y _ hl0 hcy
      exact ⟨c, v, h1, ⟨oc, hk _ _ (fun q => by rw [q, e] at ec; cases ec; rcases hcont with ⟨_, _, q⟩ | ⟨_, _, q⟩ <;> (rw [hd] at q; cases q)) ec, hd⟩, hsl v sl y hy fun s0 hs0 => by rw [hl0] at hs0; cases hs0; exact h3⟩
  · rw [owns_setOwn] at hb
    have := hall b hb
    subst this
    exact ⟨hB, hXc, hL, o', e', hcont'⟩

/-! changing owned objects -/
theorem xs_sub_iff {d : PyData} : xs env Xc (setOwn d ρ) = xs env Xc ρ := by simp only [xs, owns_setOwn]
/-- the owned name and its object -/
theorem Fok.ownAt {h : Heap} (F : Fok B env Xc ρ h) {x : Str} {a : Addr} {d : PyData} (hl : ρ.lookup x = some (.own a d)) (hx : env.kindOf x = some .local) : ∃ m, h.Ns env.locals m ∧ m x = some (.ref a) ∧ RepO B (xs env Xc ρ) h (.ref a) d := by
  obtain ⟨m, hm, hv⟩ := F.loc
  obtain ⟨v, h1, rfl, h2⟩ := hv x _ hl hx
  exact ⟨m, hm, h1, h2⟩
/-- reading the owned name gives its very object -/
theorem EvOwn {A : Around} {s : Shared} {x : Str} {pos : Pos} {a : Addr} {d : PyData} {Q : Value → Shared → Prop} {E : Value → Shared → Prop} (F : Fok B env Xc ρ s.heap) (hl : ρ.lookup x = some (.own a d)) (hx : env.kindOf x = some .local) (h : Q (.ref a) s) (hd : (x == ("__debug__" : Str)) = false := by decide) :
    wpAny B.M A (eval (.Name x pos) env) Q E s := by
  obtain ⟨m, hm, h1, _⟩ := F.ownAt hl hx
  exact wpAny_Name (wpAny_loadName_local F.kind hx hm h1 h) hd
theorem ownsMem {x : Str} {a : Addr} {d : PyData} {ρ : Rho} (hl : ρ.lookup x = some (.own a d)) : a ∈ owns ρ := lookup_owns hl rfl

theorem Ex1.putDict {x : Str} {px pos' pos : Pos} {slice value : Expr} {a : Addr} {l : List (Str × PyData)} {key : Str} {d : PyData} (hl : ρ.lookup x = some (.own a (dct l))) (hx : env.kindOf x = some .local) (hall : ∀ b ∈ owns ρ, b = a) (h1 : Ev B k env ρ value d) (h2 : Ev B k env ρ slice (.str key)) (hsz : l.length ≤ 1000)
    (hd : (x == ("__debug__" : Str)) = false := by decide) (hs : swapsWith value (some (.Subscript (.Name x px) slice pos')) pos.line env = pure false := by rfl) :
    Ex1 B k env ρ (.Assign [.Subscript (.Name x px) slice pos'] value pos) (fun o => o = .nxt (setOwn (dct (dput l key d)) ρ)) := fun A Xc s rm F =>
  wpAny_Assign_Subscript (h1.bind rm F fun v s1 k1 F1 r1 => EvOwn F1 hl hx (h2.bind rm F1 fun w s2 k2 F2 r2 => by
    obtain ⟨t, rfl⟩ := r2.str_inv
    obtain ⟨m, hm, hmx, ro⟩ := F2.ownAt hl hx
    obtain ⟨a', kvs, e, hdo, hsy, hmm, hr⟩ := ro.dct_inv
    cases e
    have hlen : kvs.length = l.length := by have := congrArg List.length hmm; simpa using this
    refine wpAny_setItem_pairs (strKind_is B.prog B.w key t) hdo (fun h' hdo' hsb => ?_) (by rw [hlen, sizeLine_eq]; omega)
    have hk : ∀ b o, b ≠ a → s2.heap.get? b = some o → h'.get? b = some o := hsb.extBut
    have hX : a ∈ xs env Xc ρ := .tail _ (List.mem_append_left _ (ownsMem hl))
    have hkc : ∀ b o, b ∉ xs env Xc ρ → s2.heap.get? b = some o → Cont o → h'.get? b = some o := fun b o hb e _ => hk b o (fun q => hb (q ▸ hX)) e
    obtain ⟨p1, p2⟩ := dict_put (x := key) ((r1.kp F1.g k2).imp (fun _ h _ => h) hkc) hmm (hr.imp (fun _ h _ => h) hkc)
    obtain ⟨o', es', ep', ho', r1', hd', _⟩ := id hdo'
    obtain ⟨F3, k3⟩ := F2.mut (tk := s2.toks + 1) hall (ownsMem hl) hk (.dict hdo' hsy p1 p2) ⟨o', ho', .inr ⟨_, _, hd'⟩⟩
    exact ⟨_, rfl, rfl, F3, ((k1.trans k2).up).trans k3, fun b hb => .inl (owns_setOwn _ _ ▸ hb)⟩) hd) hs

theorem Ex1.append {x : Str} {px apos cpos pos : Pos} {e : Expr} {a : Addr} {ds : List PyData} {d : PyData} (hl : ρ.lookup x = some (.own a (.list ds))) (hx : env.kindOf x = some .local) (hall : ∀ b ∈ owns ρ, b = a) (h1 : Ev B k env ρ e d) (hsz : ds.length ≤ 1000)
    (hd : (x == ("__debug__" : Str)) = false := by decide) (hi : interactive env = false := by rfl)
    (hs : swapsWith (.Call (.Attribute (.Name x px) "append" apos) [e] [] cpos) Option.none pos.line env = pure false := by rfl)
    (hline : (apos.endLine == cpos.line) = true := by rfl)
    (hfew : ((backTo cpos (starEach [e] env)).all (fun x => !x.1) && (backToKw cpos (keywordEach [] env)).all (fun x => x.1.isSome)
      && decide ([e].length + ([] : List Keyword).length + (if ([] : List Keyword).isEmpty then 0 else 1) < 30)) = true := by rfl)
    (hst : starEach [e] env = [(false, eval e env)] := by rfl) :
    Ex1 B k env ρ (.Expr (.Call (.Attribute (.Name x px) "append" apos) [e] [] cpos) pos) (fun o => o = .nxt (setOwn (.list (ds ++ [d])) ρ)) := fun A Xc s rm F => by
  refine wpAny_Expr ?_ hi hs
  refine wpAny_Call_method (T := "list") (id := "list.append") rfl hfew hline PySem.F.plainAttrs_list PySem.F.slot_list_append PySem.F.type_list_append (EvOwn F hl hx ?_ hd)
  obtain ⟨m, hm, hmx, ro⟩ := F.ownAt hl hx
  obtain ⟨a', vs, e', hpl, hr⟩ := ro.list_inv
  cases e'
  refine ⟨hpl.isList.typeIs, fun b eb => by cases eb; obtain ⟨n, e⟩ := hpl; exact ⟨_, e, rfl⟩, ?_⟩
  rw [hst]
  refine callWith_bare (.fn _) rfl (Calls.spliced_cons (h1.bind rm F fun v s1 k1 F1 r1 => Calls.spliced_nil ?_))
  obtain ⟨m', hm', hmx', ro'⟩ := F1.ownAt hl hx
  obtain ⟨a', vs', e', hpl', hr'⟩ := ro'.list_inv
  cases e'
  have hlen := hr'.length
  refine wpAny_list_append_plain hpl' (fun h' hpl2 hsb => ?_) (by simp [sizeLine_eq]; omega)
  have hk : ∀ b o, b ≠ a → s1.heap.get? b = some o → h'.get? b = some o := hsb.extBut
  have hX : a ∈ xs env Xc ρ := .tail _ (List.mem_append_left _ (ownsMem hl))
  have hkc : ∀ b o, b ∉ xs env Xc ρ → s1.heap.get? b = some o → Cont o → h'.get? b = some o := fun b o hb e _ => hk b o (fun q => hb (q ▸ hX)) e
  have hpl3 : h'.PlainList a (vs' ++ [v]).toArray := by simpa using hpl2
  obtain ⟨n', en'⟩ := id hpl3
  obtain ⟨F3, k3⟩ := F1.mut (tk := s1.toks) hall (ownsMem hl) hk (.list hpl3 ((hr'.imp (fun _ h _ => h) hkc).append (.cons (r1.imp (fun _ h _ => h) hkc) .nil))) ⟨_, en', .inl ⟨_, _, rfl⟩⟩
  exact ⟨_, rfl, rfl, F3, k1.up.trans k3, fun b hb => .inl (owns_setOwn _ _ ▸ hb)⟩
end
end Mine
end
section
open PySem PySem.W PyProof.Rows
set_option linter.unusedVariables false
namespace Mine
section
variable {B : Bs} {env : Env} {ρ : Rho} {k : Nat} {Xc : List Addr} {X : List Addr} {h : Heap}

theorem Gd.big {h : Heap} (g : Gd B h) : (h.objs.size == sysModules) = false := by
  have : mainGlobals < h.objs.size := (B.T.g.keeps g.keep).lt
  have e : mainGlobals = 3 := rfl
  have e2 : sysModules = 1 := rfl
  rw [beq_eq_false_iff_ne, e2]
  rw [e] at this
  intro q
  have q' : h.objs.size = 1 := q
  have t' : (3 : Nat) < h.objs.size := this
  omega

/-! displays of dictionaries -/
theorem Ev.dict0 {pos : Pos} : Ev B k env ρ (.Dict [] [] pos) (dct []) := fun A Xc s rm F =>
  wpAny_Dict_empty ⟨.push s _ _, .dict (kvs := []) (l := []) (.new _) F.g.big (fresh_not F.alive) rfl .nil⟩
theorem Ev.dict1 {ke ve : Expr} {pos : Pos} {x : Str} {i : Int} (h1 : Ev B k env ρ ke (.str x)) (h2 : Ev B k env ρ ve (.int i)) : Ev B k env ρ (.Dict [some ke] [ve] pos) (dct [(x, .int i)]) := fun A Xc s rm F => by
  have F0 : Fok B env Xc ρ (s.heap.push { cls := .type "dict", data := .dict #[] }) := F.kp (.push s _ s.toks)
  refine wpAny_Dict_pairs (knd := strKind B.prog B.w) (pairs := [(eval ke env, do let x ← eval ve env; standAt pos; pure x)]) rfl (by simp) (by simp) (evalPairs_cons ?_)
  refine h1.bind (s := { s with heap := s.heap.push { cls := .type "dict", data := .dict #[] } }) rm F0 fun v s1 k1 F1 r1 => wpAny_bind (h2.bind rm F1 fun w s2 k2 F2 r2 => wpAny_bind (wpAny_standAt (wpAny_pure (evalPairs_nil ?_))))
  obtain ⟨t, rfl⟩ := r1.str_inv
  have hd0 : (s.heap.push { cls := .type "dict", data := .dict #[] }).DictOf (strKind B.prog B.w) s.heap.objs.size [] := .new _
  have k12 := k1.trans k2
  have hd2 : s2.heap.DictOf (strKind B.prog B.w) s.heap.objs.size [] := by
    obtain ⟨o, es, ep, ho, r, hd, rr⟩ := hd0
    exact ⟨o, es, ep, kpCont (X := []) F0.g k12 MuX.nil _ o (fun h => nomatch h) ho (.inr ⟨_, _, hd⟩), r, hd, rr⟩
  refine ⟨[(x, w)], ⟨strKind_is B.prog B.w x t, rfl, trivial⟩, hd2, fun h' hd' hsb => ?_⟩
  have hk : ∀ b o, b ≠ s.heap.objs.size → s2.heap.get? b = some o → h'.get? b = some o := hsb.extBut
  obtain ⟨o2, es2, ep2, ho2, r2', hdd2, _⟩ := id hd2
  obtain ⟨o', es', ep', ho', _, hdd', _⟩ := id hd'
  have hfresh : s.heap.objs.size ∉ xs env Xc ρ := fresh_not F.alive
  have hmer : merged [] [(x, w)] = [(x, w)] := by simp [merged, stored]
  rw [hmer] at hd'
  have hB : B.hB.get? s.heap.objs.size = Option.none := F.g.above (Nat.le_refl _)
  have kall : Kp B [] s { s2 with heap := h', toks := s2.toks + 1 } := by
    have kp0 : Kp B [] s { s with heap := s.heap.push { cls := .type "dict", data := .dict #[] } } := .push s _ s.toks
    have k02 := kp0.trans k12
    have kb : Kp B [s.heap.objs.size] s2 { s2 with heap := h', toks := s2.toks + 1 } := .but (.head _) hB ho2 (notcode_dict hdd2) hk (by rw [ho']; rfl)
    refine ⟨fun b o _ ht e => kb.keep b o (fun hm => ?_) ht (k02.keep b o (fun h => nomatch h) ht e), fun g => kb.gd (k02.gd g), fun b h => kb.alive b (k02.alive b h), kb.gens.trans k02.gens, kb.os.trans k02.os⟩
    rw [List.mem_singleton.mp hm] at e
    exact absurd (Heap.lt_size e) (Nat.lt_irrefl _)
  obtain ⟨u, rfl⟩ := r2.int_inv
  exact ⟨kall, .dict (kvs := [(x, .int i u)]) (l := [(x, .int i)]) hd' F.g.big hfresh rfl (.cons (.int i u) .nil)⟩

/-- an owned object is from here on a plain value -/
theorem Fok.freeze {x : Str} {a : Addr} {d : PyData} {ρ' : Rho} (F : Fok B env Xc ρ h) (hl : ρ.lookup x = some (.own a d)) (ho : owns ρ' = []) (hs : ∀ p ∈ ρ', (p.1 = x ∧ p.2 = .val d) ∨ (p.1 ≠ x ∧ ρ.lookup p.1 = some p.2)) : Fok B env Xc ρ' h := by
  obtain ⟨hB, hXc, hL, o, e, hcont⟩ := F.fo a (ownsMem hl)
  have hsub : ∀ b, b ∈ xs env Xc ρ' → b ∈ xs env Xc ρ := by
    intro b hb
    simp only [xs, ho, List.nil_append, List.mem_cons, List.mem_append] at hb ⊢
    rcases hb with h | h
    · exact .inl h
    · exact .inr (.inr h)
  have ha : a ∉ xs env Xc ρ' := by
    simp only [xs, ho, List.nil_append, List.mem_cons, not_or]
    exact ⟨hL, hXc⟩
  have key : ∀ v sl y, ρ'.lookup y = some sl → (∀ s0, ρ.lookup y = some s0 → SRep B (xs env Xc ρ) h v s0) → SRep B (xs env Xc ρ') h v sl := by
    intro v sl y hy hv
    rcases hs (y, sl) (Fok.sub.mem_lookup hy) with ⟨h1, h2⟩ | ⟨h1, h2⟩
    · simp only at h1 h2
      subst h1; subst h2
      obtain ⟨rfl, hr⟩ := hv _ hl
      show Rep B _ h (.ref a) d
      cases hr with
      | rep r => exact r.sub hsub
      | list hpl hr => exact .list hpl ha (hr.sub hsub)
      | dict h1 h2 h3 h4 => exact .dict h1 h2 ha h3 (h4.sub hsub)
    · have hr := hv sl h2
      cases sl with
      | raw w => exact hr
      | val e => exact Rep.sub hr hsub
      | own b e =>
        have : b ∈ owns ρ' := lookup_owns hy rfl
        rw [ho] at this; cases this
  have look : ∀ y sl, ρ'.lookup y = some sl → ∃ s0, ρ.lookup y = some s0 := by
    intro y sl hy
    rcases hs (y, sl) (Fok.sub.mem_lookup hy) with ⟨h1, _⟩ | ⟨_, h2⟩
    · simp only at h1; subst h1; exact ⟨_, hl⟩
    · exact ⟨_, h2⟩
  refine ⟨F.g, F.xin, F.kind, F.glob, F.bi, ?_, F.cel, fun y sl hy hc => ?_, F.fl, F.fc, fun b hb => by rw [ho] at hb; cases hb⟩
  · obtain ⟨m, hm, hv⟩ := F.loc
    refine ⟨m, hm, fun y sl hy hk => ?_⟩
    obtain ⟨s0, hs0⟩ := look y sl hy
    obtain ⟨v, h1, h2⟩ := hv y s0 hs0 hk
    exact ⟨v, h1, key v sl y hy fun s1 e1 => by rw [hs0] at e1; cases e1; exact h2⟩
  · obtain ⟨s0, hs0⟩ := look y sl hy
    obtain ⟨c, v, h1, h2, h3⟩ := F.celv y s0 hs0 hc
    exact ⟨c, v, h1, h2, key v sl y hy fun s1 e1 => by rw [hs0] at e1; cases e1; exact h3⟩
theorem Ex.freeze {ss : List Stmt} {x : Str} {a : Addr} {d : PyData} {ρ' : Rho} {Post : Out → Prop} (h : Ex B k env ρ' ss Post) (hl : ρ.lookup x = some (.own a d)) (ho : owns ρ' = []) (hs : ∀ p ∈ ρ', (p.1 = x ∧ p.2 = .val d) ∨ (p.1 ≠ x ∧ ρ.lookup p.1 = some p.2)) : Ex B k env ρ ss Post := fun A Xc s rm F =>
  wpAny_mono (h A Xc s rm (F.freeze hl ho hs)) (fun f s1 ⟨o, hp, hr⟩ => ⟨o, hp, Res.trans F (.refl s) (fun a ha => by rw [ho] at ha; cases ha) hr⟩) fun _ _ h => h

/-! new owned objects -/
variable (B) in
noncomputable def EvF (k : Nat) (env : Env) (ρ : Rho) (e : Expr) (d : PyData) : Prop :=
  ∀ A Xc s, Rm k A → Fok B env Xc ρ s.heap → wpAny B.M A (eval e env) (fun v s' => Kp B [] s s' ∧ ∃ a, v = .ref a ∧ s.heap.get? a = Option.none ∧ RepO B (a :: xs env Xc ρ) s'.heap v d ∧ ∃ o, s'.heap.get? a = some o ∧ Cont o) (fun _ _ => False) s
theorem fresh_none (h : Heap) : h.get? h.objs.size = none := Heap.get?_none_of_le (Nat.le_refl _)
theorem EvF.list0 {pos : Pos} : EvF B k env ρ (.List [] pos) (.list []) := fun A Xc s rm F =>
  wpAny_List (wpAny_items_nil ⟨by rw [sizeLine_eq]; simp, .push s _ s.toks, _, rfl, fresh_none _, .list (vs := []) ⟨_, Heap.get?_push_size _ rfl⟩ .nil, _, Heap.get?_push_size _ rfl, .inl ⟨_, _, rfl⟩⟩)
theorem EvF.dict0 {pos : Pos} : EvF B k env ρ (.Dict [] [] pos) (dct []) := fun A Xc s rm F =>
  wpAny_Dict_empty ⟨.push s _ _, _, rfl, fresh_none _, .dict (kvs := []) (l := []) (.new _) F.g.big rfl .nil, _, Heap.get?_push_size _ rfl, .inr ⟨_, _, rfl⟩⟩

/-- the frame with one more address shut out -/
theorem Fok.shut {s s' : Shared} {a : Addr} (F : Fok B env Xc ρ s.heap) (k : Kp B [] s s') (ha : s.heap.get? a = none) (ha' : (s'.heap.get? a).isSome = true) : Fok B env (a :: Xc) ρ s'.heap := by
  have hx : ∀ b, b ∈ xs env (a :: Xc) ρ → b ∈ xs env Xc ρ ∨ s.heap.get? b = none := by
    intro b hb
    simp only [xs, List.mem_cons, List.mem_append] at hb ⊢
    rcases hb with h | h | rfl | h
    · exact .inl (.inl h)
    · exact .inl (.inr (.inl h))
    · exact .inr ha
    · exact .inl (.inr (.inr h))
  have F' := F.kp k
  have hr : ∀ v sl, SRep B (xs env Xc ρ) s.heap v sl → SRep B (xs env (a :: Xc) ρ) s'.heap v sl := by
    intro v sl r
    have hk : ∀ b o, s.heap.get? b = some o → Cont o → s'.heap.get? b = some o := fun b o e c => kpCont (X := []) F.g k MuX.nil b o (fun h => nomatch h) e c
    have : SRep B (xs env (a :: Xc) ρ) s.heap v sl := by
      cases sl with
      | raw w => exact r
      | val d => exact Rep.more r hx
      | own c d =>
        obtain ⟨rfl, r⟩ := r
        refine ⟨rfl, ?_⟩
        cases r with
        | rep r => exact .rep (r.more hx)
        | list hl hr => exact .list hl (hr.more hx)
        | dict h1 h2 h3 h4 => exact .dict h1 h2 h3 (h4.more hx)
    exact this.imp hk
  refine ⟨F'.g, fun b hb => ?_, F.kind, F.glob, F.bi, ?_, F'.cel, fun y sl hy hc => ?_, F.fl, F.fc, fun b hb => ?_⟩
  · rcases List.mem_cons.mp hb with rfl | hb
    · exact ha'
    · exact F'.xin b hb
  · obtain ⟨m, hm, hv⟩ := F.loc
    obtain ⟨o, es, ep, e, hd, r⟩ := hm
    refine ⟨m, ⟨o, es, ep, kpCont (X := []) F.g k MuX.nil _ o (fun h => nomatch h) e (.inr ⟨_, _, hd⟩), hd, r⟩, fun y sl hy hl => ?_⟩
    obtain ⟨v, h1, h2⟩ := hv y sl hy hl
    exact ⟨v, h1, hr v sl h2⟩
  · obtain ⟨c, v, h1, h2, h3⟩ := F.celv y sl hy hc
    obtain ⟨o, e, hd⟩ := h2
    exact ⟨c, v, h1, ⟨o, k.keep c o (fun h => nomatch h) (fun t ht q => by
      obtain ⟨ps, h1, _⟩ := F.g.tab t ht; rw [← q, e] at h1; cases h1; cases hd) e, hd⟩, hr v sl h3⟩
  · obtain ⟨h1, h2, h3, o, e, hc⟩ := F.fo b hb
    obtain ⟨_, _, _, o', e', hc'⟩ := F'.fo b hb
    exact ⟨h1, fun q => by
      rcases List.mem_cons.mp q with rfl | q
      · rw [ha] at e; cases e
      · exact h2 q, h3, o', e', hc'⟩

theorem storeOwn {A : Around} {s : Shared} {x : Str} {a : Addr} {d : PyData} {E : Value → Shared → Prop} (hx : env.kindOf x = some .local) (F : Fok B env (a :: Xc) ρ s.heap) (hno : owns ρ = []) (haX : a ∉ Xc) (hB : B.hB.get? a = none) (haL : a ≠ env.locals) (r : RepO B (xs env (a :: Xc) ρ) s.heap (.ref a) d) (ho : ∃ o, s.heap.get? a = some o ∧ Cont o) :
    wpAny B.M A (storeName env x (.ref a)) (fun _ s' => Fok B env Xc ((x, .own a d) :: ρ) s'.heap ∧ Kp B (mu env ρ) s s') E s := by
  obtain ⟨m, hm, hv⟩ := F.loc
  refine wpAny_storeName_local hx hm (fun h' hn' hs' => ?_) (by rw [F.kind]; rfl)
  obtain ⟨oL, es, ep, eL, hdL, _⟩ := id hm
  obtain ⟨oL', es', ep', eL', hdL', _⟩ := id hn'
  have hk : ∀ b o, b ≠ env.locals → s.heap.get? b = some o → h'.get? b = some o := hs'.extBut
  have hX : env.locals ∈ xs env (a :: Xc) ρ := .head _
  have hxs : xs env Xc ((x, .own a d) :: ρ) = xs env (a :: Xc) ρ := by
    have : owns ((x, .own a d) :: ρ) = a :: owns ρ := rfl
    simp only [xs, this, hno, List.nil_append, List.cons_append]
  have hg : Gd B h' := F.g.but F.fl eL (notcode_dict hdL) hk
  have hkc : ∀ b o, b ∉ xs env (a :: Xc) ρ → s.heap.get? b = some o → Cont o → h'.get? b = some o := fun b o hb e _ => hk b o (fun q => hb (q ▸ hX)) e
  have hr : RepO B (xs env (a :: Xc) ρ) h' (.ref a) d := by
    cases r with
    | rep r => exact .rep (r.imp (fun _ h _ => h) hkc)
    | list hl hr => exact .list (let ⟨n, e⟩ := hl; ⟨n, hk _ _ haL e⟩) (hr.imp (fun _ h _ => h) hkc)
    | dict h1 h2 h3 h4 =>
      obtain ⟨o, es, ep, e, r⟩ := h1
      exact .dict ⟨o, es, ep, hk _ _ haL e, r⟩ h2 h3 (h4.imp (fun _ h _ => h) hkc)
  refine ⟨⟨hg, fun b hb => alive_but F.xin hk (by rw [eL']; rfl) b (.tail _ hb), F.kind, F.glob, F.bi, ⟨_, hn', fun y sl hy hl => ?_⟩, fun p hp => ?_, fun y sl hy hc => ?_, F.fl, F.fc, fun b hb => ?_⟩, .but (.head _) F.fl eL (notcode_dict hdL) hk (by rw [eL']; rfl)⟩
  · rw [hxs]
    rw [List.lookup_cons] at hy
    by_cases q : y = x
    · subst q
      rw [beq_self_eq_true] at hy
      cases hy
      exact ⟨.ref a, if_pos rfl, rfl, hr⟩
    · rw [beq_eq_false_iff_ne.mpr q] at hy
      obtain ⟨w, h1, h2⟩ := hv y sl hy hl
      exact ⟨w, by rw [if_neg q]; exact h1, h2.but hk (.inl hX) fun b hb => (F.fo b (lookup_owns hy hb)).2.2.1⟩
  · obtain ⟨w, o, e, hd⟩ := F.cel p hp
    exact ⟨w, o, hk _ _ (fun q => by rw [q, eL] at e; cases e; rw [hdL] at hd; cases hd) e, hd⟩
  · rw [hxs]
    rw [List.lookup_cons] at hy
    by_cases q : y = x
    · subst q; rw [hx] at hc; rcases hc with hc | hc <;> cases hc
    · rw [beq_eq_false_iff_ne.mpr q] at hy
      obtain ⟨c, w, h1, ⟨o, e, hd⟩, h3⟩ := F.celv y sl hy hc
      exact ⟨c, w, h1, ⟨o, hk _ _ (fun q => by rw [q, eL] at e; cases e; rw [hdL] at hd; cases hd) e, hd⟩, h3.but hk (.inl hX) fun b hb => (F.fo b (lookup_owns hy hb)).2.2.1⟩
  · have : b = a := by
      have hb' : b ∈ a :: owns ρ := hb
      rw [hno] at hb'; exact List.mem_singleton.mp hb'
    subst this
    obtain ⟨o, e, hc⟩ := ho
    exact ⟨hB, haX, haL, o, hk _ _ haL e, hc⟩

theorem Ex1.setNew {x : Str} {pos' pos : Pos} {value : Expr} {d : PyData} (h : EvF B k env ρ value d) (hx : env.kindOf x = some .local) (hno : owns ρ = [] := by rfl) (hs : swapsWith value (some (.Name x pos')) pos.line env = pure false := by rfl) :
    Ex1 B k env ρ (.Assign [.Name x pos'] value pos) (fun o => ∃ a, o = .nxt ((x, .own a d) :: ρ)) := fun A Xc s rm F => by
  refine wpAny_Assign_Name (wpAny_mono (h A Xc s rm F) (fun v s1 ⟨k1, a, hv, ha, hr, ho⟩ => ?_) fun _ _ h => h) hs
  subst hv
  have haX : a ∉ xs env Xc ρ := fun hm => by have := F.alive a hm; rw [ha] at this; cases this
  have hB : B.hB.get? a = none := by
    cases e : B.hB.get? a with
    | none => rfl
    | some o => rw [F.g.keep _ _ e] at ha; cases ha
  have F1 := F.shut k1 ha (by obtain ⟨o, e, _⟩ := ho; rw [e]; rfl)
  have hr' : RepO B (xs env (a :: Xc) ρ) s1.heap (.ref a) d := by
    have hsub : ∀ b, b ∈ xs env (a :: Xc) ρ → b ∈ a :: xs env Xc ρ := by
      intro b hb
      simp only [xs, List.mem_cons, List.mem_append] at hb ⊢
      rcases hb with h | h | h | h
      · exact .inr (.inl h)
      · exact .inr (.inr (.inl h))
      · exact .inl h
      · exact .inr (.inr (.inr h))
    cases hr with
    | rep r => exact .rep (r.sub hsub)
    | list hl hr => exact .list hl (hr.sub hsub)
    | dict h1 h2 h3 h4 => exact .dict h1 h2 h3 (h4.sub hsub)
  refine wpAny_mono (storeOwn (E := fun _ _ => False) hx F1 hno (fun q => haX (.tail _ (List.mem_append_right _ q))) hB (fun q => haX (q ▸ .head _)) hr' ho) (fun _ s2 ⟨F2, k2⟩ => ?_) fun _ _ h => h
  refine ⟨_, ⟨a, rfl⟩, rfl, F2, k1.up.trans k2, fun b hb => ?_⟩
  have : b = a := by
    have hb' : b ∈ a :: owns ρ := hb
    rw [hno] at hb'; exact List.mem_singleton.mp hb'
  exact .inr (this ▸ ha)
end
end Mine
end
section
open PySem PySem.W PyProof.Rows
set_option linter.unusedVariables false
namespace Mine
section
variable {B : Bs} {env : Env} {ρ : Rho} {k : Nat} {Xc : List Addr} {X : List Addr} {h : Heap}

theorem hkc_of {s : Shared} {h' : Heap} {a : Addr} (hX : a ∈ xs env Xc ρ) (hk : ∀ b o, b ≠ a → s.heap.get? b = some o → h'.get? b = some o) : ∀ b o, b ∉ xs env Xc ρ → s.heap.get? b = some o → Cont o → h'.get? b = some o := fun b o hb e _ => hk b o (fun q => hb (q ▸ hX)) e
theorem Reps.erase {vs : List Value} {ds : List PyData} (r : Reps B X h vs ds) (i : Nat) : Reps B X h (vs.eraseIdx i) (ds.eraseIdx i) := by
  match r, i with
  | .nil, _ => simpa using Reps.nil
  | .cons _ r, 0 => simpa using r
  | .cons a r, i + 1 => simpa using Reps.cons a (Reps.erase r i)
theorem Reps.set {vs : List Value} {ds : List PyData} (r : Reps B X h vs ds) (i : Nat) {v : Value} {d : PyData} (hv : Rep B X h v d) : Reps B X h (vs.set i v) (ds.set i d) := by
  match r, i with
  | .nil, _ => simpa using Reps.nil
  | .cons _ r, 0 => simpa using Reps.cons hv r
  | .cons a r, i + 1 => simpa using Reps.cons a (Reps.set r i hv)

/-- del x[i], i written: 0 or -1 -/
theorem Ex1.del {x : Str} {px pos' pos : Pos} {slice : Expr} {a : Addr} {ds : List PyData} {i : Int} {j : Nat} (hl : ρ.lookup x = some (.own a (.list ds))) (hx : env.kindOf x = some .local) (hall : ∀ b ∈ owns ρ, b = a) (h2 : Ev B k env ρ slice (.int i)) (hj : seqIndex? i ds.length = some j) (hfit : Builtin.List.listFitsIndex i = true) (hsz : ds.length ≤ 1000)
    (hd : (x == ("__debug__" : Str)) = false := by decide) :
    Ex1 B k env ρ (.Delete [.Subscript (.Name x px) slice pos'] pos) (fun o => o = .nxt (setOwn (.list (ds.eraseIdx j)) ρ)) := fun A Xc s rm F =>
  wpAny_Delete (wpAny_deleteEach_cons (wpAny_delete_Subscript (EvOwn F hl hx (h2.bind rm F fun w s2 k2 F2 r2 => by
    obtain ⟨t, rfl⟩ := r2.int_inv
    obtain ⟨m, hm, hmx, ro⟩ := F2.ownAt hl hx
    obtain ⟨a', vs, e, hpl, hr⟩ := ro.list_inv
    cases e
    have hlen := hr.length
    refine wpAny_delItem_plain hpl hfit (k := j) (by simpa [hlen] using hj) (fun h' hpl2 hsb => wpAny_deleteEach_nil ?_) (by simp [sizeLine_eq]; omega)
    have hk : ∀ b o, b ≠ a → s2.heap.get? b = some o → h'.get? b = some o := hsb.extBut
    have hX : a ∈ xs env Xc ρ := .tail _ (List.mem_append_left _ (ownsMem hl))
    have hpl3 : h'.PlainList a (vs.eraseIdx j).toArray := by simpa using hpl2
    obtain ⟨n', en'⟩ := id hpl3
    obtain ⟨F3, k3⟩ := F2.mut (tk := s2.toks) hall (ownsMem hl) hk (.list hpl3 ((hr.imp (fun _ h _ => h) (hkc_of hX hk)).erase j)) ⟨_, en', .inl ⟨_, _, rfl⟩⟩
    exact ⟨_, rfl, rfl, F3, k2.up.trans k3, fun b hb => .inl (owns_setOwn _ _ ▸ hb)⟩) hd)))

theorem mapSeq_set_plain (its : Array Value) (n j : Nat) (x : Value) :
    Obj.mapSeq (·.setIfInBounds j x) { cls := .type "list", data := .seq its n } = { cls := .type "list", data := .seq (its.setIfInBounds j x) n } := by
  simp [Obj.mapSeq]
theorem setItem_plain_last {prog : Program} {w : World} {A : Around} {E : Value → Shared → Prop} {s : Shared} {l : Addr} {items : Array Value} {t : Tok} {v : Value} {Q : Unit → Shared → Prop} (hl : s.heap.PlainList l items)
    (hn : 0 < items.size)
    (hQ : ∀ h', h'.PlainList l (items.setIfInBounds (items.size - 1) v) → Heap.SameBut l s.heap h' → Q () { s with heap := h' }) :
    wpAny (model prog w) A (setItem (.ref l) (.int (-1) t) v) Q E s := by
  obtain ⟨n, ho⟩ := id hl
  have hT := hl.isList.typeIs
  unfold setItem
  try with_reducible refine wpAny_holding ?_
  first | refine wpAny_bind (wpAny_pure ?_) | skip
  refine wpAny_bind (wpAny_sequenceKey hT (by decide) ?_)
  refine wpAny_bind (wpAny_callSpecial?_slot (name := Str.ofString "__setitem__") hT slot_list_setitem
    (wpAny_call_entry slot_list_setitem hT entry_list_setitem ?_ (args_list_setitem _ _ _)))
  show wpAny _ _ (Builtin.List.listSubscript? (.int (-1) t) >>= _) _ _ s
  refine wpAny_bind (wpAny_listSubscript_int (fitsIndex_neg (by omega) (by omega)) ?_)
  have hidx : seqIndex? (-1) items.size = some (items.size - 1) := by
    rw [seqIndex_neg (by omega) (by omega)]
    congr 1; omega
  show wpAny _ _ ((Builtin.List.listItems (.ref l) >>= fun xs => pure ((seqIndex? (Int.negSucc 0) xs.size).bind fun i => xs[i]?.map (i, ·))) >>= _) _ _ s
  refine wpAny_bind (wpAny_bind ?_)
  show wpAny _ _ (seqItems? (.ref l) >>= _) _ _ s
  refine wpAny_bind (wpAny_seqItems ho rfl (wpAny_pure (wpAny_pure ?_)))
  have hx : items[items.size - 1]? = some items[items.size - 1] := Array.getElem?_eq_getElem (by omega)
  rw [show (Int.negSucc 0) = (-1 : Int) from rfl, hidx]
  simp only [Option.bind_some, hx, Option.map_some]
  refine wpAny_bind (wpAny_setSeqItemAt ho rfl ?_)
  have hfin : (s.heap.update l (Obj.mapSeq (·.setIfInBounds (items.size - 1) v))).PlainList l (items.setIfInBounds (items.size - 1) v) :=
    ⟨n, by rw [Heap.get?_update_self _ ho (by rw [mapSeq_set_plain]; rfl), mapSeq_set_plain]⟩
  first
    | exact wpAny_bind (wpAny_pure (wpAny_pure ⟨.none, rfl, wpAny_pure (hQ _ hfin (Heap.SameBut.update ..))⟩))
    | exact wpAny_pure ⟨.none, rfl, wpAny_pure (hQ _ hfin (Heap.SameBut.update ..))⟩
theorem Ex1.setLast {x : Str} {px pos' pos : Pos} {slice value : Expr} {a : Addr} {ds : List PyData} {d : PyData} (hl : ρ.lookup x = some (.own a (.list ds))) (hx : env.kindOf x = some .local) (hall : ∀ b ∈ owns ρ, b = a) (h1 : Ev B k env ρ value d) (h2 : Ev B k env ρ slice (.int (-1))) (hne : 0 < ds.length)
    (hd : (x == ("__debug__" : Str)) = false := by decide) (hs : swapsWith value (some (.Subscript (.Name x px) slice pos')) pos.line env = pure false := by rfl) :
    Ex1 B k env ρ (.Assign [.Subscript (.Name x px) slice pos'] value pos) (fun o => o = .nxt (setOwn (.list (ds.set (ds.length - 1) d)) ρ)) := fun A Xc s rm F =>
  wpAny_Assign_Subscript (h1.bind rm F fun v s1 k1 F1 r1 => EvOwn F1 hl hx (h2.bind rm F1 fun w s2 k2 F2 r2 => by
    obtain ⟨t, rfl⟩ := r2.int_inv
    obtain ⟨m, hm, hmx, ro⟩ := F2.ownAt hl hx
    obtain ⟨a', vs, e, hpl, hr⟩ := ro.list_inv
    cases e
    have hlen := hr.length
    refine setItem_plain_last hpl (by simp; omega) (fun h' hpl2 hsb => ?_)
    have hk : ∀ b o, b ≠ a → s2.heap.get? b = some o → h'.get? b = some o := hsb.extBut
    have hX : a ∈ xs env Xc ρ := .tail _ (List.mem_append_left _ (ownsMem hl))
    have hpl3 : h'.PlainList a (vs.set (ds.length - 1) v).toArray := by simpa [hlen] using hpl2
    obtain ⟨n', en'⟩ := id hpl3
    obtain ⟨F3, k3⟩ := F2.mut (tk := s2.toks) hall (ownsMem hl) hk (.list hpl3 ((hr.imp (fun _ h _ => h) (hkc_of hX hk)).set _ (((r1.kp F1.g k2)).imp (fun _ h _ => h) (hkc_of hX hk)))) ⟨_, en', .inl ⟨_, _, rfl⟩⟩
    exact ⟨_, rfl, rfl, F3, ((k1.trans k2).up).trans k3, fun b hb => .inl (owns_setOwn _ _ ▸ hb)⟩) hd) hs
theorem Ex1.augDict {x : Str} {px pos' pos : Pos} {slice value : Expr} {a : Addr} {l : List (Str × PyData)} {key : Str} {i j : Int} (hl : ρ.lookup x = some (.own a (dct l))) (hx : env.kindOf x = some .local) (hall : ∀ b ∈ owns ρ, b = a) (h2 : Ev B k env ρ slice (.str key)) (hg : dget l key = some (.int i)) (h1 : Ev B k env ρ value (.int j)) (hsz : l.length ≤ 1000)
    (hd : (x == ("__debug__" : Str)) = false := by decide) (ha : ∀ ov iv new, augStore slice ov iv new = (do holding [new, ov, iv] (setItem ov iv new); release [new, ov, iv] []; pure .next) := by intros; rfl) :
    Ex1 B k env ρ (.AugAssign (.Subscript (.Name x px) slice pos') .Add value pos) (fun o => o = .nxt (setOwn (dct (dput l key (.int (i + j)))) ρ)) := fun A Xc s rm F =>
  wpAny_AugAssign_SubscriptAny (EvOwn F hl hx (h2.bind rm F fun w s1 k1 F1 r1 => by
    obtain ⟨t, rfl⟩ := r1.str_inv
    obtain ⟨m, hm, hmx, ro⟩ := F1.ownAt hl hx
    obtain ⟨a', kvs, e, hdo, hsy, hmm, hr⟩ := ro.dct_inv
    cases e
    rcases dict_get hmm hr key with ⟨_, q⟩ | ⟨v0, d0, e1, e2, e3⟩
    · rw [hg] at q; cases q
    rw [hg] at e2; cases e2
    obtain ⟨t0, rfl⟩ := e3.int_inv
    refine wpAny_getItem_of (strKind_is B.prog B.w key t) hdo.mapOf e1 ?_
    have F1' : Fok B env Xc ρ ({ s1 with toks := s1.toks + 1 } : Shared).heap := F1
    refine h1.bind (s := { s1 with toks := s1.toks + 1 }) rm F1' fun v s2 k2 F2 r2 => ?_
    obtain ⟨u, rfl⟩ := r2.int_inv
    refine iadd_int ?_
    obtain ⟨m', hm', hmx', ro'⟩ := F2.ownAt hl hx
    obtain ⟨a', kvs', e, hdo', hsy', hmm', hr'⟩ := ro'.dct_inv
    cases e
    have hlen : kvs'.length = l.length := by have := congrArg List.length hmm'; simpa using this
    refine wpAny_setItem_pairs (s := { s2 with toks := s2.toks + 1 }) (strKind_is B.prog B.w key t) hdo' (fun h' hdo2 hsb => ?_) (by rw [hlen, sizeLine_eq]; omega)
    have hk : ∀ b o, b ≠ a → s2.heap.get? b = some o → h'.get? b = some o := hsb.extBut
    have hX : a ∈ xs env Xc ρ := .tail _ (List.mem_append_left _ (ownsMem hl))
    obtain ⟨p1, p2⟩ := dict_put (x := key) (.int (i + j) s2.toks) hmm' (hr'.imp (fun _ h _ => h) (hkc_of hX hk))
    obtain ⟨o', es', ep', ho', r1', hd', _⟩ := id hdo2
    obtain ⟨F3, k3⟩ := F2.mut (tk := s2.toks + 1 + 1) hall (ownsMem hl) hk (.dict hdo2 hsy' p1 p2) ⟨o', ho', .inr ⟨_, _, hd'⟩⟩
    refine ⟨_, rfl, rfl, F3, ((k1.trans (.tk s1 _)).trans k2).up.trans k3, fun b hb => .inl (owns_setOwn _ _ ▸ hb)⟩) hd) ha
end
end Mine
end
section
open PySem PySem.W PyProof.Rows
set_option linter.unusedVariables false
namespace Mine
section
variable {B : Bs} {env : Env} {ρ : Rho} {k : Nat} {Xc : List Addr} {X : List Addr} {h : Heap}

theorem RepO.sub {X X' : List Addr} {h : Heap} {v : Value} {d : PyData} (x : RepO B X h v d) (hX : ∀ a, a ∈ X' → a ∈ X) : RepO B X' h v d := by
  cases x with
  | rep r => exact .rep (r.sub hX)
  | list hl hr => exact .list hl (hr.sub hX)
  | dict h1 h2 h3 h4 => exact .dict h1 h2 h3 (h4.sub hX)
theorem RepO.imp {X : List Addr} {h h' : Heap} {a : Addr} {d : PyData} {o : Obj} (x : RepO B X h (.ref a) d) (e : h.get? a = some o) (e' : h'.get? a = some o) (hk : ∀ b o, b ∉ X → h.get? b = some o → Cont o → h'.get? b = some o) : RepO B X h' (.ref a) d := by
  cases x with
  | rep r => exact .rep (r.imp (fun _ h _ => h) hk)
  | list hl hr => exact .list (let ⟨n, q⟩ := hl; ⟨n, by rw [e', ← e, q]⟩) (hr.imp (fun _ h _ => h) hk)
  | dict h1 h2 h3 h4 =>
    obtain ⟨o2, es, ep, q, r⟩ := h1
    exact .dict ⟨o2, es, ep, by rw [e', ← e, q], r⟩ h2 h3 (h4.imp (fun _ h _ => h) hk)
/-! two or three targets at once -/
theorem unpackNew {A : Around} {s : Shared} {vs : List Value} {Q : List Value → Shared → Prop} {E : Value → Shared → Prop} (hh : A.handled = none) (h : ∀ s', Kp B [] s s' → Q vs s') :
    wpAny B.M A (unpackItems (.ref s.heap.objs.size) vs.length Option.none) Q E { s with heap := s.heap.push { cls := .type "tuple", data := .seq vs.toArray } } := by
  have ht : IsTup (s.heap.push { cls := .type "tuple", data := .seq vs.toArray }) s.heap.objs.size vs.toArray := IsTup.new _ _
  have := unpackItems_tuple (prog := B.prog) (w := B.w) (A := A) (E := E) (s := { s with heap := s.heap.push { cls := .type "tuple", data := .seq vs.toArray } }) (Q := Q) hh ht (fun h' he => by
    have k0 : Kp B [] s { s with heap := s.heap.push { cls := .type "tuple", data := .seq vs.toArray } } := .push s _ s.toks
    simpa using h _ (k0.trans (.ext he)))
  simpa using this
theorem Ex1.swap2 {x1 x2 : Str} {p1 p2 tpos vpos pos : Pos} {n m : Nat} {e1 e2 : Expr} {d1 d2 : PyData} (h1 : Ev B k env ρ e1 d1) (h2 : Ev B k env ρ e2 d2) (s2 : Sto B env x2 ρ d2) (s1 : Sto B env x1 ((x2, .val d2) :: ρ) d1)
    (hs : swapsWithSole [.Tuple [.Name x1 p1, .Name x2 p2] n tpos] (.Tuple [e1, e2] m vpos) pos.line env = pure false := by rfl)
    (hw : swappedStores [.Tuple [.Name x1 p1, .Name x2 p2] n tpos] (.Tuple [e1, e2] m vpos) env = pure (some [x1, x2]) := by rfl)
    (he1 : starEach [e1, e2] env = (false, eval e1 env) :: starEach [e2] env := by rfl) (he2 : starEach [e2] env = (false, eval e2 env) :: starEach [] env := by rfl) :
    Ex1 B k env ρ (.Assign [.Tuple [.Name x1 p1, .Name x2 p2] n tpos] (.Tuple [e1, e2] m vpos) pos) (fun o => o = .nxt ((x1, .val d1) :: (x2, .val d2) :: ρ)) := fun A Xc s rm F => by
  refine Assign_Tuple_swapped (names := [x1, x2]) (wpAny_Tuple ?_) hs hw
  refine wpAny_mono (Evs.cons h1 (Evs.cons h2 Evs.nil he2) he1 A Xc s vpos rm F) (fun vs s1' ⟨k1, r1⟩ => ?_) fun _ _ h => h
  have hl := r1.length
  cases r1 with | cons ra rb => cases rb with | cons rb rc => cases rc with | nil =>
    rename_i v1 v2 _
    refine ⟨by rw [sizeLine_eq]; simp, ?_⟩
    refine unpackNew (B := B) (vs := [v1, v2]) rm.handled fun s2' k2 => ?_
    have F1 := F.kp k1
    have F2 := F1.kp k2
    show wpAny _ _ (do holding [v1] (bindName env x2 v2); (do holding [] (bindName env x1 v1); pure ())) _ _ s2'
    refine wpAny_bind (wpAny_holding (wpAny_bindName (wpAny_mono (s2 A Xc s2' v2 (fun _ _ => False) F2 (rb.kp F1.g k2)) (fun _ s3 ⟨F3, k3⟩ => ?_) fun _ _ h => h)))
    refine wpAny_bind (wpAny_holding (wpAny_bindName (wpAny_mono (s1 A Xc s3 v1 (fun _ _ => False) F3 ((ra.kp F1.g k2).kp F2.g k3 F2.muX)) (fun _ s4 ⟨F4, k4⟩ => wpAny_pure ?_) fun _ _ h => h)))
    exact ⟨_, rfl, rfl, F4, ((k1.trans k2).up).trans (k3.trans k4), fun a ha => .inl ha⟩

/-- the first of two is a new object of the frame's own -/
theorem Ex1.swapNew2 {x1 x2 : Str} {p1 p2 tpos vpos pos : Pos} {n m : Nat} {e1 e2 : Expr} {d1 d2 : PyData} (h1 : EvF B k env ρ e1 d1) (h2 : Ev B k env ρ e2 d2) (s2 : env.kindOf x2 = some .local) (s1 : env.kindOf x1 = some .local) (hno : owns ρ = []) (hd2 : ∀ X h v, Rep B X h v d2 → ∀ X', Rep B X' h v d2)
    (hs : swapsWithSole [.Tuple [.Name x1 p1, .Name x2 p2] n tpos] (.Tuple [e1, e2] m vpos) pos.line env = pure false := by rfl)
    (hw : swappedStores [.Tuple [.Name x1 p1, .Name x2 p2] n tpos] (.Tuple [e1, e2] m vpos) env = pure (some [x1, x2]) := by rfl)
    (he1 : starEach [e1, e2] env = (false, eval e1 env) :: starEach [e2] env := by rfl) (he2 : starEach [e2] env = (false, eval e2 env) :: starEach [] env := by rfl) :
    Ex1 B k env ρ (.Assign [.Tuple [.Name x1 p1, .Name x2 p2] n tpos] (.Tuple [e1, e2] m vpos) pos) (fun o => ∃ a, o = .nxt ((x1, .own a d1) :: (x2, .val d2) :: ρ)) := fun A Xc s rm F => by
  refine Assign_Tuple_swapped (names := [x1, x2]) (wpAny_Tuple ?_) hs hw
  refine wpAny_items_cons (wpAny_mono (h1 A Xc s rm F) (fun v1 t1 ⟨k1, a, hv, ha, hr, ho⟩ => ?_) fun _ _ h => h) he1
  subst hv
  have F1 := F.kp k1
  refine wpAny_items_cons (h2.bind rm F1 fun v2 t2 k2 F2 r2 => wpAny_items_nil ?_) he2
  refine ⟨by rw [sizeLine_eq]; simp, ?_⟩
  refine unpackNew (B := B) (vs := [.ref a, v2]) rm.handled fun t3 k3 => ?_
  have k23 := k2.trans k3
  have kall := k1.trans k23
  have hBa : B.hB.get? a = none := by
    cases e : B.hB.get? a with
    | none => rfl
    | some o => rw [F.g.keep _ _ e] at ha; cases ha
  have haX : a ∉ xs env Xc ρ := fun hm => by have := F.alive a hm; rw [ha] at this; cases this
  obtain ⟨o1, e1', hc1⟩ := ho
  have e3 : t3.heap.get? a = some o1 := kpCont (X := []) F1.g k23 MuX.nil a o1 (fun h => nomatch h) e1' hc1
  have F3 := F.shut kall ha (by rw [e3]; rfl)
  have hsub : ∀ b, b ∈ xs env (a :: Xc) ρ → b ∈ a :: xs env Xc ρ := by
    intro b hb
    simp only [xs, List.mem_cons, List.mem_append] at hb ⊢
    rcases hb with h | h | h | h
    · exact .inr (.inl h)
    · exact .inr (.inr (.inl h))
    · exact .inl h
    · exact .inr (.inr (.inr h))
  have hro : RepO B (xs env (a :: Xc) ρ) t3.heap (.ref a) d1 := by
    have : RepO B (a :: xs env Xc ρ) t3.heap (.ref a) d1 := hr.kp F1.g k23
    exact this.sub hsub
  show wpAny _ _ (do holding [.ref a] (bindName env x2 v2); (do holding [] (bindName env x1 (.ref a)); pure ())) _ _ t3
  have r2' : Rep B (xs env (a :: Xc) ρ) t3.heap v2 d2 := hd2 _ _ _ (r2.kp F2.g k3) _
  refine wpAny_bind (wpAny_holding (wpAny_bindName (wpAny_mono (storeLocal (E := fun _ _ => False) s2 F3 r2') (fun _ t4 ⟨F4, k4⟩ => ?_) fun _ _ h => h)))
  have hX4 : MuX (xs env (a :: Xc) ρ) (mu env ρ) t3.heap := F3.muX
  have hka : t4.heap.get? a = some o1 := k4.keep a o1 (fun hm => by
      simp only [mu, hno, List.append_nil, List.mem_cons] at hm
      rcases hm with h | h
      · exact haX (h ▸ .head _)
      · obtain ⟨p, hp, q⟩ := cellsOf_mem h
        obtain ⟨v, o, e, hd⟩ := F3.cel p hp
        rw [q, e3] at e; cases e
        rcases hc1 with ⟨_, _, q⟩ | ⟨_, _, q⟩ <;> (rw [hd] at q; cases q)) (fun t ht => notTab (F3.g.tab t ht) e3 hc1) e3
  have hro4 : RepO B (xs env (a :: Xc) ((x2, .val d2) :: ρ)) t4.heap (.ref a) d1 := by
    show RepO B (xs env (a :: Xc) ρ) t4.heap (.ref a) d1
    have hkc := kpCont F3.g k4 hX4
    exact hro.imp e3 hka hkc
  refine wpAny_bind (wpAny_holding (wpAny_bindName (wpAny_mono (storeOwn (E := fun _ _ => False) s1 F4 hno (fun q => haX (.tail _ (List.mem_append_right _ q))) hBa (fun q => haX (q ▸ .head _)) hro4 ⟨o1, hka, hc1⟩) (fun _ t5 ⟨F5, k5⟩ => wpAny_pure ?_) fun _ _ h => h)))
  refine ⟨_, ⟨a, rfl⟩, rfl, F5, kall.up.trans (k4.trans k5), fun b hb => ?_⟩
  have : b = a := by
    have hb' : b ∈ a :: owns ρ := hb
    rw [hno] at hb'; exact List.mem_singleton.mp hb'
  exact .inr (this ▸ ha)

/-! while -/
theorem Ex1.while {test : Expr} {body : List Stmt} {pos : Pos} {Post : Out → Prop} (J : Nat → Rho → Prop) (n : Nat) (h0 : J n ρ) (hown : ∀ n ρ', J n ρ' → ∀ a ∈ owns ρ', a ∈ owns ρ)
    (hstep : ∀ n ρ', J n ρ' → ∃ b, Tst B k env ρ' test b ∧ (b = true → Ex B k env ρ' body (fun o => match o with | .nxt ρ2 => ∃ m, m < n ∧ J m ρ2 | .ret d => Post (.ret d))) ∧ (b = false → Post (.nxt ρ'))) :
    Ex1 B k env ρ (.While test body [] pos) Post := fun A Xc s rm F => by
  refine wpAny_While ?_
  have key : codeAny B.M A (.whileLoop test body [] env) (fun r s' => ∃ f o, r = .ok f ∧ Post o ∧ Res B env Xc ρ s f s' o) s := by
    refine codeAny_whileLoop (fun n s' => ∃ ρ', J n ρ' ∧ Fok B env Xc ρ' s'.heap ∧ Kp B (mu env ρ) s s') ?_ n ⟨ρ, h0, F, .refl s⟩
    rintro n s1 ⟨ρ', hJ, F1, k1⟩
    obtain ⟨b, ht, hb1, hb2⟩ := hstep n ρ' hJ
    refine ht.bind rm F1 fun s2 k2 F2 => ?_
    have k12 : Kp B (mu env ρ) s s2 := k1.trans k2.up
    cases b with
    | true =>
      refine wpAny_mono (hb1 rfl A Xc s2 rm F2) (fun f s3 ⟨o, hp, hr⟩ => ?_) fun _ _ h => h.elim
      cases o with
      | nxt ρ2 =>
        obtain ⟨rfl, F3, k3, ho⟩ := hr
        obtain ⟨m, hm, hJm⟩ := hp
        exact ⟨m, hm, ρ2, hJm, F3, mu_trans F k12 (fun a ha => .inl (hown n ρ' hJ a ha)) k3⟩
      | ret d =>
        obtain ⟨v, rfl, r, k3⟩ := hr
        exact ⟨.ret v, .ret d, rfl, hp, v, rfl, r, mu_trans F k12 (fun a ha => .inl (hown n ρ' hJ a ha)) k3⟩
    | false => exact wpAny_execs_nil ⟨.next, .nxt ρ', rfl, hb2 rfl, rfl, F2, k12, fun a ha => .inl (hown n ρ' hJ a ha)⟩
  refine codeAny_mono key fun r s' ⟨f, o, hr, hp, hres⟩ => ?_
  subst hr
  exact ⟨o, hp, hres⟩
end
end Mine
end
section
open PySem PySem.W PyProof.Rows
set_option linter.unusedVariables false
namespace Mine
section
variable {B : Bs} {env : Env} {ρ : Rho} {k : Nat} {Xc : List Addr}

theorem Cont.notCode {o : Obj} (h : Cont o) : NotCode o := by
  rcases h with ⟨_, _, q⟩ | ⟨_, _, q⟩
  · exact notcode_seq q
  · exact notcode_dict q
theorem Cont.notCell {o : Obj} (h : Cont o) {v : Option Value} : o.data ≠ .cell v := fun e => by
  rcases h with ⟨_, _, q⟩ | ⟨_, _, q⟩ <;> (rw [e] at q; cases q)
/-- a change of one object that the frame shuts out -/
theorem Fok.butX {s : Shared} {h' : Heap} {a : Addr} {o : Obj} (F : Fok B env Xc ρ s.heap) (ha : a ∈ Xc) (hB : B.hB.get? a = none) (ho : s.heap.get? a = some o) (hc : Cont o) (hne : a ≠ env.locals)
    (hk : ∀ b o, b ≠ a → s.heap.get? b = some o → h'.get? b = some o) (hal : (h'.get? a).isSome = true) : Fok B env Xc ρ h' := by
  have hX : a ∈ xs env Xc ρ := .tail _ (List.mem_append_right _ ha)
  have hown : ∀ b ∈ owns ρ, b ≠ a := fun b hb q => (F.fo b hb).2.1 (q ▸ ha)
  refine ⟨F.g.but hB ho hc.notCode hk, alive_but F.xin hk hal, F.kind, F.glob, F.bi, ?_, fun p hp => ?_, fun y sl hy hcy => ?_, F.fl, F.fc, fun b hb => ?_⟩
  · obtain ⟨m, ⟨o1, es, ep, e, hd, r⟩, hv⟩ := F.loc
    refine ⟨m, ⟨o1, es, ep, hk _ _ (Ne.symm hne) e, hd, r⟩, fun x sl hx hl => ?_⟩
    obtain ⟨v, h1, h2⟩ := hv x sl hx hl
    exact ⟨v, h1, h2.but hk (.inl hX) fun b hb => hown b (lookup_owns hx hb)⟩
  · obtain ⟨w, o1, e, hd⟩ := F.cel p hp
    exact ⟨w, o1, hk _ _ (fun q => by rw [q, ho] at e; cases e; exact hc.notCell hd) e, hd⟩
  · obtain ⟨c, w, h1, ⟨o1, e, hd⟩, h3⟩ := F.celv y sl hy hcy
    exact ⟨c, w, h1, ⟨o1, hk _ _ (fun q => by rw [q, ho] at e; cases e; exact hc.notCell hd) e, hd⟩, h3.but hk (.inl hX) fun b hb => hown b (lookup_owns hy hb)⟩
  · obtain ⟨h1, h2, h3, o1, e, hc1⟩ := F.fo b hb
    exact ⟨h1, h2, h3, o1, hk _ _ (hown b hb) e, hc1⟩
theorem SRep.sub {X X' : List Addr} {h : Heap} {v : Value} {sl : Slot} (x : SRep B X h v sl) (hX : ∀ a, a ∈ X' → a ∈ X) : SRep B X' h v sl := by
  cases sl with
  | raw w => exact x
  | val d => exact Rep.sub x hX
  | own a d => exact ⟨x.1, x.2.sub hX⟩
theorem Fok.lessX {h : Heap} {Xc' : List Addr} (F : Fok B env Xc' ρ h) (hs : ∀ a ∈ Xc, a ∈ Xc') : Fok B env Xc ρ h := by
  have hx : ∀ a, a ∈ xs env Xc ρ → a ∈ xs env Xc' ρ := by
    intro a ha
    simp only [List.mem_cons, List.mem_append] at ha ⊢
    rcases ha with h | h | h
    · exact .inl h
    · exact .inr (.inl h)
    · exact .inr (.inr (hs a h))
  refine ⟨F.g, fun a ha => F.xin a (hs a ha), F.kind, F.glob, F.bi, ?_, F.cel, fun y sl hy hc => ?_, F.fl, F.fc, fun b hb => ?_⟩
  · obtain ⟨m, hm, hv⟩ := F.loc
    refine ⟨m, hm, fun x sl hx1 hl => ?_⟩
    obtain ⟨v, h1, h2⟩ := hv x sl hx1 hl
    exact ⟨v, h1, h2.sub hx⟩
  · obtain ⟨c, w, h1, h2, h3⟩ := F.celv y sl hy hc
    exact ⟨c, w, h1, h2, h3.sub hx⟩
  · obtain ⟨h1, h2, h3⟩ := F.fo b hb
    exact ⟨h1, fun q => h2 (hs b q), h3⟩

/-- the frame of a comprehension -/
structure CFr (env : Env) (ρ : Rho) (scope : Scope) (cl : List (Str × Addr)) (ρf : Rho) : Prop where
  kind : scope.kind = .function
  inn : ∀ p ∈ cl, p ∈ env.cells
  free : ∀ p ∈ ρf, ∃ d, p.2 = .val d ∧ (relabel scope env).names.lookup p.1 = some .cell ∧ env.kindOf p.1 = some .cell ∧ ρ.lookup p.1 = some (.val d) ∧ cl.lookup p.1 = env.cells.lookup p.1
theorem CFr.owns {scope : Scope} {cl : List (Str × Addr)} {ρf : Rho} (c : CFr env ρ scope cl ρf) : owns ρf = [] := by
  unfold Mine.owns
  rw [List.filterMap_eq_nil_iff]
  intro p hp
  obtain ⟨d, e, _⟩ := c.free p hp
  rw [e]; rfl
theorem Fok.comp {s s' : Shared} {scope : Scope} {cl : List (Str × Addr)} {ρf : Rho} {D C : Addr} {m : Str → Option Value} (F : Fok B env Xc ρ s.heap) (k : Kp B [] s s') (c : CFr env ρ scope cl ρf)
    (hD : s.heap.get? D = none) (hC : s.heap.get? C = none) (hDs : (s'.heap.get? D).isSome = true) (hns : s'.heap.Ns C m) (hBC : B.hB.get? C = none) :
    Fok B (compEnvC scope cl C env) (D :: xs env Xc ρ) ρf s'.heap := by
  have F' := F.kp k
  have hkd : ∀ x sl, ρf.lookup x = some sl → (compEnvC scope cl C env).kindOf x = some .cell ∧ ∃ d, sl = .val d ∧ env.kindOf x = some .cell ∧ ρ.lookup x = some (.val d) ∧ cl.lookup x = env.cells.lookup x := by
    intro x sl hx
    obtain ⟨d, e, h1, h2, h3, h4⟩ := c.free _ (Fok.sub.mem_lookup hx)
    exact ⟨h1, d, e, h2, h3, h4⟩
  refine ⟨F'.g, fun a ha => ?_, c.kind, F.glob, F.bi, ⟨m, hns, fun x sl hx hl => ?_⟩, fun p hp => F'.cel p (c.inn p hp), fun x sl hx hc => ?_, hBC, fun p hp => (by cases hp), fun a ha => by rw [c.owns] at ha; cases ha⟩
  · rcases List.mem_cons.mp ha with rfl | ha
    · exact hDs
    · exact F'.alive a ha
  · have h1 := (hkd x sl hx).1
    rw [h1] at hl; cases hl
  · obtain ⟨_, d, rfl, h2, h3, h4⟩ := hkd x sl hx
    obtain ⟨c0, v, e1, e2, e3⟩ := F.celv x _ h3 (.inl h2)
    have e4 : Rep B (xs (compEnvC scope cl C env) (D :: xs env Xc ρ) ρf) s.heap v d := Rep.more e3 fun a ha => by
      simp only [xs, c.owns, List.nil_append, List.mem_cons] at ha
      rcases ha with rfl | rfl | ha
      · exact .inr hC
      · exact .inr hD
      · exact .inl (by simpa [xs] using ha)
    obtain ⟨c1, v1, e1', e2', e3'⟩ := F'.celv x _ h3 (.inl h2)
    have hc01 : c1 = c0 := by rw [e1] at e1'; cases e1'; rfl
    subst hc01
    have hv : v1 = v := by
      obtain ⟨o, q1, q2⟩ := e2
      obtain ⟨o', q1', q2'⟩ := e2'
      have : s'.heap.get? c1 = some o := k.keep c1 o (fun h => nomatch h) (fun t ht q => by
        obtain ⟨ps, h1, _⟩ := F.g.tab t ht; rw [← q, q1] at h1; cases h1; cases q2) q1
      rw [this] at q1'; cases q1'; rw [q2] at q2'; cases q2'; rfl
    subst hv
    exact ⟨c1, v1, h4.trans e1, e2', e4.kp F.g k⟩

variable (B) in
noncomputable def Tsts (k : Nat) (env : Env) (ρ : Rho) (ifs : List Expr) (b : Bool) : Prop :=
  ∀ A Xc s, Rm k A → Fok B env Xc ρ s.heap → wpAny B.M A (forIn ifs true fun c r => if r = true then do let ok ← isTrue c env (eval c env); pure (ForInStep.yield ok) else pure (ForInStep.yield r)) (fun r s' => Kp B [] s s' ∧ r = b) (fun _ _ => False) s
theorem Tsts.nil : Tsts B k env ρ [] true := fun A Xc s rm F => wpAny_tests_nil ⟨.refl s, rfl⟩
theorem Tsts.one {c : Expr} {b : Bool} (h : Tst B k env ρ c b) : Tsts B k env ρ [c] b := fun A Xc s rm F => wpAny_tests_one (h A Xc s rm F)

/-- one turn of a comprehension -/
structure Turn (B : Bs) (k : Nat) (cenv : Env) (target elt : Expr) (ifs : List Expr) (ρf : Rho) (d : PyData) (r : Option PyData) : Prop where
  go : ∃ ρ1, As B cenv target ρf d ρ1 ∧ owns ρ1 = [] ∧ (∀ p ∈ ρf, ρ1.lookup p.1 = some p.2) ∧ match r with
    | none => Tsts B k cenv ρ1 ifs false
    | some y => Tsts B k cenv ρ1 ifs true ∧ Ev B k cenv ρ1 elt y

theorem filterMap_take_succ {α β : Type} (g : α → Option β) (l : List α) (i : Nat) (x : α) (h : l[i]? = some x) : (l.take (i + 1)).filterMap g = (l.take i).filterMap g ++ (g x).toList := by
  rw [List.take_add_one, h, List.filterMap_append]
  cases hg : g x <;> simp [hg]

theorem compLoop {A : Around} {elt target iter : Expr} {ifs : List Expr} {scope : Scope} {pos : Pos} {cenv : Env} {Xd : List Addr} {ρf : Rho} {D I : Addr} {s0 s : Shared} {α : Type} {xl : List α} {enc : α → PyData} {g : α → Option PyData}
    {St : Nat → Heap → Prop} {R : Result → Shared → Prop} (rm : Rm k A) (hfn : cenv.func = none) (hof : owns ρf = []) (hsz : xl.length ≤ sizeLine)
    (W : Iter B A (xs cenv Xd ρf) I (xl.map enc) target St) (F : Fok B cenv Xd ρf s.heap) (k0 : Kp B [] s0 s) (hst : St 0 s.heap) (hD : D ∈ Xd) (hBD : B.hB.get? D = none) (hDC : D ≠ cenv.locals) (hl : s.heap.PlainList D #[])
    (hI0 : s0.heap.get? I = none) (hD0 : s0.heap.get? D = none) (hC0 : s0.heap.get? cenv.locals = none) (hIX : I ∉ xs cenv Xd ρf)
    (hturn : ∀ x ∈ xl, Turn B k cenv target elt ifs ρf (enc x) (g x))
    (hR : ∀ s' ys, Kp B [] s0 s' → Fok B cenv Xd ρf s'.heap → s'.heap.PlainList D ys.toArray → Reps B (xs cenv Xd ρf) s'.heap ys (xl.filterMap g) → R (.ok .next) s') :
    codeAny B.M A (.compLoop (.ListComp elt [⟨target, iter, ifs, 0⟩] scope pos) 0 (.ref I) (.ref D) cenv) R s := by
  have hDX : D ∈ xs cenv Xd ρf := .tail _ (List.mem_append_right _ hD)
  have hmu : ∀ ρ1 : Rho, owns ρ1 = [] → ∀ b ∈ mu cenv ρ1, b = cenv.locals := by
    intro ρ1 h b hb
    simp only [mu, cellsOf, hfn, h, List.append_nil, List.mem_cons] at hb
    rcases hb with h | h
    · exact h
    · cases h
  have hxs : ∀ ρ1 : Rho, owns ρ1 = [] → xs cenv Xd ρ1 = xs cenv Xd ρf := fun ρ1 h => by simp only [xs, h, hof]
  refine codeAny_loop rfl (fun n s' => ∃ i ys, n = xl.length + 1 - i ∧ i ≤ xl.length ∧ Fok B cenv Xd ρf s'.heap ∧ Kp B [] s0 s' ∧ St i s'.heap ∧ s'.heap.PlainList D ys.toArray ∧ Reps B (xs cenv Xd ρf) s'.heap ys ((xl.take i).filterMap g)) ?_ (xl.length + 1)
    ⟨0, [], rfl, Nat.zero_le _, F, k0, hst, hl, by simpa using Reps.nil⟩
  rintro n s1 ⟨i, ys, rfl, hle, F1, k1, hst1, hl1, hr1⟩
  show wpAny _ A ((compTurn (.ListComp elt [⟨target, iter, ifs, 0⟩] scope pos) 0 (.ref I) (.ref D) cenv).onRaise (fun x => do noteFrame x cenv; theTreesLotGoes x)) _ _ s1
  refine wpAny_noted ?_
  rw [compTurn_list]
  refine wpAny_bind (wpAny_standAt (wpAny_bind ?_))
  obtain ⟨oI, vsI, eI, hnc, hdI⟩ := W.obj i _ hst1
  have stepI : ∀ s4, KpI B I s1 s4 → Kp B [] s0 s4 ∧ Fok B cenv Xd ρf s4.heap ∧ s4.heap.PlainList D ys.toArray ∧ Reps B (xs cenv Xd ρf) s4.heap ys ((xl.take i).filterMap g) := by
    intro s4 k4
    have hne : ∀ b o, s1.heap.get? b = some o → Cont o → b ≠ I := fun b o e c q => by
      rw [q, eI] at e; cases e
      rcases c with ⟨_, _, q⟩ | ⟨_, _, q⟩ <;> (rw [hdI] at q; cases q)
    have hkc : ∀ b o, s1.heap.get? b = some o → Cont o → s4.heap.get? b = some o := fun b o e c => k4.keep b o (hne b o e c) (fun t ht => notTab (F1.g.tab t ht) e c) e
    refine ⟨⟨fun b o _ ht e => ?_, fun g => k4.gd (k1.gd g), fun b h => k4.alive F1.g (fun q => by rw [q, hI0] at h; cases h) (k1.alive b h), k4.gens.trans k1.gens, k4.os.trans k1.os⟩, F1.iter k4 hIX eI hdI, ?_, hr1.imp (fun _ h _ => h) fun b o _ e c => hkc b o e c⟩
    · exact k4.keep b o (fun q => by rw [q, hI0] at e; cases e) ht (k1.keep b o (fun h => nomatch h) ht e)
    · obtain ⟨n, e⟩ := hl1
      exact ⟨n, hkc _ _ e (.inl ⟨_, _, rfl⟩)⟩
  cases hd : xl[i]? with
  | none =>
    have hi : i = xl.length := Nat.le_antisymm hle (by simpa using hd)
    subst hi
    have hst1' : St (xl.map enc).length s1.heap := by simpa using hst1
    refine wpAny_mono (W.done s1 hst1' F1.g) (fun r s4 ⟨hr, k4⟩ => ?_) fun _ _ h => h.elim
    subst hr
    obtain ⟨k5, F5, hl5, hr5⟩ := stepI s4 k4
    rw [List.take_length] at hr5
    exact wpAny_pure (hR s4 ys k5 F5 hl5 hr5)
  | some x =>
    have hlt : i < xl.length := (List.getElem?_eq_some_iff.mp hd).1
    have hx : x ∈ xl := List.mem_of_getElem? hd
    refine wpAny_mono (W.item i (enc x) s1 (by simp [hd]) hst1 F1.g F1.alive) (fun r s4 ⟨v, hr, h4⟩ => ?_) fun _ _ h => h.elim
    subst hr
    refine wpAny_bind (wpAny_mono h4 (fun _ s5 ⟨k5, hst5, r5⟩ => ?_) fun _ _ h => h.elim)
    obtain ⟨k6, F6, hl6, hr6⟩ := stepI s5 k5
    obtain ⟨ρ1, ha, ho1, hsub, hgo⟩ := (hturn x hx).go
    refine wpAny_bind (wpAny_mono (ha A Xd s5 v rm.handled F6 r5) (fun _ s7 ⟨F7, k7⟩ => ?_) fun _ _ h => h.elim)
    have k7' : Kp B [cenv.locals] s5 s7 := k7.weaken fun a h => by rw [hmu ρf hof a h]; exact .head _
    have kC : ∀ {s7 s8 : Shared}, Kp B [] s7 s8 → Kp B [cenv.locals] s7 s8 := fun h => h.up
    -- what the turn has done up to here
    have back : ∀ s8, Kp B [cenv.locals] s5 s8 → Fok B cenv Xd ρ1 s8.heap → Kp B [] s0 s8 ∧ Fok B cenv Xd ρf s8.heap ∧ St (i + 1) s8.heap ∧ s8.heap.PlainList D ys.toArray ∧ Reps B (xs cenv Xd ρf) s8.heap ys ((xl.take i).filterMap g) := by
      intro s8 k8 F8
      have hkc : ∀ b o, b ≠ cenv.locals → s5.heap.get? b = some o → Cont o → s8.heap.get? b = some o := fun b o hb e c => k8.keep b o (by simpa using hb) (fun t ht => notTab (F6.g.tab t ht) e c) e
      refine ⟨⟨fun b o _ ht e => ?_, fun g => k8.gd (k6.gd g), fun b h => k8.alive b (k6.alive b h), k8.gens.trans k6.gens, k8.os.trans k6.os⟩, F8.sub hsub (fun a h => by rw [hof] at h; cases h), ?_, ?_, ?_⟩
      · exact k8.keep b o (fun q => by rw [List.mem_singleton.mp q, hC0] at e; cases e) ht (k6.keep b o (fun h => nomatch h) ht e)
      · refine W.frame (i + 1) s5.heap s8.heap hst5 (fun o e => ?_) fun b o hb e hc => hkc b o (fun q => hb (q ▸ .head _)) e hc
        refine k8.keep I o (fun q => hIX (by rw [List.mem_singleton.mp q]; exact .head _)) (fun t ht q => ?_) e
        obtain ⟨ps, h1, _⟩ := F6.g.tab t ht
        obtain ⟨o'', _, e'', hnc'', _⟩ := W.obj (i + 1) _ hst5
        rw [q, h1] at e''
        cases e''
        exact (hnc'' _ rfl).1 rfl
      · obtain ⟨n, e⟩ := hl6
        exact ⟨n, hkc _ _ hDC e (.inl ⟨_, _, rfl⟩)⟩
      · exact hr6.imp (fun _ h _ => h) fun b o hb e c => hkc b o (fun q => hb (q ▸ .head _)) e c
    cases hg : g x with
    | none =>
      rw [hg] at hgo
      refine wpAny_bind (wpAny_mono (hgo A Xd s7 rm F7) (fun r s8 ⟨k8, hr⟩ => ?_) fun _ _ h => h.elim)
      subst hr
      obtain ⟨q1, q2, q3, q4, q5⟩ := back s8 (k7'.trans (kC k8)) (F7.kp k8)
      refine wpAny_pure ⟨rfl, xl.length + 1 - (i + 1), by omega, i + 1, ys, rfl, hlt, q2, q1, q3, q4, ?_⟩
      rw [filterMap_take_succ g xl i x hd, hg]; simpa using q5
    | some y =>
      rw [hg] at hgo
      refine wpAny_bind (wpAny_mono (hgo.1 A Xd s7 rm F7) (fun r s8 ⟨k8, hr⟩ => ?_) fun _ _ h => h.elim)
      subst hr
      have F8 := F7.kp k8
      refine wpAny_bind (wpAny_bind (wpAny_mono (hgo.2 A Xd s8 rm F8) (fun w s9 ⟨k9, r9⟩ => ?_) fun _ _ h => h.elim))
      obtain ⟨q1, q2, q3, q4, q5⟩ := back s9 ((k7'.trans (kC k8)).trans (kC k9)) (F8.kp k9)
      have hlen : ys.length ≤ xl.length := by
        rw [q5.length]
        refine Nat.le_trans (List.length_filterMap_le ..) ?_
        rw [List.length_take]; omega
      refine wpAny_bind (wpAny_list_append_plain q4 (fun h' hpl hsb => ?_) (by simpa using Nat.le_trans hlen hsz))
      obtain ⟨n9, e9⟩ := id q4
      obtain ⟨n9', e9'⟩ := id hpl
      have hk : ∀ b o, b ≠ D → s9.heap.get? b = some o → h'.get? b = some o := hsb.extBut
      have F10 : Fok B cenv Xd ρf h' := q2.butX hD hBD e9 (.inl ⟨_, _, rfl⟩) hDC hk (by rw [e9']; rfl)
      have hkx : ∀ b o, b ∉ xs cenv Xd ρf → s9.heap.get? b = some o → Cont o → h'.get? b = some o := fun b o hb e _ => hk b o (fun q => hb (q ▸ hDX)) e
      refine wpAny_pure (wpAny_pure ⟨rfl, xl.length + 1 - (i + 1), by omega, i + 1, ys ++ [w], rfl, hlt, F10, ?_, ?_, by simpa using hpl, ?_⟩)
      · refine ⟨fun b o _ ht e => hk b o (fun q => by rw [q, hD0] at e; cases e) (q1.keep b o (fun h => nomatch h) ht e), fun g => F10.g, fun b h => ?_, q1.gens, q1.os⟩
        have := q1.alive b h
        by_cases q : b = D
        · subst q; show (h'.get? b).isSome = true; rw [e9']; rfl
        · cases e : s9.heap.get? b with
          | none => rw [e] at this; cases this
          | some o => show (h'.get? b).isSome = true; rw [hk b o q e]; rfl
      · refine W.frame (i + 1) s9.heap h' q3 (fun o e => hk I o (fun q => hIX (q ▸ hDX)) e) hkx
      · rw [filterMap_take_succ g xl i x hd, hg]
        exact (q5.imp (fun _ h _ => h) hkx).append (.cons ((hxs ρ1 ho1 ▸ r9).imp (fun _ h _ => h) hkx) .nil)
end
end Mine
end
section
open PySem PySem.W PyProof.Rows
set_option linter.unusedVariables false
namespace Mine
section
variable {B : Bs} {env : Env} {ρ : Rho} {k : Nat} {Xc : List Addr}

/-- the same where the object may go -/
theorem Fok.gone {s : Shared} {h' : Heap} {a : Addr} {o : Obj} {Xc' : List Addr} (F : Fok B env Xc ρ s.heap) (ha : a ∈ Xc) (hB : B.hB.get? a = none) (ho : s.heap.get? a = some o) (hc : Cont o) (hne : a ≠ env.locals)
    (hk : ∀ b o, b ≠ a → s.heap.get? b = some o → h'.get? b = some o) (hs : ∀ b ∈ Xc', b ∈ Xc) (hna : a ∉ Xc') : Fok B env Xc' ρ h' := by
  have hX : a ∈ xs env Xc ρ := .tail _ (List.mem_append_right _ ha)
  have hown : ∀ b ∈ owns ρ, b ≠ a := fun b hb q => (F.fo b hb).2.1 (q ▸ ha)
  have hx : ∀ a, a ∈ xs env Xc' ρ → a ∈ xs env Xc ρ := by
    intro a ha
    simp only [List.mem_cons, List.mem_append] at ha ⊢
    rcases ha with h | h | h
    · exact .inl h
    · exact .inr (.inl h)
    · exact .inr (.inr (hs a h))
  refine ⟨F.g.but hB ho hc.notCode hk, fun b hb => ?_, F.kind, F.glob, F.bi, ?_, fun p hp => ?_, fun y sl hy hcy => ?_, F.fl, F.fc, fun b hb => ?_⟩
  · have := F.xin b (hs b hb)
    cases e : s.heap.get? b with
    | none => rw [e] at this; cases this
    | some o => rw [hk b o (fun q => hna (q ▸ hb)) e]; rfl
  · obtain ⟨m, ⟨o1, es, ep, e, hd, r⟩, hv⟩ := F.loc
    refine ⟨m, ⟨o1, es, ep, hk _ _ (Ne.symm hne) e, hd, r⟩, fun x sl hx1 hl => ?_⟩
    obtain ⟨v, h1, h2⟩ := hv x sl hx1 hl
    exact ⟨v, h1, (h2.but hk (.inl hX) fun b hb => hown b (lookup_owns hx1 hb)).sub hx⟩
  · obtain ⟨w, o1, e, hd⟩ := F.cel p hp
    exact ⟨w, o1, hk _ _ (fun q => by rw [q, ho] at e; cases e; exact hc.notCell hd) e, hd⟩
  · obtain ⟨c, w, h1, ⟨o1, e, hd⟩, h3⟩ := F.celv y sl hy hcy
    exact ⟨c, w, h1, ⟨o1, hk _ _ (fun q => by rw [q, ho] at e; cases e; exact hc.notCell hd) e, hd⟩, (h3.but hk (.inl hX) fun b hb => hown b (lookup_owns hy hb)).sub hx⟩
  · obtain ⟨h1, h2, h3, o1, e, hc1⟩ := F.fo b hb
    exact ⟨h1, fun q => h2 (hs b q), h3, o1, hk _ _ (hown b hb) e, hc1⟩

theorem compBlock {A : Around} {elt target iter : Expr} {ifs : List Expr} {scope : Scope} {pos : Pos} {cl : List (Str × Addr)} {ρf : Rho} {s : Shared} {α : Type} {xl : List α} {enc : α → PyData} {g : α → Option PyData}
    {RR : Value → Addr → Result → Shared → Prop} (rm : Rm k A) (F : Fok B env Xc ρ s.heap) (c : CFr env ρ scope cl ρf) (hi : EvI B k env ρ iter target (xl.map enc)) (hsz : xl.length ≤ sizeLine) (hcell : ∀ y ∈ scope.names, y.2 ≠ .cell)
    (hturn : ∀ C, ∀ x ∈ xl, Turn B k (compEnvC scope cl C env) target elt ifs ρf (enc x) (g x))
    (hRR : ∀ D C s' ys m, D ≠ C → s.heap.get? D = none → s.heap.get? C = none → B.hB.get? D = none → B.hB.get? C = none → Kp B [] s s' → s'.heap.Ns C m → s'.heap.PlainList D ys.toArray → Reps B (C :: D :: xs env Xc ρ) s'.heap ys (xl.filterMap g) → RR (.ref D) C (.ok .next) s') :
    wpAny B.M A (eval iter env) (fun x s1 => wpAny B.M A (pyIter x) (fun it s2 => wpAny B.M A (newList []) (fun acc s3 =>
      wpAny B.M A (newFunctionEnv scope env.globals cl [] env.qual none .none (some env)) (fun cenv s4 =>
        codeAny B.M A (.compStart (.ListComp elt [⟨target, iter, ifs, 0⟩] scope pos) 0 it acc { cenv with scope := relabel scope env }) (RR acc cenv.locals) s4) (fun _ _ => False) s3) (fun _ _ => False) s2) (fun _ _ => False) s1) (fun _ _ => False) s := by
  refine wpAny_mono (hi A Xc s rm F) (fun x s1 h1 => wpAny_mono h1 (fun it s2 ⟨k2, I, hit, hI, hBI, hW⟩ => ?_) fun _ _ h => h) fun _ _ h => h
  subst hit
  refine wpAny_newObj_type (wpAny_newFunctionEnv hcell (by intro y hy; simp at hy) (fun h₁ hns₁ hsb₁ => ?_) c.kind)
  dsimp only at hns₁ hsb₁ ⊢
  generalize hH2 : s2.heap.push { cls := .type "list", dict := none, data := .seq ([] : List Value).toArray } = H2 at hns₁ hsb₁ ⊢
  have hC : H2.objs.size = s2.heap.objs.size + 1 := by rw [← hH2, Heap.size_push]
  have hDC : s2.heap.objs.size ≠ H2.objs.size := by rw [hC]; exact Nat.ne_of_lt (Nat.lt_succ_self _)
  have below : ∀ b, b < s2.heap.objs.size → b ≠ H2.objs.size ∧ b ≠ s2.heap.objs.size := fun b hb => ⟨by rw [hC]; exact Nat.ne_of_lt (Nat.lt_succ_of_lt hb), Nat.ne_of_lt hb⟩
  have old : ∀ b o, s2.heap.get? b = some o → h₁.get? b = some o := fun b o e => hsb₁.extBut b o (below b (Heap.lt_size e)).1 (Heap.get?_push_of_some _ (hH2 ▸ Heap.get?_push_of_some _ e))
  have hacc : h₁.PlainList s2.heap.objs.size #[] := ⟨_, hsb₁.extBut _ _ hDC (Heap.get?_push_of_some _ (hH2 ▸ Heap.get?_push_size _ rfl))⟩
  have g2 := k2.gd F.g
  have none2 : ∀ a, s2.heap.objs.size ≤ a → s2.heap.get? a = none := fun a ha => Heap.get?_none_of_le ha
  have none0 : ∀ a, s2.heap.objs.size ≤ a → s.heap.get? a = none := fun a ha => by
    cases e : s.heap.get? a with
    | none => rfl
    | some o =>
      have := k2.alive a (by rw [e]; rfl)
      rw [none2 a ha] at this; cases this
  have hCle : s2.heap.objs.size ≤ H2.objs.size := by rw [hC]; exact Nat.le_succ _
  have k3 : ∀ tk, Kp B [] s { s2 with heap := h₁, toks := tk } := fun tk => k2.trans (.ofKeep old rfl rfl)
  have hDs : (h₁.get? s2.heap.objs.size).isSome = true := by obtain ⟨n, e⟩ := hacc; rw [e]; rfl
  have F3 : ∀ tk, Fok B (compEnvC scope cl H2.objs.size env) (s2.heap.objs.size :: xs env Xc ρ) ρf ({ s2 with heap := h₁, toks := tk } : Shared).heap := fun tk =>
    F.comp (k3 tk) c (none0 _ (Nat.le_refl _)) (none0 _ hCle) hDs hns₁ (g2.above hCle)
  have hxs : xs (compEnvC scope cl H2.objs.size env) (s2.heap.objs.size :: xs env Xc ρ) ρf = H2.objs.size :: s2.heap.objs.size :: xs env Xc ρ := by simp only [xs, c.owns, List.nil_append]; rfl
  have hX' : ∀ a ∈ H2.objs.size :: s2.heap.objs.size :: xs env Xc ρ, a ∈ xs env Xc ρ ∨ s2.heap.get? a = none := by
    intro a ha
    rcases List.mem_cons.mp ha with rfl | ha
    · exact .inr (none2 _ hCle)
    · rcases List.mem_cons.mp ha with rfl | ha
      · exact .inr (none2 _ (Nat.le_refl _))
      · exact .inl ha
  obtain ⟨St, W, hst⟩ := hW _ hX'
  have hIs : (s2.heap.get? I).isSome = true := by obtain ⟨o, vs, e, _⟩ := W.obj 0 _ hst; rw [e]; rfl
  have hIX : I ∉ H2.objs.size :: s2.heap.objs.size :: xs env Xc ρ := fun hm => (hX' I hm).elim (fun q => by have := F.alive I q; rw [hI] at this; cases this) fun q => by rw [q] at hIs; cases hIs
  have hst1 : St 0 h₁ := W.frame 0 _ _ hst (fun o e => old I o e) fun b o _ e _ => old b o e
  have loop : ∀ s₃ : Shared, s₃ = { s2 with heap := h₁, toks := s2.toks + ([] : List (Str × Value)).length } →
      codeAny B.M A (.compLoop (.ListComp elt [⟨target, iter, ifs, 0⟩] scope pos) 0 (.ref I) (.ref s2.heap.objs.size) (compEnvC scope cl H2.objs.size env)) (RR (.ref s2.heap.objs.size) H2.objs.size) s₃ := by
    rintro s₃ rfl
    refine compLoop (s0 := s) (Xd := s2.heap.objs.size :: xs env Xc ρ) (ρf := ρf) rm rfl c.owns hsz (hxs ▸ W) (F3 _) (k3 _) hst1 (.head _) (g2.above (Nat.le_refl _)) hDC hacc hI (none0 _ (Nat.le_refl _)) (none0 _ hCle) (hxs ▸ hIX) (hturn _) fun s' ys k' F' hl' hr' => ?_
    obtain ⟨m, hm, _⟩ := F'.loc
    exact hRR _ _ s' ys m hDC (none0 _ (Nat.le_refl _)) (none0 _ hCle) (g2.above (Nat.le_refl _)) (g2.above hCle) k' hm hl' (hxs ▸ hr')
  exact codeAny_compStart_list (loop _ rfl) (wpAny_mono (W.self 0 _ hst1) (fun v s' ⟨h1, h2⟩ => by subst h1; subst h2; exact loop _ rfl) fun _ _ h => h.elim)

/-- what a clause asks of its names -/
structure CScope (env : Env) (scope : Scope) (cl : List (Str × Addr)) : Prop where
  clos : closureFor scope env = pure cl
  cell : ∀ y ∈ scope.names, y.2 ≠ .cell
  names : ∀ y ∈ scope.names, y.2 = .local → scope.names.lookup y.1 = some .local

theorem Kp.dropC {s s' : Shared} {h'' : Heap} {C : Addr} {m : Str → Option Value} (k' : Kp B [] s s') (hC : s.heap.get? C = none) (hBC : B.hB.get? C = none) (hn : s'.heap.Ns C m) (hs : Heap.SameBut C s'.heap h'') (g : Gd B s'.heap) :
    Kp B [] s { s' with heap := h'' } := by
  obtain ⟨o, es, ep, e, hd, _⟩ := hn
  refine ⟨fun b o' _ ht e' => hs.extBut b o' (fun q => by rw [q, hC] at e'; cases e') (k'.keep b o' (fun h => nomatch h) ht e'), fun _ => g.but hBC e (notcode_dict hd) hs.extBut, fun b h => ?_, k'.gens, k'.os⟩
  have := k'.alive b h
  cases e' : s'.heap.get? b with
  | none => rw [e'] at this; cases this
  | some o' => show (h''.get? b).isSome = true; rw [hs.extBut b o' (fun q => by rw [q, hC] at h; cases h) e']; rfl

theorem Ev.comp {elt target iter : Expr} {ifs : List Expr} {scope : Scope} {pos : Pos} {cl : List (Str × Addr)} {ρf : Rho} {α : Type} {xl : List α} {enc : α → PyData} {g : α → Option PyData}
    (c : CFr env ρ scope cl ρf) (cs : CScope env scope cl) (hi : EvI B k env ρ iter target (xl.map enc)) (hsz : xl.length ≤ sizeLine)
    (hturn : ∀ C, ∀ x ∈ xl, Turn B k (compEnvC scope cl C env) target elt ifs ρf (enc x) (g x))
    (hs : ∀ x, foldedSetIterable iter env x = pure x := by intro _; rfl) : Ev B k env ρ (.ListComp elt [⟨target, iter, ifs, 0⟩] scope pos) (.list (xl.filterMap g)) := fun A Xc s rm F => by
  rw [eval_ListComp]
  refine wpAny_comprehension_free (use := Option.none) rfl hs cs.clos c.kind cs.names (compBlock (RR := fun acc C => compPost B.M A (fun _ _ => False) Option.none (fun v s' => Kp B [] s s' ∧ Rep B (xs env Xc ρ) s'.heap v (.list (xl.filterMap g))) acc C) rm F c hi hsz cs.cell hturn ?_)
  intro D C s' ys m hDC hD hC hBD hBC k' hn hl hr
  refine ⟨m, hn, fun h'' hs'' => ⟨k'.dropC hC hBC hn hs'' (k'.gd F.g), ?_⟩⟩
  have hDX : D ∉ xs env Xc ρ := fun q => by have := F.alive D q; rw [hD] at this; cases this
  exact .list (hl.extBut hs''.extBut hDC) hDX ((hr.imp (fun _ h _ => h) fun b o hb e _ => hs''.extBut b o (fun q => hb (q ▸ .head _)) e).sub fun a ha => .tail _ (.tail _ ha))

theorem Ex1.setComp {x : Str} {px spos : Pos} {elt target iter : Expr} {ifs : List Expr} {scope : Scope} {pos : Pos} {cl : List (Str × Addr)} {ρf : Rho} {α : Type} {xl : List α} {enc : α → PyData} {g : α → Option PyData}
    (c : CFr env ρ scope cl ρf) (cs : CScope env scope cl) (hi : EvI B k env ρ iter target (xl.map enc)) (hsz : xl.length ≤ sizeLine)
    (hturn : ∀ C, ∀ x ∈ xl, Turn B k (compEnvC scope cl C env) target elt ifs ρf (enc x) (g x)) (ha : Sto B env x ρ (.list (xl.filterMap g)))
    (hsw : swapsWith (.ListComp elt [⟨target, iter, ifs, 0⟩] scope pos) (some (.Name x px)) spos.line env = pure true := by rfl)
    (hs : ∀ x, foldedSetIterable iter env x = pure x := by intro _; rfl) : Ex1 B k env ρ (.Assign [.Name x px] (.ListComp elt [⟨target, iter, ifs, 0⟩] scope pos) spos) (fun o => o = .nxt ((x, .val (.list (xl.filterMap g))) :: ρ)) := fun A Xc s rm F => by
  rw [exec_Assign_Name_used _ _ _ _ hsw]
  refine wpAny_bind (wpAny_standAt (wpAny_bind ?_))
  show wpAny _ A (do let _ ← comprehension (.ListComp elt [⟨target, iter, ifs, 0⟩] scope pos) scope env _ (newList []) false (eval iter env) (some (assign (.Name x px) env))) _ _ s
  refine wpAny_bind (wpAny_mono (wpAny_comprehension_free (use := some (assign (.Name x px) env)) (Q := fun _ s' => ∃ o, o = Out.nxt ((x, .val (.list (xl.filterMap g))) :: ρ) ∧ Res B env Xc ρ s .next s' o) rfl hs cs.clos c.kind cs.names
    (compBlock (RR := fun acc C => compPost B.M A (fun _ _ => False) (some (assign (.Name x px) env)) (fun _ s' => ∃ o, o = Out.nxt ((x, .val (.list (xl.filterMap g))) :: ρ) ∧ Res B env Xc ρ s .next s' o) acc C) rm F c hi hsz cs.cell hturn ?_)) (fun _ s' hq => wpAny_pure (wpAny_pure hq)) fun _ _ e => e)
  intro D C s' ys m hDC hD hC hBD hBC k' hn hl hr
  show wpAny _ A (assign (.Name x px) env (.ref D)) _ _ _
  have hCs : (s'.heap.get? C).isSome = true := by obtain ⟨o, _, _, e, _⟩ := hn; rw [e]; rfl
  have FC : Fok B env (C :: Xc) ρ s'.heap := F.shut k' hC hCs
  have hDX : D ∉ xs env (C :: Xc) ρ := fun q => by
    simp only [xs, List.mem_cons, List.mem_append] at q
    rcases q with q | q | q | q
    · have := F.alive D (by rw [q]; exact .head _); rw [hD] at this; cases this
    · have := F.alive D (.tail _ (List.mem_append_left _ q)); rw [hD] at this; cases this
    · exact hDC q
    · have := F.alive D (.tail _ (List.mem_append_right _ q)); rw [hD] at this; cases this
  have hsub : ∀ a ∈ xs env (C :: Xc) ρ, a ∈ C :: D :: xs env Xc ρ := fun a ha => by
    simp only [xs, List.mem_cons, List.mem_append] at ha ⊢
    rcases ha with q | q | q | q
    · exact .inr (.inr (.inl q))
    · exact .inr (.inr (.inr (.inl q)))
    · exact .inl q
    · exact .inr (.inr (.inr (.inr q)))
  refine PyProof.Rows.assign_Name (wpAny_mono (ha A (C :: Xc) s' _ (fun _ _ => False) FC (.list hl hDX (hr.sub hsub))) (fun _ s2 ⟨F2, k2⟩ => ?_) fun _ _ h => h)
  have hCmu : C ∉ mu env ρ := F.notIn hC
  have hn2 : ∃ m, s2.heap.Ns C m := by
    obtain ⟨o, es, ep, e, hd, r⟩ := hn
    exact ⟨m, o, es, ep, k2.keep C o hCmu (fun t ht => notTab (FC.g.tab t ht) e (.inr ⟨_, _, hd⟩)) e, hd, r⟩
  obtain ⟨m2, hn2⟩ := hn2
  refine ⟨m2, hn2, fun h'' hs'' => ⟨_, rfl, rfl, ?_, ?_, fun a ha => .inl ha⟩⟩
  · obtain ⟨o, es, ep, e, hd, _⟩ := id hn2
    have hCl : C ≠ env.locals := fun q => hCmu (q ▸ .head _)
    have hCX : C ∉ Xc := fun q => by have := F.xin C q; rw [hC] at this; cases this
    exact F2.gone (.head _) hBC e (.inr ⟨_, _, hd⟩) hCl hs''.extBut (fun b hb => .tail _ hb) hCX
  · refine ⟨fun b o hb ht e => hs''.extBut b o (fun q => by rw [q, hC] at e; cases e) (k2.keep b o hb ht (k'.keep b o (fun h => nomatch h) ht e)), fun g => ?_, fun b h => ?_, k2.gens.trans k'.gens, k2.os.trans k'.os⟩
    · obtain ⟨o, es, ep, e, hd, _⟩ := id hn2
      exact F2.g.but hBC e (notcode_dict hd) hs''.extBut
    · have := k2.alive b (k'.alive b h)
      cases e' : s2.heap.get? b with
      | none => rw [e'] at this; cases this
      | some o' => show (h''.get? b).isSome = true; rw [hs''.extBut b o' (fun q => by rw [q, hC] at h; cases h) e']; rfl
end
end Mine
end
section
open PySem PySem.W PyProof.Rows
set_option linter.unusedVariables false
namespace Mine
section
variable {B : Bs} {env : Env} {ρ : Rho} {k : Nat} {Xc : List Addr}

/-- what stands of the accumulator in a loop of a comprehension -/
structure Acc (B : Bs) (cenv : Env) (Xd : List Addr) (ρf : Rho) (D : Addr) (ds : List PyData) (s : Shared) : Prop where
  F : Fok B cenv Xd ρf s.heap
  l : ∃ ys, s.heap.PlainList D ys.toArray ∧ Reps B (xs cenv Xd ρf) s.heap ys ds

theorem compLoopG {A : Around} {elt target : Expr} {gens : List Comprehension} {scope : Scope} {pos : Pos} {depth : Nat} {p : Pos} {rest : Sem Fin} {cenv : Env} {Xd : List Addr} {ρf : Rho} {D I : Addr} {s0 s : Shared} {α : Type} {xl : List α} {enc : α → PyData} {out : α → List PyData} {ds0 : List PyData}
    {St : Nat → Heap → Prop} {R : Result → Shared → Prop} (hh : A.handled = none) (hfn : cenv.func = none) (hof : owns ρf = [])
    (heq : compTurn (.ListComp elt gens scope pos) depth (.ref I) (.ref D) cenv = (do
      standAt p
      match ← pyNext (.ref I) with
      | none => pure (.done .next)
      | some v =>
        letOwnedTupleGo target (.ref I) v
        assign target cenv v
        rest))
    (W : Iter B A (xs cenv Xd ρf) I (xl.map enc) target St) (acc : Acc B cenv Xd ρf D ds0 s) (k0 : Kp B [cenv.locals, D] s0 s) (hst : St 0 s.heap) (hD : D ∈ Xd) (hDC : D ≠ cenv.locals)
    (hI0 : s0.heap.get? I = none) (hIX : I ∉ xs cenv Xd ρf)
    (hturn : ∀ i x, xl[i]? = some x → ∃ ρ1, As B cenv target ρf (enc x) ρ1 ∧ owns ρ1 = [] ∧ (∀ p ∈ ρf, ρ1.lookup p.1 = some p.2) ∧ ∀ s1, Acc B cenv Xd ρ1 D (ds0 ++ (xl.take i).flatMap out) s1 →
      wpAny B.M A rest (fun fin s2 => fin = .again (.compLoop (.ListComp elt gens scope pos) depth (.ref I) (.ref D) cenv) ∧ Kp B [cenv.locals, D] s1 s2 ∧ Acc B cenv Xd ρ1 D (ds0 ++ (xl.take i).flatMap out ++ out x) s2) (fun _ _ => False) s1)
    (hR : ∀ s', Kp B [cenv.locals, D] s0 s' → Acc B cenv Xd ρf D (ds0 ++ xl.flatMap out) s' → R (.ok .next) s') :
    codeAny B.M A (.compLoop (.ListComp elt gens scope pos) depth (.ref I) (.ref D) cenv) R s := by
  have hDX : D ∈ xs cenv Xd ρf := .tail _ (List.mem_append_right _ hD)
  have hmu : ∀ ρ1 : Rho, owns ρ1 = [] → ∀ b ∈ mu cenv ρ1, b = cenv.locals := by
    intro ρ1 h b hb
    simp only [mu, cellsOf, hfn, h, List.append_nil, List.mem_cons] at hb
    rcases hb with h | h
    · exact h
    · cases h
  have hxs : ∀ ρ1 : Rho, owns ρ1 = [] → xs cenv Xd ρ1 = xs cenv Xd ρf := fun ρ1 h => by simp only [xs, h, hof]
  refine codeAny_loop rfl (fun n s' => ∃ i, n = xl.length + 1 - i ∧ i ≤ xl.length ∧ Kp B [cenv.locals, D] s0 s' ∧ St i s'.heap ∧ Acc B cenv Xd ρf D (ds0 ++ (xl.take i).flatMap out) s') ?_ (xl.length + 1)
    ⟨0, rfl, Nat.zero_le _, k0, hst, by simpa using acc⟩
  rintro n s1 ⟨i, rfl, hle, k1, hst1, ⟨F1, ys, hl1, hr1⟩⟩
  show wpAny _ A ((compTurn (.ListComp elt gens scope pos) depth (.ref I) (.ref D) cenv).onRaise (fun x => do noteFrame x cenv; theTreesLotGoes x)) _ _ s1
  refine wpAny_noted ?_
  rw [heq]
  refine wpAny_bind (wpAny_standAt (wpAny_bind ?_))
  obtain ⟨oI, vsI, eI, hnc, hdI⟩ := W.obj i _ hst1
  have stepI : ∀ s4, KpI B I s1 s4 → Kp B [cenv.locals, D] s0 s4 ∧ Acc B cenv Xd ρf D (ds0 ++ (xl.take i).flatMap out) s4 := by
    intro s4 k4
    have hne : ∀ b o, s1.heap.get? b = some o → Cont o → b ≠ I := fun b o e c q => by
      rw [q, eI] at e; cases e
      rcases c with ⟨_, _, q⟩ | ⟨_, _, q⟩ <;> (rw [hdI] at q; cases q)
    have hkc : ∀ b o, s1.heap.get? b = some o → Cont o → s4.heap.get? b = some o := fun b o e c => k4.keep b o (hne b o e c) (fun t ht => notTab (F1.g.tab t ht) e c) e
    refine ⟨⟨fun b o hb ht e => ?_, fun g => k4.gd (k1.gd g), fun b h => k4.alive F1.g (fun q => by rw [q, hI0] at h; cases h) (k1.alive b h), k4.gens.trans k1.gens, k4.os.trans k1.os⟩, F1.iter k4 hIX eI hdI, ys, ?_, hr1.imp (fun _ h _ => h) fun b o _ e c => hkc b o e c⟩
    · exact k4.keep b o (fun q => by rw [q, hI0] at e; cases e) ht (k1.keep b o hb ht e)
    · obtain ⟨n, e⟩ := hl1
      exact ⟨n, hkc _ _ e (.inl ⟨_, _, rfl⟩)⟩
  cases hd : xl[i]? with
  | none =>
    have hi : i = xl.length := Nat.le_antisymm hle (by simpa using hd)
    subst hi
    have hst1' : St (xl.map enc).length s1.heap := by simpa using hst1
    refine wpAny_mono (W.done s1 hst1' F1.g) (fun r s4 ⟨hr, k4⟩ => ?_) fun _ _ h => h.elim
    subst hr
    obtain ⟨k5, A5⟩ := stepI s4 k4
    rw [List.take_length] at A5
    exact wpAny_pure (hR s4 k5 A5)
  | some x =>
    have hlt : i < xl.length := (List.getElem?_eq_some_iff.mp hd).1
    refine wpAny_mono (W.item i (enc x) s1 (by simp [hd]) hst1 F1.g F1.alive) (fun r s4 ⟨v, hr, h4⟩ => ?_) fun _ _ h => h.elim
    subst hr
    refine wpAny_bind (wpAny_mono h4 (fun _ s5 ⟨k5, hst5, r5⟩ => ?_) fun _ _ h => h.elim)
    obtain ⟨k6, A6⟩ := stepI s5 k5
    obtain ⟨ρ1, ha, ho1, hsub, hgo⟩ := hturn i x hd
    refine wpAny_bind (wpAny_mono (ha A Xd s5 v hh A6.F r5) (fun _ s7 ⟨F7, k7⟩ => ?_) fun _ _ h => h.elim)
    have k7' : Kp B [cenv.locals, D] s5 s7 := k7.weaken fun a h => by rw [hmu ρf hof a h]; exact .head _
    have A7 : Acc B cenv Xd ρ1 D (ds0 ++ (xl.take i).flatMap out) s7 := by
      obtain ⟨zs, ⟨n, ez⟩, hrz⟩ := A6.l
      have hkc : ∀ b o, b ≠ cenv.locals → s5.heap.get? b = some o → Cont o → s7.heap.get? b = some o := fun b o hb e c => k7.keep b o (fun q => hb (hmu ρf hof b q)) (fun t ht => notTab (A6.F.g.tab t ht) e c) e
      refine ⟨F7, zs, ⟨n, hkc _ _ hDC ez (.inl ⟨_, _, rfl⟩)⟩, ?_⟩
      rw [hxs ρ1 ho1]
      exact hrz.imp (fun _ h _ => h) fun b o hb e c => hkc b o (fun q => hb (q ▸ .head _)) e c
    refine wpAny_mono (hgo s7 A7) (fun fin s8 ⟨hf, k8, A8⟩ => ?_) fun _ _ h => h.elim
    subst hf
    refine ⟨rfl, xl.length + 1 - (i + 1), by omega, i + 1, rfl, hlt, (k6.trans k7').trans k8, ?_, ?_⟩
    · have k58 := k7'.trans k8
      refine W.frame (i + 1) s5.heap s8.heap hst5 (fun o e => ?_) fun b o hb e hc => ?_
      · refine k58.keep I o (fun q => hIX ?_) (fun t ht q => ?_) e
        · rcases List.mem_cons.mp q with q | q
          · rw [q]; exact .head _
          · rw [List.mem_singleton.mp q]; exact hDX
        · obtain ⟨ps, h1, _⟩ := A6.F.g.tab t ht
          obtain ⟨o'', _, e'', hnc'', _⟩ := W.obj (i + 1) _ hst5
          rw [q, h1] at e''
          cases e''
          exact (hnc'' _ rfl).1 rfl
      · refine k58.keep b o (fun q => hb ?_) (fun t ht => notTab (A6.F.g.tab t ht) e hc) e
        rcases List.mem_cons.mp q with q | q
        · rw [q]; exact .head _
        · rw [List.mem_singleton.mp q]; exact hDX
    · have e1 : (xl.take (i + 1)).flatMap out = (xl.take i).flatMap out ++ out x := by
        rw [List.take_add_one, hd]; simp
      rw [e1, ← List.append_assoc]
      obtain ⟨F8, zs, h1, h2⟩ := A8
      exact ⟨F8.sub hsub (fun a h => by rw [hof] at h; cases h), zs, h1, hxs ρ1 ho1 ▸ h2⟩

theorem compTurn_list2 (elt target iter target2 iter2 : Expr) (scope : Scope) (pos : Pos) (it acc : Value) (env : Env) :
    compTurn (.ListComp elt [⟨target, iter, [], 0⟩, ⟨target2, iter2, [], 0⟩] scope pos) 0 it acc env = (do
      standAt iter.pos
      match ← pyNext it with
      | none => pure (.done .next)
      | some v =>
        letOwnedTupleGo target it v
        assign target env v
        (do
          let x ← eval iter2 env
          standAt iter2.pos
          let x ← foldedSetIterable iter2 env x
          let _ ← runOwn (.compStart (.ListComp elt [⟨target, iter, [], 0⟩, ⟨target2, iter2, [], 0⟩] scope pos) 1 (← holding [x] (pyIter x)) acc env) env
          again (.compLoop (.ListComp elt [⟨target, iter, [], 0⟩, ⟨target2, iter2, [], 0⟩] scope pos) 0 it acc env))) := by rfl
theorem compTurn_list21 (elt target iter target2 iter2 : Expr) (scope : Scope) (pos : Pos) (it acc : Value) (env : Env) :
    compTurn (.ListComp elt [⟨target, iter, [], 0⟩, ⟨target2, iter2, [], 0⟩] scope pos) 1 it acc env = (do
      standAt iter2.pos
      match ← pyNext it with
      | none => pure (.done .next)
      | some v =>
        letOwnedTupleGo target2 it v
        assign target2 env v
        (do
          (do let _ ← call (.builtin "list.append") [acc, ← eval elt env])
          again (.compLoop (.ListComp elt [⟨target, iter, [], 0⟩, ⟨target2, iter2, [], 0⟩] scope pos) 1 it acc env))) := by rfl
theorem codeAny_compStart_list2 {prog : Program} {w : World} {A : Around} {R : Result → Shared → Prop} {s : Shared} {elt target iter target2 iter2 scope pos it acc env}
    (h0 : codeAny (model prog w) A (.compLoop (.ListComp elt [⟨target, iter, [], 0⟩, ⟨target2, iter2, [], 0⟩] scope pos) 1 it acc env) R s)
    (h : wpAny (model prog w) A (pyIter it) (fun it' s' => codeAny (model prog w) A (.compLoop (.ListComp elt [⟨target, iter, [], 0⟩, ⟨target2, iter2, [], 0⟩] scope pos) 1 it' acc env) R s')
      (notedBy (model prog w) A env fun x s' => R (.error x) s') s) :
    codeAny (model prog w) A (.compStart (.ListComp elt [⟨target, iter, [], 0⟩, ⟨target2, iter2, [], 0⟩] scope pos) 1 it acc env) R s := by
  refine codeAny_of_tree ?_
  show wpAny _ _ ((compStart (.ListComp elt [⟨target, iter, [], 0⟩, ⟨target2, iter2, [], 0⟩] scope pos) 1 it acc env).onRaise (fun x => do noteFrame x env; standAt theWindowsPlace)) _ _ s
  refine wpAny_notedAt ?_
  unfold compStart
  show wpAny _ _ (ask >>= _) _ _ s
  refine wpAny_bind (wpAny_askSetting (wpAny_ite ?_))
  split
  · first
      | exact wpAny_bind (wpAny_pure (wpAny_pure (And.intro rfl h0)))
      | exact wpAny_pure (And.intro rfl h0)
  · first
      | exact wpAny_bind (wpAny_rule (wpAny_bind (wpAny_standAt (wpAny_bind (wpAny_mono h (fun it' s' h' => wpAny_pure (And.intro rfl h')) fun _ _ x => x)))))
      | (refine wpAny_bind (wpAny_rule ?_); show wpAny _ _ (standAt iter2.pos >>= _) _ _ s; exact wpAny_bind (wpAny_standAt (wpAny_bind (wpAny_mono h (fun it' s' h' => wpAny_pure (And.intro rfl h')) fun _ _ x => x))))
end
end Mine
end
section
open PySem PySem.W PyProof.Rows
set_option linter.unusedVariables false
namespace Mine
section
variable {B : Bs} {env : Env} {ρ : Rho} {k : Nat} {Xc : List Addr}

theorem flat_len {α β : Type} (out : α → List β) : ∀ (xl : List α) (i : Nat) (x : α), xl[i]? = some x → ((xl.take i).flatMap out).length + (out x).length ≤ (xl.flatMap out).length
  | [], i, x, h => by simp at h
  | y :: r, 0, x, h => by simp at h; subst h; simp
  | y :: r, i + 1, x, h => by
    have := flat_len out r i x (by simpa using h)
    simp only [List.take_succ_cons, List.flatMap_cons, List.length_append] at this ⊢
    omega

theorem flat_one {α β : Type} (o : α → β) : ∀ l : List α, (l.flatMap fun y => [o y]) = l.map o
  | [] => rfl
  | y :: r => by simp only [List.flatMap_cons, List.map_cons, flat_one o r]; rfl

/-- a turn of the outer clause of two -/
structure Turn2 (B : Bs) (k : Nat) (cenv : Env) (target target2 iter2 elt : Expr) (ρf : Rho) (d : PyData) (l2 : List PyData) (o : PyData → PyData) : Prop where
  go : ∃ ρ1, As B cenv target ρf d ρ1 ∧ owns ρ1 = [] ∧ (∀ p ∈ ρf, ρ1.lookup p.1 = some p.2) ∧ EvI B k cenv ρ1 iter2 target2 l2 ∧
    ∀ y ∈ l2, ∃ ρ2, As B cenv target2 ρ1 y ρ2 ∧ owns ρ2 = [] ∧ (∀ p ∈ ρ1, ρ2.lookup p.1 = some p.2) ∧ Ev B k cenv ρ2 elt (o y)

theorem comp2Inner {A : Around} {elt target iter target2 iter2 : Expr} {scope : Scope} {pos : Pos} {cenv : Env} {Xd : List Addr} {ρ1 : Rho} {D I : Addr} {s : Shared} {l2 : List PyData} {o : PyData → PyData} {ds0 : List PyData} (rm : Rm k A) (hfn : cenv.func = none) (hof : owns ρ1 = [])
    (hD : D ∈ Xd) (hBD : B.hB.get? D = none) (hDC : D ≠ cenv.locals) (hsz : ds0.length + l2.length ≤ sizeLine) (hi : EvI B k cenv ρ1 iter2 target2 l2) (hy : ∀ y ∈ l2, ∃ ρ2, As B cenv target2 ρ1 y ρ2 ∧ owns ρ2 = [] ∧ (∀ p ∈ ρ1, ρ2.lookup p.1 = some p.2) ∧ Ev B k cenv ρ2 elt (o y))
    (hs : ∀ x, foldedSetIterable iter2 cenv x = pure x) (acc : Acc B cenv Xd ρ1 D ds0 s) :
    wpAny B.M A (do
          let x ← eval iter2 cenv
          standAt iter2.pos
          let x ← foldedSetIterable iter2 cenv x
          let _ ← runOwn (.compStart (.ListComp elt [⟨target, iter, [], 0⟩, ⟨target2, iter2, [], 0⟩] scope pos) 1 (← holding [x] (pyIter x)) (.ref D) cenv) cenv
          again (.compLoop (.ListComp elt [⟨target, iter, [], 0⟩, ⟨target2, iter2, [], 0⟩] scope pos) 0 (.ref I) (.ref D) cenv))
      (fun fin s2 => fin = .again (.compLoop (.ListComp elt [⟨target, iter, [], 0⟩, ⟨target2, iter2, [], 0⟩] scope pos) 0 (.ref I) (.ref D) cenv) ∧ Kp B [cenv.locals, D] s s2 ∧ Acc B cenv Xd ρ1 D (ds0 ++ l2.map o) s2) (fun _ _ => False) s := by
  have hDX : D ∈ xs cenv Xd ρ1 := .tail _ (List.mem_append_right _ hD)
  refine wpAny_bind (wpAny_mono (hi A Xd s rm acc.F) (fun x s1 h1 => wpAny_bind (wpAny_standAt (wpAny_bind (wpAny_of_eq (hs x) (wpAny_bind (wpAny_holding (wpAny_mono h1 (fun it s2 h2 => ?_) fun _ _ h => h))))))) fun _ _ h => h)
  obtain ⟨k2, J, hit, hJ, hBJ, hW⟩ := h2
  subst hit
  obtain ⟨St, W, hst⟩ := hW (xs cenv Xd ρ1) fun a ha => .inl ha
  have acc2 : Acc B cenv Xd ρ1 D ds0 s2 := by
    obtain ⟨F, ys, ⟨n, e⟩, hr⟩ := acc
    have hk : ∀ b o, s.heap.get? b = some o → Cont o → s2.heap.get? b = some o := fun b o e c => kpCont (X := []) F.g k2 MuX.nil b o (fun h => nomatch h) e c
    exact ⟨F.kp k2, ys, ⟨n, hk _ _ e (.inl ⟨_, _, rfl⟩)⟩, hr.kp F.g k2⟩
  have hJX : J ∉ xs cenv Xd ρ1 := fun q => by have := acc.F.alive J q; rw [hJ] at this; cases this
  refine wpAny_bind (wpAny_runOwn (codeAny_mono (R := fun r s' => r = .ok .next ∧ Kp B [cenv.locals, D] s s' ∧ Acc B cenv Xd ρ1 D (ds0 ++ l2.map o) s') ?_ fun r s3 ⟨hr, k3, a3⟩ => ?_))
  · have loop : codeAny B.M A (.compLoop (.ListComp elt [⟨target, iter, [], 0⟩, ⟨target2, iter2, [], 0⟩] scope pos) 1 (.ref J) (.ref D) cenv) (fun r s' => r = .ok .next ∧ Kp B [cenv.locals, D] s s' ∧ Acc B cenv Xd ρ1 D (ds0 ++ l2.map o) s') s2 := by
      refine compLoopG (s0 := s) (xl := l2) (enc := id) (out := fun y => [o y]) (ds0 := ds0) rm.handled hfn hof (compTurn_list21 ..) (by simpa using W) acc2 k2.up hst hD hDC hJ hJX ?_ ?_
      · intro i y hiy
        obtain ⟨ρ2, ha, ho2, hsub, he⟩ := hy y (List.mem_of_getElem? hiy)
        refine ⟨ρ2, ha, ho2, hsub, fun s4 a4 => ?_⟩
        have hlen : (ds0 ++ (l2.take i).flatMap fun y => [o y]).length ≤ sizeLine := by
          have h1 := flat_len (fun y => [o y]) l2 i y hiy
          have h2 : (l2.flatMap fun y => [o y]).length = l2.length := by
            rw [flat_one, List.length_map]
          simp only [List.length_append] at h1 h2 ⊢
          omega
        generalize (ds0 ++ (l2.take i).flatMap fun y => [o y]) = ds1 at a4 hlen ⊢
        refine wpAny_bind (wpAny_bind (wpAny_mono (he A Xd s4 rm a4.F) (fun w s5 ⟨k5, r5⟩ => ?_) fun _ _ h => h))
        obtain ⟨F4, ys, ⟨n4, e4⟩, hr4⟩ := a4
        have hk5 : ∀ b o, s4.heap.get? b = some o → Cont o → s5.heap.get? b = some o := fun b o e c => kpCont (X := []) F4.g k5 MuX.nil b o (fun h => nomatch h) e c
        have hl5 : s5.heap.PlainList D ys.toArray := ⟨n4, hk5 _ _ e4 (.inl ⟨_, _, rfl⟩)⟩
        have hr5 := hr4.kp F4.g k5
        have F5 := F4.kp k5
        have hDX2 : D ∈ xs cenv Xd ρ2 := .tail _ (List.mem_append_right _ hD)
        refine wpAny_bind (wpAny_list_append_plain hl5 (fun h' hpl hsb => ?_) (by simp [hr4.length]; exact hlen))
        obtain ⟨n9, e9⟩ := id hl5
        obtain ⟨n9', e9'⟩ := id hpl
        have hk : ∀ b o, b ≠ D → s5.heap.get? b = some o → h'.get? b = some o := hsb.extBut
        have F10 : Fok B cenv Xd ρ2 h' := F5.butX hD hBD e9 (.inl ⟨_, _, rfl⟩) hDC hk (by rw [e9']; rfl)
        have hkx : ∀ b o, b ∉ xs cenv Xd ρ2 → s5.heap.get? b = some o → Cont o → h'.get? b = some o := fun b o hb e _ => hk b o (fun q => hb (q ▸ hDX2)) e
        refine wpAny_pure (wpAny_pure ⟨rfl, ?_, F10, ys ++ [w], by simpa using hpl, ?_⟩)
        · refine Kp.trans k5.up ⟨fun b o hb ht e => hk b o (fun q => hb (q ▸ .tail _ (.head _))) e, fun g => F10.g, fun b h => ?_, rfl, rfl⟩
          by_cases q : b = D
          · subst q; show (h'.get? b).isSome = true; rw [e9']; rfl
          · cases e : s5.heap.get? b with
            | none => rw [e] at h; cases h
            | some o => show (h'.get? b).isSome = true; rw [hk b o q e]; rfl
        · exact (hr5.imp (fun _ h _ => h) hkx).append (.cons (r5.imp (fun _ h _ => h) hkx) .nil)
      · intro s' k' a'
        refine ⟨rfl, k', ?_⟩
        rw [flat_one] at a'; exact a'
    exact codeAny_compStart_list2 loop (wpAny_mono (W.self 0 _ hst) (fun v s' ⟨h1, h2⟩ => by subst h1; subst h2; exact loop) fun _ _ h => h.elim)
  · subst hr
    exact wpAny_pure ⟨rfl, k3, a3⟩

theorem compBlock2 {A : Around} {elt target iter target2 iter2 : Expr} {scope : Scope} {pos : Pos} {cl : List (Str × Addr)} {ρf : Rho} {s : Shared} {α : Type} {xl : List α} {enc : α → PyData} {l2 : α → List PyData} {o : α → PyData → PyData}
    {RR : Value → Addr → Result → Shared → Prop} (rm : Rm k A) (F : Fok B env Xc ρ s.heap) (c : CFr env ρ scope cl ρf) (hi : EvI B k env ρ iter target (xl.map enc)) (hsz : (xl.flatMap fun x => (l2 x).map (o x)).length ≤ sizeLine) (hcell : ∀ y ∈ scope.names, y.2 ≠ .cell)
    (hturn : ∀ C, ∀ x ∈ xl, Turn2 B k (compEnvC scope cl C env) target target2 iter2 elt ρf (enc x) (l2 x) (o x))
    (hs2 : ∀ C x, foldedSetIterable iter2 (compEnvC scope cl C env) x = pure x)
    (hRR : ∀ D C s' ys m, D ≠ C → s.heap.get? D = none → s.heap.get? C = none → B.hB.get? D = none → B.hB.get? C = none → Kp B [] s s' → s'.heap.Ns C m → s'.heap.PlainList D ys.toArray → Reps B (C :: D :: xs env Xc ρ) s'.heap ys (xl.flatMap fun x => (l2 x).map (o x)) → RR (.ref D) C (.ok .next) s') :
    wpAny B.M A (eval iter env) (fun x s1 => wpAny B.M A (pyIter x) (fun it s2 => wpAny B.M A (newList []) (fun acc s3 =>
      wpAny B.M A (newFunctionEnv scope env.globals cl [] env.qual none .none (some env)) (fun cenv s4 =>
        codeAny B.M A (.compStart (.ListComp elt [⟨target, iter, [], 0⟩, ⟨target2, iter2, [], 0⟩] scope pos) 0 it acc { cenv with scope := relabel scope env }) (RR acc cenv.locals) s4) (fun _ _ => False) s3) (fun _ _ => False) s2) (fun _ _ => False) s1) (fun _ _ => False) s := by
  refine wpAny_mono (hi A Xc s rm F) (fun x s1 h1 => wpAny_mono h1 (fun it s2 ⟨k2, I, hit, hI, hBI, hW⟩ => ?_) fun _ _ h => h) fun _ _ h => h
  subst hit
  refine wpAny_newObj_type (wpAny_newFunctionEnv hcell (by intro y hy; simp at hy) (fun h₁ hns₁ hsb₁ => ?_) c.kind)
  dsimp only at hns₁ hsb₁ ⊢
  generalize hH2 : s2.heap.push { cls := .type "list", dict := none, data := .seq ([] : List Value).toArray } = H2 at hns₁ hsb₁ ⊢
  have hC : H2.objs.size = s2.heap.objs.size + 1 := by rw [← hH2, Heap.size_push]
  have hDC : s2.heap.objs.size ≠ H2.objs.size := by rw [hC]; exact Nat.ne_of_lt (Nat.lt_succ_self _)
  have below : ∀ b, b < s2.heap.objs.size → b ≠ H2.objs.size ∧ b ≠ s2.heap.objs.size := fun b hb => ⟨by rw [hC]; exact Nat.ne_of_lt (Nat.lt_succ_of_lt hb), Nat.ne_of_lt hb⟩
  have old : ∀ b o, s2.heap.get? b = some o → h₁.get? b = some o := fun b o e => hsb₁.extBut b o (below b (Heap.lt_size e)).1 (Heap.get?_push_of_some _ (hH2 ▸ Heap.get?_push_of_some _ e))
  have hacc : h₁.PlainList s2.heap.objs.size #[] := ⟨_, hsb₁.extBut _ _ hDC (Heap.get?_push_of_some _ (hH2 ▸ Heap.get?_push_size _ rfl))⟩
  have g2 := k2.gd F.g
  have none2 : ∀ a, s2.heap.objs.size ≤ a → s2.heap.get? a = none := fun a ha => Heap.get?_none_of_le ha
  have none0 : ∀ a, s2.heap.objs.size ≤ a → s.heap.get? a = none := fun a ha => by
    cases e : s.heap.get? a with
    | none => rfl
    | some o =>
      have := k2.alive a (by rw [e]; rfl)
      rw [none2 a ha] at this; cases this
  have hCle : s2.heap.objs.size ≤ H2.objs.size := by rw [hC]; exact Nat.le_succ _
  have k3 : ∀ tk, Kp B [] s { s2 with heap := h₁, toks := tk } := fun tk => k2.trans (.ofKeep old rfl rfl)
  have hDs : (h₁.get? s2.heap.objs.size).isSome = true := by obtain ⟨n, e⟩ := hacc; rw [e]; rfl
  have F3 : ∀ tk, Fok B (compEnvC scope cl H2.objs.size env) (s2.heap.objs.size :: xs env Xc ρ) ρf ({ s2 with heap := h₁, toks := tk } : Shared).heap := fun tk =>
    F.comp (k3 tk) c (none0 _ (Nat.le_refl _)) (none0 _ hCle) hDs hns₁ (g2.above hCle)
  have hxs : xs (compEnvC scope cl H2.objs.size env) (s2.heap.objs.size :: xs env Xc ρ) ρf = H2.objs.size :: s2.heap.objs.size :: xs env Xc ρ := by simp only [xs, c.owns, List.nil_append]; rfl
  have hX' : ∀ a ∈ H2.objs.size :: s2.heap.objs.size :: xs env Xc ρ, a ∈ xs env Xc ρ ∨ s2.heap.get? a = none := by
    intro a ha
    rcases List.mem_cons.mp ha with rfl | ha
    · exact .inr (none2 _ hCle)
    · rcases List.mem_cons.mp ha with rfl | ha
      · exact .inr (none2 _ (Nat.le_refl _))
      · exact .inl ha
  obtain ⟨St, W, hst⟩ := hW _ hX'
  have hIs : (s2.heap.get? I).isSome = true := by obtain ⟨o, vs, e, _⟩ := W.obj 0 _ hst; rw [e]; rfl
  have hIX : I ∉ H2.objs.size :: s2.heap.objs.size :: xs env Xc ρ := fun hm => (hX' I hm).elim (fun q => by have := F.alive I q; rw [hI] at this; cases this) fun q => by rw [q] at hIs; cases hIs
  have hst1 : St 0 h₁ := W.frame 0 _ _ hst (fun o e => old I o e) fun b o _ e _ => old b o e
  have loop : ∀ s₃ : Shared, s₃ = { s2 with heap := h₁, toks := s2.toks + ([] : List (Str × Value)).length } →
      codeAny B.M A (.compLoop (.ListComp elt [⟨target, iter, [], 0⟩, ⟨target2, iter2, [], 0⟩] scope pos) 0 (.ref I) (.ref s2.heap.objs.size) (compEnvC scope cl H2.objs.size env)) (RR (.ref s2.heap.objs.size) H2.objs.size) s₃ := by
    rintro s₃ rfl
    refine compLoopG (s0 := s) (Xd := s2.heap.objs.size :: xs env Xc ρ) (ρf := ρf) (xl := xl) (enc := enc) (out := fun x => (l2 x).map (o x)) (ds0 := []) rm.handled rfl c.owns (compTurn_list2 ..) (hxs ▸ W) ⟨F3 _, [], hacc, .nil⟩ (k3 _).up hst1 (.head _) hDC hI (hxs ▸ hIX) ?_ fun s' k' a' => ?_
    · intro i x hix
      obtain ⟨ρ1, h1, h2, h3, h4, h5⟩ := (hturn H2.objs.size x (List.mem_of_getElem? hix)).go
      refine ⟨ρ1, h1, h2, h3, fun s4 a4 => comp2Inner rm rfl h2 (.head _) (g2.above (Nat.le_refl _)) hDC ?_ h4 h5 (hs2 _) a4⟩
      have := flat_len (fun x => (l2 x).map (o x)) xl i x hix
      simp only [List.nil_append, List.length_map] at this ⊢
      omega
    · obtain ⟨F', ys, hl', hr'⟩ := a'
      obtain ⟨m, hm, _⟩ := F'.loc
      refine hRR _ _ s' ys m hDC (none0 _ (Nat.le_refl _)) (none0 _ hCle) (g2.above (Nat.le_refl _)) (g2.above hCle) ⟨fun b o _ ht e => k'.keep b o (fun q => ?_) ht e, k'.gd, k'.alive, k'.gens, k'.os⟩ hm hl' (hxs ▸ hr')
      rcases List.mem_cons.mp q with q | q
      · rw [q] at e; have := none0 _ hCle; rw [show (compEnvC scope cl H2.objs.size env).locals = H2.objs.size from rfl, this] at e; cases e
      · rw [List.mem_singleton.mp q, none0 _ (Nat.le_refl _)] at e; cases e
  exact codeAny_compStart_list (loop _ rfl) (wpAny_mono (W.self 0 _ hst1) (fun v s' ⟨h1, h2⟩ => by subst h1; subst h2; exact loop _ rfl) fun _ _ h => h.elim)

theorem compUse {A : Around} {x : Str} {px : Pos} {D C : Addr} {s s' : Shared} {ys : List Value} {m : Str → Option Value} {ds : List PyData} (F : Fok B env Xc ρ s.heap) (ha : Sto B env x ρ (.list ds)) (hDC : D ≠ C) (hD : s.heap.get? D = none) (hC : s.heap.get? C = none) (hBC : B.hB.get? C = none)
    (k' : Kp B [] s s') (hn : s'.heap.Ns C m) (hl : s'.heap.PlainList D ys.toArray) (hr : Reps B (C :: D :: xs env Xc ρ) s'.heap ys ds) :
    compPost B.M A (fun _ _ => False) (some (assign (.Name x px) env)) (fun _ s' => ∃ o, o = Out.nxt ((x, .val (.list ds)) :: ρ) ∧ Res B env Xc ρ s .next s' o) (.ref D) C (.ok .next) s' := by
  show wpAny _ A (assign (.Name x px) env (.ref D)) _ _ _
  have hCs : (s'.heap.get? C).isSome = true := by obtain ⟨o, _, _, e, _⟩ := hn; rw [e]; rfl
  have FC : Fok B env (C :: Xc) ρ s'.heap := F.shut k' hC hCs
  have hDX : D ∉ xs env (C :: Xc) ρ := fun q => by
    simp only [xs, List.mem_cons, List.mem_append] at q
    rcases q with q | q | q | q
    · have := F.alive D (by rw [q]; exact .head _); rw [hD] at this; cases this
    · have := F.alive D (.tail _ (List.mem_append_left _ q)); rw [hD] at this; cases this
    · exact hDC q
    · have := F.alive D (.tail _ (List.mem_append_right _ q)); rw [hD] at this; cases this
  have hsub : ∀ a ∈ xs env (C :: Xc) ρ, a ∈ C :: D :: xs env Xc ρ := fun a ha => by
    simp only [xs, List.mem_cons, List.mem_append] at ha ⊢
    rcases ha with q | q | q | q
    · exact .inr (.inr (.inl q))
    · exact .inr (.inr (.inr (.inl q)))
    · exact .inl q
    · exact .inr (.inr (.inr (.inr q)))
  refine PyProof.Rows.assign_Name (wpAny_mono (ha A (C :: Xc) s' _ (fun _ _ => False) FC (.list hl hDX (hr.sub hsub))) (fun _ s2 ⟨F2, k2⟩ => ?_) fun _ _ h => h)
  have hCmu : C ∉ mu env ρ := F.notIn hC
  have hn2 : ∃ m, s2.heap.Ns C m := by
    obtain ⟨o, es, ep, e, hd, r⟩ := hn
    exact ⟨m, o, es, ep, k2.keep C o hCmu (fun t ht => notTab (FC.g.tab t ht) e (.inr ⟨_, _, hd⟩)) e, hd, r⟩
  obtain ⟨m2, hn2⟩ := hn2
  refine ⟨m2, hn2, fun h'' hs'' => ⟨_, rfl, rfl, ?_, ?_, fun a ha => .inl ha⟩⟩
  · obtain ⟨o, es, ep, e, hd, _⟩ := id hn2
    have hCl : C ≠ env.locals := fun q => hCmu (q ▸ .head _)
    have hCX : C ∉ Xc := fun q => by have := F.xin C q; rw [hC] at this; cases this
    exact F2.gone (.head _) hBC e (.inr ⟨_, _, hd⟩) hCl hs''.extBut (fun b hb => .tail _ hb) hCX
  · refine ⟨fun b o hb ht e => hs''.extBut b o (fun q => by rw [q, hC] at e; cases e) (k2.keep b o hb ht (k'.keep b o (fun h => nomatch h) ht e)), fun g => ?_, fun b h => ?_, k2.gens.trans k'.gens, k2.os.trans k'.os⟩
    · obtain ⟨o, es, ep, e, hd, _⟩ := id hn2
      exact F2.g.but hBC e (notcode_dict hd) hs''.extBut
    · have := k2.alive b (k'.alive b h)
      cases e' : s2.heap.get? b with
      | none => rw [e'] at this; cases this
      | some o' => show (h''.get? b).isSome = true; rw [hs''.extBut b o' (fun q => by rw [q, hC] at h; cases h) e']; rfl

theorem Ex1.setComp2 {x : Str} {px spos : Pos} {elt target iter target2 iter2 : Expr} {scope : Scope} {pos : Pos} {cl : List (Str × Addr)} {ρf : Rho} {α : Type} {xl : List α} {enc : α → PyData} {l2 : α → List PyData} {o : α → PyData → PyData}
    (c : CFr env ρ scope cl ρf) (cs : CScope env scope cl) (hi : EvI B k env ρ iter target (xl.map enc)) (hsz : (xl.flatMap fun x => (l2 x).map (o x)).length ≤ sizeLine)
    (hturn : ∀ C, ∀ x ∈ xl, Turn2 B k (compEnvC scope cl C env) target target2 iter2 elt ρf (enc x) (l2 x) (o x)) (ha : Sto B env x ρ (.list (xl.flatMap fun x => (l2 x).map (o x))))
    (hsw : swapsWith (.ListComp elt [⟨target, iter, [], 0⟩, ⟨target2, iter2, [], 0⟩] scope pos) (some (.Name x px)) spos.line env = pure true := by rfl)
    (hs : ∀ x, foldedSetIterable iter env x = pure x := by intro _; rfl) (hs2 : ∀ C x, foldedSetIterable iter2 (compEnvC scope cl C env) x = pure x := by intro _ _; rfl) :
    Ex1 B k env ρ (.Assign [.Name x px] (.ListComp elt [⟨target, iter, [], 0⟩, ⟨target2, iter2, [], 0⟩] scope pos) spos) (fun out => out = .nxt ((x, .val (.list (xl.flatMap fun x => (l2 x).map (o x)))) :: ρ)) := fun A Xc s rm F => by
  rw [exec_Assign_Name_used _ _ _ _ hsw]
  refine wpAny_bind (wpAny_standAt (wpAny_bind ?_))
  show wpAny _ A (do let _ ← comprehension (.ListComp elt [⟨target, iter, [], 0⟩, ⟨target2, iter2, [], 0⟩] scope pos) scope env _ (newList []) false (eval iter env) (some (assign (.Name x px) env))) _ _ s
  refine wpAny_bind (wpAny_mono (wpAny_comprehension_free (use := some (assign (.Name x px) env)) (Q := fun _ s' => ∃ out, out = Out.nxt ((x, .val (.list (xl.flatMap fun x => (l2 x).map (o x)))) :: ρ) ∧ Res B env Xc ρ s .next s' out) rfl hs cs.clos c.kind cs.names
    (compBlock2 (RR := fun acc C => compPost B.M A (fun _ _ => False) (some (assign (.Name x px) env)) (fun _ s' => ∃ out, out = Out.nxt ((x, .val (.list (xl.flatMap fun x => (l2 x).map (o x)))) :: ρ) ∧ Res B env Xc ρ s .next s' out) acc C) rm F c hi hsz cs.cell hturn hs2 ?_)) (fun _ s' hq => wpAny_pure (wpAny_pure hq)) fun _ _ e => e)
  intro D C s' ys m hDC hD hC hBD hBC k' hn hl hr
  exact compUse F ha hDC hD hC hBC k' hn hl hr
end
end Mine
end
section
open PySem PySem.W PyProof.Rows
set_option linter.unusedVariables false
namespace Mine
section
variable {B : Bs} {env : Env} {ρ : Rho} {k : Nat} {Xc : List Addr}

theorem RepOs.nil_inv {X : List Addr} {h : Heap} {vs : List Value} (x : RepOs B X h vs []) : vs = [] := by cases x; rfl
theorem RepOs.four {X : List Addr} {h : Heap} {vs : List Value} {d e f g : PyData} (x : RepOs B X h vs [d, e, f, g]) : ∃ a b c w, vs = [a, b, c, w] ∧ RepO B X h a d ∧ RepO B X h b e ∧ RepO B X h c f ∧ RepO B X h w g := by
  cases x with | cons a b => cases b with | cons b c => obtain ⟨u, v, rfl, r1, r2⟩ := c.two; exact ⟨_, _, _, _, rfl, a, b, r1, r2⟩

theorem BC.len_list {ds : List PyData} (h : ds.length < 2 ^ 62) : BC B (.builtin "len") [.list ds] (.int ds.length) := fun A X s vs rm g hX r => by
  obtain ⟨v, rfl, r0⟩ := r.one
  obtain ⟨a, vs, rfl, hl, hr⟩ := r0.list_inv
  have hlen := hr.length
  refine Calls.call_len_list hl.isList (by simp; omega) ⟨.tk s _, ?_⟩
  have : (vs.toArray.size : Int) = (ds.length : Int) := by simp [hlen]
  rw [this]; exact .int _ _
theorem BC.len_str {x : Str} (h : x.length < 2 ^ 62) : BC B (.builtin "len") [.str x] (.int x.length) := fun A X s vs rm g hX r => by
  obtain ⟨v, rfl, r0⟩ := r.one
  obtain ⟨t, rfl⟩ := r0.str_inv
  exact PySem.P.len_str (by omega) ⟨.tk s _, .int _ _⟩
theorem BC.max (a b : Int) : BC B (.builtin "max") [.int a, .int b] (.int (max a b)) := fun A X s vs rm g hX r => by
  obtain ⟨v, w, rfl, r1, r2⟩ := r.two
  obtain ⟨t, rfl⟩ := r1.int_inv
  obtain ⟨u, rfl⟩ := r2.int_inv
  refine Flt.max_two_num rm.handled (.int a t) (.int b u) fun h' tk hk => ⟨.ofKeep hk rfl rfl, ?_⟩
  show Rep B X h' (if decide (a < b) = true then _ else _) _
  by_cases h : a < b
  · rw [if_pos (by simpa using h), Int.max_eq_right (Int.le_of_lt h)]; exact .int _ _
  · rw [if_neg (by simpa using h), Int.max_eq_left (by omega)]; exact .int _ _
theorem BC.min (a b : Int) : BC B (.builtin "min") [.int a, .int b] (.int (min a b)) := fun A X s vs rm g hX r => by
  obtain ⟨v, w, rfl, r1, r2⟩ := r.two
  obtain ⟨t, rfl⟩ := r1.int_inv
  obtain ⟨u, rfl⟩ := r2.int_inv
  refine Flt.min_two_num rm.handled (.int a t) (.int b u) fun h' tk hk => ⟨.ofKeep hk rfl rfl, ?_⟩
  show Rep B X h' (if decide (b < a) = true then _ else _) _
  by_cases h : b < a
  · rw [if_pos (by simpa using h), Int.min_eq_right (Int.le_of_lt h)]; exact .int _ _
  · rw [if_neg (by simpa using h), Int.min_eq_left (by omega)]; exact .int _ _
theorem BC.startswith (x y : Str) : BC B (.builtin "str.startswith") [.str x, .str y] (.bool (decide (0 + y.length ≤ x.length) && Builtin.Str.subAt x y 0)) := fun A X s vs rm g hX r => by
  obtain ⟨v, w, rfl, r1, r2⟩ := r.two
  obtain ⟨t, rfl⟩ := r1.str_inv
  obtain ⟨u, rfl⟩ := r2.str_inv
  exact call_gives F.slot_str_startswith (typeIs_str _ _ _) F.entry_str_startswith (F.args_str_startswith_2 _ _) (gives_str_startswith x y t u) ⟨.refl s, .bool _⟩
theorem BC.endswith (x y : Str) : BC B (.builtin "str.endswith") [.str x, .str y] (.bool (decide (0 + y.length ≤ x.length) && Builtin.Str.subAt x y (x.length - y.length))) := fun A X s vs rm g hX r => by
  obtain ⟨v, w, rfl, r1, r2⟩ := r.two
  obtain ⟨t, rfl⟩ := r1.str_inv
  obtain ⟨u, rfl⟩ := r2.str_inv
  exact call_gives F.slot_str_endswith (typeIs_str _ _ _) F.entry_str_endswith (F.args_str_endswith_2 _ _) (gives_str_endswith x y t u) ⟨.refl s, .bool _⟩
theorem gives_find4 (x y : Str) (i j : Int) (t u v w : Tok) : Gives (Builtin.«str.find» ⟨[.str x t, .str y u, .int i v, .int j w], []⟩) (.int (match Builtin.Str.occurrences x y (fromIndex x.length i) (min (fromIndex x.length j) x.length) 1 with | k :: _ => (k : Int) | [] => -1)) := by
  show Gives (match Builtin.Str.occurrences x y (fromIndex x.length i) (min (fromIndex x.length j) x.length) 1 with | k :: _ => retInt k | [] => (do rule "str.find.not-found"; retInt (-1))) _
  cases Builtin.Str.occurrences x y (fromIndex x.length i) (min (fromIndex x.length j) x.length) 1 with
  | nil => exact .rule (.of_eq rfl)
  | cons k _ => exact .of_eq rfl
noncomputable def findAt (x y : Str) (i j : Int) : Int := match Builtin.Str.occurrences x y (fromIndex x.length i) (min (fromIndex x.length j) x.length) 1 with
  | k :: _ => (k : Int)
  | [] => -1
theorem BC.find (x y : Str) (i j : Int) : BC B (.builtin "str.find") [.str x, .str y, .int i, .int j] (.int (findAt x y i j)) := fun A X s vs rm g hX r => by
  obtain ⟨v1, v2, v3, v4, rfl, r1, r2, r3, r4⟩ := r.four
  obtain ⟨t, rfl⟩ := r1.str_inv
  obtain ⟨u, rfl⟩ := r2.str_inv
  obtain ⟨v, rfl⟩ := r3.int_inv
  obtain ⟨w, rfl⟩ := r4.int_inv
  exact call_gives F.slot_str_find (typeIs_str _ _ _) F.entry_str_find (F.args_str_find_4 _ _ _ _) (gives_find4 x y i j t u v w) ⟨.tk s _, .int _ _⟩

/-! sums -/
theorem Reps.ints {X : List Addr} {h : Heap} : ∀ {vs : List Value} {ns : List Int}, Reps B X h vs (ns.map PyData.int) → ∀ i v, vs[i]? = some v → ∃ t, v = Value.int (ns.getD i 0) t
  | [], [], _, i, v, e => by simp at e
  | _ :: _, n :: ns, .cons r rs, 0, v, e => by
    obtain ⟨t, rfl⟩ := r.int_inv
    simp at e; subst e; exact ⟨t, rfl⟩
  | _ :: _, n :: ns, .cons r rs, i + 1, v, e => by
    obtain ⟨t, q⟩ := Reps.ints rs i v (by simpa using e)
    exact ⟨t, by simpa using q⟩
theorem preSum_take (ns : List Int) : ∀ n, n ≤ ns.length → preSum (fun i => ns.getD i 0) n = (ns.take n).sum
  | 0, _ => by simp [preSum]
  | n + 1, h => by
    rw [preSum, preSum_take ns n (by omega), List.take_add_one]
    have : ns[n]? = some ns[n] := by simp [show n < ns.length from h]
    rw [this, List.sum_append]
    simp [List.getD_eq_getElem?_getD, this]
theorem BC.sum (ns : List Int) : BC B (.builtin "sum") [.list (ns.map PyData.int)] (.int ns.sum) := fun A X s vs rm g hX r => by
  obtain ⟨v, rfl, r0⟩ := r.one
  obtain ⟨a, vs, rfl, hl, hr⟩ := r0.list_inv
  refine call_sum_walkG (wpAny_pyIter_list hl.isList ?_)
  have hne : a ≠ s.heap.objs.size := by obtain ⟨n, e⟩ := hl; exact Nat.ne_of_lt (Heap.lt_size e)
  have hlt : a < s.heap.objs.size := by obtain ⟨n, e⟩ := hl; exact Heap.lt_size e
  refine ⟨s.heap.objs.size, _, _, _, _, _, fun i => ns.getD i 0, rfl, Walks.list (A := A.in1) rm.handled s.heap.objs.size a hne vs.toArray, ⟨⟨_, Heap.get?_push_size _ rfl, rfl, rfl⟩, hl.isList.push _⟩, fun b hb => ?_, fun i v e => hr.ints i v (by simpa using e), fun h' tk t' hk => ⟨.ofKeep (fun b o e => hk b o ?_ (Heap.get?_push_of_some _ e)) rfl rfl, ?_⟩⟩
  · rw [Heap.size_push]
    simp only [List.mem_cons, List.not_mem_nil, or_false] at hb
    rcases hb with rfl | rfl
    · exact Nat.lt_succ_self _
    · exact Nat.lt_succ_of_lt hlt
  · intro q
    simp only [List.mem_cons, List.not_mem_nil, or_false] at q
    rw [q] at e; exact Nat.lt_irrefl _ (Heap.lt_size e)
  · have : vs.toArray.size = ns.length := by simpa using hr.length
    rw [this, preSum_take ns ns.length (Nat.le_refl _), List.take_length]; exact .int _ _
theorem BC.list_list {ds : List PyData} (h : ds.length ≤ 1000) : BC B (.type "list") [.list ds] (.list ds) := fun A X s vs rm g hX r => by
  obtain ⟨v, rfl, r0⟩ := r.one
  obtain ⟨a, vs, rfl, hl, hr⟩ := r0.list_inv
  obtain ⟨n, e⟩ := id hl
  have hlen := hr.length
  refine call_list_seq a (.inl rfl) e rfl rfl (fun h' c' hk e' => ⟨.ofKeep hk rfl rfl, .list ⟨_, e'⟩ (fun q => ?_) (hr.keeps hk)⟩) (by simp [sizeLine_eq, hlen]; omega)
  have := hX _ q
  rw [Heap.get?_none_of_le (Nat.le_refl _)] at this; cases this
end
end Mine
end
section
open PySem PySem.W PyProof.Rows
set_option linter.unusedVariables false
namespace Mine
section
variable {B : Bs} {env : Env} {ρ : Rho} {k : Nat} {Xc : List Addr}

theorem Ev.listRange {func e : Expr} {pos : Pos} {b : Int} (hf : EvV B (k + 1) env ρ func (.type "list")) (h : EvR B (k + 1) env ρ e 0 b) (hb0 : 0 ≤ b) (hb : b ≤ 1000)
    (he : eval (.Call func [e] [] pos) env = (do callWith pos (← eval func env) [] (backTo pos (starEach [e] env)) (backToKw pos (keywordEach [] env))) := by rfl)
    (hst : starEach [e] env = [(false, eval e env)] := by rfl) : Ev B (k + 1) env ρ (.Call func [e] [] pos) (.list (rng 0 b)) := fun A Xc s rm F => by
  rw [he]
  refine wpAny_bind (hf.bind rm F fun s1 k1 F1 => ?_)
  show wpAny _ _ (callWith pos (.type "list") [] (backTo pos (starEach [e] env)) []) _ _ s1
  rw [hst]
  refine callWith_bare (.ty _) rfl (Calls.spliced_cons (wpAny_mono (h A Xc s1 rm F1) (fun v s2 ⟨k2, r, t, u, w, hv, hr⟩ => Calls.spliced_nil ?_) fun _ _ h => h.elim))
  subst hv
  have F2 := F1.kp k2
  refine call_list_range (n := b.toNat) rm.handled hr (small_one (by omega) (by omega) (by omega) (by omega)) (by rw [rangeSize_nat]; simp) (by omega) fun h' tk acc' c' hk e' hi => ⟨((k1.trans k2).trans (.ofKeep hk rfl rfl)), ?_⟩
  have hac : acc' = acc'.toList.toArray := by simp
  rw [hac] at e'
  refine .list ⟨_, e'⟩ (fun q => ?_) ?_
  · have := F2.alive _ q
    rw [Heap.get?_none_of_le (Nat.le_refl _)] at this; cases this
  · have key : ∀ (vs : List Value) (n : Nat) (a : Int), vs.length = n → (∀ j v, vs[j]? = some v → ∃ t, v = Value.int (a + (j : Nat)) t) → Reps B (xs env Xc ρ) h' vs ((List.range n).map fun (i : Nat) => PyData.int (a + (i : Int))) := by
      intro vs
      induction vs with
      | nil => intro n a hn _; subst hn; exact .nil
      | cons v vs ih =>
        intro n a hn hv
        subst hn
        obtain ⟨t, rfl⟩ := hv 0 v rfl
        have := ih vs.length (a + 1) rfl fun j v hj => by
          obtain ⟨t, e⟩ := hv (j + 1) v (by simpa using hj)
          exact ⟨t, by rw [e]; congr 1; push_cast; omega⟩
        rw [show (Value.int (a + ((0 : Nat) : Int)) t :: vs).length = vs.length + 1 from rfl, List.range_succ_eq_map, List.map_cons, List.map_map]
        refine .cons (.int _ _) ?_
        have e2 : ((fun (i : Nat) => PyData.int (a + (i : Int))) ∘ Nat.succ) = fun (i : Nat) => PyData.int (a + 1 + (i : Int)) := by
          funext i; show PyData.int (a + ((i + 1 : Nat) : Int)) = _; congr 1; push_cast; omega
        rw [e2]; exact this
    have hlen : acc'.toList.length = (b - 0).toNat := by
      rw [Int.sub_zero, Array.length_toList]; exact hi.1
    exact key acc'.toList _ 0 hlen fun j v hj => by
      obtain ⟨t, e⟩ := hi.2 j v (by rw [← Array.getElem?_toList]; exact hj)
      exact ⟨t, by rw [e]; congr 1; omega⟩

/-- keys of a dictionary -/
theorem Reps.keys {X : List Addr} {h : Heap} : ∀ {vs : List Value} {kvs : List (Str × Value)}, vs.length = kvs.length → (∀ (j : Nat) (v : Value), vs[j]? = some v → ∃ k x, kvs[j]? = some (k, x) ∧ Value.isStrOf k v = true) → Reps B X h vs ((kvs.map (·.1)).map PyData.str)
  | [], [], _, _ => .nil
  | [], _ :: _, hl, _ => by simp at hl
  | _ :: _, [], hl, _ => by simp at hl
  | v :: vs, p :: kvs, hl, hv => by
    obtain ⟨k, x, e1, e2⟩ := hv 0 v rfl
    obtain ⟨t, rfl⟩ := Value.isStrOf_shape e2
    simp at e1; subst e1
    exact .cons (.str _ _) (Reps.keys (by simpa using hl) fun j v hj => by simpa using hv (j + 1) v (by simpa using hj))
theorem BC.list_dict {l : List (Str × PyData)} (h : l.length ≤ 1000) : BC B (.type "list") [dct l] (.list ((l.map (·.1)).map PyData.str)) := fun A X s vs rm g hX r => by
  obtain ⟨v, rfl, r0⟩ := r.one
  obtain ⟨a, kvs, rfl, hd, hs, hm, hr⟩ := r0.dct_inv
  obtain ⟨ep, hat⟩ := hd.dictAt
  have hlen : kvs.length = l.length := by simpa using congrArg List.length hm
  refine kdl_call (kdl_dict (knd := strKind B.prog B.w) (kvs := kvs) (ep := ep) hs) rm.handled hat (by rw [sizeLine_eq]; omega) fun h' tk acc' c' hk e' hi => ⟨.ofKeep hk rfl rfl, ?_⟩
  have hac : acc' = acc'.toList.toArray := by simp
  rw [hac] at e'
  refine .list ⟨_, e'⟩ (fun q => ?_) ?_
  · have := hX _ q
    rw [Heap.get?_none_of_le (Nat.le_refl _)] at this; cases this
  · rw [← hm]
    exact Reps.keys (by rw [Array.length_toList]; exact hi.1) fun j v hj => hi.2 j v (by rw [← Array.getElem?_toList]; exact hj)

/-- the pairs of a dictionary -/
theorem Reps.pairs {X : List Addr} {h : Heap} : ∀ {as : List Addr} {kvs : List (Str × Value)} {l : List (Str × PyData)}, as.length = kvs.length → (∀ a ∈ as, a ∉ X) → (∀ (j : Nat) (a : Addr), as[j]? = some a → ∃ key k x, kvs[j]? = some (k, x) ∧ Value.isStrOf k key = true ∧ h.get? a = some { cls := .type "tuple", data := .seq #[key, x] }) →
    kvs.map (·.1) = l.map (·.1) → Reps B X h (kvs.map (·.2)) (l.map (·.2)) → Reps B X h (as.map Value.ref) (l.map fun p => PyData.tuple [.str p.1, p.2])
  | [], [], [], _, _, _, _, _ => .nil
  | [], [], _ :: _, _, _, _, e, _ => by simp at e
  | [], _ :: _, _, hl, _, _, _, _ => by simp at hl
  | _ :: _, [], _, hl, _, _, _, _ => by simp at hl
  | _ :: _, _ :: _, [], _, _, _, e, _ => by simp at e
  | a :: as, p :: kvs, q :: l, hl, hx, hp, e, .cons r rs => by
    obtain ⟨key, k, x, e1, e2, e3⟩ := hp 0 a rfl
    obtain ⟨t, rfl⟩ := Value.isStrOf_shape e2
    simp at e1; subst e1
    simp only [List.map_cons, List.cons.injEq] at e
    refine .cons (.tuple (vs := [.str k t, x]) ⟨_, e3, rfl, _, rfl⟩ (hx a (.head _)) (.cons ?_ (.cons r .nil))) (Reps.pairs (by simpa using hl) (fun b hb => hx b (.tail _ hb)) (fun j b hj => by simpa using hp (j + 1) b (by simpa using hj)) e.2 rs)
    rw [← e.1]; exact .str _ _

theorem callItems {e : Expr} {apos pos : Pos} {A : Around} {s : Shared} {l : List (Str × PyData)} {Q : Value → Shared → Prop} (h : Ev B k env ρ e (dct l)) (rm : Rm k A) (F : Fok B env Xc ρ s.heap)
    (hbase : attributeBase e "items" env (eval e env) = eval e env := by rfl) (hline : (apos.endLine == pos.line) = true := by rfl)
    (hQ : ∀ s1 a kvs ep, Kp B [] s s1 → (a == sysModules) = false → a ∉ xs env Xc ρ → s1.heap.DictAt (strKind B.prog B.w) a kvs ep → kvs.map (·.1) = l.map (·.1) → Reps B (xs env Xc ρ) s1.heap (kvs.map (·.2)) (l.map (·.2)) →
      Q (.ref s1.heap.objs.size) { s1 with heap := s1.heap.push { cls := .type "dict_items", data := .fields #[.ref a] } }) :
    wpAny B.M A (eval (.Call (.Attribute e "items" apos) [] [] pos) env) Q (fun _ _ => False) s := by
  refine wpAny_Call_method (T := "dict") (id := "dict.items") hbase rfl hline PySem.F.plainAttrs_dict PySem.F.slot_dict_items PySem.F.type_dict_items (h.bind rm F fun v s1 k1 F1 r1 => ?_)
  obtain ⟨a, kvs, rfl, hd, hs, ha, hm, hr⟩ := r1.dct_inv
  obtain ⟨ep, hat⟩ := hd.dictAt
  refine ⟨hd.typeIs, hd.mapOf.noDict, ?_⟩
  show wpAny _ _ (callWith pos (.builtin "dict.items") [.ref a] [] []) _ _ s1
  exact method_meetsIn PySem.F.slot_dict_items PySem.F.entry_dict_items rfl (PySem.evalArgs_none ⟨rfl, hd.typeIs, PySem.F.args_dict_items_1 _, _, meets_dict_items (strKind B.prog B.w) a hs, ⟨kvs, hd⟩, hQ s1 a kvs ep k1 hs ha hat hm hr⟩)
theorem Ev.listItems {func e : Expr} {apos cpos pos : Pos} {l : List (Str × PyData)} (hf : EvV B (k + 1) env ρ func (.type "list")) (h : Ev B (k + 1) env ρ e (dct l)) (hsz : l.length ≤ 1000)
    (he : eval (.Call func [.Call (.Attribute e "items" apos) [] [] cpos] [] pos) env = (do callWith pos (← eval func env) [] (backTo pos (starEach [.Call (.Attribute e "items" apos) [] [] cpos] env)) (backToKw pos (keywordEach [] env))) := by rfl)
    (hst : starEach [.Call (.Attribute e "items" apos) [] [] cpos] env = [(false, eval (.Call (.Attribute e "items" apos) [] [] cpos) env)] := by rfl)
    (hbase : attributeBase e "items" env (eval e env) = eval e env := by rfl) (hline : (apos.endLine == cpos.line) = true := by rfl) :
    Ev B (k + 1) env ρ (.Call func [.Call (.Attribute e "items" apos) [] [] cpos] [] pos) (.list (l.map fun p => PyData.tuple [.str p.1, p.2])) := fun A Xc s rm F => by
  rw [he]
  refine wpAny_bind (hf.bind rm F fun s1 k1 F1 => ?_)
  show wpAny _ _ (callWith pos (.type "list") [] (backTo pos (starEach [.Call (.Attribute e "items" apos) [] [] cpos] env)) []) _ _ s1
  rw [hst]
  refine callWith_bare (.ty _) rfl (Calls.spliced_cons (callItems h rm F1 hbase hline fun s2 a kvs ep k2 hs ha hat hm hr => Calls.spliced_nil ?_))
  have F2 := F1.kp k2
  have hlen : kvs.length = l.length := by simpa using congrArg List.length hm
  have hk0 : ∀ b o, s2.heap.get? b = some o → (s2.heap.push { cls := .type "dict_items", data := .fields #[.ref a] }).get? b = some o := fun b o e => Heap.get?_push_of_some _ e
  refine kdx_call (knd := strKind B.prog B.w) (kvs := kvs) (ep := ep) (d := a) rm.handled ⟨_, Heap.get?_push_size _ rfl, rfl, rfl⟩ (hat.push _) (by rw [sizeLine_eq]; omega) fun h' tk acc c as hk e' hl hG hacc => ⟨(k1.trans k2).trans (.ofKeep (fun b o e => hk b o (hk0 b o e)) rfl rfl), ?_⟩
  have hfr : ∀ x, s2.heap.objs.size ≤ x → x ∉ xs env Xc ρ := fun x hx q => by
    have := F2.alive _ q
    rw [Heap.get?_none_of_le hx] at this; cases this
  have hsz1 : s2.heap.objs.size ≤ (s2.heap.push { cls := .type "dict_items", data := .fields #[.ref a] }).objs.size := by rw [Heap.size_push]; omega
  have hac : acc = (as.map Value.ref).toArray := by rw [← hacc, Array.toArray_toList]
  rw [hac] at e'
  refine .list ⟨_, e'⟩ (hfr _ hsz1) (Reps.pairs hl (fun b hb => hfr b (Nat.le_trans hsz1 (Nat.le_of_lt (hG.above b hb)))) hG.pairs hm (hr.keeps fun b o e => hk b o (hk0 b o e)))

/-! walks over a dictionary -/
theorem EvI.values {e : Expr} {apos pos : Pos} {target : Expr} {l : List (Str × PyData)} (h : Ev B k env ρ e (dct l))
    (hbase : attributeBase e "values" env (eval e env) = eval e env := by rfl) (hline : (apos.endLine == pos.line) = true := by rfl) :
    EvI B k env ρ (.Call (.Attribute e "values" apos) [] [] pos) target (l.map (·.2)) := fun A Xc s rm F => by
  refine wpAny_Call_method (T := "dict") (id := "dict.values") hbase rfl hline PySem.F.plainAttrs_dict PySem.F.slot_dict_values PySem.F.type_dict_values (h.bind rm F fun v s1 k1 F1 r1 => ?_)
  obtain ⟨a, kvs, rfl, hd, hs, ha, hm, hr⟩ := r1.dct_inv
  obtain ⟨ep, hat⟩ := hd.dictAt
  refine ⟨hd.typeIs, hd.mapOf.noDict, ?_⟩
  show wpAny _ _ (callWith pos (.builtin "dict.values") [.ref a] [] []) _ _ s1
  refine method_meetsIn PySem.F.slot_dict_values PySem.F.entry_dict_values rfl (PySem.evalArgs_none ⟨rfl, hd.typeIs, PySem.F.args_dict_values_1 _, _, meets_dict_values (strKind B.prog B.w) a hs, ⟨kvs, hd⟩, ?_⟩)
  let s2 : Shared := { s1 with heap := s1.heap.push { cls := .type "dict_values", data := .fields #[.ref a] } }
  have k2 : Kp B [] s s2 := k1.trans (.push s1 _ s1.toks)
  have F2 : Fok B env Xc ρ s2.heap := F.kp k2
  have hk0 : ∀ b o, s1.heap.get? b = some o → s2.heap.get? b = some o := fun b o e => Heap.get?_push_of_some _ e
  show wpAny _ _ (pyIter (.ref s1.heap.objs.size)) _ _ s2
  have hat2 : s2.heap.DictAt (strKind B.prog B.w) a kvs ep := hat.push _
  refine wpAny_pyIter_values (s := s2) ⟨_, Heap.get?_push_size _ rfl, rfl, rfl⟩ hat2 ⟨k2.trans (.push s2 _ s2.toks), s2.heap.objs.size, rfl, (freshI F.g k2).1, (freshI F.g k2).2, fun X' hX' => ⟨fun i h => (h.IsValIter s2.heap.objs.size a i kvs.length ep ∧ h.DictAt (strKind B.prog B.w) a kvs ep) ∧ (h.DictAt (strKind B.prog B.w) a kvs ep ∧ Reps B X' h (kvs.map (·.2)) (l.map (·.2))), ?_, ?_⟩⟩
  all_goals
    have hX1 : ∀ b ∈ X', b ∈ xs env Xc ρ ∨ s1.heap.get? b = none := fun b hb => (hX' b hb).imp id fun e => by
      cases q : s1.heap.get? b with
      | none => rfl
      | some o =>
        have e : (s2.heap.push _).get? b = none := e
        rw [Heap.get?_push_of_some _ (hk0 b o q)] at e; cases e
    have hr' : Reps B X' s1.heap (kvs.map (·.2)) (l.map (·.2)) := hr.more hX1
    have ha' : a ∉ X' := fun hm => (hX1 a hm).elim ha fun e => by obtain ⟨o, es, q, _⟩ := hat; rw [q] at e; cases e
  · have hne : a ≠ s2.heap.objs.size := Nat.ne_of_lt hat2.lt_size
    have W := Walks.dictValues (prog := B.prog) (w := B.w) (knd := strKind B.prog B.w) rm.handled s2.heap.objs.size a hne kvs ep
    have hlen : kvs.length = (l.map (·.2)).length := by simpa using congrArg List.length hm
    rw [hlen] at W ⊢
    refine Iter.ofWalks (n := "dict_valueiterator") W (fun h => h.DictAt (strKind B.prog B.w) a kvs ep ∧ Reps B X' h (kvs.map fun (q : Str × Value) => q.2) (l.map fun (q : Str × PyData) => q.2)) (fun i h st => ?_) (by decide) (freshI F.g k2).2 ?_ (fun h h' ⟨p, r⟩ hk => ⟨?_, r.imp (fun _ h _ => h) hk⟩) (fun i h st ⟨p, r⟩ b hb => ?_) fun h ⟨p, r⟩ i v d hp hd => ?_
    · obtain ⟨⟨o, e, hc, hd⟩, _⟩ := st
      exact ⟨o, _, e, hc, hd, fun q t e => by simp at e⟩
    · exact notX F k2 rfl hX'
    · obtain ⟨o, es, e, r1, hd, r2⟩ := p; exact ⟨o, es, hk _ _ ha' e (.inr ⟨_, _, hd⟩), r1, hd, r2⟩
    · simp only [List.mem_cons, List.not_mem_nil, or_false] at hb
      rcases hb with rfl | rfl
      · exact .inl rfl
      · obtain ⟨o, es, e, r1, hd, r2⟩ := p; exact .inr ⟨ha', _, e, .inr ⟨_, _, hd⟩⟩
    · obtain ⟨w, h1, h2⟩ := r.get hd
      obtain ⟨key, hp⟩ := hp
      rw [List.getElem?_map, hp] at h1
      cases h1; exact h2
  · exact ⟨⟨⟨_, Heap.get?_push_size _ rfl, rfl, rfl⟩, hat2.push _⟩, hat2.push _, hr'.keeps fun b o e => Heap.get?_push_of_some _ (hk0 b o e)⟩

theorem entry_itemiter : entryFor table "dict_itemiterator.__iter__" = some Builtin.«dict_keyiterator.__iter__» :=
  entryFor_alias (id' := "dict_keyiterator.__iter__") (by kernel_rfl) rfl (by decide +kernel) (by kernel_rfl)
theorem pyIter_itemiter {prog : Program} {w : World} {A : Around} {E : Value → Shared → Prop} {s : Shared} {it : Addr} {Q : Value → Shared → Prop} (hit : s.TypeIs (.ref it) "dict_itemiterator") (h : Q (.ref it) s) : wpAny (model prog w) A (pyIter (.ref it)) Q E s := by
  refine wpAny_pyIter_slot hit PySem.F.slot_dict_itemiterator_iter (wpAny_call_entry PySem.F.slot_dict_itemiterator_iter hit entry_itemiter ?_ (PySem.F.args_dict_itemiterator_iter_1 _))
  show wpAny _ _ (ret (.ref it)) _ _ s
  exact wpAny_pure ⟨_, rfl, "dict_itemiterator", _, hit, PySem.F.slot_dict_itemiterator_next.lookup, h⟩

theorem EvI.items {e : Expr} {apos pos tpos : Pos} {elts : List Expr} {x1 : Nat} {l : List (Str × PyData)} (h : Ev B k env ρ e (dct l))
    (hbase : attributeBase e "items" env (eval e env) = eval e env := by rfl) (hline : (apos.endLine == pos.line) = true := by rfl) :
    EvI B k env ρ (.Call (.Attribute e "items" apos) [] [] pos) (.Tuple elts x1 tpos) (l.map fun p => PyData.tuple [.str p.1, p.2]) := fun A Xc s rm F => by
  refine callItems h rm F hbase hline fun s1 a kvs ep k1 hs ha hat hm hr => ?_
  let s2 : Shared := { s1 with heap := s1.heap.push { cls := .type "dict_items", data := .fields #[.ref a] } }
  have k2 : Kp B [] s s2 := k1.trans (.push s1 _ s1.toks)
  have F2 : Fok B env Xc ρ s2.heap := F.kp k2
  have hk0 : ∀ b o, s1.heap.get? b = some o → s2.heap.get? b = some o := fun b o e => Heap.get?_push_of_some _ e
  show wpAny _ _ (pyIter (.ref s1.heap.objs.size)) _ _ s2
  have hat2 : s2.heap.DictAt (strKind B.prog B.w) a kvs ep := hat.push _
  have hlen : kvs.length = l.length := by simpa using congrArg List.length hm
  refine wpAny_pyIter_items (s := s2) ⟨_, Heap.get?_push_size _ rfl, rfl, rfl⟩ hat2 ⟨k2.trans (.push s2 _ s2.toks), s2.heap.objs.size, rfl, (freshI F.g k2).1, (freshI F.g k2).2, fun X' hX' => ⟨fun i h => (∃ ok ov, IsItemIter h s2.heap.objs.size a i kvs.length ep ok ov) ∧ (h.DictAt (strKind B.prog B.w) a kvs ep ∧ Reps B X' h (kvs.map (·.2)) (l.map (·.2))), ?_, ?_⟩⟩
  all_goals
    have hX1 : ∀ b ∈ X', b ∈ xs env Xc ρ ∨ s1.heap.get? b = none := fun b hb => (hX' b hb).imp id fun e => by
      cases q : s1.heap.get? b with
      | none => rfl
      | some o =>
        have e : (s2.heap.push _).get? b = none := e
        rw [Heap.get?_push_of_some _ (hk0 b o q)] at e; cases e
    have hr' : Reps B X' s1.heap (kvs.map (·.2)) (l.map (·.2)) := hr.more hX1
    have ha' : a ∉ X' := fun hm => (hX1 a hm).elim ha fun e => by obtain ⟨o, es, q, _⟩ := hat; rw [q] at e; cases e
  · have hne : a ≠ s2.heap.objs.size := Nat.ne_of_lt hat2.lt_size
    have hIX : s2.heap.objs.size ∉ X' := notX F k2 rfl hX'
    have hBI := (freshI F.g k2).2
    generalize s2.heap.objs.size = I at hne hIX hBI ⊢
    have hnc : ∀ (vs : Array Value), (∀ q t, vs[1]? ≠ some (.str q t)) → NotCode { cls := .type "dict_itemiterator", dict := none, data := .fields vs, slots := #[] } := fun vs h1 vs' e => by cases e; exact ⟨(fun q => nomatch q), h1⟩
    refine { frame := fun i h h' ⟨⟨ok, ov, st⟩, p, r⟩ hk1 hk2 => ⟨⟨ok, ov, hk1 _ st⟩, ?_, r.imp (fun _ h _ => h) hk2⟩, obj := fun i h ⟨⟨ok, ov, st⟩, p, r⟩ => ⟨_, _, st, hnc _ (fun q t e => by simp at e), rfl⟩, item := ?_, done := ?_, self := fun i s ⟨⟨ok, ov, st⟩, p, r⟩ => pyIter_itemiter ⟨_, st, rfl⟩ ⟨rfl, rfl⟩ }
    · obtain ⟨o, es, e, r1, hd, r2⟩ := p; exact ⟨o, es, hk2 _ _ ha' e (.inr ⟨_, _, hd⟩), r1, hd, r2⟩
    · intro i d s hd ⟨⟨ok, ov, st⟩, p, r⟩ g hX
      have hi : i < l.length := by simpa using (List.getElem?_eq_some_iff.mp hd).1
      obtain ⟨⟨kk, x⟩, hx⟩ : ∃ q, kvs[i]? = some q := ⟨kvs[i], by simp [hlen, hi]⟩
      refine wpAny_pyNext_items_item st p hx fun key h1 hkey hout htup hsz hk => ⟨_, rfl, ?_⟩
      refine wpAny_letOwnedTupleGo_items hout fun h2 hit hsb => ?_
      have hk2 : ∀ b o, b ≠ I → s.heap.get? b = some o → h2.get? b = some o := fun b o hb e => hsb.extBut b o hb (hk b o hb e)
      have htI : s.heap.objs.size ≠ I := fun q => by have := Heap.lt_size st; rw [← q] at this; exact Nat.lt_irrefl _ this
      have ht2 : h2.get? s.heap.objs.size = some { cls := .type "tuple", data := .seq #[key, x] } := hsb.extBut _ _ htI htup
      have hkc : ∀ b o, b ∉ X' → s.heap.get? b = some o → Cont o → h2.get? b = some o := fun b o _ e hc => hk2 b o (fun q => by
        rw [q, st] at e; cases e
        rcases hc with ⟨_, _, q⟩ | ⟨_, _, q⟩ <;> cases q) e
      have r2 := r.imp (fun _ h _ => h) hkc
      refine ⟨KpI.but (tk := s.toks) hBI st (hnc _ (fun q t e => by simp at e)) hk2, ⟨⟨_, _, hit⟩, ?_, r2⟩, ?_⟩
      · obtain ⟨o, es, e, r1, hd, r2⟩ := p; exact ⟨o, es, hkc _ _ ha' e (.inr ⟨_, _, hd⟩), r1, hd, r2⟩
      · obtain ⟨t, rfl⟩ := Value.isStrOf_shape hkey
        obtain ⟨q, hq⟩ : ∃ q, l[i]? = some q := ⟨l[i], by simp [hi]⟩
        rw [List.getElem?_map, hq] at hd
        cases hd
        have e1 : q.1 = kk := by
          have := congrArg (fun z => z[i]?) hm
          simp only [List.getElem?_map, hx, hq, Option.map_some, Option.some.injEq] at this
          exact this.symm
        obtain ⟨w, h3, h4⟩ := r2.get (i := i) (d := q.2) (by simp [hq])
        rw [List.getElem?_map, hx] at h3
        cases h3
        refine .tuple (vs := [.str kk t, x]) ⟨_, ht2, rfl, _, rfl⟩ (fun hm => ?_) (.cons (e1 ▸ .str _ _) (.cons h4 .nil))
        have := hX _ hm
        rw [Heap.get?_none_of_le (Nat.le_refl _)] at this; cases this
    · intro s ⟨⟨ok, ov, st⟩, p, r⟩ g
      refine wpAny_pyNext_items_end rm.handled st p (by simp [hlen]) fun h' he => ⟨rfl, KpI.but (tk := s.toks) hBI st (hnc _ (fun q t e => by simp at e)) he⟩
  · exact ⟨⟨_, _, Heap.get?_push_size _ rfl⟩, hat2.push _, hr'.keeps fun b o e => Heap.get?_push_of_some _ (hk0 b o e)⟩
end
end Mine
end
section
open PySem PySem.W PyProof.Rows
set_option linter.unusedVariables false
namespace Mine
section
variable {B : Bs} {env : Env} {ρ : Rho} {k : Nat} {Xc : List Addr}

theorem Reps.intsAre {X : List Addr} {h : Heap} : ∀ {vs : List Value} {ns : List Int}, Reps B X h vs (ns.map PyData.int) → IntsAre vs ns
  | [], [], _ => .nil
  | _ :: _, n :: ns, .cons r rs => by
    obtain ⟨t, rfl⟩ := r.int_inv
    exact .cons _ _ (Reps.intsAre rs)
theorem Reps.strVals {X : List Addr} {h : Heap} : ∀ {vs : List Value} {ns : List Str}, Reps B X h vs (ns.map PyData.str) → ∃ l : List (Str × Tok), vs = strValues l ∧ l.map (·.1) = ns
  | [], [], _ => ⟨[], rfl, rfl⟩
  | _ :: _, n :: ns, .cons r rs => by
    obtain ⟨t, rfl⟩ := r.str_inv
    obtain ⟨l, rfl, rfl⟩ := Reps.strVals rs
    exact ⟨(n, t) :: l, rfl, rfl⟩
theorem Reps.ofStrVals {X : List Addr} {h : Heap} : ∀ (l : List (Str × Tok)), Reps B X h (strValues l) ((l.map (·.1)).map PyData.str)
  | [] => .nil
  | p :: l => .cons (.str _ _) (Reps.ofStrVals l)
theorem BC.count (ns : List Int) (i : Int) : BC B (.builtin "list.count") [.list (ns.map PyData.int), .int i] (.int (ns.count i : Nat)) := fun A X s vs rm g hX r => by
  obtain ⟨v, w, rfl, r1, r2⟩ := r.two
  obtain ⟨t, rfl⟩ := r2.int_inv
  obtain ⟨a, vs, rfl, hl, hr⟩ := r1.list_inv
  exact count_list_ints hl.isList hr.intsAre ⟨.tk s _, .int _ _⟩
theorem BC.index {ns : List Int} {i : Int} (hi : i ∈ ns) (hlay : PyData.layable0 (.list (ns.map .int)) = true) : BC B (.builtin "list.index") [.list (ns.map PyData.int), .int i] (.int (ns.idxOf i : Nat)) := fun A X s vs rm g hX r => by
  obtain ⟨v, w, rfl, r1, r2⟩ := r.two
  obtain ⟨t, rfl⟩ := r2.int_inv
  obtain ⟨a, vs, rfl, hl, hr⟩ := r1.list_inv
  exact index_list_ints hl.isList hr.intsAre hlay hi ⟨.tk s _, .int _ _⟩
theorem BC.str_int {i : Int} (hi : i.natAbs.log2 < 1920) : BC B (.type "str") [.int i] (.str (Str.ofString (toString i))) := fun A X s vs rm g hX r => by
  obtain ⟨v, rfl, r1⟩ := r.one
  obtain ⟨t, rfl⟩ := r1.int_inv
  exact P.str_of_int hi ⟨.tk s _, .str _ _⟩
theorem BC.join {sep : Str} {ns : List Str} (hl : JoinOk sep ns = true) : BC B (.builtin "str.join") [.str sep, .list (ns.map PyData.str)] (.str (Txt.join sep ns)) := fun A X s vs rm g hX r => by
  obtain ⟨v, w, rfl, r1, r2⟩ := r.two
  obtain ⟨t, rfl⟩ := r1.str_inv
  obtain ⟨a, vs, rfl, hpl, hr⟩ := r2.list_inv
  obtain ⟨l, rfl, rfl⟩ := hr.strVals
  exact SC.join hpl.isList rfl hl (fun v tk => ⟨.tk s _, .str _ _⟩)
theorem Bop.catList {ds es : List PyData} (hl : ds.length + es.length ≤ 1000) : Bop B .Add (.list ds) (.list es) (.list (ds ++ es)) := fun A X s v1 v2 rm g hX r1 r2 => by
  obtain ⟨a, vs, rfl, h1, _, hr1⟩ := r1.list_inv
  obtain ⟨b, ws, rfl, h2, _, hr2⟩ := r2.list_inv
  obtain ⟨n, e1⟩ := id h1
  obtain ⟨m, e2⟩ := id h2
  have l1 := hr1.length
  have l2 := hr2.length
  have e : vs.toArray ++ ws.toArray = (vs ++ ws).toArray := by simp
  refine concat_meets ⟨_, e1, rfl⟩ ⟨_, e2, rfl⟩ noFill_list_add seq_list_add PySem.F.slot_list_add PySem.F.entry_list_add (PySem.F.args_list_add_2 _ _) (list_addW a b vs.toArray ws.toArray n m _ _ _ _ (by simp [sizeLine_eq]; omega)) ⟨e1, e2, ?_⟩
  rw [e]
  exact ⟨.push s _ s.toks, .newList (hr1.append hr2) hX⟩
theorem Reps.any {X : List Addr} {h : Heap} (i : Int) : ∀ {vs : List Value} {ns : List Int}, Reps B X h vs (ns.map PyData.int) → vs.any (isInt i) = ns.contains i
  | [], [], _ => rfl
  | _ :: _, n :: ns, .cons r rs => by
    obtain ⟨t, rfl⟩ := r.int_inv
    have := Reps.any i rs
    rw [List.any_cons, this, List.contains_cons]
    have e : isInt i (.int n t) = (i == n) := by
      show (n == i) = (i == n)
      exact BEq.comm
    rw [e]
theorem Cmp.inInts (ns : List Int) (i : Int) : Cmp B .In (.int i) (.list (ns.map PyData.int)) (ns.contains i) := fun A X s v1 v2 rm g r1 r2 => by
  obtain ⟨t, rfl⟩ := r1.int_inv
  obtain ⟨a, vs, rfl, hl, hr⟩ := r2.list_inv
  refine SeqAt.in_listAt (isInt i) hl.isList (fun y hy => (eq_isInt i t hr.intsAre y (by simpa using hy)).at _ _) ⟨.refl s, ?_⟩
  rw [← hr.any i, List.any_toArray]
theorem Cmp.notInInts (ns : List Int) (i : Int) : Cmp B .NotIn (.int i) (.list (ns.map PyData.int)) (!ns.contains i) := fun A X s v1 v2 rm g r1 r2 => by
  obtain ⟨t, rfl⟩ := r1.int_inv
  obtain ⟨a, vs, rfl, hl, hr⟩ := r2.list_inv
  refine SeqAt.notIn_listAt (isInt i) hl.isList (fun y hy => (eq_isInt i t hr.intsAre y (by simpa using hy)).at _ _) ⟨.refl s, ?_⟩
  rw [← hr.any i, List.any_toArray]
end
end Mine
end
section
open PySem PySem.W PyProof.Rows
set_option linter.unusedVariables false
set_option maxRecDepth 100000
namespace Mine
section
variable {B : Bs} {env : Env} {ρ : Rho} {k : Nat} {Xc : List Addr}

theorem Ev.isTuple {f e c : Expr} {pos : Pos} {i : Int} (hf : EvV B k env ρ f (.builtin "isinstance")) (h : Ev B k env ρ e (.int i)) (hc : EvV B k env ρ c (.type "tuple"))
    (he : eval (.Call f [e, c] [] pos) env = (do callWith pos (← eval f env) [] (backTo pos (starEach [e, c] env)) (backToKw pos (keywordEach [] env))) := by rfl)
    (hst : starEach [e, c] env = [(false, eval e env), (false, eval c env)] := by rfl) : Ev B k env ρ (.Call f [e, c] [] pos) (.bool false) := fun A Xc s rm F => by
  rw [he]
  refine wpAny_bind (hf.bind rm F fun s1 k1 F1 => ?_)
  show wpAny _ _ (callWith pos (.builtin "isinstance") [] (backTo pos (starEach [e, c] env)) []) _ _ s1
  rw [hst]
  refine callWith_bare (.fn _) rfl (Calls.spliced_cons (h.bind rm F1 fun v s2 k2 F2 r2 => Calls.spliced_cons (hc.bind rm F2 fun s3 k3 F3 => Calls.spliced_nil ?_)))
  obtain ⟨t, rfl⟩ := r2.int_inv
  exact PySem.IsiPair.int_tuple ⟨(((k1.trans k2).trans k3).trans (.tk _ _)), .bool _⟩

theorem EvF.split {o e : Expr} {apos pos : Pos} {x y : Str} (ho : Ev B k env ρ o (.str x)) (h : Ev B k env ρ e (.str y)) (hy : (y.length == 0) = false) (hx : x.length ≤ 1000000)
    (hn : (Builtin.Str.partsBetween x (Builtin.Str.occurrences x y 0 x.length (x.length + 1)) y.length).length ≤ sizeLine)
    (hbase : attributeBase o "split" env (eval o env) = eval o env := by rfl)
    (hfew : ((backTo pos (starEach [e] env)).all (fun x => !x.1) && (backToKw pos (keywordEach [] env)).all (fun x => x.1.isSome)
      && decide ([e].length + ([] : List Keyword).length + (if ([] : List Keyword).isEmpty then 0 else 1) < 30)) = true := by rfl)
    (hline : (apos.endLine == pos.line) = true := by rfl)
    (hst : starEach [e] env = [(false, eval e env)] := by rfl) : EvF B k env ρ (.Call (.Attribute o "split" apos) [e] [] pos) (.list ((Txt.split x y).map PyData.str)) := fun A Xc s rm F => by
  refine wpAny_Call_method (T := "str") (id := "str.split") hbase hfew hline PySem.F.plainAttrs_str PySem.F.slot_str_split PySem.F.type_str_split (ho.bind rm F fun v s1 k1 F1 r1 => ?_)
  obtain ⟨t, rfl⟩ := r1.str_inv
  refine ⟨typeIs_str _ _ _, (fun a e => nomatch e), ?_⟩
  rw [hst]
  refine callWith_bare (.fn _) rfl (Calls.spliced_cons (h.bind rm F1 fun w s2 k2 F2 r2 => Calls.spliced_nil ?_))
  obtain ⟨u, rfl⟩ := r2.str_inv
  have k12 := k1.trans k2
  have hxs : x.length ≤ sizeLine := by rw [sizeLine_eq]; omega
  have fin : ∀ (l : List (Str × Tok)) (tk : Nat), l.map (·.1) = Txt.split x y → (fun (v : Value) (s' : Shared) => Kp B [] s s' ∧ ∃ a, v = .ref a ∧ s.heap.get? a = Option.none ∧ RepO B (a :: xs env Xc ρ) s'.heap v (.list ((Txt.split x y).map PyData.str)) ∧ ∃ o, s'.heap.get? a = some o ∧ Cont o)
      (.ref s2.heap.objs.size) { s2 with heap := s2.heap.push { cls := .type "list", data := .seq (strValues l).toArray }, toks := tk } := fun l tk hl =>
    ⟨k12.trans (.push s2 _ tk), _, rfl, (freshI F.g k12).1, .list ⟨_, Heap.get?_push_size _ rfl⟩ (hl ▸ Reps.ofStrVals l), _, Heap.get?_push_size _ rfl, .inl ⟨_, _, rfl⟩⟩
  show wpAny _ _ (call (.builtin "str.split") [.str x t, .str y u]) _ _ s2
  cases h1 : (decide (x.length < y.length) || decide (Builtin.Str.strKind x < Builtin.Str.strKind y))
  · cases hf : (Builtin.Str.occurrences x y 0 x.length (x.length + 1)).isEmpty
    · refine call_meets PySem.F.slot_str_split (typeIs_str _ _ _) PySem.F.entry_str_split (PySem.F.args_str_split_2 _ _) (meets_str_split_sep x y t u h1 hy hf hxs hn) ?_
      have := fin (numbered s2.toks (Builtin.Str.partsBetween x (Builtin.Str.occurrences x y 0 x.length (x.length + 1)) y.length)) (s2.toks + (Builtin.Str.partsBetween x (Builtin.Str.occurrences x y 0 x.length (x.length + 1)) y.length).length)
        ((numbered_texts _ _).trans ((if_neg (ne_true_of_eq_false h1)).trans (if_neg (ne_true_of_eq_false hf))).symm)
      rw [← strsFrom_eq] at this
      exact this
    · exact call_meets PySem.F.slot_str_split (typeIs_str _ _ _) PySem.F.entry_str_split (PySem.F.args_str_split_2 _ _) (meets_str_split_not_found x y t u h1 hy hf) (fin [(x, t)] s2.toks ((if_neg (ne_true_of_eq_false h1)).trans (if_pos hf)).symm)
  · exact call_meets PySem.F.slot_str_split (typeIs_str _ _ _) PySem.F.entry_str_split (PySem.F.args_str_split_2 _ _) (meets_str_split_cannot_occur x y t u h1) (fin [(x, t)] s2.toks (if_pos h1).symm)

/-! the two formats -/
theorem meets_braces (t u : Tok) (z : Str) (hz : z.length ≤ 1000000) : Meets (Builtin.«str.__mod__» ⟨[.str ⟨#[123, 37, 115, 125]⟩ t, .str z u], []⟩) (fun _ R s => ∀ t' k, R (.ok (.ret (.str (Str.ofString "{" ++ z ++ Str.ofString "}") t'))) { s with toks := k }) := by
  kpc_run_s
theorem Bop.braces {x z : Str} (hx : x = ⟨#[123, 37, 115, 125]⟩) (hz : z.length ≤ 1000000) : Bop B .Mod (.str x) (.str z) (.str (Str.ofString "{" ++ z ++ Str.ofString "}")) := fun A X s v1 v2 rm g hX r1 r2 => by
  obtain ⟨t, rfl⟩ := r1.str_inv
  obtain ⟨u, rfl⟩ := r2.str_inv
  exact KPc.mod_str (T := fun z => Str.ofString "{" ++ z ++ Str.ofString "}") hx hz (fun z hz => meets_braces t u z hz) fun t' k => ⟨.tk s _, .str _ _⟩
section
open Builtin.Str
theorem after_int13 {M : Model} {A : Around} {E : Value → Shared → Prop} {s : Shared} {w : Writer} {T : PySem.Str} {N : Nat} {l : List Nat} {p : List Value} {r : List Nat} {f : Nat → List Value × Writer × List Nat → Sem (ForInStep (List Value × Writer × List Nat))} {Q : List Value × Writer × List Nat → Shared → Prop} {o : Option Value}
    {c : Percent} {n : Int} {d : List Nat} (g : KPc.Good w T N) (h1 : c.alt = false) (h2 : c.type = 100 ∨ c.type = 105 ∨ c.type = 117) (h3 : c.prec = none) (hn : 0 ≤ n) (hm : n < 10 ^ 13)
    (hd : d = (PySem.Str.ofString (toString ((n.natAbs : Nat) : Int))).cps.toList) (ho : o = none) (h : ∀ w', KPc.Good w' (T ++ PySem.Str.ofString (toString n)) (N + 13) → wpAny M A (forIn l (p, w', r) f) Q E s) :
    wpAny M A (forIn l (p, w.add ⟨(percentInt c (decide (n < 0)) d).toArray⟩ o, r) f) Q E s := by
  have en : ((n.natAbs : Nat) : Int) = n := Int.natAbs_of_nonneg hn
  rw [KPc.int_text c h1 h2 h3 hn, hd, en]
  exact KPc.after_str g (toString_length_le hn (by decide) hm) (KPc.obj_none ho) h
end
local macro_rules | `(tactic| kpt_piece) => `(tactic| (refine after_int13 (by kpc_g) rfl (by kpc_kind) rfl (by with_reducible assumption) (by with_reducible assumption) rfl (by kpc_none) ?_; intro _ _))
local macro_rules | `(tactic| kpt_hd) => `(tactic| (with_reducible assumption))
set_option maxHeartbeats 2000000 in
theorem meets_std (t t1 t2 t3 : Tok) (b : Addr) (x y : Str) (n : Int) (hx : x.length ≤ 1000000) (hy : y.length ≤ 1000000) (h0 : 0 ≤ n) (h1 : n < 10 ^ 13) (hd : n.natAbs.log2 < 1920) : Meets (Builtin.«str.__mod__» ⟨[.str ⟨#[37, 115, 58, 37, 100, 40, 37, 115, 41]⟩ t, .ref b], []⟩)
    (fun _ R s => IsTup s.heap b #[.str x t1, .int n t2, .str y t3] ∧ ∀ t' k, R (.ok (.ret (.str (x ++ Str.ofString ":" ++ Str.ofString (toString n) ++ Str.ofString "(" ++ y ++ Str.ofString ")") t'))) { s with toks := k }) := by
  kpt_run
end
end Mine
end
section
open PySem PySem.W PyProof.Rows
set_option linter.unusedVariables false
namespace Mine
section
variable {B : Bs} {env : Env} {ρ : Rho} {k : Nat} {Xc : List Addr}

theorem Bop.std {f x y : Str} {n : Int} (hf : f = ⟨#[37, 115, 58, 37, 100, 40, 37, 115, 41]⟩) (hx : x.length ≤ 1000000) (hy : y.length ≤ 1000000) (h0 : 0 ≤ n) (h1 : n < 10 ^ 13) : Bop B .Mod (.str f) (.tuple [.str x, .int n, .str y]) (.str (x ++ Str.ofString ":" ++ Str.ofString (toString n) ++ Str.ofString "(" ++ y ++ Str.ofString ")")) := fun A X s v1 v2 rm g hX r1 r2 => by
  subst hf
  obtain ⟨t, rfl⟩ := r1.str_inv
  obtain ⟨a, vs, rfl, ht, ha, hr⟩ := r2.tuple_inv
  cases hr with | cons ra rb => cases rb with | cons rb rc => cases rc with | cons rc rd => cases rd with | nil =>
    obtain ⟨t1, rfl⟩ := ra.str_inv
    obtain ⟨t2, rfl⟩ := rb.int_inv
    obtain ⟨t3, rfl⟩ := rc.str_inv
    have hT : s.TypeIs (.ref a) "tuple" := by
      obtain ⟨o, ho, hc, _⟩ := ht
      exact ⟨o, ho, hc⟩
    have hd : n.natAbs.log2 < 1920 := shown (N := 2 ^ 1920) (by omega) (by omega) (Int.le_refl _)
    exact KPt.bin_left (T := "str") (U := "tuple") (op := .Mod) (by decide) (typeIs_str s _ t) hT F.fills_str_mod KPt.fills_tuple F.slot_str_mod
      (call_meets F.slot_str_mod (typeIs_str s _ t) F.entry_str_mod (F.args_str_mod_2 _ _) (meets_std t t1 t2 t3 a x y n hx hy h0 h1 hd) ⟨ht, fun t' k => ⟨(fun e => nomatch e), .tk s _, .str _ _⟩⟩)

theorem Ex1.swapNew3 {x1 x2 x3 : Str} {p1 p2 p3 tpos vpos pos : Pos} {n m : Nat} {e1 e2 e3 : Expr} {d1 d2 d3 : PyData} (h1 : EvF B k env ρ e1 d1) (h2 : Ev B k env ρ e2 d2) (h3 : Ev B k env ρ e3 d3) (s3 : env.kindOf x3 = some .local) (s2 : env.kindOf x2 = some .local) (s1 : env.kindOf x1 = some .local) (hno : owns ρ = [])
    (hd2 : ∀ X h v, Rep B X h v d2 → ∀ X' h', Rep B X' h' v d2) (hd3 : ∀ X h v, Rep B X h v d3 → ∀ X' h', Rep B X' h' v d3)
    (hs : swapsWithSole [.Tuple [.Name x1 p1, .Name x2 p2, .Name x3 p3] n tpos] (.Tuple [e1, e2, e3] m vpos) pos.line env = pure false := by rfl)
    (hw : swappedStores [.Tuple [.Name x1 p1, .Name x2 p2, .Name x3 p3] n tpos] (.Tuple [e1, e2, e3] m vpos) env = pure (some [x1, x2, x3]) := by rfl)
    (he1 : starEach [e1, e2, e3] env = (false, eval e1 env) :: starEach [e2, e3] env := by rfl) (he2 : starEach [e2, e3] env = (false, eval e2 env) :: starEach [e3] env := by rfl) (he3 : starEach [e3] env = (false, eval e3 env) :: starEach [] env := by rfl) :
    Ex1 B k env ρ (.Assign [.Tuple [.Name x1 p1, .Name x2 p2, .Name x3 p3] n tpos] (.Tuple [e1, e2, e3] m vpos) pos) (fun o => ∃ a, o = .nxt ((x1, .own a d1) :: (x2, .val d2) :: (x3, .val d3) :: ρ)) := fun A Xc s rm F => by
  refine Assign_Tuple_swapped (names := [x1, x2, x3]) (wpAny_Tuple ?_) hs hw
  refine wpAny_items_cons (wpAny_mono (h1 A Xc s rm F) (fun v1 t1 ⟨k1, a, hv, ha, hr, ho⟩ => ?_) fun _ _ h => h) he1
  subst hv
  have F1 := F.kp k1
  refine wpAny_items_cons (h2.bind rm F1 fun v2 t2 k2 F2 r2 => wpAny_items_cons (h3.bind rm F2 fun v3 t2' k2' F2' r3 => wpAny_items_nil ?_) he3) he2
  refine ⟨by rw [sizeLine_eq]; simp, ?_⟩
  refine unpackNew (B := B) (vs := [.ref a, v2, v3]) rm.handled fun t3 k3 => ?_
  have k23 := (k2.trans k2').trans k3
  have kall := k1.trans k23
  have hBa : B.hB.get? a = none := by
    cases e : B.hB.get? a with
    | none => rfl
    | some o => rw [F.g.keep _ _ e] at ha; cases ha
  have haX : a ∉ xs env Xc ρ := fun hm => by have := F.alive a hm; rw [ha] at this; cases this
  obtain ⟨o1, e1', hc1⟩ := ho
  have e3 : t3.heap.get? a = some o1 := kpCont (X := []) F1.g k23 MuX.nil a o1 (fun h => nomatch h) e1' hc1
  have F3 := F.shut kall ha (by rw [e3]; rfl)
  have hsub : ∀ b, b ∈ xs env (a :: Xc) ρ → b ∈ a :: xs env Xc ρ := by
    intro b hb
    simp only [xs, List.mem_cons, List.mem_append] at hb ⊢
    rcases hb with h | h | h | h
    · exact .inr (.inl h)
    · exact .inr (.inr (.inl h))
    · exact .inl h
    · exact .inr (.inr (.inr h))
  have hro : RepO B (xs env (a :: Xc) ρ) t3.heap (.ref a) d1 := by
    have : RepO B (a :: xs env Xc ρ) t3.heap (.ref a) d1 := hr.kp F1.g k23
    exact this.sub hsub
  have hcell : ∀ {t : Shared}, Fok B env (a :: Xc) ρ t.heap → t.heap.get? a = some o1 → ∀ t', Kp B (mu env ρ) t t' → t'.heap.get? a = some o1 := by
    intro t Ft et t' kt
    refine kt.keep a o1 (fun hm => ?_) (fun t ht => notTab (Ft.g.tab t ht) et hc1) et
    simp only [mu, hno, List.append_nil, List.mem_cons] at hm
    rcases hm with h | h
    · exact haX (h ▸ .head _)
    · obtain ⟨p, hp, q⟩ := cellsOf_mem h
      obtain ⟨v, o, e, hd⟩ := Ft.cel p hp
      rw [q, et] at e; cases e
      rcases hc1 with ⟨_, _, q⟩ | ⟨_, _, q⟩ <;> (rw [hd] at q; cases q)
  show wpAny _ _ (do holding [v2, .ref a] (bindName env x3 v3); (do holding [.ref a] (bindName env x2 v2); (do holding [] (bindName env x1 (.ref a)); pure ()))) _ _ t3
  have r3' : Rep B (xs env (a :: Xc) ρ) t3.heap v3 d3 := hd3 _ _ _ r3 _ _
  refine wpAny_bind (wpAny_holding (wpAny_bindName (wpAny_mono (storeLocal (E := fun _ _ => False) s3 F3 r3') (fun _ t4 ⟨F4, k4⟩ => ?_) fun _ _ h => h)))
  have e4 := hcell F3 e3 t4 k4
  have hro4 : RepO B (xs env (a :: Xc) ρ) t4.heap (.ref a) d1 := hro.imp e3 e4 (kpCont F3.g k4 F3.muX)
  have r2' : Rep B (xs env (a :: Xc) ((x3, .val d3) :: ρ)) t4.heap v2 d2 := hd2 _ _ _ r2 _ _
  refine wpAny_bind (wpAny_holding (wpAny_bindName (wpAny_mono (storeLocal (E := fun _ _ => False) s2 F4 r2') (fun _ t5 ⟨F5, k5⟩ => ?_) fun _ _ h => h)))
  have F4' : Fok B env (a :: Xc) ρ t4.heap → True := fun _ => trivial
  have e5 : t5.heap.get? a = some o1 := by
    refine k5.keep a o1 (fun hm => ?_) (fun t ht => notTab (F4.g.tab t ht) e4 hc1) e4
    have hm : a ∈ mu env ρ := hm
    simp only [mu, hno, List.append_nil, List.mem_cons] at hm
    rcases hm with h | h
    · exact haX (h ▸ .head _)
    · obtain ⟨p, hp, q⟩ := cellsOf_mem h
      obtain ⟨v, o, e, hd⟩ := F4.cel p hp
      rw [q, e4] at e; cases e
      rcases hc1 with ⟨_, _, q⟩ | ⟨_, _, q⟩ <;> (rw [hd] at q; cases q)
  have hro5 : RepO B (xs env (a :: Xc) ((x2, .val d2) :: (x3, .val d3) :: ρ)) t5.heap (.ref a) d1 := hro4.imp e4 e5 (kpCont F4.g k5 F4.muX)
  refine wpAny_bind (wpAny_holding (wpAny_bindName (wpAny_mono (storeOwn (E := fun _ _ => False) s1 F5 hno (fun q => haX (.tail _ (List.mem_append_right _ q))) hBa (fun q => haX (q ▸ .head _)) hro5 ⟨o1, e5, hc1⟩) (fun _ t6 ⟨F6, k6⟩ => wpAny_pure ?_) fun _ _ h => h)))
  refine ⟨_, ⟨a, rfl⟩, rfl, F6, kall.up.trans (k4.trans (k5.trans k6)), fun b hb => ?_⟩
  have : b = a := by
    have hb' : b ∈ a :: owns ρ := hb
    rw [hno] at hb'; exact List.mem_singleton.mp hb'
  exact .inr (this ▸ ha)
end
end Mine
end
section
open PySem PySem.W PyProof.Rows
set_option linter.unusedVariables false
namespace Mine
section
variable {B : Bs} {env : Env} {ρ : Rho} {k : Nat} {Xc : List Addr}

/-! a new ground: all that stands now -/
noncomputable def Bs.at (B : Bs) (h : Heap) (g : Gd B h) : Bs :=
  have hk : ∀ b o, B.hB.get? b = some o → (hideAll h (B.tabs.map (·.P))).get? b = some o := fun b o e => hideAll_get _ (g.keep b o e) fun hm => by
    obtain ⟨t, ht, q⟩ := List.mem_map.mp hm
    rw [← q, B.hid t ht] at e; cases e
  { B with hB := hideAll h (B.tabs.map (·.P)), T := B.T.keeps hk, code := fun t ht => (B.code t ht).keeps hk, hid := fun t ht => hideAll_none _ (List.mem_map_of_mem ht) }
theorem Bs.at_sub (B : Bs) {h : Heap} (g : Gd B h) : ∀ b o, B.hB.get? b = some o → (B.at h g).hB.get? b = some o := fun b o e => hideAll_get _ (g.keep b o e) fun hm => by
    obtain ⟨t, ht, q⟩ := List.mem_map.mp hm
    rw [← q, B.hid t ht] at e; cases e
theorem Bs.at_of (B : Bs) {h : Heap} (g : Gd B h) {b : Addr} {o : Obj} (e : h.get? b = some o) (hb : ∀ t ∈ B.tabs, b ≠ t.P) : (B.at h g).hB.get? b = some o := hideAll_get _ e fun hm => by
    obtain ⟨t, ht, q⟩ := List.mem_map.mp hm
    exact hb t ht q.symm
theorem Bs.at_gd (B : Bs) {h : Heap} (g : Gd B h) : Gd (B.at h g) h := ⟨fun b o e => of_hideAll _ e, g.tab⟩
theorem Kp.back {h : Heap} (g : Gd B h) {s s' : Shared} {mu : List Addr} (x : Kp (B.at h g) mu s s') (gs : Gd (B.at h g) s.heap) : Kp B mu s s' :=
  ⟨x.keep, fun _ => ⟨fun b o e => (x.gd gs).keep b o (B.at_sub g b o e), (x.gd gs).tab⟩, x.alive, x.gens, x.os⟩
mutual
theorem Rep.re {B' : Bs} (hp : B'.prog = B.prog) (hw : B'.w = B.w) {X : List Addr} {h : Heap} {v : Value} {d : PyData} (x : Rep B X h v d) : Rep B' X h v d :=
  match x with
  | .none => .none
  | .bool b => .bool b
  | .int i t => .int i t
  | .str s t => .str s t
  | .list hl ha hr => .list hl ha (Reps.re hp hw hr)
  | .tuple hl ha hr => .tuple hl ha (Reps.re hp hw hr)
  | .dict (a := a) (kvs := kvs) hl hs ha hm hr => .dict (show h.DictOf (strKind B'.prog B'.w) a kvs by
      obtain ⟨pr, w, _⟩ := B
      obtain ⟨pr', w', _⟩ := B'
      cases hp; cases hw; exact hl) hs ha hm (Reps.re hp hw hr)
theorem Reps.re {B' : Bs} (hp : B'.prog = B.prog) (hw : B'.w = B.w) {X : List Addr} {h : Heap} {vs : List Value} {ds : List PyData} (x : Reps B X h vs ds) : Reps B' X h vs ds :=
  match x with
  | .nil => .nil
  | .cons a b => .cons (Rep.re hp hw a) (Reps.re hp hw b)
end

/-! lambdas -/
variable (B) in
/-- a call whose answer is no container: nothing is shut out -/
noncomputable def Spec0 (k : Nat) (f : Addr) (ds : List PyData) (d : PyData) : Prop :=
  ∀ A s vs, Rm k A → Gd B s.heap → Reps B [] s.heap vs ds →
    codeAny B.M A (.call (.ref f) ⟨vs, []⟩) (fun r s' => ∃ v, r = .ok (.ret v) ∧ Kp B [] s s' ∧ Rep B [] s'.heap v d) s

noncomputable abbrev lamEnv (fd : FuncData) (L : Addr) (f : Addr) : Env := newEnv fd.scope L fd.globals fd.closure (fd.qualname ++ ".<locals>.") (some f) fd.code none fd.builtins

theorem Spec0.lam {f : Addr} {o : Obj} {fd : FuncData} {body : Expr} {x : Str} {d0 d : PyData} {ρc : Rho}
    (ho : B.hB.get? f = some o) (hd : o.data = .func fd) (hcd : B.hB.CodeRec fd.code fd.qualname) (hbody : fd.body = .expr body) (hglob : fd.globals = mainGlobals) (hbi : fd.builtins = builtinsNs)
    (hbind : ∀ v, bindArgs fd ⟨[v], []⟩ = pure [(x, v)]) (hx : fd.scope.names.lookup x = some .local)
    (hcell : ∀ y ∈ fd.scope.names, y.2 ≠ .cell)
    (hclo : ∀ p ∈ fd.closure, ∃ v, B.hB.IsCell p.2 v)
    (hfree : ∀ p ∈ ρc, p.1 ≠ x ∧ fd.scope.names.lookup p.1 = some .free ∧ ∃ c v d, p.2 = .val d ∧ fd.closure.lookup p.1 = some c ∧ B.hB.IsCell c (some v) ∧ Rep B [] B.hB v d)
    (h : ∀ L, Ev B k (lamEnv fd L f) ((x, .val d0) :: ρc) body d)
    (hco : fd.scope.isCoroutine = false) (hgen : fd.scope.isGenerator = false) (hk : fd.scope.kind = .function) : Spec0 B (k + 1) f [d0] d := fun A s vs rm g r => by
  cases r with | cons r0 rn => cases rn with | nil =>
  rename_i v0
  refine kla_callFunE (by have := rm.depth; omega) (g.keep _ _ ho) hd hco hgen hbody (hcd.keeps g.keep) ?_
  rw [hbind]
  refine wpAny_pure (wpAny_newFunctionEnv hcell (by intro y hy; simp at hy; subst hy; exact hx) (fun h₁ hns hsb => ⟨?_, ?_⟩) hk)
  · exact ((B.T.nolimit).keeps g.keep).fresh _ hsb
  · have hk₁ : ∀ b o, s.heap.get? b = some o → h₁.get? b = some o := fun b o e => hsb.extBut b o (Nat.ne_of_lt (Heap.lt_size e)) (Heap.get?_push_of_some _ e)
    show codeAny _ _ (.expr body (lamEnv fd s.heap.objs.size f)) _ _
    have hkB : ∀ b o, B.hB.get? b = some o → h₁.get? b = some o := fun b o e => hk₁ b o (g.keep b o e)
    have hL : B.hB.get? s.heap.objs.size = none := g.above (Nat.le_refl _)
    have hown : ∀ p ∈ ((x, Slot.val d0) :: ρc : Rho), ∃ d, p.2 = .val d := fun p hp => by
      rcases List.mem_cons.mp hp with rfl | hp
      · exact ⟨_, rfl⟩
      · obtain ⟨_, _, c, v, d, e, _⟩ := hfree p hp; exact ⟨d, e⟩
    have howns : owns ((x, Slot.val d0) :: ρc : Rho) = [] := by
      unfold owns
      rw [List.filterMap_eq_nil_iff]
      intro p hp
      obtain ⟨d, e⟩ := hown p hp
      rw [e]; rfl
    have hxs : xs (lamEnv fd s.heap.objs.size f) [] ((x, Slot.val d0) :: ρc : Rho) = [s.heap.objs.size] := by simp only [xs, howns]; rfl
    have F : Fok B (lamEnv fd s.heap.objs.size f) [] ((x, .val d0) :: ρc) h₁ := by
      refine ⟨g.keeps hk₁, (fun a ha => nomatch ha), hk, hglob, hbi, ⟨_, hns, fun y sl hy hl => ?_⟩, fun p hp => ?_, fun y sl hy hc => ?_, hL, fun a ha => ?_, fun a ha => by rw [howns] at ha; cases ha⟩
      · rw [List.lookup_cons] at hy
        by_cases q : y == x
        · rw [q] at hy; cases hy
          have := eq_of_beq q
          subst this
          refine ⟨v0, by simp, ?_⟩
          rw [hxs]
          exact (r0.more (X' := [s.heap.objs.size]) fun a ha => .inr (by rw [List.mem_singleton.mp ha]; exact Heap.get?_none_of_le (Nat.le_refl _))).keeps hk₁
        · rw [Bool.not_eq_true] at q; rw [q] at hy
          obtain ⟨_, h2, _⟩ := hfree _ (Fok.sub.mem_lookup hy)
          have hl : fd.scope.names.lookup y = some .local := hl
          rw [h2] at hl; cases hl
      · obtain ⟨v, o, e, hd⟩ := hclo p hp
        exact ⟨v, o, hkB _ _ e, hd⟩
      · rw [List.lookup_cons] at hy
        by_cases q : y == x
        · have := eq_of_beq q
          subst this
          have hc' : fd.scope.names.lookup y = some .cell ∨ fd.scope.names.lookup y = some .free := hc
          rw [hx] at hc'; rcases hc' with h | h <;> cases h
        · rw [Bool.not_eq_true] at q; rw [q] at hy
          obtain ⟨_, h2, c, v, d, e, h3, ⟨oc, ec, hdc⟩, h5⟩ := hfree _ (Fok.sub.mem_lookup hy)
          simp only at e
          subst e
          refine ⟨c, v, h3, ⟨oc, hkB _ _ ec, hdc⟩, ?_⟩
          rw [hxs]
          exact (h5.more (X' := [s.heap.objs.size]) fun a ha => .inr (by rw [List.mem_singleton.mp ha]; exact hL)).keeps hkB
      · obtain ⟨p, hp, e⟩ : ∃ p ∈ (lamEnv fd s.heap.objs.size f).cells.filter (fun p => (lamEnv fd s.heap.objs.size f).kindOf p.1 == some .cell), p.2 = a := by
          unfold cellsOf at ha; rw [if_pos (show (lamEnv fd s.heap.objs.size f).func.isSome = true from rfl)] at ha; exact List.mem_map.mp ha
        have h1 := (List.mem_filter.mp hp).2
        have h1 : fd.scope.names.lookup p.1 = some .cell := eq_of_beq h1
        have : (p.1, NameKind.cell) ∈ fd.scope.names := mem_of_lookup h1
        exact absurd rfl (hcell _ this)
    refine kla_codeExpr (wpAny_mono (h s.heap.objs.size (A.deeper _) [] { s with heap := h₁, toks := s.toks + [(x, v0)].length } rm.deeper F) (fun v s' ⟨k1, r1⟩ => ?_) fun _ _ hf => hf.elim)
    refine ⟨v, rfl, Kp.trans (.ofKeep (s' := { s with heap := h₁, toks := s.toks + [(x, v0)].length }) hk₁ rfl rfl) k1, r1.sub fun a ha => nomatch ha⟩

theorem lam_make {A : Around} {s : Shared} {params : Arguments} {body : Expr} {scope : Scope} {pos : Pos} {clos : List (Str × Addr)} {t : Tab} {Q : Value → Shared → Prop} (F : Fok B env Xc ρ s.heap) (ht : t ∈ B.tabs) (hinj : ∀ t' ∈ B.tabs, t'.P = t.P → t' = t)
    (hcode : env.code = .ref t.c) (hpos : t.pos = pos) (hq : t.qual = env.qual ++ "<lambda>") (hcl : closureFor scope env = pure clos) (hdef : defaultsOf params env = ([], []))
    (h : ∀ f c' ctv s', Kp B [] s s' → s.heap.get? f = none → s'.heap.get? f = some (kla_obj "<lambda>" (env.qual ++ "<lambda>") params body scope clos ((B.mg "__name__").getD .none) c' ctv) → s'.heap.CodeRec (.ref c') (env.qual ++ "<lambda>") → Q (.ref f) s') :
    wpAny B.M A (eval (.Lambda params body scope pos) env) Q (fun _ _ => False) s := by
  refine kla_eval hdef ?_
  have hgs : s.heap.Ns mainGlobals B.mg := B.T.g.keeps F.g.keep
  obtain ⟨bm, ob, b1, b2, b3, b4, b5, b6⟩ := B.T.bmain
  obtain ⟨ps, hP, hps⟩ := F.g.tab t ht
  have hgP : mainGlobals ≠ t.P := fun q => by
    obtain ⟨o, es, ep, e, hd, _⟩ := hgs
    rw [q, hP] at e; cases e; cases hd
  have hbP : bm ≠ t.P := fun q => by
    have e := F.g.keep _ _ b3
    rw [q, hP] at e; cases e; cases b4
  have hbG : bm ≠ mainGlobals := fun q => by
    obtain ⟨o, es, ep, e, hd, _⟩ := B.T.g
    rw [q, e] at b3; cases b3; rw [hd] at b6; cases b6
  have hC : CodeHd s.heap t.c t.P := (B.code t ht).keeps F.g.keep
  have hBA : s.heap.BuiltinsAt B.mg t.P := ⟨bm, ob, b1, b2, hbG, hbP, F.g.keep _ _ b3, b4, b5, b6⟩
  rcases hps with rfl | ⟨c', rfl, hrec⟩
  · refine kla_makeFunction (mg := B.mg) hcl F.glob hgs hcode hC hP trivial rfl hgP hBA fun c' ctv h' tk hx hge hlt hrec htb => ?_
    have hkT : ∀ b o, (∀ t ∈ B.tabs, b ≠ t.P) → s.heap.get? b = some o → h'.get? b = some o := fun b o hb e => hx b o (hb t ht) e
    have hfr : s.heap.get? h'.objs.size = none := Heap.get?_none_of_le (Nat.le_trans hge (Nat.le_of_lt hlt))
    refine h h'.objs.size c' ctv _ ⟨fun b o _ hb e => Heap.get?_push_of_some _ (hkT b o hb e), fun g => ⟨fun b o e => Heap.get?_push_of_some _ (hx b o (fun q => by rw [q, B.hid t ht] at e; cases e) (g.keep b o e)), fun t' ht' => ?_⟩, fun b hb => ?_, rfl, rfl⟩ hfr (Heap.get?_push_size _ rfl) (hrec.push _)
    · by_cases q : t'.P = t.P
      · have := hinj t' ht' q
        subst this
        refine ⟨_, Heap.get?_push_of_some _ htb, .inr ⟨c', ?_, ?_⟩⟩
        · rw [hpos]; rfl
        · rw [hq]; exact hrec.push _
      · obtain ⟨ps', e', hps'⟩ := g.tab t' ht'
        refine ⟨ps', Heap.get?_push_of_some _ (hx _ _ q e'), hps'.imp id ?_⟩
        rintro ⟨c2, rfl, c3, oc, vs, tk2, e1, e2, e3, e4⟩
        refine ⟨c2, rfl, c3, oc, vs, tk2, e1, Heap.get?_push_of_some _ (hx _ _ (fun q => ?_) e2), e3, e4⟩
        rw [q, hP] at e2; cases e2; cases e3; simp at e4
    · by_cases q : b = t.P
      · show ((h'.push _).get? b).isSome = true
        rw [q, Heap.get?_push_of_some _ htb]; rfl
      · cases e : s.heap.get? b with
        | none => rw [e] at hb; cases hb
        | some o => show ((h'.push _).get? b).isSome = true; rw [Heap.get?_push_of_some _ (hx b o q e)]; rfl
  · have hhit : codeAmong pos (#[rawInt t.pos.line, rawInt t.pos.col, Value.ref c'] : Array Value).toList = some (.ref c') := by
      rw [hpos]
      show (if _ then _ else _) = _
      simp
    refine kla_makeFunctionHit (mg := B.mg) hcl F.glob hgs hcode hC hP trivial hhit hBA fun ctv h' tk hk hsz => ?_
    exact h h'.objs.size c' ctv _ (.ofKeep (fun b o e => Heap.get?_push_of_some _ (hk b o e)) rfl rfl) (Heap.get?_none_of_le hsz) (Heap.get?_push_size _ rfl) (hq ▸ (hrec.keeps hk).push _)
end
end Mine
end
section
open PySem PySem.W PyProof.Rows
set_option linter.unusedVariables false
namespace Mine
section
variable {B : Bs} {env : Env} {ρ : Rho} {k : Nat} {Xc : List Addr}
theorem Ex1.augAdd {x : Str} {pos' pos : Pos} {value : Expr} {a b : Int} (hl : ρ.lookup x = some (.val (.int a))) (hx : env.kindOf x = some .local) (h2 : Ev B k env ρ value (.int b)) :
    Ex1 B k env ρ (.AugAssign (.Name x pos') .Add value pos) (fun o => o = .nxt ((x, .val (.int (a + b))) :: ρ)) := fun A Xc s rm F => by
  obtain ⟨m, hm, hv⟩ := F.loc
  obtain ⟨v1, e1, r1⟩ := hv x _ hl hx
  obtain ⟨t, rfl⟩ := Rep.int_inv r1
  refine wpAny_AugAssign_Name (wpAny_loadName_local F.kind hx hm e1 (h2.bind rm F fun v2 s2 k2 F2 r2 => ?_))
  obtain ⟨u, rfl⟩ := r2.int_inv
  refine wpAny_iadd_int ?_
  have k3 : Kp B [] s2 { s2 with toks := s2.toks + 1 } := .tk s2 _
  exact wpAny_mono (storeLocal (E := fun _ _ => False) hx (F2.kp k3) (Rep.int _ _)) (fun _ s4 ⟨F4, k4⟩ => ⟨_, rfl, rfl, F4, (k2.trans k3).up.trans k4, fun a ha => .inl ha⟩) fun _ _ h => h
theorem Ex1.augSub {x : Str} {pos' pos : Pos} {value : Expr} {a b : Int} (hl : ρ.lookup x = some (.val (.int a))) (hx : env.kindOf x = some .local) (h2 : Ev B k env ρ value (.int b)) :
    Ex1 B k env ρ (.AugAssign (.Name x pos') .Sub value pos) (fun o => o = .nxt ((x, .val (.int (a - b))) :: ρ)) := fun A Xc s rm F => by
  obtain ⟨m, hm, hv⟩ := F.loc
  obtain ⟨v1, e1, r1⟩ := hv x _ hl hx
  obtain ⟨t, rfl⟩ := Rep.int_inv r1
  refine wpAny_AugAssign_Name (wpAny_loadName_local F.kind hx hm e1 (h2.bind rm F fun v2 s2 k2 F2 r2 => ?_))
  obtain ⟨u, rfl⟩ := r2.int_inv
  refine P.isub_int ?_
  have k3 : Kp B [] s2 { s2 with toks := s2.toks + 1 } := .tk s2 _
  exact wpAny_mono (storeLocal (E := fun _ _ => False) hx (F2.kp k3) (Rep.int _ _)) (fun _ s4 ⟨F4, k4⟩ => ⟨_, rfl, rfl, F4, (k2.trans k3).up.trans k4, fun a ha => .inl ha⟩) fun _ _ h => h
end
end Mine
end
section
open PySem PySem.W PyProof.Rows
set_option maxRecDepth 100000
set_option maxHeartbeats 8000000
namespace Mine.TopRun
/-- the library's lemma, its first premise written out: the top is then run at once (a head in pieces takes 11 MB more of the compiled file) -/
theorem PySem.W.holds_open {r : OpenRow} {q : Program} {loose : List Str} {Xt : Shared → Bool} {XP : (Str → Option Value) → Heap → Prop} {α : Type} {Yf : Shared → α} {Ya : World → α} {YP : World → Heap → Prop} {d : DefRec} {kwd : List (Str × PySem.Expr)} {N : Nat}
    (left : ∀ w : World, (openEnds treeTable r.prog w N).map (fun s => (openSeen q loose (importedModules r.prog.main.body) Xt true s, Yf s)) = some (openGood q loose, Ya w)) (b1 : ∀ w s, Yf s = Ya w → YP w s.heap) (b2 : ∀ w h h', YP w h → (∀ b o, h.get? b = some o → h'.get? b = some o) → YP w h')
    (b3 : ∀ s, Xt s = true → XP (s.heap.nsMap mainGlobals) s.heap) (b4 : ∀ mg h h', XP mg h → (∀ b o, h.get? b = some o → h'.get? b = some o) → XP mg h')
    (b5 : defOf q r.name = some (d, kwd)) (b6 : r.prog.theDef r.name = some (d.params, d.body, d.scope)) (b7 : kwWritten? d.params.kwonlyargs d.params.kw_defaults = some kwd) (b8 : ∀ s, Xt s = true → RecFacts r.records s.heap) (b9 : (!r.writes || r.records.isEmpty) = true)
    (c1 : r.wellSaid = true) (c2 : (chainsOk q && opensWell r.prog && (frees r.toRowW && r.within.isEmpty)) = true) (c3 : r.prog.bare) (c4 : r.toRowW.promised)
    (c5 : WalkO q loose XP YP r.toRowW d kwd fun f vs => PySem.call f vs) : r.Holds :=
  _root_.PySem.W.holds_open left b1 b2 b3 b4 b5 b6 b7 b8 b9 c1 c2 c3 c4 c5
open_top hd for PySem.Challenge.rw_ph0125_01
end Mine.TopRun
end
section
open PySem PySem.W PyProof.Rows
set_option linter.unusedVariables false
set_option maxRecDepth 100000
namespace Mine
noncomputable abbrev KK := Mine.TopRun.hd.heap_39
structure On (B : Bs) : Prop where
  X : (KK B.w.params).In B.hB
noncomputable def obj (p : Params) (a : Addr) : Obj := ((KK p).lookup a).getD ⟨.none, none, .plain, #[]⟩
noncomputable def fdat (p : Params) (a : Addr) : FuncData := match (obj p a).data with
  | .func fd => fd
  | _ => default
noncomputable def bod (p : Params) (a : Addr) : List Stmt := match (fdat p a).body with
  | .stmts b => b
  | _ => []
section
variable {B : Bs} {env : Env} {ρ : Rho} {k : Nat} {Xc : List Addr}
theorem EvV.kk (H : On B) {x : Str} {pos : Pos} {v : Value} (e : nsIn (KK B.w.params) mainGlobals x = some (some v)) (hk : env.kindOf x = some .globalImplicit) (hd : (x == ("__debug__" : Str)) = false := by decide) : EvV B k env ρ (.Name x pos) v := EvV.glob (mg_of H.X B.T.g e) hk hd
theorem EvV.bb (H : On B) {x : Str} {pos : Pos} {v : Value} (e : nsIn (KK B.w.params) mainGlobals x = some none) (hb : bootBuiltins x = some v) (hn : x ≠ "__name__") (hk : env.kindOf x = some .globalImplicit) (hd : (x == ("__debug__" : Str)) = false := by decide) : EvV B k env ρ (.Name x pos) v := EvV.boot (mg_none_of H.X B.T.g e) hb hn hk hd

theorem On.get (H : On B) (a : Addr) (h : ((KK B.w.params).lookup a).isSome = true) : B.hB.get? a = some (obj B.w.params a) := by
  refine H.X a _ ?_
  unfold obj
  cases e : (KK B.w.params).lookup a with
  | none => rw [e] at h; cases h
  | some o => rfl

noncomputable def nd : List Str → Bool
  | [] => true
  | x :: r => !(r.contains x) && nd r
theorem nd_iff : ∀ {l : List Str}, nd l = true → l.Nodup
  | [], _ => .nil
  | x :: r, h => by
    simp only [nd, Bool.and_eq_true, Bool.not_eq_true'] at h
    refine List.nodup_cons.mpr ⟨fun hm => ?_, nd_iff h.2⟩
    have := List.contains_iff_mem.mpr hm
    rw [h.1] at this; cases this
/-- a def of the text: what Spec.intro asks, by its address -/
theorem Spec.of (H : On B) {f : Addr} {ds : List PyData} {d : PyData} {ρ0 : Rho} (hs : ((KK B.w.params).lookup f).isSome = true) (hd : (obj B.w.params f).data = .func (fdat B.w.params f)) (hcd : B.hB.CodeRec (fdat B.w.params f).code (fdat B.w.params f).qualname) (hbody : (fdat B.w.params f).body = .stmts (bod B.w.params f))
    (hclo : (fdat B.w.params f).closure = []) (hglob : (fdat B.w.params f).globals = mainGlobals) (hbi : (fdat B.w.params f).builtins = builtinsNs)
    (hbind : ∀ X s vs, Gd B s.heap → Reps B X s.heap vs ds → ∃ binds, BindsTo s (fdat B.w.params f) ⟨vs, []⟩ binds ∧ BRep B X s.heap binds ρ0)
    (hnd : nd (ρ0.map (·.1)) = true)
    (hkinds : (ρ0.all fun y => (fdat B.w.params f).scope.names.lookup y.1 == some .local || (fdat B.w.params f).scope.names.lookup y.1 == some .cell) = true)
    (hcn : nd ((cellsFrom 0 (fdat B.w.params f).scope.names []).map (·.1)) = true)
    (hsc : ((fdat B.w.params f).scope.isCoroutine, (fdat B.w.params f).scope.isGenerator, (fdat B.w.params f).scope.kind) = (false, false, .function))
    (h : ∀ L, Ex B k (callEnvC (fdat B.w.params f) L f) ρ0 (bod B.w.params f) (fun o => o = .ret d)) : Spec B (k + 1) f ds d :=
  Spec.intro (H.get f hs) hd hcd hbody hclo hglob hbi hbind (nd_iff hnd) hkinds (nd_iff hcn) h (congrArg (·.1) hsc) (congrArg (·.2.1) hsc) (congrArg (·.2.2) hsc)
theorem codeRec (H : On B) {c : Addr} {q : Str} {t : Tok} {vs : Array Value} (hs : ((KK B.w.params).lookup c).isSome = true) (hd : (obj B.w.params c).data = .fields vs) (hv : vs[1]? = some (.str q t)) : B.hB.CodeRec (.ref c) q :=
  ⟨c, _, vs, t, rfl, H.get c hs, hd, hv⟩
end
end Mine
end
section
open PySem PySem.W PyProof.Rows
set_option linter.unusedVariables false
set_option maxRecDepth 100000
namespace Mine
section
variable {B : Bs}
noncomputable def vals : List Str → List PyData → Rho
  | n :: ns, d :: ds => (n, .val d) :: vals ns ds
  | _, _ => []
theorem BRep.vals {X : List Addr} {h : Heap} : ∀ {ns : List Str} {vs : List Value} {ds : List PyData}, ns.length = ds.length → Reps B X h vs ds → BRep B X h (ns.zip vs) (Mine.vals ns ds)
  | [], _, [], _, .nil => .nil
  | n :: ns, _, d :: ds, hl, .cons r rs => .cons r (BRep.vals (by simpa using hl) rs)
theorem vals_names : ∀ {ns : List Str} {ds : List PyData}, ns.length = ds.length → (vals ns ds).map (·.1) = ns
  | [], [], _ => rfl
  | n :: ns, d :: ds, h => by simp only [vals, List.map_cons, vals_names (by simpa using h : ns.length = ds.length)]
theorem all_vals {P : Str → Bool} {ns : List Str} {ds : List PyData} (h : ns.length = ds.length) (hp : ns.all P = true) : (vals ns ds).all (fun y => P y.1) = true := by
  have := vals_names h
  rw [← this] at hp
  rw [List.all_map] at hp
  exact hp
/-- a def without defaults -/
theorem Spec.plain (H : On B) {k : Nat} {f : Addr} {ds : List PyData} {d : PyData} (ns : List Str) (hl : ns.length = ds.length) (hs : ((KK B.w.params).lookup f).isSome = true) (hd : (obj B.w.params f).data = .func (fdat B.w.params f)) (hcd : B.hB.CodeRec (fdat B.w.params f).code (fdat B.w.params f).qualname) (hbody : (fdat B.w.params f).body = .stmts (bod B.w.params f))
    (hm : ((fdat B.w.params f).closure, (fdat B.w.params f).globals, (fdat B.w.params f).builtins) = ([], mainGlobals, builtinsNs))
    (hbind : ∀ vs, vs.length = ns.length → bindArgs (fdat B.w.params f) ⟨vs, []⟩ = pure (ns.zip vs))
    (hnd : nd ns = true)
    (hkinds : (ns.all fun y => (fdat B.w.params f).scope.names.lookup y == some .local || (fdat B.w.params f).scope.names.lookup y == some .cell) = true)
    (hcn : nd ((cellsFrom 0 (fdat B.w.params f).scope.names []).map (·.1)) = true)
    (hsc : ((fdat B.w.params f).scope.isCoroutine, (fdat B.w.params f).scope.isGenerator, (fdat B.w.params f).scope.kind) = (false, false, .function))
    (h : ∀ L, Ex B k (callEnvC (fdat B.w.params f) L f) (vals ns ds) (bod B.w.params f) (fun o => o = .ret d)) : Spec B (k + 1) f ds d :=
  Spec.of H hs hd hcd hbody (congrArg (·.1) hm) (congrArg (·.2.1) hm) (congrArg (·.2.2) hm) (fun X s vs g r => ⟨_, .of_eq (hbind vs (by rw [r.length, hl])), .vals hl r⟩)
    (by rw [vals_names hl]; exact hnd) (all_vals (P := fun y => (fdat B.w.params f).scope.names.lookup y == some .local || (fdat B.w.params f).scope.names.lookup y == some .cell) hl hkinds) hcn hsc h
theorem lenS {vs : List Value} {n : Nat} (h : vs.length = n + 1) : ∃ a r, vs = a :: r ∧ r.length = n := by
  cases vs with
  | nil => cases h
  | cons a r => exact ⟨a, r, rfl, Nat.succ.inj h⟩
theorem len1 {vs : List Value} (h : vs.length = 1) : ∃ a, vs = [a] := by
  obtain ⟨a, r, rfl, q⟩ := lenS h
  exact ⟨a, by rw [List.eq_nil_of_length_eq_zero q]⟩
theorem len2 {vs : List Value} (h : vs.length = 2) : ∃ a b, vs = [a, b] := by
  obtain ⟨a, r, rfl, q⟩ := lenS h
  obtain ⟨b, rfl⟩ := len1 q
  exact ⟨a, b, rfl⟩
theorem len3 {vs : List Value} (h : vs.length = 3) : ∃ a b c, vs = [a, b, c] := by
  obtain ⟨a, r, rfl, q⟩ := lenS h
  obtain ⟨b, c, rfl⟩ := len2 q
  exact ⟨a, b, c, rfl⟩
theorem len4 {vs : List Value} (h : vs.length = 4) : ∃ a b c d, vs = [a, b, c, d] := by
  obtain ⟨a, r, rfl, q⟩ := lenS h
  obtain ⟨b, c, d, rfl⟩ := len3 q
  exact ⟨a, b, c, d, rfl⟩
end
end Mine
end
section
open PySem PySem.W PyProof.Rows
set_option linter.unusedVariables false
set_option maxRecDepth 100000
namespace Mine
section
variable {B : Bs} {env : Env} {ρ : Rho} {k : Nat}
noncomputable def SubR (ρ : Rho) : Rho → Prop
  | [] => True
  | p :: r => ρ.lookup p.1 = some p.2 ∧ SubR ρ r
theorem SubR.mem : ∀ {ρ' : Rho}, SubR ρ ρ' → ∀ p ∈ ρ', ρ.lookup p.1 = some p.2
  | p :: r, h, q, hq => by
    rcases List.mem_cons.mp hq with rfl | hq
    · exact h.1
    · exact SubR.mem h.2 q hq
theorem Ex.to {ss : List Stmt} (ρ' : Rho) {Post : Out → Prop} (hs : SubR ρ ρ') (ho : owns ρ' = owns ρ) (h : Ex B k env ρ' ss Post) : Ex B k env ρ ss Post := Ex.sub h hs.mem (fun a ha => ho ▸ ha)
theorem Ex.ends (ρ' : Rho) {Post : Out → Prop} (hs : SubR ρ ρ') (ho : owns ρ' = owns ρ) (h : Post (.nxt ρ')) : Ex B k env ρ [] Post := Ex.to ρ' hs ho (Ex.nil h)
theorem Ex.ret {e : Expr} {pos : Pos} {ss : List Stmt} {d : PyData} {Post : Out → Prop} (h : Ev B k env ρ e d) (hp : Post (.ret d)) : Ex B k env ρ (.Return (some e) pos :: ss) Post :=
  Ex.cons (Ex1.mono (Ex1.ret h) fun o e => by subst e; exact hp)
/-- a loop whose frame is told by the turn's number -/
theorem Ex1.forC {target iter : Expr} {body : List Stmt} {pos : Pos} {α : Type} {xl : List α} {enc : α → PyData} {Post : Out → Prop} (C : Nat → Rho) (hi : EvI B k env ρ iter target (xl.map enc)) (h0 : C 0 = ρ)
    (hown : ∀ i, owns (C i) = owns ρ)
    (hstep : ∀ i x, xl[i]? = some x → ∃ ρ1, As B env target (C i) (enc x) ρ1 ∧ owns ρ1 = owns ρ ∧ Ex B k env ρ1 body (fun o => match o with | .nxt ρ2 => ρ2 = C (i + 1) | .ret d => Post (.ret d)))
    (hend : Post (.nxt (C xl.length))) (hs : ∀ x, foldedSetIterable iter env x = pure x := by intro _; rfl) : Ex1 B k env ρ (.For target iter body [] pos) Post := by
  refine Ex1.for (fun i ρ' => ρ' = C i) hi h0.symm (fun i ρ' e a ha => by rw [e, hown] at ha; exact ha) (fun i d ρ' hd e => ?_) (fun ρ' e => by rw [e, List.length_map]; exact hend) hs
  subst e
  rw [List.getElem?_map] at hd
  cases hx : xl[i]? with
  | none => rw [hx] at hd; cases hd
  | some x =>
    rw [hx] at hd; cases hd
    obtain ⟨ρ1, h1, h2, h3⟩ := hstep i x hx
    exact ⟨ρ1, h1, (fun a ha => by rw [h2] at ha; rw [hown]; exact ha), h3⟩
end
end Mine
end
section
open PySem PySem.W PyProof.Rows
set_option linter.unusedVariables false
set_option maxRecDepth 100000
namespace Mine
section
variable {B : Bs}
/-- count_calls -/
theorem spec67 (H : On B) (l : List (Str × Int)) : Spec B 1 67 [dct (l.map fun p => (p.1, PyData.int p.2))] (.int (l.map (·.2)).sum) := by
  refine Spec.plain H ["callers"] rfl rfl rfl (codeRec H rfl rfl rfl) rfl rfl (fun vs h => by obtain ⟨a, rfl⟩ := len1 h; kernel_rfl) rfl rfl rfl rfl fun L => ?_
  refine Ex.seq (Ex1.set (Ev.int (i := 0)) (.loc rfl)) ?_
  refine Ex.cons (Ex1.for (ds := (l.map fun p => (p.1, PyData.int p.2)).map (·.2)) (fun i ρ' => owns ρ' = [] ∧ ρ'.lookup (Str.ofString "nc") = some (.val (.int ((l.take i).map (·.2)).sum))) (EvI.values (Ev.name rfl rfl)) ⟨rfl, rfl⟩ (fun i ρ' hJ a ha => by rw [hJ.1] at ha; cases ha) (fun i d ρ' hd hJ => ?_) ?_)
  · obtain ⟨h1, h2⟩ := hJ
    obtain ⟨q, hq, rfl⟩ : ∃ q, l[i]? = some q ∧ d = .int q.2 := by
      simp only [List.getElem?_map] at hd
      cases e : l[i]? with
      | none => rw [e] at hd; cases hd
      | some q => rw [e] at hd; exact ⟨q, rfl, by cases hd; rfl⟩
    refine ⟨_, As.name (.loc rfl), fun a ha => ha, Ex.seq (Ex1.augAdd (b := q.2) h2 rfl (Ev.name rfl rfl)) (Ex.nil ⟨h1, ?_⟩)⟩
    have : ((l.take (i + 1)).map (·.2)).sum = ((l.take i).map (·.2)).sum + q.2 := by
      rw [List.take_add_one, hq]; simp
    rw [this]; rfl
  · rintro ρ' ⟨h1, h2⟩
    refine Ex.cons (Ex1.mono (Ex1.ret (Ev.name h2 rfl)) fun o e => ?_)
    subst e
    simp
end
end Mine
end
section
open PySem PySem.W PyProof.Rows
set_option linter.unusedVariables false
set_option maxRecDepth 100000
namespace Mine
/-! add_callers -/
noncomputable abbrev Cs := List (Str × Int)
noncomputable def dc (l : Cs) : List (Str × PyData) := l.map fun p => (p.1, .int p.2)
noncomputable def cget (l : Cs) (x : Str) : Option Int := (l.find? fun p => p.1 = x).map (·.2)
noncomputable def cput (l : Cs) (x : Str) (i : Int) : Cs := if l.any (fun p => p.1 = x) then l.map (fun p => if p.1 = x then (p.1, i) else p) else l ++ [(x, i)]
noncomputable def cadd (l : Cs) (p : Str × Int) : Cs := cput l p.1 ((cget l p.1).elim p.2 (· + p.2))
noncomputable def addC (t s : Cs) : Cs := s.foldl cadd (t.foldl (fun l p => cput l p.1 p.2) [])
theorem dc_get (l : Cs) (x : Str) : dget (dc l) x = (cget l x).map .int := by
  unfold dget cget dc
  rw [List.find?_map, Option.map_map, Option.map_map]
  rfl
theorem dc_put (l : Cs) (x : Str) (i : Int) : dput (dc l) x (.int i) = dc (cput l x i) := by
  unfold dput cput dc
  rw [List.any_map]
  have e : ((fun p : Str × PyData => decide (p.1 = x)) ∘ fun p : Str × Int => (p.1, PyData.int p.2)) = fun p => decide (p.1 = x) := rfl
  rw [e]
  by_cases h : (l.any fun p => decide (p.1 = x)) = true
  · rw [if_pos h, if_pos h, List.map_map, List.map_map]
    congr 1
    funext p
    simp only [Function.comp]
    by_cases q : p.1 = x <;> simp [q]
  · rw [if_neg h, if_neg h, List.map_append]; rfl
theorem cput_len (l : Cs) (x : Str) (i : Int) : (cput l x i).length ≤ l.length + 1 := by
  unfold cput
  split
  · simp
  · simp
theorem fold_len {α : Type} (f : Cs → α → Cs) (hf : ∀ l a, (f l a).length ≤ l.length + 1) : ∀ (xs : List α) (l : Cs), (xs.foldl f l).length ≤ l.length + xs.length
  | [], l => by simp
  | a :: r, l => by
    have h1 := fold_len f hf r (f l a)
    have h2 := hf l a
    simp only [List.foldl_cons, List.length_cons]; omega
theorem fold_take {α β : Type} (f : β → α → β) (xs : List α) (b : β) (i : Nat) (x : α) (h : xs[i]? = some x) : (xs.take (i + 1)).foldl f b = f ((xs.take i).foldl f b) x := by
  rw [List.take_add_one, h, List.foldl_append]; rfl
section
variable {B : Bs}
theorem spec60 (H : On B) (t s : Cs) (hsz : t.length + s.length ≤ 900) : Spec B 2 60 [dct (dc t), dct (dc s)] (dct (dc (addC t s))) := by
  refine Spec.plain H ["target", "source"] rfl rfl rfl (codeRec H rfl rfl rfl) rfl rfl (fun vs h => by obtain ⟨a, b, rfl⟩ := len2 h; kernel_rfl) rfl rfl rfl rfl fun L => ?_
  refine Ex.cons (Ex1.mono (Ex1.setNew EvF.dict0 rfl) ?_)
  rintro o ⟨a, rfl⟩
  let T1 : Nat → Cs := fun i => (t.take i).foldl (fun l p => cput l p.1 p.2) []
  let T2 : Nat → Cs := fun i => (s.take i).foldl cadd (T1 t.length)
  have hT1 : ∀ i, (T1 i).length ≤ t.length := fun i => by
    have := fold_len (fun l (p : Str × Int) => cput l p.1 p.2) (fun l p => cput_len l _ _) (t.take i) []
    simp only [List.length_take, List.length_nil] at this
    show ((t.take i).foldl _ []).length ≤ _
    omega
  have hT2 : ∀ i, (T2 i).length ≤ t.length + s.length := fun i => by
    have := fold_len cadd (fun l p => cput_len l _ _) (s.take i) (T1 t.length)
    have h1 := hT1 t.length
    simp only [List.length_take] at this
    show (List.foldl cadd (T1 t.length) (s.take i)).length ≤ _
    omega
  have enc : ∀ l : Cs, (l.map fun p => PyData.tuple [.str p.1, .int p.2]) = (dc l).map fun p => PyData.tuple [.str p.1, p.2] := fun l => by simp [dc]
  let C1 : Cs → Rho := fun c => [("new_callers", .own a (dct (dc c))), ("target", .val (dct (dc t))), ("source", .val (dct (dc s)))]
  refine Ex.cons (Ex1.forC (xl := t) (enc := fun p => PyData.tuple [.str p.1, .int p.2]) (fun i => C1 (T1 i)) ?_ rfl (fun _ => rfl) ?_ ?_)
  · rw [enc]; exact EvI.items (Ev.name rfl rfl)
  · intro i p hp
    refine ⟨_, As.tuple (.cons (.loc rfl) (.cons (.loc rfl) .nil)), rfl, Ex.seq (Ex1.putDict (l := dc (T1 i)) rfl rfl (fun b hb => List.mem_singleton.mp hb) (Ev.name rfl rfl) (Ev.name rfl rfl) ?_) (Ex.ends (C1 (T1 (i + 1))) ⟨?_, rfl, rfl, trivial⟩ rfl rfl)⟩
    · have := hT1 i
      unfold dc; rw [List.length_map]; omega
    · rw [dc_put, show T1 (i + 1) = cput (T1 i) p.1 p.2 from fold_take _ t [] i p hp]; rfl
  · show Ex B 1 _ _ _ _
    refine Ex.cons (Ex1.forC (xl := s) (enc := fun p => PyData.tuple [.str p.1, .int p.2]) (fun i => C1 (T2 i)) ?_ rfl (fun _ => rfl) ?_ ?_)
    · rw [enc]; exact EvI.items (Ev.name rfl rfl)
    · intro i p hp
      have hlen : (dc (T2 i)).length ≤ 1000 := by have := hT2 i; unfold dc; rw [List.length_map]; omega
      have hnx : T2 (i + 1) = cadd (T2 i) p := fold_take _ s _ i p hp
      refine ⟨_, As.tuple (.cons (.loc rfl) (.cons (.loc rfl) .nil)), rfl, Ex.cons (Ex1.if (Tst.cmp (Ev.name rfl rfl).o (EvO.own rfl rfl) (Cmp.inDict p.1 (dc (T2 i)))) (fun hb => ?_) (fun hb => ?_))⟩
      · refine Ex.cons (Ex1.if (Tst.ofBool (Ev.isTuple (EvV.bb H rfl (by decide +kernel) (by decide) rfl) (Ev.name rfl rfl) (EvV.bb H rfl (by decide +kernel) (by decide) rfl))) (fun h => nomatch h) (fun _ => ?_))
        rw [dc_get] at hb
        cases hg : cget (T2 i) p.1 with
        | none => rw [hg] at hb; cases hb
        | some j =>
          refine Ex.seq (Ex1.augDict (i := j) (j := p.2) (l := dc (T2 i)) rfl rfl (fun b hb => List.mem_singleton.mp hb) (Ev.name rfl rfl) (by rw [dc_get, hg]; rfl) (Ev.name rfl rfl) hlen) (Ex.ends (C1 (T2 (i + 1))) ⟨?_, rfl, rfl, trivial⟩ rfl (Ex.nil (Ex.nil rfl)))
          rw [dc_put, hnx]; unfold cadd; rw [hg]; rfl
      · rw [dc_get] at hb
        cases hg : cget (T2 i) p.1 with
        | some j => rw [hg] at hb; cases hb
        | none =>
          refine Ex.seq (Ex1.putDict (l := dc (T2 i)) rfl rfl (fun b hb => List.mem_singleton.mp hb) (Ev.name rfl rfl) (Ev.name rfl rfl) hlen) (Ex.ends (C1 (T2 (i + 1))) ⟨?_, rfl, rfl, trivial⟩ rfl (Ex.nil rfl))
          rw [dc_put, hnx]; unfold cadd; rw [hg]; rfl
    · show Ex B 1 _ _ _ _
      refine Ex.freeze (x := "new_callers") (a := a) (d := dct (dc (T2 s.length))) (ρ' := [("new_callers", .val (dct (dc (T2 s.length))))]) (Ex.ret (Ev.name rfl rfl) ?_) rfl rfl (fun p hp => .inl (by rw [List.mem_singleton.mp hp]; exact ⟨rfl, rfl⟩))
      show Out.ret _ = Out.ret _
      unfold addC
      show Out.ret (dct (dc (List.foldl cadd (List.foldl _ [] (t.take t.length)) (s.take s.length)))) = _
      rw [List.take_length, List.take_length]
end
end Mine
end
section
open PySem PySem.W PyProof.Rows
set_option linter.unusedVariables false
set_option maxRecDepth 100000
namespace Mine
/-! add_func_stats -/
structure En where
  cc : Int
  nc : Int
  tt : Int
  ct : Int
  cs : Cs
noncomputable def En.d (e : En) : PyData := .tuple [.int e.cc, .int e.nc, .int e.tt, .int e.ct, dct (dc e.cs)]
noncomputable def En.add (t s : En) : En := ⟨s.cc + t.cc, s.nc + t.nc, s.tt + t.tt, s.ct + t.ct, addC t.cs s.cs⟩
section
variable {B : Bs}
theorem spec53 (H : On B) (t s : En) (hsz : t.cs.length + s.cs.length ≤ 900) : Spec B 3 53 [t.d, s.d] (t.add s).d := by
  refine Spec.plain H ["target", "source"] rfl rfl rfl (codeRec H rfl rfl rfl) rfl rfl (fun vs h => by obtain ⟨a, b, rfl⟩ := len2 h; kernel_rfl) rfl rfl rfl rfl fun L => ?_
  refine Ex.seq (Ex1.setTuple (Ev.name (d := s.d) rfl rfl) (As.tuple (.cons (.loc rfl) (.cons (.loc rfl) (.cons (.loc rfl) (.cons (.loc rfl) (.cons (.loc rfl) .nil))))))) ?_
  refine Ex.seq (Ex1.setTuple (Ev.name (d := t.d) rfl rfl) (As.tuple (.cons (.loc rfl) (.cons (.loc rfl) (.cons (.loc rfl) (.cons (.loc rfl) (.cons (.loc rfl) .nil))))))) ?_
  refine Ex.ret (Ev.tuple (Evs.cons (Ev.bop (Ev.name rfl rfl) (Ev.name rfl rfl) (Bop.add s.cc t.cc)) (Evs.cons (Ev.bop (Ev.name rfl rfl) (Ev.name rfl rfl) (Bop.add s.nc t.nc)) (Evs.cons (Ev.bop (Ev.name rfl rfl) (Ev.name rfl rfl) (Bop.add s.tt t.tt)) (Evs.cons (Ev.bop (Ev.name rfl rfl) (Ev.name rfl rfl) (Bop.add s.ct t.ct))
    (Evs.cons (Ev.call (EvV.kk H rfl rfl) (H.get 60 rfl) rfl (Evs.cons (Ev.name rfl rfl) (Evs.cons (Ev.name rfl rfl) Evs.nil)) (spec60 H t.cs s.cs hsz) (Nat.le_refl _)) Evs.nil)))))) rfl
end
end Mine
end
section
open PySem PySem.W PyProof.Rows
set_option linter.unusedVariables false
set_option maxRecDepth 100000
namespace Mine
/-! func_std_string -/
noncomputable def funD (f : Str × Int × Str) : PyData := .tuple [.str f.1, .int f.2.1, .str f.2.2]
noncomputable def stdName (f : Str × Int × Str) : Str := f.1 ++ Str.ofString ":" ++ Str.ofString (toString f.2.1) ++ Str.ofString "(" ++ f.2.2 ++ Str.ofString ")"
section
variable {B : Bs}
theorem tildeOk : PyData.strOk (Str.ofString "~") = true := by decide +kernel
theorem spec46a (H : On B) (f : Str × Int × Str) (hok : PyData.strOk f.1 = true) (hne : PyData.eqv (.tuple [.str f.1, .int f.2.1]) (.tuple [.str "~", .int 0]) = false) (h0 : 0 ≤ f.2.1) (h1 : f.2.1 < 10 ^ 13) (hx : f.1.length ≤ 1000) (hy : f.2.2.length ≤ 1000) : Spec B 2 46 [funD f] (.str (stdName f)) := by
  refine Spec.plain H ["func_name"] rfl rfl rfl (codeRec H rfl rfl rfl) rfl rfl (fun vs h => by obtain ⟨a, rfl⟩ := len1 h; kernel_rfl) rfl rfl rfl rfl fun L => ?_
  have c : Cmp B .Eq (.tuple [.str f.1, .int f.2.1]) (.tuple [.str "~", .int 0]) false := hne ▸ Cmp.eq (by simp [SeqAt.shaped, PyData.canLay0, PyData.canLayAll0, PyData.depth, PyData.depthAll, hok, tildeOk]) (by simp [SeqAt.shaped, PyData.canLay0, PyData.canLayAll0, PyData.depth, PyData.depthAll, tildeOk])
  refine Ex.cons (Ex1.if (Tst.cmp (Ev.tsliceTo (b := 2) (ds := [.str f.1, .int f.2.1, .str f.2.2]) (Ev.name rfl rfl).o Ev.int (by simp) (by simp)).o (Ev.tuple (Evs.cons Ev.str (Evs.cons Ev.int Evs.nil))).o c) (fun hb => nomatch hb) fun _ => ?_)
  exact Ex.ret (Ev.bop Ev.str (Ev.name rfl rfl) (Bop.std (by decide +kernel) (by omega) (by omega) h0 h1)) rfl
theorem spec46b (H : On B) (z : Str) (hz : z.length ≤ 1000) (r : Str) (hr : r = if (decide (0 + (Str.ofString "<").length ≤ z.length) && Builtin.Str.subAt z "<" 0) && (decide (0 + (Str.ofString ">").length ≤ z.length) && Builtin.Str.subAt z ">" (z.length - (Str.ofString ">").length)) then Str.ofString "{" ++ Txt.slice z (some 1) (some (-1)) ++ Str.ofString "}" else z) : Spec B 2 46 [funD ("~", 0, z)] (.str r) := by
  refine Spec.plain H ["func_name"] rfl rfl rfl (codeRec H rfl rfl rfl) rfl rfl (fun vs h => by obtain ⟨a, rfl⟩ := len1 h; kernel_rfl) rfl rfl rfl rfl fun L => ?_
  have c : Cmp B .Eq (.tuple [.str "~", .int 0]) (.tuple [.str "~", .int 0]) true := (show PyData.eqv (.tuple [.str "~", .int 0]) (.tuple [.str "~", .int 0]) = true by decide +kernel) ▸ Cmp.eq (by simp [SeqAt.shaped, PyData.canLay0, PyData.canLayAll0, PyData.depth, PyData.depthAll, tildeOk]) (by simp [SeqAt.shaped, PyData.canLay0, PyData.canLayAll0, PyData.depth, PyData.depthAll, tildeOk])
  refine Ex.cons (Ex1.if (Tst.cmp (Ev.tsliceTo (b := 2) (ds := [.str "~", .int 0, .str z]) (Ev.name rfl rfl).o Ev.int (by simp) (by simp)).o (Ev.tuple (Evs.cons Ev.str (Evs.cons Ev.int Evs.nil))).o c) (fun _ => ?_) (fun hb => nomatch hb))
  refine Ex.seq (Ex1.set (Ev.titem (i := 2) (d := .str z) (Ev.name rfl rfl).o Ev.int (by decide) rfl (by decide)) (.loc rfl)) ?_
  refine Ex.cons (Ex1.if (Tst.and2 (a := decide (0 + (Str.ofString "<").length ≤ z.length) && Builtin.Str.subAt z "<" 0) (b := decide (0 + (Str.ofString ">").length ≤ z.length) && Builtin.Str.subAt z ">" (z.length - (Str.ofString ">").length)) (Tst.ofBool ?h1) fun _ => Tst.ofBool ?h2) (fun hb => ?_) fun hb => ?_)
  case h1 => exact Ev.meth (Ev.name (d := .str z) rfl rfl).o (EvOs.cons Ev.str.o EvOs.nil) rfl (.inl rfl) PySem.F.plainAttrs_str PySem.F.slot_str_startswith PySem.F.type_str_startswith (BC.startswith z _)
  case h2 => exact Ev.meth (Ev.name (d := .str z) rfl rfl).o (EvOs.cons Ev.str.o EvOs.nil) rfl (.inl rfl) PySem.F.plainAttrs_str PySem.F.slot_str_endswith PySem.F.type_str_endswith (BC.endswith z _)
  · rw [hr, if_pos hb]
    refine Ex.ret (Ev.bop Ev.str (Ev.strSlice (Ev.name (d := .str z) rfl rfl) Ev.int (Ev.neg Ev.int) (by rw [sizeLine_eq]; omega)) (Bop.braces (by decide +kernel) ?_)) rfl
    exact Nat.le_trans (Txt.slice_le z _ _) (by omega)
  · rw [hr, if_neg (by rw [hb]; decide)]
    exact Ex.ret (Ev.name rfl rfl) rfl
end
end Mine
end
section
open PySem PySem.W PyProof.Rows
set_option linter.unusedVariables false
set_option maxRecDepth 100000
namespace Mine
/-! _law_cut -/
noncomputable abbrev D3 := Int × Int × Int
noncomputable abbrev Pc := Int × Int × Int × Int
noncomputable def d3 (d : D3) : PyData := .tuple [.int d.1, .int d.2.1, .int d.2.2]
noncomputable def pcD (p : Pc) : PyData := .tuple [.int p.1, .int p.2.1, .int p.2.2.1, .int p.2.2.2]
noncomputable def cutStep (st sp : Int) (acc : List Pc × Int) (d : D3) : List Pc × Int :=
  (if max acc.2 st < min (acc.2 + d.2.1) sp then acc.1 ++ [(d.1, max acc.2 st, min (acc.2 + d.2.1) sp, d.2.2)] else acc.1, acc.2 + d.2.1)
noncomputable def cut (dr : List D3) (st sp : Int) : List Pc := (dr.foldl (cutStep st sp) ([], 0)).1
theorem cut_len (st sp : Int) : ∀ (dr : List D3) (acc : List Pc × Int), (dr.foldl (cutStep st sp) acc).1.length ≤ acc.1.length + dr.length
  | [], acc => by simp
  | d :: r, acc => by
    have := cut_len st sp r (cutStep st sp acc d)
    have h2 : (cutStep st sp acc d).1.length ≤ acc.1.length + 1 := by
      unfold cutStep; dsimp only; split <;> simp
    simp only [List.foldl_cons, List.length_cons]; omega
section
variable {B : Bs}
theorem spec84 (H : On B) (dr : List D3) (st sp : Int) (hsz : dr.length ≤ 900) : Spec B 2 84 [.list (dr.map d3), .int st, .int sp] (.list ((cut dr st sp).map pcD)) := by
  refine Spec.plain H ["drawn", "start", "stop"] rfl rfl rfl (codeRec H rfl rfl rfl) rfl rfl (fun vs h => by obtain ⟨a, b, c, rfl⟩ := len3 h; kernel_rfl) rfl rfl rfl rfl fun L => ?_
  refine Ex.cons (Ex1.mono (Ex1.swapNew2 EvF.list0 (Ev.int (i := 0)) rfl rfl rfl (fun X h v r X' => by obtain ⟨t, rfl⟩ := r.int_inv; exact .int _ _)) ?_)
  rintro o ⟨a, rfl⟩
  let T : Nat → List Pc × Int := fun i => (dr.take i).foldl (cutStep st sp) ([], 0)
  have hT : ∀ i, (T i).1.length ≤ dr.length := fun i => by
    have := cut_len st sp (dr.take i) ([], 0)
    simp only [List.length_take, List.length_nil] at this
    show (List.foldl (cutStep st sp) ([], 0) (dr.take i)).1.length ≤ _
    omega
  let C : List Pc → Int → Rho := fun ps t => [("pieces", .own a (.list (ps.map pcD))), ("tick", .val (.int t)), ("drawn", .val (.list (dr.map d3))), ("start", .val (.int st)), ("stop", .val (.int sp))]
  refine Ex.cons (Ex1.forC (xl := dr) (enc := d3) (fun i => C (T i).1 (T i).2) (EvI.list (Ev.name rfl rfl)) rfl (fun _ => rfl) ?_ ?_)
  · intro i d hd
    have hnx : T (i + 1) = cutStep st sp (T i) d := fold_take _ dr _ i d hd
    refine ⟨_, As.tuple (.cons (.loc rfl) (.cons (.loc rfl) (.cons (.loc rfl) .nil))), rfl, ?_⟩
    refine Ex.seq (Ex1.swap2 (Ev.bcall (EvV.bb H rfl (by decide +kernel) (by decide) rfl) (.fn _) (EvOs.cons (Ev.name rfl rfl).o (EvOs.cons (Ev.name rfl rfl).o EvOs.nil)) (BC.max (T i).2 st))
      (Ev.bcall (EvV.bb H rfl (by decide +kernel) (by decide) rfl) (.fn _) (EvOs.cons (Ev.bop (Ev.name rfl rfl) (Ev.name rfl rfl) (Bop.add (T i).2 d.2.1)).o (EvOs.cons (Ev.name rfl rfl).o EvOs.nil)) (BC.min ((T i).2 + d.2.1) sp)) (.loc rfl) (.loc rfl)) ?_
    refine Ex.cons (Ex1.if (Tst.cmp (Ev.name rfl rfl).o (Ev.name rfl rfl).o (Cmp.lt (max (T i).2 st) (min ((T i).2 + d.2.1) sp))) (fun hb => ?_) fun hb => ?_)
    · refine Ex.seq (Ex1.append (ds := (T i).1.map pcD) rfl rfl (fun b hb => List.mem_singleton.mp hb) (Ev.tuple (Evs.cons (Ev.name rfl rfl) (Evs.cons (Ev.name rfl rfl) (Evs.cons (Ev.name rfl rfl) (Evs.cons (Ev.name rfl rfl) Evs.nil))))) ?_) (Ex.nil ?_)
      · have := hT i; rw [List.length_map]; omega
      · refine Ex.seq (Ex1.set (Ev.bop (Ev.name rfl rfl) (Ev.name rfl rfl) (Bop.add (T i).2 d.2.1)) (.loc rfl)) (Ex.ends (C (T (i + 1)).1 (T (i + 1)).2) ⟨?_, ?_, rfl, rfl, rfl, trivial⟩ rfl rfl)
        · rw [hnx]; unfold cutStep; rw [if_pos (of_decide_eq_true hb), List.map_append]; rfl
        · rw [hnx]; rfl
    · refine Ex.nil ?_
      refine Ex.seq (Ex1.set (Ev.bop (Ev.name rfl rfl) (Ev.name rfl rfl) (Bop.add (T i).2 d.2.1)) (.loc rfl)) (Ex.ends (C (T (i + 1)).1 (T (i + 1)).2) ⟨?_, ?_, rfl, rfl, rfl, trivial⟩ rfl rfl)
      · rw [hnx]; unfold cutStep; rw [if_neg (of_decide_eq_false hb)]; rfl
      · rw [hnx]; rfl
  · show Ex B 1 _ _ _ _
    refine Ex.freeze (x := "pieces") (a := a) (d := .list ((T dr.length).1.map pcD)) (ρ' := [("pieces", .val (.list ((T dr.length).1.map pcD)))]) (Ex.ret (Ev.name rfl rfl) ?_) rfl rfl (fun p hp => .inl (by rw [List.mem_singleton.mp hp]; exact ⟨rfl, rfl⟩))
    show Out.ret (.list ((List.foldl (cutStep st sp) ([], 0) (dr.take dr.length)).1.map pcD)) = _
    rw [List.take_length]; rfl
end
end Mine
end
section
open PySem PySem.W PyProof.Rows
set_option linter.unusedVariables false
set_option maxRecDepth 100000
namespace Mine
/-! _law_joined -/
noncomputable abbrev Jn := Int × Int
noncomputable def jnD (j : Jn) : PyData := .tuple [.int j.1, .int j.2]
noncomputable def joinStep (acc : List Jn) (p : Pc) : List Jn := match acc.getLast? with
  | some q => if q.1 == p.1 then acc.set (acc.length - 1) (p.1, q.2 + p.2.2.1 - p.2.1) else acc ++ [(p.1, p.2.2.1 - p.2.1)]
  | none => acc ++ [(p.1, p.2.2.1 - p.2.1)]
noncomputable def joined (ps : List Pc) : List Jn := ps.foldl joinStep []
theorem joinStep_len (acc : List Jn) (p : Pc) : (joinStep acc p).length ≤ acc.length + 1 := by
  unfold joinStep
  split
  · split <;> simp
  · simp
theorem join_len : ∀ (ps : List Pc) (acc : List Jn), (ps.foldl joinStep acc).length ≤ acc.length + ps.length
  | [], acc => by simp
  | p :: r, acc => by
    have := join_len r (joinStep acc p)
    have h2 := joinStep_len acc p
    simp only [List.foldl_cons, List.length_cons]; omega
theorem canLay_map {α : Type} (f : α → PyData) (hf : ∀ a, (f a).canLay0 = true) : ∀ l : List α, PyData.canLayAll0 (l.map f) = true
  | [] => rfl
  | a :: r => by simp only [List.map_cons, PyData.canLayAll0, hf, canLay_map f hf r, Bool.and_self]
theorem depth_map {α : Type} (f : α → PyData) (n : Nat) (hf : ∀ a, (f a).depth ≤ n) : ∀ l : List α, PyData.depthAll (l.map f) ≤ n
  | [] => Nat.zero_le _
  | a :: r => by simp only [List.map_cons, PyData.depthAll]; exact Nat.max_le.mpr ⟨hf a, depth_map f n hf r⟩
theorem shaped_map {α : Type} (f : α → PyData) (n : Nat) (hn : n ≤ 60) (hf : ∀ a, (f a).canLay0 = true) (hd : ∀ a, (f a).depth ≤ n) (l : List α) : SeqAt.shaped (.list (l.map f)) = true := by
  unfold SeqAt.shaped
  rw [Bool.and_eq_true]
  refine ⟨by rw [PyData.canLay0]; exact canLay_map f hf l, decide_eq_true ?_⟩
  rw [PyData.depth]
  have := depth_map f n hd l
  omega
theorem jn_shaped (l : List Jn) : SeqAt.shaped (.list (l.map jnD)) = true := shaped_map jnD 1 (by omega) (fun a => by simp [jnD, PyData.canLay0, PyData.canLayAll0]) (fun a => by simp [jnD, PyData.depth, PyData.depthAll]) l
section
variable {B : Bs}
theorem spec91 (H : On B) (ps : List Pc) (hsz : ps.length ≤ 900) : Spec B 2 91 [.list (ps.map pcD)] (.list ((joined ps).map jnD)) := by
  refine Spec.plain H ["pieces"] rfl rfl rfl (codeRec H rfl rfl rfl) rfl rfl (fun vs h => by obtain ⟨a, rfl⟩ := len1 h; kernel_rfl) rfl rfl rfl rfl fun L => ?_
  refine Ex.cons (Ex1.mono (Ex1.setNew EvF.list0 rfl) ?_)
  rintro o ⟨a, rfl⟩
  let T : Nat → List Jn := fun i => (ps.take i).foldl joinStep []
  have hT : ∀ i, (T i).length ≤ ps.length := fun i => by
    have := join_len (ps.take i) []
    simp only [List.length_take, List.length_nil] at this
    show (List.foldl joinStep [] (ps.take i)).length ≤ _
    omega
  let C : List Jn → Rho := fun js => [("joined", .own a (.list (js.map jnD))), ("pieces", .val (.list (ps.map pcD)))]
  refine Ex.cons (Ex1.forC (xl := ps) (enc := pcD) (fun i => C (T i)) (EvI.list (Ev.name rfl rfl)) rfl (fun _ => rfl) ?_ ?_)
  · intro i p hp
    have hnx : T (i + 1) = joinStep (T i) p := fold_take _ ps _ i p hp
    have hlen : ((T i).map jnD).length ≤ 1000 := by have := hT i; rw [List.length_map]; omega
    refine ⟨_, As.tuple (.cons (.loc rfl) (.cons (.loc rfl) (.cons (.loc rfl) (.cons (.loc rfl) .nil)))), rfl, ?_⟩
    have app : T (i + 1) = T i ++ [(p.1, p.2.2.1 - p.2.1)] → True := fun _ => trivial
    cases hl : (T i).getLast? with
    | none =>
      have he : T i = [] := List.getLast?_eq_none_iff.mp hl
      have c : Cmp B .NotEq (.list ((T i).map jnD)) (.list []) false := by
        rw [he]
        exact (show (!PyData.eqv (.list []) (.list [])) = false by decide) ▸ Cmp.ne (jn_shaped []) (jn_shaped [])
      refine Ex.cons (Ex1.if (Tst.and2 (a := false) (b := false) (Tst.cmp (EvO.own rfl rfl) (Ev.list Evs.nil).o c) (fun h => nomatch h)) (fun h => nomatch h) fun _ => ?_)
      refine Ex.seq (Ex1.append (ds := (T i).map jnD) rfl rfl (fun b hb => List.mem_singleton.mp hb) (Ev.tuple (Evs.cons (Ev.name rfl rfl) (Evs.cons (Ev.bop (Ev.name rfl rfl) (Ev.name rfl rfl) (Bop.sub p.2.2.1 p.2.1)) Evs.nil))) hlen) (Ex.ends (C (T (i + 1))) ⟨?_, rfl, trivial⟩ rfl (Ex.nil rfl))
      rw [hnx]; unfold joinStep; rw [hl, List.map_append]; rfl
    | some q =>
      have hne : T i ≠ [] := fun e => by rw [e] at hl; cases hl
      have hq : ((T i).map jnD).getLast? = some (jnD q) := by rw [List.getLast?_map, hl]; rfl
      have c : Cmp B .NotEq (.list ((T i).map jnD)) (.list []) true := by
        have : (!PyData.eqv (.list ((T i).map jnD)) (.list [])) = true := by
          cases hc : T i with
          | nil => exact absurd hc hne
          | cons x r => rfl
        exact this ▸ Cmp.ne (jn_shaped _) (jn_shaped [])
      refine Ex.cons (Ex1.if (Tst.and2 (a := true) (b := q.1 == p.1) (Tst.cmp (EvO.own rfl rfl) (Ev.list Evs.nil).o c) (fun _ => Tst.cmp (Ev.titem (i := 0) (d := .int q.1) (Ev.last (d := jnD q) (EvO.own rfl rfl) (Ev.neg Ev.int) hq).o Ev.int (by decide) rfl (by decide)).o (Ev.name rfl rfl).o (Cmp.eqInt q.1 p.1))) (fun hb => ?_) fun hb => ?_)
      · refine Ex.seq (Ex1.setLast (ds := (T i).map jnD) (d := jnD (p.1, q.2 + p.2.2.1 - p.2.1)) rfl rfl (fun b hb => List.mem_singleton.mp hb) (Ev.tuple (Evs.cons (Ev.name rfl rfl) (Evs.cons (Ev.bop (Ev.bop (Ev.titem (i := 1) (d := .int q.2) (Ev.last (d := jnD q) (EvO.own rfl rfl) (Ev.neg Ev.int) hq).o Ev.int (by decide) rfl (by decide)) (Ev.name rfl rfl) (Bop.add q.2 p.2.2.1)) (Ev.name rfl rfl) (Bop.sub (q.2 + p.2.2.1) p.2.1)) Evs.nil))) (Ev.neg Ev.int) (by rw [List.length_map]; exact List.length_pos_iff.mpr hne)) (Ex.ends (C (T (i + 1))) ⟨?_, rfl, trivial⟩ rfl (Ex.nil rfl))
        rw [hnx]; unfold joinStep; rw [hl]; dsimp only
        rw [Bool.true_and] at hb
        rw [hb, if_pos rfl, List.map_set, List.length_map]; rfl
      · refine Ex.seq (Ex1.append (ds := (T i).map jnD) rfl rfl (fun b hb => List.mem_singleton.mp hb) (Ev.tuple (Evs.cons (Ev.name rfl rfl) (Evs.cons (Ev.bop (Ev.name rfl rfl) (Ev.name rfl rfl) (Bop.sub p.2.2.1 p.2.1)) Evs.nil))) hlen) (Ex.ends (C (T (i + 1))) ⟨?_, rfl, trivial⟩ rfl (Ex.nil rfl))
        rw [hnx]; unfold joinStep; rw [hl]; dsimp only
        rw [Bool.true_and] at hb
        rw [hb, if_neg (by decide), List.map_append]; rfl
  · show Ex B 1 _ _ _ _
    refine Ex.freeze (x := "joined") (a := a) (d := .list ((T ps.length).map jnD)) (ρ' := [("joined", .val (.list ((T ps.length).map jnD)))]) (Ex.ret (Ev.name rfl rfl) ?_) rfl rfl (fun p hp => .inl (by rw [List.mem_singleton.mp hp]; exact ⟨rfl, rfl⟩))
    show Out.ret (.list ((List.foldl joinStep [] (ps.take ps.length)).map jnD)) = _
    rw [List.take_length]; rfl
end
end Mine
end
section
open PySem PySem.W PyProof.Rows
set_option linter.unusedVariables false
set_option maxRecDepth 100000
namespace Mine
section
variable {B : Bs}
theorem bindsPeek (H : On B) {s : Shared} (g : Gd B s.heap) {fd : FuncData} {args : Args} {binds : List (Str × Value)} (e : ∀ S, peek (KK B.w.params) S (bindArgs fd args) = some binds) : BindsTo s fd args binds :=
  fun M A E Q h => Looks.of_peek (M := M) (H.X.keeps g.keep) (e _) A Q E s (fun _ _ e => e) h
noncomputable def lo0 (p : Params) (a : Addr) : Value := match (obj p a).data with
  | .seq vs _ => vs.getD 0 .none
  | _ => .none
theorem bind30 (p : Params) (a x : Value) : ∀ S, peek (KK p) S (bindArgs (fdat p 30) ⟨[a, x], []⟩) = some ([("a", a), ("x", x), ("lo", lo0 p 22), ("hi", .none), ("key", .none)] : List (Str × Value)) := fun S => by kernel_rfl
theorem lo22 (p : Params) : ∃ t, lo0 p 22 = .int 0 t := ⟨_, rfl⟩
theorem bind39 (p : Params) (a x f : Value) : ∀ S, peek (KK p) S (bindArgs (fdat p 39) ⟨[a, x], [("key", f)]⟩) = some ([("a", a), ("x", x), ("lo", lo0 p 31), ("hi", .none), ("key", f)] : List (Str × Value)) := fun S => by kernel_rfl
theorem lo31 (p : Params) : ∃ t, lo0 p 31 = .int 0 t := ⟨_, rfl⟩
theorem countP_cut (P : Int → Bool) : ∀ (l : List Int) (r : Nat), r ≤ l.length → (∀ j v, j < r → l[j]? = some v → P v = true) → (∀ j v, r ≤ j → l[j]? = some v → P v = false) → l.countP P = r
  | [], r, h, _, _ => by simp at h; simp [h]
  | a :: l, 0, h, h1, h2 => by
    have ha : P a = false := h2 0 a (Nat.le_refl _) rfl
    rw [List.countP_cons_of_neg (by rw [ha]; decide)]
    exact countP_cut P l 0 (Nat.zero_le _) (fun j v hj => absurd hj (Nat.not_lt_zero _)) fun j v _ e => h2 (j + 1) v (Nat.zero_le _) (by simpa using e)
  | a :: l, r + 1, h, h1, h2 => by
    have ha : P a = true := h1 0 a (Nat.succ_pos _) rfl
    rw [List.countP_cons_of_pos ha, countP_cut P l r (by simpa using h) (fun j v hj e => h1 (j + 1) v (by omega) (by simpa using e)) fun j v hj e => h2 (j + 1) v (by omega) (by simpa using e)]
theorem sorted_get {l : List Int} (hs : l.Pairwise (· ≤ ·)) {i j : Nat} {a b : Int} (hij : i ≤ j) (ha : l[i]? = some a) (hb : l[j]? = some b) : a ≤ b := by
  obtain ⟨h1, rfl⟩ := List.getElem?_eq_some_iff.mp ha
  obtain ⟨h2, rfl⟩ := List.getElem?_eq_some_iff.mp hb
  rcases Nat.lt_or_eq_of_le hij with h | h
  · exact List.pairwise_iff_getElem.mp hs i j h1 h2 h
  · subst h; exact Int.le_refl _
theorem spec30 (H : On B) (l : List Int) (x : Int) (hs : l.Pairwise (· ≤ ·)) (hsz : l.length ≤ 900) : Spec B 2 30 [.list (l.map PyData.int), .int x] (.int (l.countP (fun v => decide (v ≤ x)) : Nat)) := by
  refine Spec.of H (ρ0 := [("a", .val (.list (l.map PyData.int))), ("x", .val (.int x)), ("lo", .val (.int 0)), ("hi", .val .none), ("key", .val .none)]) rfl rfl (codeRec H rfl rfl rfl) rfl rfl rfl rfl (fun X s vs g r => ?_) rfl rfl rfl rfl fun L => ?_
  · cases r with | cons r1 r2 => cases r2 with | cons r2 r3 => cases r3 with | nil =>
    obtain ⟨t, ht⟩ := lo22 B.w.params
    exact ⟨_, bindsPeek H g (bind30 _ _ _), .cons r1 (.cons r2 (.cons (ht ▸ .int 0 t) (.cons .none (.cons .none .nil))))⟩
  · refine Ex.cons (Ex1.if (Tst.cmp (Ev.name rfl rfl).o Ev.int.o (Cmp.lt 0 0)) (fun h => nomatch h) fun _ => Ex.nil ?_)
    refine Ex.cons (Ex1.if (Tst.cmp (Ev.name rfl rfl).o Ev.none.o (Cmp.isNone .none true rfl)) (fun _ => ?_) fun h => nomatch h)
    refine Ex.seq (Ex1.set (Ev.bcall (EvV.bb H rfl (by decide +kernel) (by decide) rfl) (.fn _) (EvOs.cons (Ev.name rfl rfl).o EvOs.nil) (BC.len_list (by rw [List.length_map]; omega))) (.loc rfl)) (Ex.nil ?_)
    refine Ex.cons (Ex1.if (Tst.cmp (Ev.name rfl rfl).o Ev.none.o (Cmp.isNone .none true rfl)) (fun _ => ?_) fun h => nomatch h)
    let C : Nat → Nat → Rho := fun lo hi => [("lo", .val (.int lo)), ("hi", .val (.int hi)), ("a", .val (.list (l.map PyData.int))), ("x", .val (.int x))]
    refine Ex.to (C 0 l.length) ⟨rfl, by rw [List.length_map]; rfl, rfl, rfl, trivial⟩ rfl ?_
    have hdiv : ∀ n : Nat, ((n : Int)).fdiv 2 = ((n / 2 : Nat) : Int) := fun n => by
      rw [Int.fdiv_eq_ediv_of_nonneg _ (by omega)]; omega
    refine Ex.cons (Ex1.while (fun n ρ' => ∃ lo hi : Nat, n = hi - lo ∧ ρ' = C lo hi ∧ lo ≤ hi ∧ hi ≤ l.length ∧ (∀ (j : Nat) (v : Int), j < lo → l[j]? = some v → v ≤ x) ∧ (∀ (j : Nat) (v : Int), hi ≤ j → l[j]? = some v → x < v)) l.length
      ⟨0, l.length, by omega, rfl, Nat.zero_le _, Nat.le_refl _, fun j v h => absurd h (Nat.not_lt_zero _), fun j v h e => by rw [List.getElem?_eq_none h] at e; cases e⟩ (fun n ρ' ⟨lo, hi, _, e, _⟩ a ha => by rw [e] at ha; cases ha) ?_)
    rintro n ρ' ⟨lo, hi, rfl, rfl, hle, hhi, h1, h2⟩
    refine ⟨decide ((lo : Int) < hi), Tst.cmp (Ev.name rfl rfl).o (Ev.name rfl rfl).o (Cmp.lt _ _), fun hb => ?_, fun hb => ?_⟩
    · have hlt : lo < hi := by have := of_decide_eq_true hb; omega
      have hmid : (lo + hi) / 2 < l.length := by omega
      obtain ⟨v, hv⟩ : ∃ v, l[(lo + hi) / 2]? = some v := ⟨_, List.getElem?_eq_getElem hmid⟩
      have hsm : ((lo : Int) + hi) = ((lo + hi : Nat) : Int) := by push_cast; rfl
      refine Ex.seq (Ex1.set (d := .int (((lo + hi) / 2 : Nat) : Int)) ?_ (.loc rfl)) ?_
      · rw [← hdiv, ← hsm]
        exact Ev.bop (Ev.bop (Ev.name rfl rfl) (Ev.name rfl rfl) (Bop.add _ _)) Ev.int (Bop.div (by decide) (PyProof.noPylong_small (by decide)))
      · refine Ex.cons (Ex1.if (Tst.cmp (Ev.name rfl rfl).o (Ev.item (i := (((lo + hi) / 2 : Nat) : Int)) (d := .int v) (Ev.name rfl rfl).o (Ev.name rfl rfl) (by omega) (by rw [Int.toNat_natCast, List.getElem?_map, hv]; rfl) (by omega)).o (Cmp.lt x v)) (fun hc => ?_) fun hc => ?_)
        · have hxv : x < v := of_decide_eq_true hc
          refine Ex.seq (Ex1.set (Ev.name rfl rfl) (.loc rfl)) (Ex.ends (C lo ((lo + hi) / 2)) ⟨rfl, rfl, rfl, rfl, trivial⟩ rfl (Ex.nil ⟨(lo + hi) / 2 - lo, by omega, lo, (lo + hi) / 2, rfl, rfl, by omega, by omega, h1, fun j w hj e => ?_⟩))
          exact Int.lt_of_lt_of_le hxv (sorted_get hs hj hv e)
        · have hxv : v ≤ x := by have := of_decide_eq_false hc; omega
          refine Ex.seq (Ex1.set (d := .int (((lo + hi) / 2 + 1 : Nat) : Int)) ?_ (.loc rfl)) (Ex.ends (C ((lo + hi) / 2 + 1) hi) ⟨rfl, rfl, rfl, rfl, trivial⟩ rfl (Ex.nil ⟨hi - ((lo + hi) / 2 + 1), by omega, (lo + hi) / 2 + 1, hi, rfl, rfl, by omega, hhi, fun j w hj e => ?_, h2⟩))
          · rw [show (((lo + hi) / 2 + 1 : Nat) : Int) = (((lo + hi) / 2 : Nat) : Int) + 1 by push_cast; rfl]
            exact Ev.bop (Ev.name rfl rfl) Ev.int (Bop.add _ _)
          · exact Int.le_trans (sorted_get hs (by omega) e hv) hxv
    · have hge : lo = hi := by have := of_decide_eq_false hb; omega
      subst hge
      refine Ex.nil (Ex.ret (Ev.name rfl rfl) ?_)
      rw [countP_cut (fun v => decide (v ≤ x)) l lo hhi (fun j v hj e => decide_eq_true (h1 j v hj e)) fun j v hj e => decide_eq_false (by have := h2 j v hj e; omega)]
end
end Mine
end
section
open PySem PySem.W PyProof.Rows
set_option linter.unusedVariables false
set_option maxRecDepth 100000
namespace Mine
section
variable {B : Bs} {env : Env} {ρ : Rho} {k : Nat}
theorem Tst.refIsNone {l r : Expr} {pos : Pos} {f : Addr} (h1 : EvV B k env ρ l (.ref f)) (h2 : Ev B k env ρ r .none) (hm : behindInMarks .Is r = false := by with_unfolding_all rfl) : Tst B k env ρ (.Compare l [.Is] [r] pos) false := fun A Xc s rm F =>
  wpAny_isTrue_Compare1 (h1.bind rm F fun s1 k1 F1 => h2.bind rm F1 fun v2 s2 k2 F2 r2 => by
    have := r2.none_inv; subst this
    exact is_none (wpAny_truthy_bool ⟨k1.trans k2, rfl⟩)) hm
/-- a call of a function that a name holds -/
theorem Ev.call0 {func : Expr} {args : List Expr} {pos : Pos} {f : Addr} {o : Obj} {fd : FuncData} {ns : List Int} {d : Int} {kf : Nat} (hf : EvV B k env ρ func (.ref f)) (ho : B.hB.get? f = some o) (hd : o.data = .func fd)
    (ha : Evs B k env ρ args (ns.map PyData.int)) (hs : Spec0 B kf f (ns.map PyData.int) (.int d)) (hk : kf ≤ k)
    (he : eval (.Call func args [] pos) env = (do callWith pos (← eval func env) [] (backTo pos (starEach args env)) (backToKw pos (keywordEach [] env))) := by rfl)
    (hst : ∃ x rest, backTo pos (starEach args env) = (false, x) :: rest := by exact ⟨_, _, rfl⟩) : Ev B k env ρ (.Call func args [] pos) (.int d) := fun A Xc s rm F => by
  rw [he]
  obtain ⟨x, rest, hst⟩ := hst
  refine wpAny_bind (hf.bind rm F fun s1 k1 F1 => ?_)
  show wpAny _ _ (callWith pos (.ref f) [] (backTo pos (starEach args env)) []) _ _ s1
  have := ha A Xc s1 pos rm F1
  rw [hst] at this ⊢
  refine Calls.callWith_function (o := o) (fd := fd) (Calls.evalArgs_plain (wpAny_mono this (fun vs s2 ⟨k2, r2⟩ => ?_) fun _ _ h => h))
  have F2 := F1.kp k2
  refine ⟨⟨F2.g.keep _ _ ho, hd⟩, wpAny_call ?_⟩
  refine codeAny_mono (hs A s2 vs (rm.le hk) F2.g (r2.sub fun a ha => nomatch ha)) fun r s3 ⟨v, hr, k3, r3⟩ => ?_
  subst hr
  obtain ⟨t, rfl⟩ := r3.int_inv
  exact ⟨(k1.trans k2).trans k3, .int _ _⟩
end
section
variable {B : Bs}
theorem call39 (H : On B) {A : Around} {X : List Addr} {s : Shared} {k : Nat} {v1 v2 : Value} {f : Addr} {o : Obj} {fd : FuncData} (n : Nat) (x : Int) (key : Nat → Int) (hsz : n ≤ 900) (rm : Rm (k + 2) A) (g : Gd B s.heap) (hX : ∀ a ∈ X, (s.heap.get? a).isSome = true)
    (r1 : Rep B X s.heap v1 (.list (rng 0 n))) (r2 : Rep B X s.heap v2 (.int x)) (ho : B.hB.get? f = some o) (hd : o.data = .func fd) (hkey : ∀ i : Nat, i < n → Spec0 B (k + 1) f [.int i] (.int (key i))) (hmono : ∀ i j : Nat, i ≤ j → j < n → key j < x → key i < x) :
    codeAny B.M A (.call (.ref 39) ⟨[v1, v2], [("key", .ref f)]⟩) (fun r s' => ∃ v, r = .ok (.ret v) ∧ Kp B [] s s' ∧ Rep B X s'.heap v (.int ((List.range n).countP (fun i => decide (key i < x)) : Nat))) s := by
  obtain ⟨t, ht⟩ := lo31 B.w.params
  refine enter (ρ0 := [("a", .val (.list (rng 0 n))), ("x", .val (.int x)), ("lo", .val (.int 0)), ("hi", .val .none), ("key", .raw (.ref f))]) rm g hX (H.get 39 rfl) (fd := fdat B.w.params 39) rfl (codeRec H rfl rfl rfl) (body := bod B.w.params 39) rfl rfl rfl rfl (bindsPeek H g (bind39 _ _ _ _)) (.cons r1 (.cons r2 (.cons (ht ▸ .int 0 t) (.cons .none (.raw .nil))))) (nd_iff rfl) rfl (nd_iff rfl) (fun L => ?_) rfl rfl rfl
  refine Ex.cons (Ex1.if (Tst.cmp (Ev.name rfl rfl).o Ev.int.o (Cmp.lt 0 0)) (fun h => nomatch h) fun _ => Ex.nil ?_)
  refine Ex.cons (Ex1.if (Tst.cmp (Ev.name rfl rfl).o Ev.none.o (Cmp.isNone .none true rfl)) (fun _ => ?_) fun h => nomatch h)
  have hlen : (rng 0 n).length = n := by simp [rng]
  refine Ex.seq (Ex1.set (Ev.bcall (EvV.bb H rfl (by decide +kernel) (by decide) rfl) (.fn _) (EvOs.cons (Ev.name rfl rfl).o EvOs.nil) (BC.len_list (by rw [hlen]; omega))) (.loc rfl)) (Ex.nil ?_)
  refine Ex.cons (Ex1.if (Tst.refIsNone (EvV.raw rfl rfl) Ev.none) (fun h => nomatch h) fun _ => ?_)
  let C : Nat → Nat → Rho := fun lo hi => [("lo", .val (.int lo)), ("hi", .val (.int hi)), ("a", .val (.list (rng 0 n))), ("x", .val (.int x)), ("key", .raw (.ref f))]
  refine Ex.to (C 0 n) ⟨rfl, by rw [hlen]; rfl, rfl, rfl, rfl, trivial⟩ rfl ?_
  have hdiv : ∀ n : Nat, ((n : Int)).fdiv 2 = ((n / 2 : Nat) : Int) := fun n => by
    rw [Int.fdiv_eq_ediv_of_nonneg _ (by omega)]; omega
  refine Ex.cons (Ex1.while (fun m ρ' => ∃ lo hi : Nat, m = hi - lo ∧ ρ' = C lo hi ∧ lo ≤ hi ∧ hi ≤ n ∧ (∀ j : Nat, j < lo → key j < x) ∧ (∀ j : Nat, hi ≤ j → j < n → ¬ key j < x)) n
    ⟨0, n, by omega, rfl, Nat.zero_le _, Nat.le_refl _, fun j h => absurd h (Nat.not_lt_zero _), fun j h e => absurd e (Nat.not_lt.mpr h)⟩ (fun n ρ' ⟨lo, hi, _, e, _⟩ a ha => by rw [e] at ha; cases ha) ?_)
  rintro m ρ' ⟨lo, hi, rfl, rfl, hle, hhi, h1, h2⟩
  refine ⟨decide ((lo : Int) < hi), Tst.cmp (Ev.name rfl rfl).o (Ev.name rfl rfl).o (Cmp.lt _ _), fun hb => ?_, fun hb => ?_⟩
  · have hlt : lo < hi := by have := of_decide_eq_true hb; omega
    have hmid : (lo + hi) / 2 < n := by omega
    have hv : (rng 0 n)[(lo + hi) / 2]? = some (.int (((lo + hi) / 2 : Nat) : Int)) := by
      simp only [rng, List.getElem?_map]
      rw [List.getElem?_range (by omega)]
      simp
    have hsm : ((lo : Int) + hi) = ((lo + hi : Nat) : Int) := by push_cast; rfl
    refine Ex.seq (Ex1.set (d := .int (((lo + hi) / 2 : Nat) : Int)) ?_ (.loc rfl)) ?_
    · rw [← hdiv, ← hsm]
      exact Ev.bop (Ev.bop (Ev.name rfl rfl) (Ev.name rfl rfl) (Bop.add _ _)) Ev.int (Bop.div (by decide) (PyProof.noPylong_small (by decide)))
    · refine Ex.cons (Ex1.if (Tst.cmp (Ev.call0 (ns := [(((lo + hi) / 2 : Nat) : Int)]) (EvV.raw rfl rfl) ho hd (Evs.cons (Ev.item (i := (((lo + hi) / 2 : Nat) : Int)) (Ev.name rfl rfl).o (Ev.name rfl rfl) (by omega) (by rw [Int.toNat_natCast]; exact hv) (by omega)) Evs.nil) (hkey _ hmid) (Nat.le_refl _)).o (Ev.name rfl rfl).o (Cmp.lt (key ((lo + hi) / 2)) x)) (fun hc => ?_) fun hc => ?_)
      · have hxv : key ((lo + hi) / 2) < x := of_decide_eq_true hc
        refine Ex.seq (Ex1.set (d := .int (((lo + hi) / 2 + 1 : Nat) : Int)) ?_ (.loc rfl)) (Ex.ends (C ((lo + hi) / 2 + 1) hi) ⟨rfl, rfl, rfl, rfl, rfl, trivial⟩ rfl (Ex.nil ⟨hi - ((lo + hi) / 2 + 1), by omega, (lo + hi) / 2 + 1, hi, rfl, rfl, by omega, hhi, fun j hj => hmono j _ (by omega) hmid hxv, h2⟩))
        rw [show (((lo + hi) / 2 + 1 : Nat) : Int) = (((lo + hi) / 2 : Nat) : Int) + 1 by push_cast; rfl]
        exact Ev.bop (Ev.name rfl rfl) Ev.int (Bop.add _ _)
      · have hxv : ¬ key ((lo + hi) / 2) < x := of_decide_eq_false hc
        exact Ex.seq (Ex1.set (Ev.name rfl rfl) (.loc rfl)) (Ex.ends (C lo ((lo + hi) / 2)) ⟨rfl, rfl, rfl, rfl, rfl, trivial⟩ rfl (Ex.nil ⟨(lo + hi) / 2 - lo, by omega, lo, (lo + hi) / 2, rfl, rfl, by omega, by omega, h1, fun j hj hn e => hxv (hmono _ j hj hn e)⟩))
  · have hge : lo = hi := by have := of_decide_eq_false hb; omega
    subst hge
    refine Ex.nil (Ex.ret (Ev.name rfl rfl) ?_)
    have hc : (List.range n).countP (fun i => decide (key i < x)) = lo := by
      have e : List.range n = List.range lo ++ (List.range (n - lo)).map (lo + ·) := by
        rw [← List.range_add, show lo + (n - lo) = n by omega]
      rw [e, List.countP_append]
      have c1 : (List.range lo).countP (fun i => decide (key i < x)) = lo := by
        rw [List.countP_eq_length.mpr, List.length_range]
        intro i hi; exact decide_eq_true (h1 i (List.mem_range.mp hi))
      have c2 : ((List.range (n - lo)).map (lo + ·)).countP (fun i => decide (key i < x)) = 0 := by
        rw [List.countP_eq_zero]
        intro i hi
        obtain ⟨j, hj, rfl⟩ := List.mem_map.mp hi
        have := List.mem_range.mp hj
        simpa using h2 (lo + j) (by omega) (by omega)
      omega
    rw [hc]
end
end Mine
end
section
open PySem PySem.W PyProof.Rows
set_option linter.unusedVariables false
set_option maxRecDepth 100000
namespace Mine
/-! _law_drawn -/
noncomputable def tot (ns : List Int) : Int := (ns.take 63).sum
noncomputable def funcsOf (T : Int) : List (Str × Int × Str) := [("a..py", T.fmod 1000000000000, "f"), ("~", 0, "<f>"), ("~", 0, "<f"), ("~", 1 + T.fmod 1000000000000, "<f>")]
noncomputable def drawnOf (ns : List Int) : List D3 := (ns.take 3 ++ [5, 9, 3, 6]).map fun (x : Int) => (x.fmod 4, (x.fdiv 4).fmod 4, x)
noncomputable def ticksOf (dr : List D3) : Int := (dr.map (·.2.1)).sum
noncomputable def startOf (ns : List Int) : Int := (tot ns).fmod (ticksOf (drawnOf ns))
noncomputable def stopOf (ns : List Int) : Int := ticksOf (drawnOf ns) - ((tot ns).fdiv 2).fmod (ticksOf (drawnOf ns) - startOf ns)
section
variable {B : Bs} {env : Env} {ρ : Rho} {k : Nat}
theorem CScope.of {scope : Scope} {cl : List (Str × Addr)} (h : closureFor scope env = pure cl) (hc : scope.names.all (fun y => !(y.2 == .cell)) = true) (hn : scope.names.all (fun y => !(y.2 == .local) || scope.names.lookup y.1 == some .local) = true) : CScope env scope cl := by
  refine ⟨h, fun y hy e => ?_, fun y hy e => ?_⟩
  · have := List.all_eq_true.mp hc y hy
    rw [e] at this; cases this
  · have := List.all_eq_true.mp hn y hy
    rw [e] at this
    simpa using this
theorem CFr.nil {scope : Scope} (hk : scope.kind = .function) : CFr env ρ scope [] [] := ⟨hk, (fun p hp => nomatch hp), fun p hp => nomatch hp⟩
theorem filterMap_some {α β : Type} (f : α → β) (l : List α) : l.filterMap (fun x => some (f x)) = l.map f := by
  induction l with
  | nil => rfl
  | cons a r ih => simp only [List.filterMap_cons, List.map_cons, ih]
/-- no clause «if» -/
theorem Turn.all {cenv : Env} {target elt : Expr} {ρf ρ1 : Rho} {d y : PyData} (ha : As B cenv target ρf d ρ1) (ho : owns ρ1 = []) (hs : SubR ρ1 ρf) (he : Ev B k cenv ρ1 elt y) : Turn B k cenv target elt [] ρf d (some y) := ⟨⟨ρ1, ha, ho, hs.mem, Tsts.nil, he⟩⟩
/-- one clause «if» -/
theorem Turn.some {cenv : Env} {target elt c : Expr} {ρf ρ1 : Rho} {d y : PyData} {b : Bool} (ha : As B cenv target ρf d ρ1) (ho : owns ρ1 = []) (hs : SubR ρ1 ρf) (hc : Tst B k cenv ρ1 c b) (he : b = true → Ev B k cenv ρ1 elt y) : Turn B k cenv target elt [c] ρf d (if b = true then Option.some y else Option.none) := by
  cases b with
  | true => exact ⟨⟨ρ1, ha, ho, hs.mem, Tsts.one hc, he rfl⟩⟩
  | false => exact ⟨⟨ρ1, ha, ho, hs.mem, Tsts.one hc⟩⟩
end
section
variable {B : Bs}
set_option maxHeartbeats 2000000 in
theorem spec72 (H : On B) (ns : List Int) (hsz : ns.length ≤ 63) (htk : 0 < ticksOf (drawnOf ns)) : Spec B 2 72 [.list (ns.map PyData.int)] (.tuple [.list ((funcsOf (tot ns)).map funD), .list ((drawnOf ns).map d3), .int (startOf ns), .int (stopOf ns)]) := by
  refine Spec.plain H ["script"] rfl rfl rfl (codeRec H rfl rfl rfl) rfl rfl (fun vs h => by obtain ⟨a, rfl⟩ := len1 h; kernel_rfl) rfl rfl rfl rfl fun L => ?_
  have hsum : BC B (.builtin "sum") [.list ((ns.map PyData.int).take 63)] (.int (tot ns)) := by
    rw [← List.map_take]; exact BC.sum (ns.take 63)
  refine Ex.seq (Ex1.set (d := .int (tot ns)) (Ev.bcall (EvV.bb H rfl (by decide +kernel) (by decide) rfl) (.fn _) (EvOs.cons (Ev.sliceTo (i := 63) (Ev.name rfl rfl).o Ev.int (.inl ⟨by decide, rfl⟩) (by rw [List.length_map]; omega)).o EvOs.nil) hsum) (.loc rfl)) ?_
  have h12 : (10 : Int) ^ (12 : Int).toNat = 1000000000000 := by decide +kernel
  have hmod : Bop B .Mod (.int (tot ns)) (.int 1000000000000) (.int ((tot ns).fmod 1000000000000)) := Bop.mod (by omega)
  have hpow : Bop B .Pow (.int 10) (.int 12) (.int 1000000000000) := h12 ▸ Bop.pow (by omega) (by omega) (by decide +kernel)
  generalize hT : tot ns = T at hmod hsum ⊢
  generalize hM : T.fmod 1000000000000 = M at hmod
  refine Ex.seq (Ex1.set (d := .list [.tuple [.str "a..py", .int M, .str "f"], .tuple [.str "~", .int 0, .str "<f>"], .tuple [.str "~", .int 0, .str "<f"], .tuple [.str "~", .int (1 + M), .str "<f>"]]) ?hv (.loc rfl) (by kernel_rfl)) ?_
  case hv =>
    refine Ev.list (Evs.cons ?a (Evs.cons ?b (Evs.cons ?c (Evs.cons ?d Evs.nil))))
    case b => exact Ev.tuple (Evs.cons Ev.str (Evs.cons Ev.int (Evs.cons Ev.str Evs.nil)))
    case c => exact Ev.tuple (Evs.cons Ev.str (Evs.cons Ev.int (Evs.cons Ev.str Evs.nil)))
    case a =>
      refine Ev.tuple (Evs.cons Ev.str (Evs.cons ?m (Evs.cons Ev.str Evs.nil)))
      exact Ev.bop (Ev.name rfl rfl) (Ev.bop Ev.int Ev.int hpow) hmod
    case d => exact Ev.tuple (Evs.cons Ev.str (Evs.cons (Ev.bop Ev.int (Ev.bop (Ev.name rfl rfl) (Ev.bop Ev.int Ev.int hpow) hmod) (Bop.add 1 _)) (Evs.cons Ev.str Evs.nil)))
  have hxl : (ns.take 3 ++ [5, 9, 3, 6]).length ≤ 7 := by simp; omega
  refine Ex.seq (Ex1.setComp (xl := ns.take 3 ++ [5, 9, 3, 6]) (enc := PyData.int) (g := fun (x : Int) => some (d3 (x.fmod 4, (x.fdiv 4).fmod 4, x))) (cl := []) (ρf := []) (CFr.nil rfl) (CScope.of rfl rfl rfl) ?_ (by rw [sizeLine_eq]; omega) (fun C x hx => Turn.all (As.name (.loc rfl)) rfl trivial ?_) (.loc rfl)) ?_
  · rw [List.map_append, List.map_take]
    refine EvI.list (Ev.bop (Ev.bcall (EvV.bb H rfl (by decide +kernel) (by decide) rfl) (.ty _) (EvOs.cons (Ev.sliceTo (i := 3) (Ev.name rfl rfl).o Ev.int (.inl ⟨by decide, rfl⟩) (by rw [List.length_map]; omega)).o EvOs.nil) (BC.list_list ?_)) (Ev.list (Evs.cons Ev.int (Evs.cons Ev.int (Evs.cons Ev.int (Evs.cons Ev.int Evs.nil))))) (Bop.catList ?_))
    · rw [List.length_take, List.length_map]; omega
    · simp only [List.length_take, List.length_map, List.length_cons, List.length_nil]; omega
  · exact Ev.tuple (Evs.cons (Ev.bop (Ev.name rfl rfl) Ev.int (Bop.mod (by decide))) (Evs.cons (Ev.bop (Ev.bop (Ev.name rfl rfl) Ev.int (Bop.div (by decide) (PyProof.noPylong_small (by decide)))) Ev.int (Bop.mod (by decide))) (Evs.cons (Ev.name rfl rfl) Evs.nil)))
  · have hdr : (List.filterMap (fun (x : Int) => some (d3 (x.fmod 4, (x.fdiv 4).fmod 4, x))) (ns.take 3 ++ [5, 9, 3, 6])) = (drawnOf ns).map d3 := by
      rw [filterMap_some]; unfold drawnOf; rw [List.map_map]; rfl
    rw [hdr]
    have hdl : (drawnOf ns).length ≤ 7 := by unfold drawnOf; rw [List.length_map]; exact hxl
    have hts : BC B (.builtin "sum") [.list ((drawnOf ns).filterMap fun d => some (PyData.int d.2.1))] (.int (ticksOf (drawnOf ns))) := by
      rw [filterMap_some, show ((drawnOf ns).map fun d => PyData.int d.2.1) = ((drawnOf ns).map (·.2.1)).map PyData.int by rw [List.map_map]; rfl]
      exact BC.sum _
    refine Ex.seq (Ex1.set (d := .int (ticksOf (drawnOf ns))) (Ev.bcall (EvV.bb H rfl (by decide +kernel) (by decide) rfl) (.fn _) (EvOs.cons (Ev.comp (xl := drawnOf ns) (enc := d3) (g := fun d => some (PyData.int d.2.1)) (cl := []) (ρf := []) (CFr.nil rfl) (CScope.of rfl rfl rfl) (EvI.list (Ev.name rfl rfl)) (by rw [sizeLine_eq]; omega)
      (fun C x hx => Turn.all (As.tuple (.cons (.loc rfl) (.cons (.loc rfl) (.cons (.loc rfl) .nil)))) rfl trivial (Ev.name rfl rfl))).o EvOs.nil) hts) (.loc rfl)) ?_
    have hst : startOf ns < ticksOf (drawnOf ns) := Int.fmod_lt_of_pos _ htk
    have hms : Bop B .Mod (.int T) (.int (ticksOf (drawnOf ns))) (.int (startOf ns)) := by
      unfold startOf; rw [hT]; exact Bop.mod (Int.ne_of_gt htk)
    refine Ex.seq (Ex1.set (d := .int (startOf ns)) (Ev.bop (Ev.name rfl rfl) (Ev.name rfl rfl) hms) (.loc rfl)) ?_
    refine Ex.ret (Ev.tuple (Evs.cons (Ev.name rfl rfl) (Evs.cons (Ev.name rfl rfl) (Evs.cons (Ev.name rfl rfl) (Evs.cons (Ev.bop (Ev.name rfl rfl) (Ev.bop (Ev.bop (Ev.name rfl rfl) Ev.int (Bop.div (by decide) (PyProof.noPylong_small (by decide)))) (Ev.bop (Ev.name rfl rfl) (Ev.name rfl rfl) (Bop.sub _ _)) (Bop.mod (fun h => absurd (Int.sub_eq_zero.mp h) (Int.ne_of_gt hst)))) (Bop.sub _ _)) Evs.nil))))) ?_
    subst hM; subst hT; rfl
end
end Mine
end
section
open PySem PySem.W PyProof.Rows
set_option linter.unusedVariables false
set_option maxRecDepth 100000
namespace Mine
/-! the four names -/
noncomputable def funcsM (M : Int) : List (Str × Int × Str) := [("a..py", M, "f"), ("~", 0, "<f>"), ("~", 0, "<f"), ("~", 1 + M, "<f>")]
noncomputable def namesM (M : Int) : List Str := [Str.ofString "a..py:" ++ Str.ofString (toString M) ++ Str.ofString "(f)", "{f}", "<f", Str.ofString "~:" ++ Str.ofString (toString (1 + M)) ++ Str.ofString "(<f>)"]
theorem str_assoc (a b c : Str) : a ++ b ++ c = a ++ (b ++ c) := by
  have h : (a ++ b ++ c).cps = (a ++ (b ++ c)).cps := by simp only [Str.cps_append, Array.append_assoc]
  exact congrArg Str.mk h
theorem name0 (M : Int) : stdName ("a..py", M, "f") = Str.ofString "a..py:" ++ Str.ofString (toString M) ++ Str.ofString "(f)" := by
  unfold stdName
  dsimp only
  rw [show Str.ofString "a..py:" = Str.ofString "a..py" ++ Str.ofString ":" by decide +kernel, show Str.ofString "(f)" = Str.ofString "(" ++ (Str.ofString "f" ++ Str.ofString ")") by decide +kernel]
  simp only [str_assoc]
theorem name3 (M : Int) : stdName ("~", M, "<f>") = Str.ofString "~:" ++ Str.ofString (toString M) ++ Str.ofString "(<f>)" := by
  unfold stdName
  dsimp only
  rw [show Str.ofString "~:" = Str.ofString "~" ++ Str.ofString ":" by decide +kernel, show Str.ofString "(<f>)" = Str.ofString "(" ++ (Str.ofString "<f>" ++ Str.ofString ")") by decide +kernel]
  simp only [str_assoc]
section
variable {B : Bs}
theorem eqv_false (x y : Str) (a b : Int) (h : x ≠ y ∨ a ≠ b) : PyData.eqv (.tuple [.str x, .int a]) (.tuple [.str y, .int b]) = false := by
  have : PyData.eqv (.tuple [.str x, .int a]) (.tuple [.str y, .int b]) = ((x == y) && ((a == b) && true)) := by rfl
  rw [this]
  rcases h with h | h
  · rw [beq_eq_false_iff_ne.mpr h]; rfl
  · rw [beq_eq_false_iff_ne.mpr h]; simp
theorem spec46i (H : On B) (M : Int) (h0 : 0 ≤ M) (h1 : M < 1000000000000) (i : Nat) {f : Str × Int × Str} {n : Str} (hf : (funcsM M)[i]? = some f) (hn : (namesM M)[i]? = some n) : Spec B 2 46 [funD f] (.str n) := by
  have h13 : (10 : Int) ^ 13 = 10000000000000 := by decide +kernel
  match i, hf, hn with
  | 0, hf, hn =>
    cases hf; cases hn
    rw [← name0]
    exact spec46a H _ (by dsimp only; decide +kernel) (eqv_false _ _ _ _ (.inl (by dsimp only; decide +kernel))) h0 (by dsimp only; omega) (by dsimp only; decide +kernel) (by dsimp only; decide +kernel)
  | 1, hf, hn =>
    cases hf; cases hn
    exact spec46b H "<f>" (by decide +kernel) _ (by decide +kernel)
  | 2, hf, hn =>
    cases hf; cases hn
    exact spec46b H "<f" (by decide +kernel) _ (by decide +kernel)
  | 3, hf, hn =>
    cases hf; cases hn
    rw [← name3]
    exact spec46a H _ (by dsimp only; decide +kernel) (eqv_false _ _ _ _ (.inr (by dsimp only; omega))) (by dsimp only; omega) (by dsimp only; omega) (by dsimp only; decide +kernel) (by dsimp only; decide +kernel)
  | i + 4, hf, hn => simp [funcsM] at hf
end
end Mine
end
section
open PySem PySem.W PyProof.Rows
set_option linter.unusedVariables false
set_option maxRecDepth 100000
namespace Mine
/-! _law_sampled -/
noncomputable def beginsOf (dr : List D3) : List Int := (List.range dr.length).map fun k => ((dr.take k).map (·.2.1)).sum
noncomputable def Tb := List (Str × En)
noncomputable def tbD (t : List (Str × En)) : List (Str × PyData) := t.map fun p => (p.1, p.2.d)
noncomputable def tget (t : List (Str × En)) (x : Str) : Option En := (t.find? fun p => p.1 = x).map (·.2)
noncomputable def tput (t : List (Str × En)) (x : Str) (e : En) : List (Str × En) := if t.any (fun p => p.1 = x) then t.map (fun p => if p.1 = x then (p.1, e) else p) else t ++ [(x, e)]
structure Sm where
  table : List (Str × En)
  strip : Str
  last : Option Str
noncomputable def En.zero : En := ⟨0, 0, 0, 0, []⟩
noncomputable def entryOf (last : Option Str) (text : Str) (x tick : Int) : En := ⟨if last = some text then 0 else 1, 1, x, tick, match last with | none => [] | some l => if l = text then [] else [(l, 1)]⟩
noncomputable def sampStep (f : Int → Str × Int) (a : Sm) (tick : Int) : Sm :=
  ⟨tput a.table (f tick).1 (((tget a.table (f tick).1).getD En.zero).add (entryOf a.last (f tick).1 (f tick).2 tick)), a.strip ++ Str.ofString "\t" ++ (f tick).1 ++ Str.ofString "\n", some (f tick).1⟩
theorem tb_get (t : List (Str × En)) (x : Str) : dget (tbD t) x = (tget t x).map En.d := by
  unfold dget tget tbD
  rw [List.find?_map, Option.map_map, Option.map_map]
  rfl
theorem tb_put (t : List (Str × En)) (x : Str) (e : En) : dput (tbD t) x e.d = tbD (tput t x e) := by
  unfold dput tput tbD
  rw [List.any_map]
  have e' : ((fun p : Str × PyData => decide (p.1 = x)) ∘ fun p : Str × En => (p.1, p.2.d)) = fun p => decide (p.1 = x) := rfl
  rw [e']
  by_cases h : (t.any fun p => decide (p.1 = x)) = true
  · rw [if_pos h, if_pos h, List.map_map, List.map_map]
    congr 1
    funext p
    simp only [Function.comp]
    by_cases q : p.1 = x <;> simp [q]
  · rw [if_neg h, if_neg h, List.map_append]; rfl
noncomputable def lastD : Option Str → PyData
  | none => .none
  | some x => .str x
noncomputable def tickL (st sp : Int) : List Int := (List.range (sp - st).toNat).map fun (i : Nat) => st + (i : Int)
theorem rng_tickL (st sp : Int) : rng st sp = (tickL st sp).map PyData.int := by unfold rng tickL; rw [List.map_map]; rfl
noncomputable def sampled (f : Int → Str × Int) (st sp : Int) : Sm := (tickL st sp).foldl (sampStep f) ⟨[], "", none⟩
section
variable {B : Bs}
set_option maxHeartbeats 2000000 in
theorem spec77a (H : On B) (dr : List D3) (hlen : dr.length ≤ 900) (L : Addr) (fs : PyData) (st sp : Int) {ss : List Stmt} {Post : Out → Prop} (hb : bod B.w.params 77 = (bod B.w.params 77).head! :: ss)
    (h : Ex B 9 (callEnvC (fdat B.w.params 77) L 77) (("begins", .val (.list ((beginsOf dr).map PyData.int))) :: vals ["funcs", "drawn", "start", "stop"] [fs, .list (dr.map d3), .int st, .int sp]) (bod B.w.params 77).tail Post) :
    Ex B 9 (callEnvC (fdat B.w.params 77) L 77) (vals ["funcs", "drawn", "start", "stop"] [fs, .list (dr.map d3), .int st, .int sp]) (bod B.w.params 77) Post := by
  have hg : (List.range dr.length).filterMap (fun k => some (PyData.int (((dr.take k).map (·.2.1)).sum))) = (beginsOf dr).map PyData.int := by
    rw [filterMap_some]; unfold beginsOf; rw [List.map_map]; rfl
  refine Ex.seq (Ex1.setComp (xl := List.range dr.length) (enc := fun (k : Nat) => PyData.int k) (g := fun k => some (PyData.int (((dr.take k).map (·.2.1)).sum))) (cl := [("drawn", L + 1)]) (ρf := [("drawn", .val (.list (dr.map d3)))]) ⟨rfl, ?_, ?_⟩ (CScope.of rfl rfl rfl) ?_ (by rw [sizeLine_eq, List.length_range]; omega) (fun C x hx => Turn.all (As.name (.loc rfl)) rfl ⟨rfl, trivial⟩ ?_) (.loc rfl)) ?_
  · intro p hp
    rw [List.mem_singleton.mp hp]
    exact List.mem_singleton.mpr rfl
  · intro p hp
    rw [List.mem_singleton.mp hp]
    exact ⟨_, rfl, rfl, rfl, rfl, rfl⟩
  · have e : (List.range dr.length).map (fun (k : Nat) => PyData.int k) = rng 0 (((dr.map d3).length : Nat) : Int) := by
      unfold rng
      rw [List.length_map]
      simp
    rw [e]
    exact EvI.range (EvR.one (EvV.bb H rfl (by decide +kernel) (by decide) rfl) (Ev.bcall (EvV.bb H rfl (by decide +kernel) (by decide) rfl) (.fn _) (EvOs.cons (Ev.cell rfl rfl).o EvOs.nil) (BC.len_list (by rw [List.length_map]; omega)))) (by omega) (by omega) (by omega) (by rw [List.length_map]; omega)
  · have hx' : x < dr.length := List.mem_range.mp hx
    have hsum : BC B (.builtin "sum") [.list ((dr.take x).filterMap fun d => some (PyData.int d.2.1))] (.int (((dr.take x).map (·.2.1)).sum)) := by
      rw [filterMap_some, show ((dr.take x).map fun d => PyData.int d.2.1) = ((dr.take x).map (·.2.1)).map PyData.int by rw [List.map_map]; rfl]
      exact BC.sum _
    refine Ev.bcall (EvV.bb H rfl (by decide +kernel) (by decide) rfl) (.fn _) (EvOs.cons (Ev.comp (xl := dr.take x) (enc := d3) (g := fun d => some (PyData.int d.2.1)) (cl := []) (ρf := []) (CFr.nil rfl) (CScope.of rfl rfl rfl) ?_ ?_ (fun C' y hy => Turn.all (As.tuple (.cons (.loc rfl) (.cons (.loc rfl) (.cons (.loc rfl) .nil)))) rfl trivial (Ev.name rfl rfl))).o EvOs.nil) hsum
    · rw [List.map_take]
      exact EvI.list (Ev.sliceTo (i := (x : Int)) (Ev.cell rfl rfl).o (Ev.name rfl rfl) (.inl ⟨by omega, by omega⟩) (by rw [List.length_map]; omega))
    · rw [sizeLine_eq, List.length_take]; omega
  · rw [hg]; exact h
theorem tput_len (t : List (Str × En)) (x : Str) (e : En) : (tput t x e).length ≤ t.length + 1 := by
  unfold tput
  split <;> simp
theorem addC_len (t s : Cs) : (addC t s).length ≤ t.length + s.length := by
  unfold addC
  have h1 := fold_len cadd (fun l p => cput_len l _ _) s (t.foldl (fun l p => cput l p.1 p.2) [])
  have h2 := fold_len (fun l (p : Str × Int) => cput l p.1 p.2) (fun l p => cput_len l _ _) t []
  simp only [List.length_nil] at h2
  omega
theorem entry_len (l : Option Str) (x : Str) (a b : Int) : (entryOf l x a b).cs.length ≤ 1 := by
  unfold entryOf
  cases l with
  | none => simp
  | some y => dsimp only; split <;> simp
theorem tget_mem {t : List (Str × En)} {x : Str} {e : En} (h : tget t x = some e) : ∃ p ∈ t, p.2 = e := by
  unfold tget at h
  cases hf : t.find? (fun p => decide (p.1 = x)) with
  | none => rw [hf] at h; cases h
  | some p => rw [hf] at h; cases h; exact ⟨p, List.mem_of_find?_eq_some hf, rfl⟩
theorem tput_mem {t : List (Str × En)} {x : Str} {e : En} {p : Str × En} (h : p ∈ tput t x e) : p ∈ t ∨ p.2 = e := by
  unfold tput at h
  split at h
  · obtain ⟨q, hq, rfl⟩ := List.mem_map.mp h
    split
    · exact .inr rfl
    · exact .inl hq
  · rcases List.mem_append.mp h with h | h
    · exact .inl h
    · exact .inr (by rw [List.mem_singleton.mp h])
structure SmLen (m : Sm) (n : Nat) : Prop where
  t : m.table.length ≤ n
  c : ∀ p ∈ m.table, p.2.cs.length ≤ n
  s : m.strip.length ≤ n * 1002
theorem SmLen.step {m : Sm} {n : Nat} (h : SmLen m n) (f : Int → Str × Int) (t : Int) (hf : (f t).1.length ≤ 1000) : SmLen (sampStep f m t) (n + 1) := by
  refine ⟨Nat.le_trans (tput_len _ _ _) (Nat.add_le_add_right h.t 1), fun p hp => ?_, ?_⟩
  · rcases tput_mem hp with hp | hp
    · exact Nat.le_succ_of_le (h.c p hp)
    · rw [hp]
      have h1 := entry_len m.last (f t).1 (f t).2 t
      have h2 := addC_len ((tget m.table (f t).1).getD En.zero).cs (entryOf m.last (f t).1 (f t).2 t).cs
      have h3 : ((tget m.table (f t).1).getD En.zero).cs.length ≤ n := by
        cases hg : tget m.table (f t).1 with
        | none => exact Nat.zero_le _
        | some e => obtain ⟨p, hp, rfl⟩ := tget_mem hg; exact h.c p hp
      show (addC _ _).length ≤ _
      omega
  · show (m.strip ++ Str.ofString "\t" ++ (f t).1 ++ Str.ofString "\n").length ≤ _
    have h1 : (Str.ofString "\t").length = 1 := by decide +kernel
    have h2 : (Str.ofString "\n").length = 1 := by decide +kernel
    have h3 : ∀ a b : Str, (a ++ b).length = a.length + b.length := fun a b => by
      show (a ++ b).cps.size = _
      rw [Str.cps_append, Array.size_append]; rfl
    rw [h3, h3, h3, h1, h2]
    have := h.s
    omega
/-- what the turns ask -/
structure SmOk (dr : List D3) (M st sp : Int) (f : Int → Str × Int) : Prop where
  dlen : dr.length ≤ 900
  m0 : 0 ≤ M
  m1 : M < 1000000000000
  srt : (beginsOf dr).Pairwise (· ≤ ·)
  num : (tickL st sp).length ≤ 500
  b1 : -(2 ^ 62) ≤ st ∧ st < 2 ^ 62
  b2 : -(2 ^ 62) ≤ sp ∧ sp < 2 ^ 62
  pick : ∀ t ∈ tickL st sp, ∃ d i fn, 1 ≤ (beginsOf dr).countP (fun v => decide (v ≤ t)) ∧ dr[(beginsOf dr).countP (fun v => decide (v ≤ t)) - 1]? = some d ∧ d.1 = ((i : Nat) : Int) ∧ (funcsM M)[i]? = some fn ∧ (namesM M)[i]? = some (f t).1 ∧ (f t).2 = d.2.2
  tlen : ∀ t, (f t).1.length ≤ 1000
set_option maxHeartbeats 4000000 in
theorem spec77 (H : On B) (dr : List D3) (M st sp : Int) (f : Int → Str × Int) (hok : SmOk dr M st sp f) : Spec B 10 77 [.list ((funcsM M).map funD), .list (dr.map d3), .int st, .int sp] (.tuple [dct (tbD (sampled f st sp).table), .str (sampled f st sp).strip]) := by
  refine Spec.plain H ["funcs", "drawn", "start", "stop"] rfl rfl rfl (codeRec H rfl rfl rfl) rfl rfl (fun vs h => by obtain ⟨a, b, c, d, rfl⟩ := len4 h; kernel_rfl) rfl rfl rfl rfl fun L => ?_
  refine spec77a H dr hok.dlen L _ st sp rfl ?_
  refine Ex.cons (Ex1.mono (Ex1.swapNew3 EvF.dict0 (Ev.str (x := "")) Ev.none rfl rfl rfl rfl (fun X h v r X' h' => by obtain ⟨t, rfl⟩ := r.str_inv; exact .str _ _) (fun X h v r X' h' => by have := r.none_inv; subst this; exact .none)) ?_)
  rintro o ⟨a, rfl⟩
  let T : Nat → Sm := fun i => ((tickL st sp).take i).foldl (sampStep f) ⟨[], "", none⟩
  let C : Sm → Rho := fun m => [("table", .own a (dct (tbD m.table))), ("strip", .val (.str m.strip)), ("last", .val (lastD m.last)), ("begins", .val (.list ((beginsOf dr).map PyData.int))), ("funcs", .val (.list ((funcsM M).map funD))), ("drawn", .val (.list (dr.map d3))), ("start", .val (.int st)), ("stop", .val (.int sp))]
  show Ex B 9 _ _ _ _
  refine Ex.cons (Ex1.forC (xl := tickL st sp) (enc := PyData.int) (fun i => C (T i)) ?_ rfl (fun _ => rfl) ?_ ?_)
  · rw [← rng_tickL]
    exact EvI.range (EvR.two (EvV.bb H rfl (by decide +kernel) (by decide) rfl) (Ev.name rfl rfl) (Ev.name rfl rfl)) hok.b1.1 hok.b1.2 hok.b2.1 hok.b2.2
  · intro i t ht
    have hnx : T (i + 1) = sampStep f (T i) t := fold_take _ _ _ i t ht
    obtain ⟨d, j, fn, hc, hd, hj, hfn, hnm, hx⟩ := hok.pick t (List.mem_of_getElem? ht)
    generalize hcc : (beginsOf dr).countP (fun v => decide (v ≤ t)) = c at hc hd
    refine ⟨_, As.name (.loc rfl), rfl, ?_⟩
    have h30 := spec30 H (beginsOf dr) t hok.srt (by unfold beginsOf; rw [List.length_map, List.length_range]; exact hok.dlen)
    rw [hcc] at h30
    refine Ex.seq (Ex1.setTuple (d := d3 d) (Ev.item (i := (c : Int) - 1) (Ev.cell (d := .list (dr.map d3)) rfl rfl).o (Ev.bop (Ev.call (EvV.kk H rfl rfl) (H.get 30 rfl) rfl (Evs.cons (Ev.name rfl rfl) (Evs.cons (Ev.name rfl rfl) Evs.nil)) h30 (by omega)) Ev.int (Bop.sub _ _)) (by omega) ?_ ?_) (As.tuple (.cons (.loc rfl) (.cons (.loc rfl) (.cons (.loc rfl) .nil))))) ?_
    · rw [show ((c : Int) - 1).toNat = c - 1 by omega, List.getElem?_map, hd]; rfl
    · have : c ≤ (beginsOf dr).length := hcc ▸ List.countP_le_length
      have h2 : (beginsOf dr).length = dr.length := by unfold beginsOf; rw [List.length_map, List.length_range]
      have := hok.dlen
      omega
    have hj4 : j < 4 := by
      have := (List.getElem?_eq_some_iff.mp hfn).1
      simpa [funcsM] using this
    refine Ex.seq (Ex1.set (d := .str (f t).1) (Ev.call (EvV.kk H rfl rfl) (H.get 46 rfl) rfl (Evs.cons (Ev.item (i := d.1) (d := funD fn) (Ev.name rfl rfl).o (Ev.name rfl rfl) (by rw [hj]; omega) (by rw [hj, Int.toNat_natCast, List.getElem?_map, hfn]; rfl) (by rw [hj]; omega)) Evs.nil) (spec46i H M hok.m0 hok.m1 j hfn hnm) (by omega)) (.loc rfl)) ?_
    refine Ex.seq (Ex1.set (d := dct (dc (entryOf (T i).last (f t).1 (f t).2 t).cs)) ?hcal (.loc rfl)) ?_
    case hcal =>
      cases hl : (T i).last with
      | none => exact Ev.ifexp (b := true) (Tst.or2 (a := true) (b := true) (Tst.cmp (Ev.name (d := lastD (T i).last) rfl rfl).o Ev.none.o (Cmp.isNone _ true (by rw [hl]; rfl))) (fun h => nomatch h)) (fun _ => Ev.dict0) (fun h => nomatch h)
      | some l =>
        have hq : Cmp B .Eq (lastD (T i).last) (.str (f t).1) (l == (f t).1) := by rw [hl]; exact Cmp.eqStr l _
        refine Ev.ifexp (b := false || (l == (f t).1)) (Tst.or2 (a := false) (Tst.cmp (Ev.name (d := lastD (T i).last) rfl rfl).o Ev.none.o (Cmp.isNone _ false (by rw [hl]; rfl))) (fun _ => Tst.cmp (Ev.name (d := lastD (T i).last) rfl rfl).o (Ev.name rfl rfl).o hq)) (fun hb => ?_) (fun hb => ?_)
        · have : l = (f t).1 := by simpa using hb
          have e : (entryOf (some l) (f t).1 (f t).2 t).cs = [] := by unfold entryOf; dsimp only; rw [if_pos this]
          rw [e]; exact Ev.dict0
        · have : ¬ l = (f t).1 := by simpa using hb
          have e : (entryOf (some l) (f t).1 (f t).2 t).cs = [(l, 1)] := by unfold entryOf; dsimp only; rw [if_neg this]
          rw [e]
          exact Ev.dict1 (Ev.name (d := .str l) (by show some (Slot.val (lastD (T i).last)) = _; rw [hl]; rfl) rfl) Ev.int
    have hcmp : Cmp B .Eq (lastD (T i).last) (.str (f t).1) (decide ((T i).last = some (f t).1)) := by
      cases hl : (T i).last with
      | none => exact Cmp.eqNoneStr _
      | some l =>
        have e : decide (some l = some (f t).1) = (l == (f t).1) := by
          rw [Bool.eq_iff_iff]; simp
        rw [e]; exact Cmp.eqStr l _
    refine Ex.seq (Ex1.set (d := (entryOf (T i).last (f t).1 (f t).2 t).d) (Ev.tuple (Evs.cons ?he (Evs.cons Ev.int (Evs.cons (Ev.name (by rw [hx]; rfl) rfl) (Evs.cons (Ev.name rfl rfl) (Evs.cons (Ev.name rfl rfl) Evs.nil)))))) (.loc rfl)) ?_
    case he =>
      refine Ev.ifexp (Tst.cmp (Ev.name (d := lastD (T i).last) rfl rfl).o (Ev.name rfl rfl).o hcmp) (fun hb => ?_) (fun hb => ?_)
      · rw [show (entryOf (T i).last (f t).1 (f t).2 t).cc = 0 from if_pos (of_decide_eq_true hb)]; exact Ev.int
      · rw [show (entryOf (T i).last (f t).1 (f t).2 t).cc = 1 from if_neg (of_decide_eq_false hb)]; exact Ev.int
    have hSL : SmLen (T i) i := by
      have key : ∀ n, n ≤ (tickL st sp).length → SmLen (T n) n := by
        intro n
        induction n with
        | zero => intro _; exact ⟨Nat.le_refl _, (fun p hp => nomatch hp), Nat.le_refl _⟩
        | succ n ih =>
          intro hn
          have hx : (tickL st sp)[n]? = some (tickL st sp)[n] := List.getElem?_eq_getElem hn
          rw [show T (n + 1) = sampStep f (T n) (tickL st sp)[n] from fold_take _ _ _ n _ hx]
          exact (ih (by omega)).step f _ (hok.tlen _)
      exact key i (Nat.le_of_lt (List.getElem?_eq_some_iff.mp ht).1)
    have hi5 : i < 500 := Nat.lt_of_lt_of_le (List.getElem?_eq_some_iff.mp ht).1 hok.num
    have hgd : BC B (.builtin "dict.get") [dct (tbD (T i).table), .str (f t).1, En.zero.d] (((tget (T i).table (f t).1).getD En.zero).d) := by
      have := BC.dictGet (B := B) (x := (f t).1) (l := tbD (T i).table) (dflt := En.zero.d) rfl
      rw [tb_get] at this
      cases hg : tget (T i).table (f t).1 with
      | none => rw [hg] at this; exact this
      | some e => rw [hg] at this; exact this
    have hz : (((tget (T i).table (f t).1).getD En.zero).cs).length + (entryOf (T i).last (f t).1 (f t).2 t).cs.length ≤ 900 := by
      have h1 := entry_len (T i).last (f t).1 (f t).2 t
      have h3 : ((tget (T i).table (f t).1).getD En.zero).cs.length ≤ i := by
        cases hg : tget (T i).table (f t).1 with
        | none => exact Nat.zero_le _
        | some e => obtain ⟨p, hp, rfl⟩ := tget_mem hg; exact hSL.c p hp
      omega
    refine Ex.seq (Ex1.putDict (l := tbD (T i).table) (d := (((tget (T i).table (f t).1).getD En.zero).add (entryOf (T i).last (f t).1 (f t).2 t)).d) rfl rfl (fun b hb => List.mem_singleton.mp hb) (Ev.call (EvV.kk H rfl rfl) (H.get 53 rfl) rfl (Evs.cons (Ev.meth (EvO.own rfl rfl) (EvOs.cons (Ev.name rfl rfl).o (EvOs.cons (Ev.tuple (ds := [.int 0, .int 0, .int 0, .int 0, dct (dc [])]) (Evs.cons Ev.int (Evs.cons Ev.int (Evs.cons Ev.int (Evs.cons Ev.int (Evs.cons Ev.dict0 Evs.nil)))))).o EvOs.nil)) rfl (.inr (.inr rfl)) PySem.F.plainAttrs_dict PySem.F.slot_dict_get PySem.F.type_dict_get hgd) (Evs.cons (Ev.name rfl rfl) Evs.nil)) (spec53 H _ _ hz) (by omega)) (Ev.name rfl rfl) ?_) ?_
    · have := hSL.t
      unfold tbD; rw [List.length_map]; omega
    have hsl : ∀ a b : Str, (a ++ b).length = a.length + b.length := fun a b => by
      show (a ++ b).cps.size = _
      rw [Str.cps_append, Array.size_append]; rfl
    have q1 : (Str.ofString "\t").length = 1 := by decide +kernel
    have q2 : (Str.ofString "\n").length = 1 := by decide +kernel
    have q3 := hSL.s
    have q4 := hok.tlen t
    refine Ex.seq (Ex1.set (d := .str ((T i).strip ++ Str.ofString "\t" ++ (f t).1 ++ Str.ofString "\n")) (Ev.bop (Ev.bop (Ev.bop (Ev.name rfl rfl) Ev.str (Bop.cat ?_)) (Ev.name rfl rfl) (Bop.cat ?_)) Ev.str (Bop.cat ?_)) (.loc rfl)) ?_
    · rw [sizeLine_eq]; show _ + (Str.ofString "\t").length ≤ _; rw [q1]; omega
    · rw [sizeLine_eq]; show ((T i).strip ++ Str.ofString "\t").length + _ ≤ _; rw [hsl, q1]; omega
    · rw [sizeLine_eq]; show ((T i).strip ++ Str.ofString "\t" ++ (f t).1).length + (Str.ofString "\n").length ≤ _; rw [hsl, hsl, q1, q2]; omega
    refine Ex.seq (Ex1.set (d := .str (f t).1) (Ev.name rfl rfl) (.loc rfl)) ?_
    refine Ex.ends (C (T (i + 1))) ?_ ?_ rfl
    · rw [hnx]
      refine ⟨?_, rfl, rfl, rfl, rfl, rfl, rfl, rfl, trivial⟩
      show some (Slot.own a (dct (dput (tbD (T i).table) _ _))) = some (Slot.own a _)
      rw [tb_put]; rfl
    · rfl
  · have e : T (tickL st sp).length = sampled f st sp := by
      show List.foldl _ _ (List.take _ _) = _
      rw [List.take_length]; rfl
    dsimp only
    rw [e]
    refine Ex.freeze (x := "table") (a := a) (d := dct (tbD (sampled f st sp).table)) (ρ' := [("table", .val (dct (tbD (sampled f st sp).table))), ("strip", .val (.str (sampled f st sp).strip))]) (Ex.ret (Ev.tuple (Evs.cons (Ev.name rfl rfl) (Evs.cons (Ev.name rfl rfl) Evs.nil))) rfl) rfl rfl (fun p hp => ?_)
    rcases List.mem_cons.mp hp with rfl | hp
    · exact .inl ⟨rfl, rfl⟩
    · rw [List.mem_singleton.mp hp]
      exact .inr ⟨by show Str.ofString "strip" ≠ Str.ofString "table"; decide, rfl⟩
end
end Mine
end
section
open PySem PySem.W PyProof.Rows
set_option linter.unusedVariables false
set_option maxRecDepth 100000
namespace Mine
/-! _ellipsis_match -/
noncomputable abbrev dots : Str := Str.ofString "..."
noncomputable def startsW (x y : Str) : Bool := decide (0 + y.length ≤ x.length) && Builtin.Str.subAt x y 0
noncomputable def endsW (x y : Str) : Bool := decide (0 + y.length ≤ x.length) && Builtin.Str.subAt x y (x.length - y.length)
noncomputable def ellLoop (got : Str) (ep : Int) : List Str → Int → Bool
  | [], _ => true
  | w :: r, sp => if findAt got w sp ep < 0 then false else ellLoop got ep r (findAt got w sp ep + w.length)
noncomputable def ell3 (got : Str) (ws : List Str) (sp ep : Int) : Bool := if ep < sp then false else ellLoop got ep ws sp
noncomputable def ell2 (got : Str) (ws : List Str) (sp : Int) : Bool := match ws.getLast? with
  | none => false
  | some w => if ((w.length : Int) != 0) = true then (if endsW got w = true then ell3 got ws.dropLast sp ((got.length : Int) - w.length) else false) else ell3 got ws sp got.length
noncomputable def ell1 (got : Str) (ws : List Str) : Bool := match ws.head? with
  | none => false
  | some w => if ((w.length : Int) != 0) = true then (if startsW got w = true then ell2 got ws.tail w.length else false) else ell2 got ws 0
noncomputable def ell (want got : Str) : Bool := if Txt.contains want dots = true then ell1 got (Txt.split want dots) else (want == got)
structure EllOk (want got : Str) : Prop where
  wl : want.length ≤ 1000000
  gl : got.length ≤ 1000000
  sl : (Txt.split want dots).length ≤ 900
  pl : (Builtin.Str.partsBetween want (Builtin.Str.occurrences want dots 0 want.length (want.length + 1)) dots.length).length ≤ sizeLine
  s2 : Txt.contains want dots = true → 2 ≤ (Txt.split want dots).length
  wsl : ∀ w ∈ Txt.split want dots, w.length ≤ 1000000
section
variable {B : Bs}
theorem dropLast_map {α β : Type} (f : α → β) (l : List α) : (l.map f).eraseIdx ((l.map f).length - 1) = l.dropLast.map f := by
  rw [List.map_dropLast, List.dropLast_eq_take, List.eraseIdx_eq_take_drop_succ, List.drop_eq_nil_of_le (by omega), List.append_nil]
noncomputable abbrev ρ3 (want got : Str) (ws : List Str) (sp ep : Int) : Rho := [("ws", .val (.list (ws.map PyData.str))), ("startpos", .val (.int sp)), ("endpos", .val (.int ep)), ("got", .val (.str got))]
noncomputable abbrev ρ2 (a : Addr) (want got : Str) (ws : List Str) (sp : Int) : Rho := [("ws", .own a (.list (ws.map PyData.str))), ("startpos", .val (.int sp)), ("endpos", .val (.int got.length)), ("got", .val (.str got))]
set_option maxHeartbeats 2000000 in
theorem s21c (H : On B) (L : Addr) (want got : Str) (ws : List Str) (sp ep : Int) (hw : ∀ w ∈ ws, w.length ≤ 1000000) : Ex B 2 (callEnvC (fdat B.w.params 21) L 21) (ρ3 want got ws sp ep) ((bod B.w.params 21).drop 8) (fun o => o = .ret (.bool (ell3 got ws sp ep))) := by
  unfold ell3
  refine Ex.cons (Ex1.if (Tst.cmp (Ev.name rfl rfl).o (Ev.name rfl rfl).o (Cmp.gt sp ep)) (fun hb => ?_) fun hb => Ex.nil ?_)
  · rw [if_pos (of_decide_eq_true hb)]; exact Ex.ret Ev.bool rfl
  · rw [if_neg (of_decide_eq_false hb)]
    let J : Nat → Rho → Prop := fun i ρ' => ∃ q : Int, owns ρ' = [] ∧ ρ'.lookup (Str.ofString "startpos") = some (.val (.int q)) ∧ ρ'.lookup (Str.ofString "endpos") = some (.val (.int ep)) ∧ ρ'.lookup (Str.ofString "got") = some (.val (.str got)) ∧ ellLoop got ep (ws.drop i) q = ellLoop got ep ws sp
    refine Ex.cons (Ex1.for J (EvI.list (Ev.name rfl rfl)) ⟨sp, rfl, rfl, rfl, rfl, rfl⟩ (fun i ρ' ⟨q, e, _⟩ a ha => by rw [e] at ha; cases ha) (fun i d ρ' hd hJ => ?_) ?_)
    · obtain ⟨q, h0, h1, h2, h3, h4⟩ := hJ
      rw [List.getElem?_map] at hd
      cases hx : ws[i]? with
      | none => rw [hx] at hd; cases hd
      | some w =>
        rw [hx] at hd; cases hd
        have hdr : ws.drop i = w :: ws.drop (i + 1) := by
          obtain ⟨hlt, rfl⟩ := List.getElem?_eq_some_iff.mp hx
          exact List.drop_eq_getElem_cons hlt
        rw [hdr] at h4
        refine ⟨_, As.name (.loc rfl), (fun a ha => by have ha : a ∈ owns ρ' := ha; rw [h0] at ha; cases ha), ?_⟩
        refine Ex.seq (Ex1.set (d := .int (findAt got w q ep)) (Ev.meth (T := "str") (id := "str.find") (Ev.name (d := .str got) (by exact h3) rfl).o (EvOs.cons (Ev.name (d := .str w) rfl rfl).o (EvOs.cons (Ev.name (d := .int q) (by exact h1) rfl).o (EvOs.cons (Ev.name (d := .int ep) (by exact h2) rfl).o EvOs.nil))) rfl (.inl rfl) PySem.F.plainAttrs_str PySem.F.slot_str_find PySem.F.type_str_find (BC.find got w q ep)) (.loc rfl)) ?_
        refine Ex.cons (Ex1.if (Tst.cmp (Ev.name rfl rfl).o Ev.int.o (Cmp.lt (findAt got w q ep) 0)) (fun hb => ?_) fun hb => Ex.nil ?_)
        · rw [← h4, ellLoop, if_pos (of_decide_eq_true hb)]; exact Ex.ret Ev.bool rfl
        · rw [ellLoop, if_neg (of_decide_eq_false hb)] at h4
          refine Ex.seq (Ex1.augAdd (a := findAt got w q ep) (b := w.length) rfl rfl (Ev.bcall (EvV.bb H rfl (by decide +kernel) (by decide) rfl) (.fn _) (EvOs.cons (Ev.name (d := .str w) rfl rfl).o EvOs.nil) (BC.len_str (by have := hw w (List.mem_of_getElem? hx); omega)))) (Ex.nil ?_)
          exact ⟨_, h0, rfl, h2, h3, h4⟩
    · rintro ρ' ⟨q, h0, h1, h2, h3, h4⟩
      rw [List.length_map, List.drop_length] at h4
      rw [← h4]
      exact Ex.ret Ev.bool rfl
set_option maxHeartbeats 2000000 in
theorem s21b (H : On B) (L a : Addr) (want got : Str) (ws : List Str) (sp : Int) (hw : ∀ w ∈ ws, w.length ≤ 1000000) (hg : got.length ≤ 1000000) (hl : ws.length ≤ 900) (hne : ws ≠ []) : Ex B 2 (callEnvC (fdat B.w.params 21) L 21) (ρ2 a want got ws sp) ((bod B.w.params 21).drop 6) (fun o => o = .ret (.bool (ell2 got ws sp))) := by
  unfold ell2
  have hla : ws.getLast? = some (ws.getLast hne) := List.getLast?_eq_some_getLast hne
  generalize ws.getLast hne = w at hla
  have hwm : w ∈ ws := List.mem_of_getLast? hla
  rw [hla]
  dsimp only
  refine Ex.seq (Ex1.set (d := .str w) (Ev.last (EvO.own rfl rfl) (Ev.neg Ev.int) (by rw [List.getLast?_map, hla]; rfl)) (.loc rfl)) ?_
  have hwl := hw w hwm
  refine Ex.cons (Ex1.if (Tst.ofStr (Ev.name (d := .str w) rfl rfl) (by rw [sizeLine_eq]; omega)) (fun hb => ?_) fun hb => Ex.nil ?_)
  · rw [if_pos hb]
    refine Ex.cons (Ex1.if (b := endsW got w) (Tst.ofBool (Ev.meth (T := "str") (id := "str.endswith") (Ev.name (d := .str got) rfl rfl).o (EvOs.cons (Ev.name (d := .str w) rfl rfl).o EvOs.nil) rfl (.inl rfl) PySem.F.plainAttrs_str PySem.F.slot_str_endswith PySem.F.type_str_endswith (BC.endswith got w))) (fun hc => ?_) fun hc => ?_)
    · rw [if_pos hc]
      refine Ex.seq (Ex1.augSub (a := got.length) (b := w.length) rfl rfl (Ev.bcall (EvV.bb H rfl (by decide +kernel) (by decide) rfl) (.fn _) (EvOs.cons (Ev.name (d := .str w) rfl rfl).o EvOs.nil) (BC.len_str (by omega)))) ?_
      refine Ex.seq (Ex1.del (a := a) (ds := ws.map PyData.str) (j := (ws.map PyData.str).length - 1) rfl rfl (fun b hb => List.mem_singleton.mp hb) (Ev.neg Ev.int) ?_ (by decide) (by rw [List.length_map]; omega)) (Ex.nil (Ex.nil ?_))
      · have hp : 0 < (ws.map PyData.str).length := by rw [List.length_map]; exact List.length_pos_iff.mpr hne
        rw [show -(1 : Int) = -1 from rfl, seqIndex_neg (by omega) (by omega)]
        congr 1; omega
      rw [dropLast_map]
      show Ex B 2 _ _ _ _
      refine Ex.freeze (x := "ws") (a := a) (d := .list (ws.dropLast.map PyData.str)) (ρ' := ρ3 want got ws.dropLast sp ((got.length : Int) - w.length)) (s21c H L want got ws.dropLast sp ((got.length : Int) - w.length) fun w hm => hw w (List.dropLast_subset _ hm)) rfl rfl ?_
      intro p hp
      rcases List.mem_cons.mp hp with rfl | hp
      · exact .inl ⟨rfl, rfl⟩
      · rcases List.mem_cons.mp hp with rfl | hp
        · exact .inr ⟨by dsimp only; decide, rfl⟩
        · rcases List.mem_cons.mp hp with rfl | hp
          · exact .inr ⟨by dsimp only; decide, rfl⟩
          · rw [List.mem_singleton.mp hp]; exact .inr ⟨by dsimp only; decide, rfl⟩
    · rw [if_neg (ne_true_of_eq_false hc)]; exact Ex.ret Ev.bool rfl
  · rw [if_neg (ne_true_of_eq_false hb)]
    show Ex B 2 _ _ _ _
    refine Ex.freeze (x := "ws") (a := a) (d := .list (ws.map PyData.str)) (ρ' := ρ3 want got ws sp got.length) (s21c H L want got ws sp got.length hw) rfl rfl ?_
    intro p hp
    rcases List.mem_cons.mp hp with rfl | hp
    · exact .inl ⟨rfl, rfl⟩
    · rcases List.mem_cons.mp hp with rfl | hp
      · exact .inr ⟨by dsimp only; decide, rfl⟩
      · rcases List.mem_cons.mp hp with rfl | hp
        · exact .inr ⟨by dsimp only; decide, rfl⟩
        · rw [List.mem_singleton.mp hp]; exact .inr ⟨by dsimp only; decide, rfl⟩
theorem marker (p : Params) : ∃ t, nsIn (KK p) mainGlobals "ELLIPSIS_MARKER" = some (some (.str dots t)) := ⟨_, rfl⟩
set_option maxHeartbeats 2000000 in
theorem spec21 (H : On B) (want got : Str) (ok : EllOk want got) : Spec B 3 21 [.str want, .str got] (.bool (ell want got)) := by
  refine Spec.plain H ["want", "got"] rfl rfl rfl (codeRec H rfl rfl rfl) rfl rfl (fun vs h => by obtain ⟨a, b, rfl⟩ := len2 h; kernel_rfl) rfl rfl rfl rfl fun L => ?_
  obtain ⟨tm, hm⟩ := marker B.w.params
  have hmk : B.mg "ELLIPSIS_MARKER" = some (.str dots tm) := mg_of H.X B.T.g hm
  unfold ell
  refine Ex.cons (Ex1.if (Tst.cmp (Ev.globStr hmk rfl).o (Ev.name (d := .str want) rfl rfl).o (Cmp.notInStr want dots)) (fun hb => ?_) fun hb => Ex.nil ?_)
  · rw [if_neg (by simpa using hb)]
    exact Ex.ret (Ev.cmp (Ev.name rfl rfl).o (Ev.name rfl rfl).o (Cmp.eqStr want got)) rfl
  · have hc : Txt.contains want dots = true := by simpa using hb
    rw [if_pos hc]
    have h2 := ok.s2 hc
    have hsl := ok.sl
    have hwsl := ok.wsl
    refine Ex.cons (Ex1.mono (Ex1.setNew (EvF.split (Ev.name (d := .str want) rfl rfl) (Ev.globStr hmk rfl) (by decide) ok.wl ok.pl) rfl) ?_)
    rintro o ⟨a, rfl⟩
    generalize Txt.split want dots = ws at h2 hsl hwsl
    show Ex B 2 _ _ _ _
    have hge : Cmp B .GtE (.int ((ws.map PyData.str).length : Nat)) (.int 2) true := by
      have := Cmp.ge (B := B) ((ws.map PyData.str).length : Nat) 2
      rwa [decide_eq_true (by rw [List.length_map]; omega)] at this
    refine Ex.seq (Ex1.assert (Tst.cmp (Ev.bcall (EvV.bb H rfl (by decide +kernel) (by decide) rfl) (.fn _) (EvOs.cons (EvO.own rfl rfl) EvOs.nil) (BC.len_list (by rw [List.length_map]; omega))).o Ev.int.o hge)) ?_
    refine Ex.seq (Ex1.swap2 Ev.int (Ev.bcall (EvV.bb H rfl (by decide +kernel) (by decide) rfl) (.fn _) (EvOs.cons (Ev.name rfl rfl).o EvOs.nil) (BC.len_str (x := got) (by have := ok.gl; omega))) (.loc rfl) (.loc rfl)) ?_
    unfold ell1
    obtain ⟨w, r, rfl⟩ : ∃ w r, ws = w :: r := by
      match ws, h2 with | w :: r, _ => exact ⟨w, r, rfl⟩
    dsimp only [List.head?, List.tail]
    have hwl := hwsl w (List.mem_cons_self)
    refine Ex.seq (Ex1.set (d := .str w) (Ev.item (i := 0) (EvO.own rfl rfl) Ev.int (by decide) rfl (by decide)) (.loc rfl)) ?_
    refine Ex.cons (Ex1.if (Tst.ofStr (Ev.name (d := .str w) rfl rfl) (by rw [sizeLine_eq]; omega)) (fun hb => ?_) fun hb => Ex.nil ?_)
    · rw [if_pos hb]
      refine Ex.cons (Ex1.if (b := startsW got w) (Tst.ofBool (Ev.meth (T := "str") (id := "str.startswith") (Ev.name (d := .str got) rfl rfl).o (EvOs.cons (Ev.name (d := .str w) rfl rfl).o EvOs.nil) rfl (.inl rfl) PySem.F.plainAttrs_str PySem.F.slot_str_startswith PySem.F.type_str_startswith (BC.startswith got w))) (fun hc => ?_) fun hc => ?_)
      · rw [if_pos hc]
        refine Ex.seq (Ex1.set (d := .int w.length) (Ev.bcall (EvV.bb H rfl (by decide +kernel) (by decide) rfl) (.fn _) (EvOs.cons (Ev.name (d := .str w) rfl rfl).o EvOs.nil) (BC.len_str (by omega))) (.loc rfl)) ?_
        refine Ex.seq (Ex1.del (a := a) (ds := (w :: r).map PyData.str) (j := 0) rfl rfl (fun b hb => List.mem_singleton.mp hb) Ev.int ?_ (by decide) (by rw [List.length_map]; omega)) (Ex.nil (Ex.nil ?_))
        · show seqIndex? (Int.ofNat 0) _ = _
          simp [seqIndex?]
        show Ex B 2 _ _ _ _
        refine Ex.to (ρ2 a want got r w.length) ⟨rfl, rfl, rfl, rfl, trivial⟩ rfl (s21b H L a want got r w.length (fun w hm => hwsl w (List.mem_cons_of_mem _ hm)) ok.gl (by simp only [List.length_cons] at hsl; omega) (fun e => by rw [e] at h2; simp at h2))
      · rw [if_neg (ne_true_of_eq_false hc)]; exact Ex.ret Ev.bool rfl
    · rw [if_neg (ne_true_of_eq_false hb)]
      show Ex B 2 _ _ _ _
      refine Ex.to (ρ2 a want got (w :: r) 0) ⟨rfl, rfl, rfl, rfl, trivial⟩ rfl (s21b H L a want got (w :: r) 0 hwsl ok.gl hsl (List.cons_ne_nil _ _))
end
end Mine
end
section
open PySem PySem.W PyProof.Rows
set_option linter.unusedVariables false
set_option maxRecDepth 100000
namespace Mine
/-! _law_most -/
noncomputable def tabMost : Tab := ⟨102, 98, ⟨150, 36, 150, 109⟩, Str.ofString "_law_most.<locals>.<lambda>"⟩
noncomputable def tabEntry : Tab := ⟨95, 93, ⟨143, 76, 143, 101⟩, Str.ofString "_law_entry.<locals>.<lambda>"⟩
structure OnT (B : Bs) : Prop extends On B where
  tabs : B.tabs = [tabMost, tabEntry]
theorem OnT.inj {B : Bs} (H : OnT B) {t : Tab} (ht : t ∈ B.tabs) : ∀ t' ∈ B.tabs, t'.P = t.P → t' = t := by
  rw [H.tabs] at ht ⊢
  intro t' ht' e
  simp only [List.mem_cons, List.not_mem_nil, or_false] at ht ht'
  rcases ht with rfl | rfl <;> rcases ht' with rfl | rfl <;> first | rfl | (exfalso; revert e; decide)
section
variable {B : Bs}
theorem On.at (H : On B) {h : Heap} (g : Gd B h) : On (B.at h g) := ⟨fun a o e => B.at_sub g a o (H.X a o e)⟩
theorem tab_ne {t : Tab} {h : Heap} (ht : TabAt t h) {b : Addr} {o : Obj} (e : h.get? b = some o) (hn : ∀ ps, o = tabObj ps → ∃ v, ps[1]? = some v ∧ ∀ n, v ≠ rawInt n) : b ≠ t.P := fun q => by
  obtain ⟨ps, h1, h2⟩ := ht
  rw [← q, e] at h1
  obtain ⟨v, hv, hne⟩ := hn ps (by cases h1; rfl)
  rcases h2 with rfl | ⟨c', rfl, _⟩
  · simp at hv
  · simp at hv; exact hne _ hv.symm
theorem codeRec_at {h : Heap} (g : Gd B h) {c : Value} {q : Str} (hc : h.CodeRec c q) : (B.at h g).hB.CodeRec c q := by
  obtain ⟨c0, oc, vs, tk, e1, e2, e3, e4⟩ := hc
  refine ⟨c0, oc, vs, tk, e1, B.at_of g e2 fun t ht => tab_ne (g.tab t ht) e2 fun ps e => ?_, e3, e4⟩
  rw [e] at e3
  cases e3
  exact ⟨_, e4, fun n e => by cases e⟩
theorem isCell_at {h : Heap} (g : Gd B h) {c : Addr} {v : Option Value} (hc : h.IsCell c v) : (B.at h g).hB.IsCell c v := by
  obtain ⟨o, e, hd⟩ := hc
  refine ⟨o, B.at_of g e fun t ht q => ?_, hd⟩
  obtain ⟨ps, h1, _⟩ := g.tab t ht
  rw [← q, e] at h1; cases h1; cases hd
theorem fresh_at {h h0 : Heap} (g : Gd B h) (g0 : Gd B h0) {f : Addr} {o : Obj} (h0f : h0.get? f = none) (e : h.get? f = some o) : (B.at h g).hB.get? f = some o :=
  B.at_of g e fun t ht q => by
    obtain ⟨ps, h1, _⟩ := g0.tab t ht
    rw [← q, h0f] at h1; cases h1
theorem rep_at {h : Heap} (g : Gd B h) {X : List Addr} {v : Value} {d : PyData} (r : Rep B X h v d) : Rep (B.at h g) [] (B.at h g).hB v d :=
  Rep.re (B := B) (B' := B.at h g) rfl rfl (r.imp (X' := []) (h' := (B.at h g).hB) (fun _ _ _ q => nomatch q) fun b o _ e hc => B.at_of g e fun t ht => notTab (g.tab t ht) e hc)
noncomputable abbrev lamFd (env : Env) (params : Arguments) (body : Expr) (scope : Scope) (clos : List (Str × Addr)) (pm c ctv : Value) : FuncData := kla_fn "<lambda>" (env.qual ++ "<lambda>") params body scope clos pm c ctv
/-- what a lambda of one argument asks of the frame that makes it -/
structure LamOk (B : Bs) (env : Env) (ρ : Rho) (params : Arguments) (body : Expr) (scope : Scope) (lpos : Pos) (clos : List (Str × Addr)) (t : Tab) (x : Str) (ρc : Rho) : Prop where
  ht : t ∈ B.tabs
  hcode : env.code = .ref t.c
  hpos : t.pos = lpos
  hq : t.qual = env.qual ++ "<lambda>"
  hcl : closureFor scope env = pure clos
  hdef : defaultsOf params env = ([], [])
  hbind : ∀ pm c ctv v, bindArgs (lamFd env params body scope clos pm c ctv) ⟨[v], []⟩ = pure [(x, v)]
  hx : scope.names.lookup x = some .local
  hcell : (scope.names.all fun y => !(y.2 == .cell)) = true
  hclo : ∀ p ∈ clos, p ∈ env.cells
  hfree : ∀ p ∈ ρc, p.1 ≠ x ∧ scope.names.lookup p.1 = some .free ∧ ρ.lookup p.1 = some p.2 ∧ clos.lookup p.1 = env.cells.lookup p.1 ∧ env.kindOf p.1 = some .cell ∧ ∃ d, p.2 = .val d
  hs : (scope.isCoroutine, scope.isGenerator, scope.kind) = (false, false, .function)
theorem LamOk.spec0 {env : Env} {ρ : Rho} {Xc : List Addr} {params : Arguments} {body : Expr} {scope : Scope} {lpos : Pos} {clos : List (Str × Addr)} {t : Tab} {x : Str} {ρc : Rho} (l : LamOk B env ρ params body scope lpos clos t x ρc)
    {s0 s : Shared} (F0 : Fok B env Xc ρ s0.heap) (k0 : Kp B [] s0 s) {f c' : Addr} {pm ctv : Value} (hf0 : s0.heap.get? f = none) (hf : s.heap.get? f = some (kla_obj "<lambda>" (env.qual ++ "<lambda>") params body scope clos pm c' ctv)) (hrec : s.heap.CodeRec (.ref c') (env.qual ++ "<lambda>")) (g : Gd B s.heap) {k : Nat} {d0 d : PyData}
    (h : ∀ L, Ev (B.at s.heap g) k (lamEnv (lamFd env params body scope clos pm (.ref c') ctv) L f) ((x, .val d0) :: ρc) body d) : Spec0 (B.at s.heap g) (k + 1) f [d0] d := by
  have F := F0.kp k0
  refine Spec0.lam (ρc := ρc) (fresh_at g F0.g hf0 hf) (fd := lamFd env params body scope clos pm (.ref c') ctv) rfl (codeRec_at g hrec) rfl rfl rfl (fun v => l.hbind pm (.ref c') ctv v) l.hx (fun y hy e => ?_) (fun p hp => ?_) (fun p hp => ?_) h (congrArg (·.1) l.hs) (congrArg (·.2.1) l.hs) (congrArg (·.2.2) l.hs)
  · have := List.all_eq_true.mp l.hcell y hy
    rw [e] at this; cases this
  · obtain ⟨v, hv⟩ := F.cel p (l.hclo p hp)
    exact ⟨v, isCell_at g hv⟩
  · obtain ⟨h1, h2, h3, h4, h5, d, h6⟩ := l.hfree p hp
    obtain ⟨c, v, q1, q2, q3⟩ := F.celv p.1 _ h3 (.inl h5)
    rw [h6] at q3
    exact ⟨h1, h2, c, v, d, h6, h4.trans q1, isCell_at g q2, rep_at g q3⟩
theorem Ev.key39 (H : OnT B) {env : Env} {ρ : Rho} {k : Nat} {id : Str} {fp : Pos} {a1 a2 : Expr} {kpos pos lpos : Pos} {params : Arguments} {body : Expr} {scope : Scope} {clos : List (Str × Addr)} {t : Tab} {x : Str} {n : Nat} {y : Int} {ρc : Rho} (key : Nat → Int)
    (hf : EvV B (k + 2) env ρ (.Name id fp) (.ref 39)) (n1 : notStar a1 = true) (n2 : notStar a2 = true) (h1 : Ev B (k + 2) env ρ a1 (.list (rng 0 n))) (h2 : Ev B (k + 2) env ρ a2 (.int y)) (hn : n ≤ 900) (l : LamOk B env ρ params body scope lpos clos t x ρc)
    (hmono : ∀ i j : Nat, i ≤ j → j < n → key j < y → key i < y)
    (hb : ∀ (B' : Bs), On B' → ∀ pm c ctv L f, ∀ i : Nat, i < n → Ev B' k (lamEnv (lamFd env params body scope clos pm c ctv) L f) ((x, .val (.int i)) :: ρc) body (.int (key i)))
      :
    Ev B (k + 2) env ρ (.Call (.Name id fp) [a1, a2] [⟨some "key", .Lambda params body scope lpos, kpos⟩] pos) (.int ((List.range n).countP (fun i => decide (key i < y)) : Nat)) := fun A Xc s rm F => by
  rw [arm_eval_Call_Name']
  refine wpAny_bind (hf.bind rm F fun s1 k1 F1 => ?_)
  refine callWith_function_kw (o := obj B.w.params 39) (fd := fdat B.w.params 39) (evalArgs_kw2 rfl (wpAny_mono ((show Evs B (k + 2) env ρ [a1, a2] [.list (rng 0 n), .int y] from Evs.cons h1 (Evs.cons h2 Evs.nil (starEach_cons n2)) (starEach_cons n1)) A Xc s1 pos rm F1) (fun vs s2 ⟨k2, r2⟩ => ?_) fun _ _ h => h.elim) (starEach_cons n1))
  have F2 := F1.kp k2
  refine kwAll_cons (wpAny_mono (lam_make F2 l.ht (H.inj l.ht) l.hcode l.hpos l.hq l.hcl l.hdef (Q := fun v s3 => ∃ f c' ctv, v = .ref f ∧ Kp B [] s2 s3 ∧ s2.heap.get? f = Option.none ∧ s3.heap.get? f = some (kla_obj "<lambda>" (env.qual ++ "<lambda>") params body scope clos ((B.mg "__name__").getD .none) c' ctv) ∧ s3.heap.CodeRec (.ref c') (env.qual ++ "<lambda>")) fun f c' ctv s3 k3 hf0 hf hrec => ⟨f, c', ctv, rfl, k3, hf0, hf, hrec⟩) ?_ fun _ _ h => h.elim)
  rintro v s3 ⟨f, c', ctv, rfl, k3, hf0, hf, hrec⟩
  refine kwAll_nil ?_
  have F3 := F2.kp k3
  refine ⟨⟨F3.g.keep _ _ (H.get 39 rfl), rfl⟩, wpAny_call ?_⟩
  have r3 := r2.kp F2.g k3
  cases r3 with | cons q1 r3 => cases r3 with | cons q2 r3 => cases r3 with | nil =>
  have H' : On (B.at s3.heap F3.g) := H.toOn.at F3.g
  refine codeAny_mono (call39 H' n y key hn rm (B.at_gd F3.g) F3.alive (Rep.re (B := B) (B' := B.at s3.heap F3.g) rfl rfl q1) (Rep.re (B := B) (B' := B.at s3.heap F3.g) rfl rfl q2) (fresh_at F3.g F2.g hf0 hf) rfl (fun i hi => l.spec0 F2 k3 hf0 hf hrec F3.g (d0 := .int i) fun L => hb _ H' _ _ _ L f i hi) hmono) fun r s4 ⟨v, hr, k4, r4⟩ => ?_
  subst hr
  obtain ⟨t, rfl⟩ := r4.int_inv
  exact ⟨((k1.trans k2).trans k3).trans (k4.back F3.g (B.at_gd F3.g)), .int _ _⟩
end
end Mine
end
section
open PySem PySem.W PyProof.Rows
set_option linter.unusedVariables false
set_option maxRecDepth 100000
namespace Mine
section
variable {B : Bs}
noncomputable def wantK (piece : Str) (k : Nat) : Str := dots ++ Txt.mul (piece ++ dots) (k : Int)
noncomputable def keyK (piece strip : Str) (k : Nat) : Int := if ell (wantK piece k) strip = true then 0 else 1
structure MostOk (piece strip : Str) (n : Nat) : Prop where
  hn : n ≤ 300
  pl : piece.length ≤ 1000
  ok : ∀ i : Nat, i < n + 2 → EllOk (wantK piece i) strip
  mono : ∀ i j : Nat, i ≤ j → j < n + 2 → keyK piece strip j < 1 → keyK piece strip i < 1
theorem mulOk_small {x : Str} {n : Nat} (hx : x.length ≤ 2000) (hn : n ≤ 400) : MulOk x (n : Int) := by
  refine ⟨?_, fun h1 h2 => ?_, fun h1 h2 => ?_⟩
  · simp only [Bool.or_eq_false_iff, decide_eq_false_iff_not]; omega
  · have : (0:Int) < n := by omega
    have h3 : ((2:Int) ^ 63 - 1) / n ≥ 2000 := by
      rw [ge_iff_le, Int.le_ediv_iff_mul_le this]
      omega
    omega
  · have : x.length * n ≤ 2000 * 400 := Nat.mul_le_mul hx hn
    rw [Int.toNat_natCast]
    unfold Builtin.Str.tooLong
    rw [decide_eq_false_iff_not, sizeLine_eq]; omega
theorem str_len (a b : Str) : (a ++ b).length = a.length + b.length := by
  show (a ++ b).cps.size = _
  rw [Str.cps_append, Array.size_append]; rfl
noncomputable def mostOf (piece strip : Str) (n : Nat) : Int := ((List.range (n + 2)).countP (fun i => decide (keyK piece strip i < 1)) : Nat) - 1
set_option maxHeartbeats 2000000 in
theorem spec103 (H : OnT B) (piece strip : Str) (n : Nat) (hok : MostOk piece strip n) : Spec B 6 103 [.str piece, .str strip, .int n] (.int (mostOf piece strip n)) := by
  refine Spec.plain H.toOn ["piece", "strip", "ticks"] rfl rfl rfl (codeRec H.toOn rfl rfl rfl) rfl rfl (fun vs h => by obtain ⟨a, b, c, rfl⟩ := len3 h; kernel_rfl) rfl rfl rfl rfl fun L => ?_
  have hn := hok.hn
  refine Ex.seq (Ex1.set (d := .list (rng 0 ((n : Int) + 2))) (Ev.listRange (EvV.bb H.toOn rfl (by decide +kernel) (by decide) rfl) (EvR.one (EvV.bb H.toOn rfl (by decide +kernel) (by decide) rfl) (Ev.bop (Ev.name rfl rfl) Ev.int (Bop.add _ _))) (by omega) (by omega)) (.loc rfl)) ?_
  rw [show ((n : Int) + 2) = ((n + 2 : Nat) : Int) by push_cast; rfl]
  refine Ex.ret (Ev.bop (d1 := .int ((List.range (n + 2)).countP (fun i => decide (keyK piece strip i < 1)) : Nat)) (Ev.key39 H (keyK piece strip) (t := tabMost) (x := "k") (clos := [("strip", L + 2), ("piece", L + 1)]) (ρc := [("piece", .val (.str piece)), ("strip", .val (.str strip))]) (EvV.kk H.toOn rfl rfl) rfl rfl (Ev.name rfl rfl) Ev.int (by omega) ?_ hok.mono ?_) Ev.int (Bop.sub _ _)) rfl
  · refine ⟨by rw [H.tabs]; exact .head _, rfl, rfl, by kernel_rfl, rfl, rfl, fun _ _ _ _ => by kernel_rfl, rfl, rfl, ?_, ?_, rfl⟩
    · intro p hp
      simp only [List.mem_cons, List.not_mem_nil, or_false] at hp
      rcases hp with rfl | rfl
      · exact .head _
      · exact .tail _ (.head _)
    · intro p hp
      simp only [List.mem_cons, List.not_mem_nil, or_false] at hp
      rcases hp with rfl | rfl
      · exact ⟨by dsimp only; decide, rfl, rfl, rfl, rfl, _, rfl⟩
      · exact ⟨by dsimp only; decide, rfl, rfl, rfl, rfl, _, rfl⟩
  · intro B' H' pm c ctv L' f i hi
    have hd : dots.length = 3 := by decide +kernel
    have hpl := hok.pl
    refine Ev.ifexp (b := ell (wantK piece i) strip) (Tst.ofBool (Ev.call (EvV.kk H' rfl rfl) (H'.get 21 rfl) rfl (Evs.cons (Ev.bop Ev.str (Ev.bop (Ev.bop (Ev.free (d := .str piece) rfl rfl) Ev.str (Bop.cat ?_)) (Ev.name (d := .int i) rfl rfl) (Bop.rpt (mulOk_small ?_ (by omega)))) (Bop.cat ?_)) (Evs.cons (Ev.free (d := .str strip) rfl rfl) Evs.nil)) (spec21 H' (wantK piece i) strip (hok.ok i hi)) (Nat.le_refl _))) (fun hb => ?_) (fun hb => ?_)
    · rw [sizeLine_eq]; show _ + dots.length ≤ _; omega
    · rw [str_len]; show _ + dots.length ≤ _; omega
    · have := (hok.ok i hi).wl
      unfold wantK at this
      rw [str_len] at this
      rw [sizeLine_eq]; exact Nat.le_trans this (by omega)
    · rw [show keyK piece strip i = 0 from if_pos hb]; exact Ev.int
    · rw [show keyK piece strip i = 1 from if_neg (by rw [hb]; decide)]; exact Ev.int
end
end Mine
end
section
open PySem PySem.W PyProof.Rows
set_option linter.unusedVariables false
set_option maxRecDepth 100000
namespace Mine
/-! small sets of ints: the set's iterator -/
theorem slot_seti_next : PySem.Slot "set_iterator" "__next__" "set_iterator.__next__" :=
  .of (owner := "set_iterator") (n := "__next__") (by rw [typeLookup_type, builtinLookup_eq_fast]; kernel_rfl) (by decide +kernel) (by decide +kernel) (by decide +kernel)
    (by first | exact .inl (by decide +kernel) | exact .inr (by decide +kernel)) (by rw [isSubtype_type]; kernel_rfl)
theorem entry_seti_next : entryFor table "set_iterator.__next__" = some Builtin.«set_iterator.__next__» := entryFor_of_tree (by kernel_rfl)
theorem owner_seti : Manifest.owners.lookup (String.ofList ['r', 'o', 't', 'a', 'r', 'e', 't', 'i', '_', 't', 'e', 's'].reverse) = some Manifest.sig_set_iterator := by kernel_rfl
theorem args_seti_next (a : Value) : argsOk "set_iterator.__next__" ⟨[a], []⟩ := by
  unfold argsOk; rw [PySem.signature?_of (id := "set_iterator.__next__") (n := ['_', '_', 't', 'x', 'e', 'n', '_', '_']) (o := ['r', 'o', 't', 'a', 'r', 'e', 't', 'i', '_', 't', 'e', 's']) (by kernel_rfl) owner_seti]; kernel_rfl
theorem entry_set_iter : entryFor table "set.__iter__" = some Builtin.«frozenset.__iter__» := entryFor_alias (id' := "frozenset.__iter__") (by rw [fastTable_eq_tree]; kernel_rfl) rfl (by decide +kernel) (by rw [fastTable_eq_tree]; kernel_rfl)

noncomputable def subs : List (List Nat) := [[], [0], [1], [2], [3], [0, 1], [0, 2], [0, 3], [1, 2], [1, 3], [2, 3], [0, 1, 2], [0, 1, 3], [0, 2, 3], [1, 2, 3], [0, 1, 2, 3]]
noncomputable def esOf (K : List Nat) (ts : List Tok) : List (Int × Value) := (K.zip ts).map fun p => ((p.1 : Int), Value.int p.1 p.2)
noncomputable def tblOf (K : List Nat) (led : Bool) : SetTable := { mask := 7, place := K.toArray, dummies := #[], finger := 0, led, moves := 0, plain := true }
noncomputable def setObj (K : List Nat) (ts : List Tok) (ep : Nat) (led : Bool) : Obj := { cls := .type "set", dict := none, data := .set (esOf K ts).toArray ep (tblOf K led) }
theorem esOf_len {K : List Nat} {ts : List Tok} (h : K.length = ts.length) : (esOf K ts).length = K.length := by simp [esOf, h]
theorem subs_len {K : List Nat} (h : K ∈ subs) : K.length ≤ 4 := by revert K; decide
theorem subs_lt {K : List Nat} (h : K ∈ subs) : ∀ k ∈ K, k < 4 := by revert K; decide
theorem subs_nd {K : List Nat} (h : K ∈ subs) : K.Nodup := by revert K; decide
theorem fitsOf {K : List Nat} {ts : List Tok} {led : Bool} (hK : K ∈ subs) (h : K.length = ts.length) : (tblOf K led).fits (esOf K ts).toArray.size = true := by
  have := subs_len hK
  simp [SetTable.fits, SetTable.fill, tblOf, esOf_len h]
  omega
/-- what a walk over the set gives, by its order -/
noncomputable def byText (w : World) : Bool := w.params.followText "set-order"
noncomputable def ordOf (w : World) (a : Addr) (ep : Nat) (es : Array (Int × Value)) : Array (Int × Value) := if byText w then pickOrder (w.params.setOrder a ep) es else es
theorem erase_perm {α : Type} {l : List α} {i : Nat} (h : i < l.length) : (l[i] :: l.eraseIdx i).Perm l := by
  rw [List.eraseIdx_eq_take_drop_succ]
  refine List.perm_middle.symm.trans ?_
  rw [← List.drop_eq_getElem_cons h, List.take_append_drop]
theorem pickGo_perm {α : Type} (next : Nat → Nat) : ∀ (fuel k : Nat) (left : List α) (out : Array α), left.length ≤ fuel → (pickOrder.go next fuel k left out).toList.Perm (out.toList ++ left)
  | 0, k, left, out, h => by
    have : left = [] := List.eq_nil_of_length_eq_zero (by omega)
    subst this
    simp [pickOrder.go]
  | fuel + 1, k, left, out, h => by
    unfold pickOrder.go
    cases left with
    | nil => simp
    | cons x r =>
      have hlt : next k % (x :: r).length < (x :: r).length := Nat.mod_lt _ (by simp)
      rw [List.getElem?_eq_getElem hlt]
      dsimp only
      refine (pickGo_perm next fuel (k + 1) _ _ (by rw [List.length_eraseIdx_of_lt hlt]; simp only [List.length_cons] at h ⊢; omega)).trans ?_
      rw [Array.toList_push, List.append_assoc]
      exact List.Perm.append_left _ (erase_perm hlt)
theorem ordOf_perm (w : World) (a : Addr) (ep : Nat) (es : Array (Int × Value)) : (ordOf w a ep es).toList.Perm es.toList := by
  unfold ordOf
  split
  · have := pickGo_perm (w.params.setOrder a ep) es.size 0 es.toList #[] (by simp)
    simpa [pickOrder] using this
  · exact .rfl
theorem ordOf_size (w : World) (a : Addr) (ep : Nat) (es : Array (Int × Value)) : (ordOf w a ep es).size = es.size := by
  have := (ordOf_perm w a ep es).length_eq
  simpa using this
noncomputable def SetIt (h : Heap) (I S : Addr) (slot i n ep : Nat) : Prop := ∃ o, h.get? I = some o ∧ o.cls = .type "set_iterator" ∧ o.data = .fields #[.int slot 0, .int i 0, .ref S, .int n 0, .int ep 0]
section
variable {prog : Program} {w : World} {A : Around} {E : Value → Shared → Prop} {s : Shared}
theorem setObj_type {S : Addr} {K : List Nat} {ts : List Tok} {ep : Nat} {led : Bool} (hS : s.heap.get? S = some (setObj K ts ep led)) : s.TypeIs (.ref S) "set" := ⟨_, hS, rfl⟩
theorem wp_setState {S : Addr} {K : List Nat} {ts : List Tok} {ep : Nat} {led : Bool} {Q : (Array (Int × Value) × Nat × SetTable) → Shared → Prop} (hS : s.heap.get? S = some (setObj K ts ep led)) (hK : K ∈ subs) (hl : K.length = ts.length)
    (h : Q ((esOf K ts).toArray, ep, tblOf K led) s) : wpAny (model prog w) A (setState S) Q E s := wpAny_setState_of hS rfl (fitsOf hK hl) h
theorem wp_setsByText {Q : Bool → Shared → Prop} (h : Q (byText w) s) : wpAny (model prog w) A setsByText Q E s := wpAny_bind (wpAny_askSetting (wpAny_pure h))
theorem wp_setWalk {S : Addr} {K : List Nat} {ts : List Tok} {ep : Nat} {led : Bool} {Q : Array (Int × Value) → Shared → Prop} (hS : s.heap.get? S = some (setObj K ts ep led)) (hK : K ∈ subs) (hl : K.length = ts.length) (hled : byText w = false → led = true)
    (h : Q (ordOf w S ep (esOf K ts).toArray) s) : wpAny (model prog w) A (setWalk S) Q E s := by
  unfold setWalk
  refine wpAny_bind (wp_setState hS hK hl (wpAny_bind (wp_setsByText ?_)))
  unfold ordOf at h
  cases hb : byText w with
  | true =>
    rw [hb] at h
    simp only [if_true]
    exact wpAny_bind (wpAny_askSetting (wpAny_pure h))
  | false =>
    rw [hb] at h
    have := hled hb
    subst this
    simp only [Bool.false_eq_true, if_false]
    refine wpAny_ite_false rfl ?_
    refine wpAny_bind (wpAny_ite_false rfl (wpAny_pure ?_))
    exact wpAny_pure h
theorem pyIter_set {S : Addr} {K : List Nat} {ts : List Tok} {ep : Nat} {led : Bool} {Q : Value → Shared → Prop} (hS : s.heap.get? S = some (setObj K ts ep led)) (hK : K ∈ subs) (hl : K.length = ts.length)
    (hQ : Q (.ref s.heap.objs.size) { s with heap := s.heap.push { cls := .type "set_iterator", data := .fields #[.int 0 0, .int 0 0, .ref S, .int K.length 0, .int ep 0] } }) :
    wpAny (model prog w) A (pyIter (.ref S)) Q E s := by
  refine wpAny_pyIter_slot (setObj_type hS) F.slot_set_iter (wpAny_call_entry F.slot_set_iter (setObj_type hS) entry_set_iter ?_ (F.args_set_iter_1 _))
  unfold Builtin.«frozenset.__iter__»
  refine wpAny_bind (m := Builtin.Frozenset.slot0 "__iter__" _) (wpAny_pure ?_)
  refine wpAny_bind ?_
  unfold Builtin.Frozenset.sizeOf setEntries
  refine wpAny_bind (wpAny_bind (wp_setState hS hK hl (wpAny_pure (wpAny_pure ?_))))
  unfold setDrawn
  refine wpAny_bind (wpAny_bind (wp_setState hS hK hl (wpAny_bind (wp_setsByText (wpAny_pure ?_)))))
  dsimp only
  refine wpAny_ite_false ?_ (wpAny_bind (wpAny_pure ?_))
  · cases byText w <;> rfl
  unfold setEpoch
  refine wpAny_bind (wpAny_bind (wp_setState hS hK hl (wpAny_pure ?_)))
  refine wpAny_bind (wpAny_newObj_type (wpAny_pure ⟨_, rfl, "set_iterator", _, ⟨_, Heap.get?_push_size _ rfl, rfl⟩, slot_seti_next.lookup, ?_⟩))
  simpa [rawInt, esOf_len hl] using hQ
end
end Mine
end
section
open PySem PySem.W PyProof.Rows
set_option linter.unusedVariables false
set_option maxRecDepth 100000
namespace Mine
noncomputable def slotAt (w : World) (K : List Nat) (i : Nat) : Nat := if byText w then 0 else match i with
  | 0 => 0
  | i + 1 => K.getD i 0 + 1
theorem slot_seti_iter : PySem.Slot "set_iterator" "__iter__" "set_iterator.__iter__" :=
  .of (owner := "set_iterator") (n := "__iter__") (by rw [typeLookup_type, builtinLookup_eq_fast]; kernel_rfl) (by decide +kernel) (by decide +kernel) (by decide +kernel)
    (by first | exact .inl (by decide +kernel) | exact .inr (by decide +kernel)) (by rw [isSubtype_type]; kernel_rfl)
theorem entry_seti_iter : entryFor table "set_iterator.__iter__" = some Builtin.«dict_keyiterator.__iter__» := entryFor_alias (id' := "dict_keyiterator.__iter__") (by rw [fastTable_eq_tree]; kernel_rfl) rfl (by decide +kernel) (by rw [fastTable_eq_tree]; kernel_rfl)
theorem args_seti_iter (a : Value) : argsOk "set_iterator.__iter__" ⟨[a], []⟩ := by
  unfold argsOk; rw [PySem.signature?_of (id := "set_iterator.__iter__") (n := ['_', '_', 'r', 'e', 't', 'i', '_', '_']) (o := ['r', 'o', 't', 'a', 'r', 'e', 't', 'i', '_', 't', 'e', 's']) (by kernel_rfl) owner_seti]; kernel_rfl
theorem below_at {K : List Nat} (h : K ∈ subs) : ∀ i ≤ K.length, SetTable.below K.toArray (match i with | 0 => 0 | i + 1 => K.getD i 0 + 1) = i := by revert K; decide +kernel
section
variable {prog : Program} {w : World} {A : Around} {E : Value → Shared → Prop} {s : Shared}
theorem SetIt.typeIs {I S : Addr} {a i n ep : Nat} (x : SetIt s.heap I S a i n ep) : s.TypeIs (.ref I) "set_iterator" := let ⟨o, ho, hc, _⟩ := x; ⟨o, ho, hc⟩
theorem wp_setNext {S : Addr} {K : List Nat} {ts : List Tok} {ep : Nat} {led : Bool} {i : Nat} {Q : Option (Value × Nat) → Shared → Prop} (hS : s.heap.get? S = some (setObj K ts ep led)) (hK : K ∈ subs) (hl : K.length = ts.length) (hled : byText w = false → led = true) (hi : i ≤ K.length)
    (h : Q (((ordOf w S ep (esOf K ts).toArray)[i]?).map fun e => (e.2, slotAt w K (i + 1))) s) : wpAny (model prog w) A (setNext S (slotAt w K i) i ep) Q E s := by
  unfold setNext
  refine wpAny_bind (wp_setState hS hK hl (wpAny_bind (wp_setsByText ?_)))
  cases hb : byText w with
  | true =>
    simp only [if_true]
    have e0 : slotAt w K i = slotAt w K (i + 1) := by simp [slotAt, hb]
    rw [e0]
    simp only [bne_self_eq_false, Bool.false_eq_true, if_false]
    exact wpAny_bind (wp_setWalk hS hK hl hled (wpAny_pure h))
  | false =>
    have := hled hb
    subst this
    simp only [Bool.false_eq_true, if_false]
    refine wpAny_ite_false rfl ?_
    refine wpAny_bind (wpAny_ite_false rfl (wpAny_pure ?_))
    refine wpAny_pure ?_
    have hbe : SetTable.below (tblOf K true).place (slotAt w K i) = i := by
      have := below_at hK i hi
      unfold slotAt
      rw [hb]
      simpa [tblOf] using this
    rw [hbe]
    have ho : ordOf w S ep (esOf K ts).toArray = (esOf K ts).toArray := by unfold ordOf; rw [hb]; rfl
    rw [ho] at h
    have hlen := esOf_len hl
    rcases Nat.lt_or_ge i K.length with hlt | hge
    · have h1 : (esOf K ts).toArray[i]? = some ((esOf K ts)[i]'(by omega)) := by simp [hlt, hlen]
      have h2 : (tblOf K true).place[i]? = some K[i] := by simp [tblOf, hlt]
      rw [h1] at h ⊢
      rw [h2]
      have h3 : slotAt w K (i + 1) = K[i] + 1 := by unfold slotAt; rw [hb]; simp [hlt]
      rw [h3] at h
      exact h
    · have h1 : (esOf K ts).toArray[i]? = none := by simp [hlen, hge]
      rw [h1] at h ⊢
      exact h
noncomputable abbrev StS (w : World) (I S : Addr) (K : List Nat) (ts : List Tok) (ep : Nat) (led : Bool) (i : Nat) (h : Heap) : Prop := SetIt h I S (slotAt w K i) i K.length ep ∧ h.get? S = some (setObj K ts ep led)
theorem next_item {I S : Addr} {K : List Nat} {ts : List Tok} {ep : Nat} {led : Bool} {i : Nat} {e : Int × Value} {Q : Option Value → Shared → Prop} (hne : S ≠ I) (hK : K ∈ subs) (hl : K.length = ts.length) (hled : byText w = false → led = true) (st : StS w I S K ts ep led i s.heap)
    (he : (ordOf w S ep (esOf K ts).toArray)[i]? = some e) (hQ : ∀ h', StS w I S K ts ep led (i + 1) h' → (∀ b o, b ≠ I → s.heap.get? b = some o → h'.get? b = some o) → Q (some e.2) { s with heap := h' }) : wpAny (model prog w) A (pyNext (.ref I)) Q E s := by
  obtain ⟨hit, hS⟩ := st
  obtain ⟨o, ho, hc, hd⟩ := id hit
  have hi : i ≤ K.length := by
    have := (Array.getElem?_eq_some_iff.mp he).1
    rw [ordOf_size] at this
    have h2 := esOf_len hl
    simp at this; omega
  unfold pyNext
  refine wpAny_bind (wpAny_attempt (wpAny_callSpecial?_slot (name := Str.ofString "__next__") hit.typeIs slot_seti_next (wpAny_call_entry slot_seti_next hit.typeIs entry_seti_next ?_ (args_seti_next _))))
  unfold Builtin.«set_iterator.__next__»
  refine wpAny_bind (m := slotArgs "__next__" 0 _) (wpAny_pure ?_)
  refine wpAny_bind (wpAny_fieldsOf ho hd ?_)
  dsimp only
  unfold setEntries
  refine wpAny_bind (wpAny_bind (wp_setState hS hK hl (wpAny_pure ?_)))
  refine wpAny_ite_false ?_ ?_
  · simp [esOf_len hl]
  simp only [Int.toNat_natCast]
  refine wpAny_bind (wp_setNext hS hK hl hled hi ?_)
  rw [he]
  dsimp only [Option.map]
  refine wpAny_bind (wpAny_setField ho hd (by simp) ?_)
  have ho1 := Heap.get?_update_self (Obj.mapFields (·.setIfInBounds 0 (rawInt ((slotAt w K (i + 1) : Nat) : Int)))) ho (Obj.isFreed_of_fields (Obj.data_mapFields hd _))
  have hd1 := Obj.data_mapFields hd (fun x => x.setIfInBounds 0 (rawInt ((slotAt w K (i + 1) : Nat) : Int)))
  refine wpAny_bind (wpAny_setField ho1 hd1 (by simp) ?_)
  have s1 := (Heap.SameBut.update s.heap I (Obj.mapFields (·.setIfInBounds 0 (rawInt ((slotAt w K (i + 1) : Nat) : Int)))))
  have s2 := (Heap.SameBut.update (s.heap.update I (Obj.mapFields (·.setIfInBounds 0 (rawInt ((slotAt w K (i + 1) : Nat) : Int))))) I (Obj.mapFields (·.setIfInBounds 1 (rawInt ((i : Int) + 1)))))
  have hk : ∀ b o, b ≠ I → s.heap.get? b = some o → ((s.heap.update I (Obj.mapFields (·.setIfInBounds 0 (rawInt ((slotAt w K (i + 1) : Nat) : Int))))).update I (Obj.mapFields (·.setIfInBounds 1 (rawInt ((i : Int) + 1))))).get? b = some o := fun b o hb e => s2.extBut b o hb (s1.extBut b o hb e)
  refine wpAny_pure ⟨e.2, rfl, wpAny_pure (hQ _ ⟨⟨_, Heap.get?_update_self _ ho1 (Obj.isFreed_of_fields (Obj.data_mapFields hd1 _)), (Obj.cls_mapFields ..).trans ((Obj.cls_mapFields ..).trans hc), ?_⟩, hk S _ hne hS⟩ hk)⟩
  rw [Obj.data_mapFields hd1]
  simp [rawInt]
theorem next_end {I S : Addr} {K : List Nat} {ts : List Tok} {ep : Nat} {led : Bool} {Q : Option Value → Shared → Prop} (hh : A.handled = none) (hK : K ∈ subs) (hl : K.length = ts.length) (hled : byText w = false → led = true) (st : StS w I S K ts ep led K.length s.heap)
    (hQ : ∀ h', (∀ b o, b ≠ I → s.heap.get? b = some o → h'.get? b = some o) → Q none { s with heap := h' }) : wpAny (model prog w) A (pyNext (.ref I)) Q E s := by
  obtain ⟨hit, hS⟩ := st
  obtain ⟨o, ho, hc, hd⟩ := id hit
  unfold pyNext
  refine wpAny_bind (wpAny_attempt (wpAny_callSpecial?_slot (name := Str.ofString "__next__") hit.typeIs slot_seti_next (wpAny_call_entry slot_seti_next hit.typeIs entry_seti_next ?_ (args_seti_next _))))
  unfold Builtin.«set_iterator.__next__»
  refine wpAny_bind (m := slotArgs "__next__" 0 _) (wpAny_pure ?_)
  refine wpAny_bind (wpAny_fieldsOf ho hd ?_)
  dsimp only
  unfold setEntries
  refine wpAny_bind (wpAny_bind (wp_setState hS hK hl (wpAny_pure ?_)))
  refine wpAny_ite_false ?_ ?_
  · simp [esOf_len hl]
  simp only [Int.toNat_natCast]
  refine wpAny_bind (wp_setNext hS hK hl hled (Nat.le_refl _) ?_)
  have he : (ordOf w S ep (esOf K ts).toArray)[K.length]? = none := by
    rw [Array.getElem?_eq_none_iff, ordOf_size]
    simp [esOf_len hl]
  rw [he]
  dsimp only [Option.map]
  refine wpAny_bind (wpAny_setField ho hd (by simp) ?_)
  show wpAny _ _ (newExc (.type "StopIteration") [] >>= _) _ _ _
  refine wpAny_bind ?_
  simp only [newExc, newTuple]
  refine wpAny_bind (wpAny_newObj_type ?_ (by size_fits))
  refine wpAny_bind (m := firstArgMember _ _) (wpAny_of_eq (a := Value.none) (by first | rfl | (simp only [firstArgMember]; rfl)) ?_)
  refine wpAny_newObj_type ?_ (by size_fits)
  simp only [raiseNew]
  refine wpAny_bind (wpAny_handled ?_)
  rw [show A.in1.handled = none from hh]
  refine wpAny_bind (wpAny_pure (wpAny_throw ?_))
  refine wpAny_bind (wpAny_isInstance (T := "StopIteration") (b := true) ⟨_, Heap.get?_push_size _ rfl, rfl⟩ isSubtype_stop ?_)
  exact wpAny_pure (hQ _ fun b o hb e => (((Heap.SameBut.update ..).extBut.push _).push _) b o hb e)
theorem walkSet (hh : A.handled = none) (I S : Addr) (K : List Nat) (ts : List Tok) (ep : Nat) (led : Bool) (hne : S ≠ I) (hK : K ∈ subs) (hl : K.length = ts.length) (hled : byText w = false → led = true) :
    Walks prog w A I [I, S] [I] K.length (fun i v => ∃ e, (ordOf w S ep (esOf K ts).toArray)[i]? = some e ∧ v = e.2) (fun i h => i ≤ K.length ∧ StS w I S K ts ep led i h) where
  sub := fun b hb => by simp at hb; simp [hb]
  frame := fun i h h' ⟨hi, ⟨o, ho, r⟩, hS⟩ hk => ⟨hi, ⟨o, hk I (by simp) o ho, r⟩, hk S (by simp) _ hS⟩
  item := fun i s Q E hi ⟨_, st⟩ hQ => by
    have hlt : i < (ordOf w S ep (esOf K ts).toArray).size := by rw [ordOf_size]; simpa [esOf_len hl] using hi
    exact next_item hne hK hl hled st (Array.getElem?_eq_getElem hlt) fun h' st' hk => hQ _ h' s.toks ⟨_, Array.getElem?_eq_getElem hlt, rfl⟩ ⟨hi, st'⟩ fun b o hb e => hk b o (fun q => hb (by simp [q])) e
  done := fun s Q E ⟨_, st⟩ hQ => next_end hh hK hl hled st fun h' hk => hQ h' s.toks fun b o hb e => hk b o (fun q => hb (by simp [q])) e
  self := fun i s Q E ⟨_, st⟩ hQ => by
    refine wpAny_pyIter_slot st.1.typeIs slot_seti_iter (wpAny_call_entry slot_seti_iter st.1.typeIs entry_seti_iter ?_ (args_seti_iter _))
    show wpAny _ _ (ret (.ref I)) _ _ s
    exact wpAny_pure ⟨_, rfl, "set_iterator", _, st.1.typeIs, slot_seti_next.lookup, hQ⟩
theorem collectSet (hh : A.handled = none) {S : Addr} {K : List Nat} {ts : List Tok} {ep : Nat} {led : Bool} {Q : List Value → Shared → Prop} (hS : s.heap.get? S = some (setObj K ts ep led)) (hK : K ∈ subs) (hl : K.length = ts.length) (hled : byText w = false → led = true)
    (hQ : ∀ s' vs, (∀ b o, s.heap.get? b = some o → s'.heap.get? b = some o) → s'.gens = s.gens → s'.os = s.os → vs = ((ordOf w S ep (esOf K ts).toArray).map (·.2)).toList → Q vs s') : wpAny (model prog w) A (collect (.ref S)) Q E s := by
  have hSs := Heap.lt_size hS
  unfold collect
  refine wpAny_bind (wpAny_runValue (codeAny_builtin PySem.F.entry_proto_collect ?_))
  rw [Around.under_plainId PySem.F.plain_proto_collect _]
  show wpAny _ A.in1 (newList [] >>= fun l => again (.builtin "list.__iadd__" ⟨[l, .ref S], []⟩)) _ _ s
  refine wpAny_bind (wpAny_newObj_type ?_)
  refine wpAny_pure ⟨plainId_quiet PySem.F.plain_list_iadd _, codeAny_builtin PySem.F.entry_list_iadd ?_⟩
  rw [Around.under_plainId PySem.F.plain_list_iadd _]
  have hS1 : (s.heap.push { cls := .type "list", data := .seq ([] : List Value).toArray }).get? S = some (setObj K ts ep led) := Heap.get?_push_of_some _ hS
  have hT1 : Shared.TypeIs { s with heap := s.heap.push { cls := .type "list", data := .seq ([] : List Value).toArray } } (.ref S) "set" := ⟨_, hS1, rfl⟩
  have h1 : Builtin.List.listSameRef (.ref s.heap.objs.size) (.ref S) = false := by simp only [Builtin.List.listSameRef, beq_eq_false_iff_ne]; exact Nat.ne_of_gt hSs
  show wpAny _ A.in1 (Builtin.List.listExtendWith (.ref s.heap.objs.size) (.ref S) (.ref s.heap.objs.size)) _ _ _
  unfold Builtin.List.listExtendWith
  refine wpAny_bind (wpAny_typeOf hT1 ?_)
  rw [if_neg (by rw [h1]; decide)]
  refine wpAny_bind (pyIter_set hS1 hK hl ?_)
  refine wpAny_bind (wpAny_holding ?_)
  generalize hh1 : s.heap.push { cls := .type "list", data := .seq ([] : List Value).toArray } = H1 at *
  have hL1 : H1.get? s.heap.objs.size = some { cls := .type "list", data := .seq ([] : List Value).toArray } := by rw [← hh1]; exact Heap.get?_push_size _ rfl
  have hsz1 : H1.objs.size = s.heap.objs.size + 1 := by rw [← hh1, Heap.size_push]
  have hk1 : ∀ b o, s.heap.get? b = some o → H1.get? b = some o := fun b o e => by rw [← hh1]; exact Heap.get?_push_of_some _ e
  have hT2 : Shared.TypeIs { s with heap := H1.push { cls := .type "set_iterator", data := .fields #[.int 0 0, .int 0 0, .ref S, .int K.length 0, .int ep 0] } } (.ref S) "set" := ⟨_, Heap.get?_push_of_some _ hS1, rfl⟩
  unfold Builtin.List.listLengthHint
  refine wpAny_bind (wpAny_specialOf hT2 PySem.F.slot_set_len.lookup ?_)
  (generalize hid : ("set.__len__" : String) = id0; (fail_if_success (clear hid id0)); wp_delta; rw [show splitId id0 = some ("set", "__len__") from by subst hid; decide +kernel]; subst hid)
  refine wpAny_bind (wpAny_isInstance (b := true) hT2 sub_set_self ?_)
  refine wpAny_ite_false rfl ?_
  refine wpAny_ite_true (by decide +kernel) ?_
  refine wpAny_bind (wpAny_typeOf hT2 (wpAny_pure ?_))
  refine wpAny_ite_true (by decide +kernel) ?_
  refine wpAny_bind (wpAny_rule ?_)
  have hL2 : (H1.push { cls := .type "set_iterator", data := .fields #[.int 0 0, .int 0 0, .ref S, .int K.length 0, .int ep 0] }).get? s.heap.objs.size = some { cls := .type "list", data := .seq ([] : List Value).toArray } := Heap.get?_push_of_some _ hL1
  have hS2 : (H1.push { cls := .type "set_iterator", data := .fields #[.int 0 0, .int 0 0, .ref S, .int K.length 0, .int ep 0] }).get? S = some (setObj K ts ep led) := Heap.get?_push_of_some _ hS1
  have hI2 : (H1.push { cls := .type "set_iterator", data := .fields #[.int 0 0, .int 0 0, .ref S, .int K.length 0, .int ep 0] }).get? (s.heap.objs.size + 1) = some { cls := .type "set_iterator", data := .fields #[.int 0 0, .int 0 0, .ref S, .int K.length 0, .int ep 0] } := by
    rw [← hsz1]; exact Heap.get?_push_size _ rfl
  have hk2 : ∀ b o, s.heap.get? b = some o → (H1.push { cls := .type "set_iterator", data := .fields #[.int 0 0, .int 0 0, .ref S, .int K.length 0, .int ep 0] }).get? b = some o := fun b o e => Heap.get?_push_of_some _ (hk1 b o e)
  show wpAny _ A.in1 (Builtin.List.listTouch (.ref s.heap.objs.size) >>= fun _ => again (.builtin "list.extend.loop" ⟨[.ref s.heap.objs.size, .ref H1.objs.size, .ref s.heap.objs.size], []⟩)) _ _ _
  rw [hsz1]
  generalize H1.push { cls := .type "set_iterator", data := .fields #[.int 0 0, .int 0 0, .ref S, .int K.length 0, .int ep 0] } = H2 at *
  refine wpAny_bind ?_
  show wpAny _ A.in1 (updateSeq s.heap.objs.size (·.push .none) >>= fun _ => updateSeq s.heap.objs.size (·.pop)) _ _ _
  refine wpAny_bind (wpAny_updateSeq hL2 rfl ?_)
  have hL3 := Heap.get?_update_self (Obj.mapSeq (·.push Value.none)) hL2 rfl
  refine wpAny_updateSeq hL3 rfl ?_
  have hL4 := Heap.get?_update_self (Obj.mapSeq (·.pop)) hL3 rfl
  have oth : ∀ b o, b ≠ s.heap.objs.size → H2.get? b = some o → ((H2.update s.heap.objs.size (Obj.mapSeq (·.push Value.none))).update s.heap.objs.size (Obj.mapSeq (·.pop))).get? b = some o :=
    fun b o hb e => (Heap.get?_update_other _ _ (Ne.symm hb)).trans ((Heap.get?_update_other _ _ (Ne.symm hb)).trans e)
  have hne : S ≠ s.heap.objs.size + 1 := Nat.ne_of_lt (Nat.lt_succ_of_lt hSs)
  have W := walkSet (prog := prog) (w := w) (A := A.in1) hh (s.heap.objs.size + 1) S K ts ep led hne hK hl hled
  have hSf : s.heap.objs.size ∉ [s.heap.objs.size + 1, S] := by
    simp only [List.mem_cons, List.not_mem_nil, or_false, not_or]
    exact ⟨by omega, Nat.ne_of_gt hSs⟩
  have hsl0 : slotAt w K 0 = 0 := by unfold slotAt; split <;> rfl
  refine wpAny_pure ⟨plainId_quiet PySem.F.plain_extend_loop _, codeAny_extend_loopS W.toS (by have := subs_len hK; rw [sizeLine_eq]; omega) _ hSf _ K.length 0 _ _ _ rfl (Nat.zero_le _)
    ⟨Nat.zero_le _, ⟨_, oth _ _ (by omega) hI2, rfl, by rw [hsl0]; rfl⟩, oth _ _ (Nat.ne_of_lt hSs) hS2⟩ hL4 (ItemsOf.nil _) fun s' acc' c' hm hS' hacc => ?_⟩
  show wpAny _ A (load s.heap.objs.size >>= _) _ _ s'
  refine wpAny_bind (wpAny_load hS' (wpAny_pure (hQ s' _ (fun b o e => ?_) hm.gens hm.os ?_)))
  · have hb := Heap.lt_size e
    exact hm.heap b o (by simp only [List.mem_cons, List.not_mem_nil, or_false, not_or]; exact ⟨Nat.ne_of_lt hb, Nat.ne_of_lt (Nat.lt_succ_of_lt hb)⟩) (oth b o (Nat.ne_of_lt hb) (hk2 b o e))
  · congr 1
    apply Array.ext
    · rw [hacc.1, Array.size_map, ordOf_size]; simp [esOf_len hl]
    · intro i h1 h2
      obtain ⟨e, he, hv⟩ := hacc.2 i _ (Array.getElem?_eq_getElem h1)
      rw [hv]
      obtain ⟨h3, h4⟩ := Array.getElem?_eq_some_iff.mp he
      simp [h4]
end
end Mine
end
section
open PySem PySem.W PyProof.Rows
set_option linter.unusedVariables false
set_option maxRecDepth 100000
namespace Mine
/-! building a small set -/
noncomputable def putK (K : List Nat) (k : Nat) : List Nat := K.takeWhile (· < k) ++ k :: K.dropWhile (· < k)
theorem free_at (led : Bool) : ∀ K ∈ subs, ∀ k < 4, k ∉ K → (tblOf K led).freeSlot (hashInt k) = some (k, false) ∧ SetTable.below K.toArray k = (K.takeWhile (· < k)).length ∧ putK K k ∈ subs := by cases led <;> decide +kernel
theorem hashInt_small {k : Nat} (h : k < 4) : hashInt (k : Int) = (k : Int) := by
  revert k; decide
theorem elemsOf {prog : Program} {w : World} {K : List Nat} (hK : K ∈ subs) (ts : List Tok) : ElemsOf (intKind prog w) (esOf K ts) := by
  intro e he
  obtain ⟨p, hp, rfl⟩ := List.mem_map.mp he
  have hk := subs_lt hK p.1 (List.of_mem_zip hp).1
  refine ⟨⟨(p.1 : Int), intKind_is _ _ _ _, ?_⟩, rfl⟩
  exact (hashInt_small hk).symm
theorem esOf_find {prog : Program} {w : World} {k : Nat} : ∀ {K : List Nat} {ts : List Tok}, K.length = ts.length → ((esOf K ts).findIdx? (fun e => (intKind prog w).is (k : Int) e.2)).isSome = decide (k ∈ K)
  | [], _, _ => by simp [esOf]
  | a :: K, [], h => by simp at h
  | a :: K, t :: ts, h => by
    have ih := esOf_find (prog := prog) (w := w) (k := k) (K := K) (ts := ts) (by simpa using h)
    have e : esOf (a :: K) (t :: ts) = ((a : Int), Value.int a t) :: esOf K ts := rfl
    rw [e, List.findIdx?_cons]
    have h1 : (intKind prog w).is (k : Int) (Value.int (a : Int) t) = decide (k = a) := by
      show ((a : Int) == (k : Int)) = _
      rw [Bool.eq_iff_iff]; simp; omega
    simp only [h1]
    by_cases q : k = a
    · subst q; simp
    · simp only [q, decide_false, Bool.false_eq_true, if_false, Option.isSome_map, ih]
      rw [Bool.eq_iff_iff]; simp [q]

noncomputable def putT (K : List Nat) (ts : List Tok) (k : Nat) (t : Tok) : List Tok := ts.take (K.takeWhile (· < k)).length ++ t :: ts.drop (K.takeWhile (· < k)).length
theorem tw_len (p : Nat → Bool) : ∀ K : List Nat, K.take (K.takeWhile p).length = K.takeWhile p ∧ K.drop (K.takeWhile p).length = K.dropWhile p
  | [] => ⟨rfl, rfl⟩
  | a :: K => by
    have ih := tw_len p K
    by_cases q : p a = true
    · simp [q, ih.1, ih.2]
    · simp [q]
theorem put_es {k : Nat} {t : Tok} : ∀ {K : List Nat} {ts : List Tok}, K.length = ts.length → (esOf K ts).take (K.takeWhile (· < k)).length ++ ((k : Int), Value.int k t) :: (esOf K ts).drop (K.takeWhile (· < k)).length = esOf (putK K k) (putT K ts k t) ∧ (putK K k).length = (putT K ts k t).length
  | [], [], _ => by simp [esOf, putK, putT]
  | [], _ :: _, h => by simp at h
  | _ :: _, [], h => by simp at h
  | a :: K, b :: ts, h => by
    have ih := put_es (k := k) (t := t) (K := K) (ts := ts) (by simpa using h)
    by_cases q : a < k
    · have e : esOf (a :: K) (b :: ts) = ((a : Int), Value.int a b) :: esOf K ts := rfl
      have e1 : putK (a :: K) k = a :: putK K k := by simp [putK, q]
      have e2 : putT (a :: K) (b :: ts) k t = b :: putT K ts k t := by simp [putT, q]
      rw [e, e1, e2]
      have e3 : esOf (a :: putK K k) (b :: putT K ts k t) = ((a : Int), Value.int a b) :: esOf (putK K k) (putT K ts k t) := rfl
      rw [e3, ← ih.1]
      refine ⟨?_, by simp [ih.2]⟩
      simp [q]
    · simp [putK, putT, q, esOf] at h ⊢
      omega
section
variable {prog : Program} {w : World} {A : Around} {E : Value → Shared → Prop} {s : Shared}
theorem addSmall {S : Addr} {K : List Nat} {ts : List Tok} {ep : Nat} {led : Bool} {k : Nat} {t : Tok} {Q : Bool → Shared → Prop} (hS : s.heap.get? S = some (setObj K ts ep led)) (hK : K ∈ subs) (hl : K.length = ts.length) (hk : k < 4)
    (h : ∀ h' K' ts' ep' b, h'.get? S = some (setObj K' ts' ep' led) → K' ∈ subs → K'.length = ts'.length → (∀ j, j ∈ K' ↔ j ∈ K ∨ j = k) → Heap.SameBut S s.heap h' → Q b { s with heap := h' }) :
    wpAny (model prog w) A (setAddHashed S (.int k t) (k : Int)) Q E s := by
  have hel := elemsOf (prog := prog) (w := w) hK ts
  have hf := fitsOf (led := led) hK hl
  have hlen := esOf_len hl
  have h4 := subs_len hK
  unfold setAddHashed setAddHashedIn
  refine wpAny_holding (wpAny_bind (wpAny_setState_of hS rfl hf ?_))
  dsimp only
  rw [byScan_of (knd := intKind prog w) rfl (by simp [hlen]; unfold scanBound; omega) (by simpa using hel)]
  simp only [↓reduceIte]
  unfold setAddByScan
  refine wpAny_bind ?_
  refine wpAny_bind (wpAny_rule ?_)
  have hh : (intKind prog w).hash (k : Int) = (k : Int) := hashInt_small hk
  have hscan : ∀ {Q : ScanMet → Shared → Prop}, Q (match (esOf K ts).toArray.toList.findIdx? (fun e => (intKind prog w).is (k : Int) e.2) with | some j => .found (0 + j) | none => .absent) s → wpAny (model prog w) A (setScan S (.int k t) (k : Int) true (esOf K ts).toArray) Q E s := fun hq => by
    have := wpAny_setScan_of (knd := intKind prog w) (A := A) (E := E) (adding := true) (intKind_is prog w (k : Int) t) hS rfl hf (by simpa using hel) hq
    rwa [hh] at this
  refine wpAny_bind (hscan ?_)
  have hfi := esOf_find (prog := prog) (w := w) (k := k) hl
  simp only at hfi ⊢
  cases hr : (esOf K ts).findIdx? (fun e => (intKind prog w).is (k : Int) e.2) with
  | some j =>
    rw [hr] at hfi
    have hm : k ∈ K := by simpa using hfi.symm
    refine wpAny_pure (wpAny_pure ?_)
    have e : s = { s with heap := s.heap } := by cases s; rfl
    rw [e]
    exact h s.heap K ts ep _ hS hK hl (fun j => ⟨.inl, fun q => q.elim id fun q => q ▸ hm⟩) (Heap.SameBut.refl S s.heap)
  | none =>
    rw [hr] at hfi
    have hm : k ∉ K := by simpa using hfi.symm
    obtain ⟨f1, f2, f3⟩ := free_at led K hK k hk hm
    rw [hashInt_small hk] at f1
    obtain ⟨p1, p2⟩ := put_es (t := t) hl (k := k)
    have hput : (tblOf K led).put k = (tblOf (putK K k) led, (K.takeWhile (· < k)).length) := by
      unfold SetTable.put
      have e0 : SetTable.has (tblOf K led).dummies k = false := rfl
      rw [e0]
      have e1 : SetTable.below (tblOf K led).place k = (K.takeWhile (· < k)).length := f2
      rw [e1]
      have e2 : SetTable.insertAt (tblOf K led).place (K.takeWhile (· < k)).length k = (putK K k).toArray := by
        apply Array.toList_inj.mp
        rw [SetTable.toList_insertAt]
        show K.take _ ++ k :: K.drop _ = putK K k
        unfold putK
        rw [(tw_len _ K).1, (tw_len _ K).2]
      dsimp only
      rw [e2]
      rfl
    have hes : SetTable.insertAt (esOf K ts).toArray (K.takeWhile (· < k)).length ((k : Int), Value.int k t) = (esOf (putK K k) (putT K ts k t)).toArray := by
      apply Array.toList_inj.mp
      rw [SetTable.toList_insertAt]
      exact p1
    have hf' := fitsOf (led := led) f3 p2
    have hlay : layNew (tblOf K led) (esOf K ts).toArray (k : Int) (.int k t) = ((esOf (putK K k) (putT K ts k t)).toArray, tblOf (putK K k) led, false, false) := by
      unfold layNew
      rw [f1]
      dsimp only
      rw [hput]
      dsimp only
      rw [hes]
      unfold SetTable.orStandIn
      rw [if_pos hf', hf']
      rfl
    rw [hlay]
    dsimp only
    have hg := subs_len f3
    refine wpAny_bind (wpAny_pure ?_)
    refine wpAny_ite_true rfl ?_
    refine wpAny_bind ?_
    rw [hashByValue_scannable 8 rfl]
    refine wpAny_pure ?_
    simp only [show plainKind (Value.int (k : Int) t) = true from rfl, if_true]
    have htf : (tblOf (putK K k) led).tooFull = false := by
      unfold SetTable.tooFull SetTable.fill
      rw [decide_eq_false_iff_not]
      show ¬ ((putK K k).toArray.size + (#[] : Array Nat).size) * 5 ≥ 7 * 3
      simp; omega
    rw [htf]
    refine wpAny_bind (wpAny_storeSet_of hS rfl ?_ (by rw [List.size_toArray, esOf_len p2, sizeLine_eq]; omega))
    refine wpAny_ite_false rfl (wpAny_pure (wpAny_pure ?_))
    refine h _ (putK K k) (putT K ts k t) (ep + 1) _ ?_ f3 p2 (fun j => ?_) (Heap.SameBut.update s.heap S _)
    · have := Heap.get?_update_self (Obj.putSet (esOf (putK K k) (putT K ts k t)).toArray (tblOf (putK K k) led)) hS (by rw [putSet_of _ _ rfl]; rfl)
      rw [putSet_of _ _ rfl] at this
      exact this
    · unfold putK
      conv => rhs; rw [← List.takeWhile_append_dropWhile (p := (· < k)) (l := K)]
      simp only [List.mem_append, List.mem_cons]
      constructor
      · rintro (h | h | h)
        · exact .inl (.inl h)
        · exact .inr h
        · exact .inl (.inr h)
      · rintro ((h | h) | h)
        · exact .inl h
        · exact .inr (.inr h)
        · exact .inr (.inl h)
theorem setLoop {I l S : Addr} {items : Array Value} {ns : List Nat} {led : Bool} {R : Result → Shared → Prop} (hh : A.handled = none) (hlI : l ≠ I) (hlS : S ≠ l) (hIS : S ≠ I) (hit : ∀ (i : Nat) (v : Value), items[i]? = some v → ∃ (t : Tok) (k : Nat), v = Value.int ((k : Nat) : Int) t ∧ k < 4 ∧ ns[i]? = some k) (hsz : items.size = ns.length) :
    ∀ (m i : Nat) (s : Shared) (K : List Nat) (ts : List Tok) (ep : Nat), items.size - i = m → i ≤ items.size → s.heap.IsListIter I l i → s.heap.IsList l items → s.heap.get? S = some (setObj K ts ep led) → K ∈ subs → K.length = ts.length → (∀ j, j ∈ K ↔ j ∈ ns.take i) →
      (∀ s' K' ts' ep', (∀ b o, b ≠ S → b ≠ I → s.heap.get? b = some o → s'.heap.get? b = some o) → s'.gens = s.gens → s'.os = s.os → s'.heap.get? S = some (setObj K' ts' ep' led) → K' ∈ subs → K'.length = ts'.length → (∀ j, j ∈ K' ↔ j ∈ ns) → R (.ok (.ret .none)) s') →
      codeAny (model prog w) A (.builtin "set.update.loop" ⟨[.ref S, .ref I], []⟩) R s := by
  intro m
  induction m with
  | zero =>
    intro i s K ts ep hm hi h1 h2 h3 hK hl hmem hR
    have hin : i = items.size := by omega
    subst hin
    refine codeAny_builtin PyProof.Rows.F.entry_set_update_loop ?_
    rw [Around.under_plainId PyProof.Rows.F.plain_set_update_loop _]
    show wpAny _ A.in1 (pyNext (.ref I) >>= _) _ _ s
    refine wpAny_bind (wpAny_pyNext_list_end hh h1 h2 (by simp) fun h' he' => ?_)
    refine wpAny_pure (hR _ K ts ep (fun b o _ hb e => he' b o hb e) rfl rfl (he' _ _ hIS h3) hK hl fun j => ?_)
    rw [hmem j, hsz, List.take_length]
  | succ m ih =>
    intro i s K ts ep hm hi h1 h2 h3 hK hl hmem hR
    have hlt : i < items.size := by omega
    refine codeAny_builtin PyProof.Rows.F.entry_set_update_loop ?_
    rw [Around.under_plainId PyProof.Rows.F.plain_set_update_loop _]
    show wpAny _ A.in1 (pyNext (.ref I) >>= _) _ _ s
    obtain ⟨t, k, hv, hk, hn⟩ := hit i _ (Array.getElem?_eq_getElem hlt)
    refine wpAny_bind (wpAny_pyNext_list_item h1 h2 (Array.getElem?_eq_getElem hlt) fun h' h1' hs' => ?_)
    rw [hv]
    show wpAny _ A.in1 (holding [Value.int (k : Int) t] (setAdd S (.int (k : Int) t)) >>= _) _ _ _
    refine wpAny_bind (wpAny_holding ?_)
    unfold setAdd
    refine wpAny_holding ?_
    refine wpAny_bind ((intKind prog w).pyHash (k := (k : Int)) (intKind_is _ _ _ _) ?_)
    have e : (intKind prog w).hash (k : Int) = (k : Int) := hashInt_small hk
    rw [e]
    have h3' : h'.get? S = some (setObj K ts ep led) := hs'.extBut _ _ hIS h3
    refine addSmall (s := { s with heap := h', toks := s.toks + 1 }) h3' hK hl hk fun h2' K' ts' ep' b q1 q2 q3 q4 q5 => ?_
    refine wpAny_pure ⟨plainId_quiet PyProof.Rows.F.plain_set_update_loop _, ih (i + 1) _ K' ts' ep' (by omega) hlt (h1'.at fun o e => q5.extBut _ o (Ne.symm hIS) e) ((h2.extBut hs'.extBut hlI).extBut q5.extBut (Ne.symm hlS)) q1 q2 q3 (fun j => ?_) fun s' K2 ts2 ep2 r1 r2 r3 r4 r5 r6 r7 => ?_⟩
    · rw [q4, hmem, List.take_add_one, hn]
      simp
    · exact hR s' K2 ts2 ep2 (fun b o hb hb2 e => r1 b o hb hb2 (q5.extBut b o hb (hs'.extBut b o hb2 e))) r2 r3 r4 r5 r6 r7
end
end Mine
end
section
open PySem PySem.W PyProof.Rows
set_option linter.unusedVariables false
set_option maxRecDepth 100000


namespace Mine
/-! set(a list of small ints) -/
section
variable {prog : Program} {w : World} {A : Around} {E : Value → Shared → Prop} {s : Shared}
theorem setNew (a : Value) {Q₁ : Value → Shared → Prop} (h : Q₁ (.ref s.heap.objs.size) { s with heap := s.heap.push (setObj [] [] 0 (!byText w)) }) :
    codeAny (model prog w) A (.call (.builtin "set.__new__") ⟨[.type "set", a], []⟩) (wants Q₁ E) s := by
  refine codeAny_of_tree ?_
  show wpAny _ A.in1 (do checkBuiltinCall "set.__new__" ⟨[.type "set", a], []⟩; again (.builtin "set.__new__" ⟨[.type "set", a], []⟩)) _ _ s
  refine wpAny_bind (wpAny_of_eq (PySem.F.newCall_set_1 a) (wpAny_pure ⟨plainId_quiet PySem.F.plain_set_new _, codeAny_builtin PySem.F.entry_set_new ?_⟩))
  rw [Around.under_plainId PySem.F.plain_set_new _]
  unfold Builtin.«set.__new__» Builtin.Frozenset.newClass
  have hsub := sub_set_self
  obtain ⟨hp, g, d, tk, os⟩ := s
  dsimp only
  wp_walk
  refine wpAny_askSetting (wpAny_pure ?_)
  dsimp only
  simp only [newObj]
  refine wpAny_bind (wpAny_alloc (wpAny_pure ?_))
  exact wpAny_pure h
set_option maxHeartbeats 3200000 in
theorem callSetG {l : Addr} {Q : Value → Shared → Prop}
    (h : codeAny (model prog w) A.in1 (.call (.builtin "set.__init__") ⟨[.ref s.heap.objs.size, .ref l], []⟩) (wants (fun r s₂ => r = .none ∧ Q (.ref s.heap.objs.size) s₂) E) { s with heap := s.heap.push (setObj [] [] 0 (!byText w)) }) :
    wpAny (model prog w) A (call (.type "set") [.ref l]) Q E s := by
  obtain ⟨c, tl, hmro⟩ := PySem.F.called_set.mro
  have hmade := PySem.F.called_set.made
  have hsub := PySem.F.called_set.sub
  refine wpAny_call (codeAny_of_tree ?_)
  show wpAny _ _ (callAny (.type "set") _) _ _ _
  refine wpAny_pure ⟨Code.quiet_builtin _ (by decide +kernel), codeAny_builtin PySem.F.entry_type_call ?_⟩
  rw [Around.under_plain (weight_type_call_type "set" [.ref l] []) rfl]
  have h1 := PySem.F.called_set.notType
  have h2 := PySem.F.called_set.canCreate
  have hct := PySem.F.typeCall_set_1 (.ref l)
  unfold Builtin.«type.__call__»
  dsimp only
  refine wpAny_ite_false rfl ?_
  refine wpAny_ite_false (by rw [h2]; rfl) ?_
  rw [hct]
  refine wpAny_bind (wpAny_pure ?_)
  refine wpAny_bind (wpAny_of_eq hmro ?_)
  refine wpAny_ite_false rfl ?_
  refine wpAny_bind (wpAny_of_eq hmade ?_)
  dsimp only
  refine wpAny_bind (wpAny_pure ?_)
  refine wpAny_bind (wpAny_holding (wpAny_call ?_))
  refine codeAny_mono (setNew (.ref l) (E := E) (Q₁ := fun obj s₁ => obj = .ref s.heap.objs.size ∧ s₁ = { s with heap := s.heap.push (setObj [] [] 0 (!byText w)) }) ⟨rfl, rfl⟩) fun r s₁ hr => ?_
  cases r with
  | error e => exact hr
  | ok fl =>
    cases fl with
    | ret obj =>
      obtain ⟨rfl, rfl⟩ := hr
      have hS : (s.heap.push (setObj [] [] 0 (!byText w))).get? s.heap.objs.size = some (setObj [] [] 0 (!byText w)) := Heap.get?_push_size _ rfl
      have hT : Shared.TypeIs { s with heap := s.heap.push (setObj [] [] 0 (!byText w)) } (.ref s.heap.objs.size) "set" := ⟨_, hS, rfl⟩
      dsimp only
      refine wpAny_bind (wpAny_isInstance hT sub_set_self ?_)
      refine wpAny_ite_false rfl ?_
      refine wpAny_bind (wpAny_holding ?_)
      simp only [callSpecial?]
      refine wpAny_bind (wpAny_specialOf hT PySem.F.called_set.init.lookup ?_)
      simp only [PySem.F.called_set.init.bind]
      refine wpAny_holding (wpAny_bind (wpAny_pure (wpAny_bind (wpAny_call (codeAny_mono h fun r s₂ hr => ?_)))))
      cases r with
      | error e => exact hr
      | ok fl =>
        cases fl with
        | ret r =>
          obtain ⟨rfl, hq⟩ := hr
          refine wpAny_pure ?_
          dsimp only
          refine wpAny_ite_false rfl ?_
          exact wpAny_pure hq
        | _ => exact hr.elim
    | _ => exact hr.elim
theorem setInit {l S : Addr} {items : Array Value} {ns : List Nat} {Q : Value → Shared → Prop}
    (hh : A.handled = none) (hl : s.heap.IsList l items) (hi : ∀ (i : Nat) (v : Value), items[i]? = some v → ∃ (t : Tok) (k : Nat), v = Value.int ((k : Nat) : Int) t ∧ k < 4 ∧ ns[i]? = some k) (hsz : items.size = ns.length) {led : Bool} (hS : s.heap.get? S = some (setObj [] [] 0 led)) (hlS : l ≠ S)
    (h : ∀ s' K ts ep, s'.heap.get? S = some (setObj K ts ep led) → K ∈ subs → K.length = ts.length → (∀ j, j ∈ K ↔ j ∈ ns) → s'.gens = s.gens → s'.os = s.os →
      (∀ b o, b ≠ S → s.heap.get? b = some o → s'.heap.get? b = some o) → Q .none s') :
    codeAny (model prog w) A (.call (.builtin "set.__init__") ⟨[.ref S, .ref l], []⟩) (wants Q E) s := by
  have hT : s.TypeIs (.ref S) "set" := ⟨_, hS, rfl⟩
  have hTl := hl.typeIs
  refine codeAny_call_builtin PySem.F.called_set.init.plain PySem.F.entry_set_init (check_set_init_1 hT ?_)
  unfold Builtin.«set.__init__» noKeywords Builtin.Frozenset.updateFrom
  dsimp only
  refine wpAny_bind (wpAny_ite_true rfl (wpAny_pure ?_))
  refine wpAny_bind ?_
  unfold typeNameOfCut shownTypeOf
  refine wpAny_bind (wpAny_bind (wpAny_typeOf hT ?_))
  simp only [show (Value.type "set" == Value.type "builtin_function_or_method") = false by decide, Bool.false_eq_true, if_false]
  refine wpAny_pure ?_
  have e : typeNameCut 200 (.type "set") = pure "set" := by rw [show typeNameCut 200 (.type "set") = typeName (.type "set") from rfl]; unfold typeName; rw [find?_eq_fast]; kernel_rfl
  rw [e]
  refine wpAny_pure ?_
  refine wpAny_bind (m := checkCount "set" 0 1 _) (wpAny_pure ?_)
  refine wpAny_bind (m := Builtin.Frozenset.addrOf _) (wpAny_pure ?_)
  unfold setUsed
  refine wpAny_bind (wpAny_bind (wp_setState hS (by decide) rfl (wpAny_pure ?_)))
  refine wpAny_ite_false rfl ?_
  unfold Builtin.Frozenset.isAnySet
  refine wpAny_bind ?_
  refine wpAny_bind ?_
  unfold orM
  refine wpAny_bind (wpAny_isInstance hTl PySem.F.sub_list_set ?_)
  refine wpAny_isInstance hTl PySem.F.sub_list_frozenset ?_
  refine wpAny_ite_false rfl ?_
  refine wpAny_bind (wpAny_typeOf hTl ?_)
  refine wpAny_ite_false (by decide) ?_
  refine wpAny_bind (wpAny_pyIter_list hl ?_)
  have hlS1 : l < s.heap.objs.size := by obtain ⟨_, e, _⟩ := hl; exact Heap.lt_size e
  have hlt := Heap.lt_size hS
  have hI0 := Heap.get?_push_size s.heap (o := { cls := .type "list_iterator", data := .fields #[.ref l, .int 0 0] }) rfl
  refine wpAny_bind (wpAny_runValue ?_)
  refine setLoop (A := A.in1) (items := items) (ns := ns) (led := led) (by simp [hh]) (Nat.ne_of_lt hlS1) (Ne.symm hlS) (Nat.ne_of_lt hlt) hi hsz items.size 0 { s with heap := s.heap.push { cls := .type "list_iterator", data := .fields #[.ref l, .int 0 0] } } [] [] 0 (by omega) (Nat.zero_le _)
    ⟨_, hI0, rfl, rfl⟩ (hl.push _) (Heap.get?_push_of_some _ hS) (by decide) rfl (fun j => by simp) fun s' K ts ep q1 q2 q3 q4 q5 q6 q7 => ?_
  refine wpAny_pure ?_
  exact wpAny_pure (h s' K ts ep q4 q5 q6 q7 q2 q3 fun b o hb e => q1 b o hb (Nat.ne_of_lt (Heap.lt_size e)) (Heap.get?_push_of_some _ e))
theorem callSet {l : Addr} {items : Array Value} {ns : List Nat} {Q : Value → Shared → Prop}
    (hh : A.handled = none) (hl : s.heap.IsList l items) (hi : ∀ (i : Nat) (v : Value), items[i]? = some v → ∃ (t : Tok) (k : Nat), v = Value.int ((k : Nat) : Int) t ∧ k < 4 ∧ ns[i]? = some k) (hsz : items.size = ns.length)
    (h : ∀ s' K ts ep, s'.heap.get? s.heap.objs.size = some (setObj K ts ep (!byText w)) → K ∈ subs → K.length = ts.length → (∀ j, j ∈ K ↔ j ∈ ns) → s'.gens = s.gens → s'.os = s.os →
      (∀ b o, s.heap.get? b = some o → s'.heap.get? b = some o) → Q (.ref s.heap.objs.size) s') :
    wpAny (model prog w) A (call (.type "set") [.ref l]) Q E s := by
  have hlS1 : l < s.heap.objs.size := by obtain ⟨_, e, _⟩ := hl; exact Heap.lt_size e
  refine callSetG (setInit (by simp [hh]) (hl.push _) hi hsz (Heap.get?_push_size _ rfl) (Nat.ne_of_lt hlS1) fun s' K ts ep q1 q2 q3 q4 q5 q6 q7 => ⟨rfl, h s' K ts ep q1 q2 q3 q4 q5 q6 fun b o e => q7 b o (Nat.ne_of_lt (Heap.lt_size e)) (Heap.get?_push_of_some _ e)⟩)
end
end Mine
end
section
open PySem PySem.W PyProof.Rows
set_option linter.unusedVariables false
set_option maxRecDepth 100000
namespace Mine
/-! sorted(a small set, key=a function) -/
section
variable {B : Bs} {A : Around} {E : Value → Shared → Prop}
theorem Kp.then {mu : List Addr} {s s1 s2 : Shared} (x : Kp B [] s s1) (y : Kp B mu s1 s2) (hm : ∀ a ∈ mu, s.heap.get? a = none) : Kp B [] s s2 :=
  ⟨fun b o hb ht e => y.keep b o (fun h => by rw [hm b h] at e; cases e) ht (x.keep b o hb ht e), fun g => y.gd (x.gd g), fun b h => y.alive b (x.alive b h), y.gens.trans x.gens, y.os.trans x.os⟩
theorem Kp.upd {s0 s : Shared} {a : Addr} {xs : Array Value} {n : Nat} (k0 : Kp B [] s0 s) (ha0 : s0.heap.get? a = none) (haB : B.hB.get? a = none) (ho : s.heap.get? a = some (seqObj "list" xs n)) (f : Array Value → Array Value) : Kp B [] s0 { s with heap := s.heap.update a (Obj.mapSeq f) } := by
  refine k0.then (mu := [a]) ?_ (fun b hb => by rw [List.mem_singleton.mp hb]; exact ha0)
  have h1 := get?_update_seq ho f
  exact Kp.but (tk := s.toks) (.head _) haB ho (notcode_seq rfl) (fun b o hb e => (Heap.SameBut.update s.heap a _).extBut b o hb e) (by rw [h1]; rfl)
theorem seq_kept {s s' : Shared} (g : Gd B s.heap) (k : Kp B [] s s') {a : Addr} {xs : Array Value} {n : Nat} (ho : s.heap.get? a = some (seqObj "list" xs n)) : s'.heap.get? a = some (seqObj "list" xs n) :=
  k.keep a _ (fun h => nomatch h) (fun t ht => notTab (g.tab t ht) ho (.inl ⟨_, _, rfl⟩)) ho
theorem upd_ne {h : Heap} {a b : Addr} {o : Obj} (f : Obj → Obj) (hne : b ≠ a) (e : h.get? b = some o) : (h.update a f).get? b = some o := (Heap.SameBut.update h a f).extBut b o hne e
section
variable {s0 s : Shared} {a kS : Addr} {vs : List Value} {kz : List Int} {keys : Array Value} {e e1 : Nat} {P : PySem.Fin → Shared → Prop}
theorem sortTail {st : SortSt} (k0 : Kp B [] s0 s) (ha0 : s0.heap.get? a = none) (haB : B.hB.get? a = none) (hk0 : s0.heap.get? kS = none) (hkB : B.hB.get? kS = none) (nk : s.heap.get? kS = some (seqObj "list" keys e)) (na : s.heap.get? a = some (seqObj "list" #[] e1)) (hka : kS ≠ a)
    (hk : IntsAre keys.toList kz) (hlen : kz.length = vs.length) (h64 : vs.length < 64) (hp : (arrOf st).Perm (keys.zip vs.toArray)) (hs : SortedTo (arrOf st) (arrOf st).size) (hfl : failedOf st = none)
    (h : ∀ s' out c, Kp B [] s0 s' → s'.heap.get? a = some (seqObj "list" out c) → KskOut false kz vs out.toList → P (.done (.ret .none)) s') :
    wpAny B.M A (ksk_tail a false e1 (.ref kS) st) P E s := by
  have hsz : keys.size = vs.length := by
    have h1 := hk.length
    rw [Array.length_toList] at h1
    omega
  have hsz2 : (arrOf st).size = vs.length := by rw [hp.size_eq, Array.size_zip, hsz, List.size_toArray, Nat.min_self]
  have k1 := k0.upd hk0 hkB nk (fun _ => #[])
  have na1 : (s.heap.update kS (Obj.mapSeq fun _ => (#[] : Array Value))).get? a = some (seqObj "list" #[] e1) := upd_ne _ hka.symm na
  unfold ksk_tail
  try dsimp only
  refine wpAny_bind (listUpdate_at nk rfl ?_ (by rw [hsz, sizeLine_eq]; omega) (Nat.zero_le _))
  refine wpAny_bind (wpAny_letGo ?_)
  refine wpAny_bind (seqEpoch_at na1 rfl ?_)
  refine wpAny_bind (listUpdate_at na1 rfl ?_ (Nat.zero_le _) (by simp only [Bool.false_eq_true, if_false, Array.size_map]; rw [hsz2, sizeLine_eq]; omega))
  rw [hfl]
  simp only [bne_self_eq_false, Bool.false_eq_true, if_false]
  exact wpAny_pure (h _ _ _ (k1.upd (s := { s with heap := s.heap.update kS (Obj.mapSeq fun _ => (#[] : Array Value)) }) ha0 haB na1 _) (get?_update_seq na1 _) (by simpa using ksk_out (b := false) hk hp hs))
theorem sortEnd (k0 : Kp B [] s0 s) (ha0 : s0.heap.get? a = none) (haB : B.hB.get? a = none) (hk0 : s0.heap.get? kS = none) (hkB : B.hB.get? kS = none) (nk : s.heap.get? kS = some (seqObj "list" keys e)) (na : s.heap.get? a = some (seqObj "list" #[] e1)) (hka : kS ≠ a)
    (hk : IntsAre keys.toList kz) (hlen : kz.length = vs.length) (h64 : vs.length < 64)
    (h : ∀ s' out c, Kp B [] s0 s' → s'.heap.get? a = some (seqObj "list" out c) → KskOut false kz vs out.toList → P (.done (.ret .none)) s') :
    wpAny B.M A (ksk_end a false vs.toArray e1 (.ref kS) keys) P E s := by
  have hsz : keys.size = vs.length := by
    have h1 := hk.length
    rw [Array.length_toList] at h1
    omega
  have hzs : (keys.zip vs.toArray).size = vs.length := by rw [Array.size_zip, hsz, List.size_toArray, Nat.min_self]
  unfold ksk_end
  simp only [Bool.false_eq_true, if_false]
  by_cases h2 : vs.toArray.size < 2
  · rw [if_pos h2, if_pos h2]
    refine wpAny_bind (wpAny_pure ?_)
    rw [StateT.run_pure]
    refine wpAny_bind (wpAny_pure ?_)
    try dsimp only
    refine sortTail (st := SortSt.mk' general' (keys.zip vs.toArray) #[] 7 none) k0 ha0 haB hk0 hkB nk na hka hk hlen h64 (Array.Perm.refl _) ?_ rfl h
    intro i j hij hj
    have hj2 : j < (keys.zip vs.toArray).size := hj
    rw [hzs] at hj2
    rw [List.size_toArray] at h2
    have : i = j := by omega
    subst this
    exact Int.le_refl _
  · rw [if_neg h2, if_neg h2]
    rw [List.size_toArray] at h2
    rw [ksk_kind hk (by rw [hsz]; omega)]
    refine wpAny_bind (wpAny_pure ?_)
    refine wpAny_bind (wpAny_mono (wpS_sortRuns (a₀ := keys.zip vs.toArray) (st := SortSt.mk' oneType' (keys.zip vs.toArray) #[] 7 none)
      (Q := fun _ st' => (arrOf st').Perm (keys.zip vs.toArray) ∧ failedOf st' = none ∧ SortedTo (arrOf st') (keys.zip vs.toArray).size)
      (ksk_intKeys hk) ⟨Array.Perm.refl _, rfl, rfl, rfl⟩ (by rw [hzs]; omega) (by rw [hzs]; exact h64) fun st' a1 a2 a3 => ⟨a1, a2, a3⟩) ?_ fun _ _ e => e)
    rintro ⟨⟨⟩, st'⟩ s' ⟨rfl, hp, hf, hs⟩
    try dsimp only
    exact sortTail k0 ha0 haB hk0 hkB nk na hka hk hlen h64 hp (by rw [hp.size_eq]; exact hs) hf h
theorem sortRest {f : Addr} {k : Nat} {xs : List Int} {key : Int → Int} (rm : Rm k A) (g0 : Gd B s0.heap) (k0 : Kp B [] s0 s) (ha0 : s0.heap.get? a = none) (haB : B.hB.get? a = none) (hk0 : s0.heap.get? kS = none) (hkB : B.hB.get? kS = none) (nk : s.heap.get? kS = some (seqObj "list" #[] 0)) (na : s.heap.get? a = some (seqObj "list" #[] e1)) (hka : kS ≠ a)
    (hi : IntsAre vs xs) (h64 : xs.length < 64) (hkey : ∀ x ∈ xs, Spec0 B k f [.int x] (.int (key x)))
    (h : ∀ s' out c, Kp B [] s0 s' → s'.heap.get? a = some (seqObj "list" out c) → KskOut false (xs.map key) vs out.toList → P (.done (.ret .none)) s') :
    wpAny B.M A (ksk_rest a (.ref f) false vs.toArray e1 (.ref kS)) P E s := by
  have hvl := hi.length
  unfold ksk_rest
  refine wpAny_bind (wpAny_rule ?_)
  first
    | rw [List.forIn_toArray]
    | (rw [← Array.forIn_toList]; simp only [List.toList_toArray])
    | rw [← Array.forIn_toList]
  refine wpAny_bind (ksk_fold (fun i s' => ∃ kA e, Kp B [] s0 s' ∧ s'.heap.get? kS = some (seqObj "list" kA e) ∧ s'.heap.get? a = some (seqObj "list" #[] e1) ∧ IntsAre kA.toList ((xs.map key).take i)) vs 0 s
    ⟨#[], 0, k0, nk, na, by simpa using IntsAre.nil⟩ ?step ?done)
  case step =>
    rintro j x s' hx ⟨kA, e, k1, nk1, na1, hk⟩
    simp only [Nat.zero_add] at hk ⊢
    have hj : j < vs.length := (List.getElem?_eq_some_iff.mp hx).1
    obtain ⟨y, hy⟩ : ∃ y, xs[j]? = some y := ⟨_, List.getElem?_eq_getElem (by omega)⟩
    obtain ⟨t, ht⟩ := hi.get j y hy
    rw [ht] at hx
    cases hx
    have hz : kA.size ≤ vs.length := by
      have h1 := hk.length
      rw [Array.length_toList, List.length_take, List.length_map] at h1
      omega
    have g1 := k1.gd g0
    refine wpAny_bind (wpAny_attempt (wpAny_call (codeAny_mono (hkey y (List.mem_of_getElem? hy) A s' [.int y t] rm g1 (.cons (.int _ _) .nil)) fun r s2 ⟨v, hr, k2, r2⟩ => ?_)))
    subst hr
    obtain ⟨t2, rfl⟩ := r2.int_inv
    have nk2 := seq_kept g1 k2 nk1
    have na2 := seq_kept g1 k2 na1
    dsimp only
    have ek : (xs.map key).take (j + 1) = (xs.map key).take j ++ [key y] := by rw [List.take_add_one, List.getElem?_map, hy]; simp
    have ea : (kA.push (Value.int (key y) t2)).toList = kA.toList ++ [Value.int (key y) t2] := by simp
    refine wpAny_bind (listUpdate_at nk2 rfl ?_ (by rw [sizeLine_eq]; omega) (Nat.le_trans (Nat.le_of_eq (Array.size_push ..)) (by rw [sizeLine_eq]; omega)))
    exact wpAny_pure ⟨rfl, _, _, (k1.trans k2).upd hk0 hkB nk2 _, get?_update_seq nk2 _, upd_ne _ hka.symm na2, by rw [ea, ek]; exact ksk_snoc hk⟩
  case done =>
    rintro s' ⟨kA, e, k1, nk1, na1, hk⟩
    have hk' : IntsAre kA.toList (xs.map key) := by
      have e3 : (xs.map key).take (0 + vs.length) = xs.map key := List.take_of_length_le (by rw [List.length_map]; omega)
      rw [e3] at hk
      exact hk
    try dsimp only
    refine wpAny_bind (listItems_at nk1 rfl ?_)
    exact sortEnd k1 ha0 haB hk0 hkB nk1 na1 hka hk' (by rw [List.length_map]; omega) (by omega) h
end
theorem sortedSet {s : Shared} {S f : Addr} {K : List Nat} {ts : List Tok} {ep : Nat} {led : Bool} {k : Nat} {key : Int → Int} {Q : Value → Shared → Prop} (rm : Rm (k + 2) A) (g : Gd B s.heap) (hS : s.heap.get? S = some (setObj K ts ep led)) (hK : K ∈ subs) (hl : K.length = ts.length) (hled : byText B.w = false → led = true)
    (hkey : ∀ i : Nat, i ∈ K → Spec0 B k f [.int i] (.int (key i)))
    (h : ∀ D s' ns vs, Kp B [] s s' → s.heap.get? D = none → B.hB.get? D = none → s'.heap.PlainList D vs.toArray → IntsAre vs ns → ns.Perm (K.map fun (i : Nat) => (i : Int)) → ns.Pairwise (fun x y => key x ≤ key y) → Q (.ref D) s') :
    wpAny B.M A (call (.builtin "sorted") [.ref S] [(Str.ofString "key", .ref f)]) Q E s := by
  have h4 := subs_len hK
  refine call_function_entry_kw kind_sorted plain_sorted entry_sorted (ksk_s1 _ _) ?_
  unfold Builtin.«sorted»
  refine wpAny_bind (m := checkCount "sorted" 1 1 _) (wpAny_pure ?_)
  refine wpAny_bind (collectSet (by simp [rm.handled]) hS hK hl hled fun s1 vs hk hg ho hvs => ?_)
  have hsz : vs.length = K.length := by rw [hvs, Array.length_toList, Array.size_map, ordOf_size]; simp [esOf_len hl]
  have k1 : Kp B [] s s1 := .ofKeep hk hg ho
  have g1 := k1.gd g
  refine wpAny_bind (wpAny_newList ?_ (by rw [hsz, sizeLine_eq]; omega))
  have hvp : vs.Perm ((esOf K ts).map (·.2)) := by
    rw [hvs, Array.toList_map]
    exact (ordOf_perm B.w S ep _).map _
  have hints : ∀ {K : List Nat} {ts : List Tok}, K.length = ts.length → IntsAre ((esOf K ts).map (·.2)) (K.map fun (i : Nat) => (i : Int)) := by
    intro K
    induction K with
    | nil => intro ts _; exact .nil
    | cons a K ih =>
      intro ts h
      cases ts with
      | nil => simp at h
      | cons t ts => exact .cons _ _ (ih (by simpa using h))
  have hI0 := hints hl
  have hI : IntsAre vs (vs.map numOf) := intsAre_map _ fun v hv => hI0.all _ (hvp.mem_iff.mp hv)
  have hP : (vs.map numOf).Perm (K.map fun (i : Nat) => (i : Int)) := by
    have := hvp.map numOf
    rwa [hI0.nums] at this
  have hoL : (s1.heap.push (seqObj "list" vs.toArray 0)).get? s1.heap.objs.size = some (seqObj "list" vs.toArray 0) := Heap.get?_push_size _ rfl
  have hDs : s.heap.get? s1.heap.objs.size = none := (freshI g k1).1
  have hDB : B.hB.get? s1.heap.objs.size = none := (freshI g k1).2
  have k2 : Kp B [] s { s1 with heap := s1.heap.push (seqObj "list" vs.toArray 0) } := k1.trans (.ofKeep (fun b o e => Heap.get?_push_of_some _ e) rfl rfl)
  refine wpAny_bind (wpAny_holding (wpAny_call_entry_kw slot_list_sort ⟨_, hoL, rfl⟩ entry_list_sort ?body (ksk_l1 _ _)))
  show wpAny _ _ (Builtin.«list.sort» ⟨[.ref s1.heap.objs.size], [(Str.ofString "key", .ref f)]⟩) _ _ { s1 with heap := s1.heap.push (seqObj "list" vs.toArray 0) }
  rw [ksk_t1]
  unfold ksk_tree
  refine wpAny_bind (listItems_at hoL rfl ?_)
  refine wpAny_bind (listUpdate_at hoL rfl ?_ (by rw [List.size_toArray, hsz, sizeLine_eq]; omega) (Nat.zero_le _))
  have ho1 := get?_update_seq hoL (fun _ => (#[] : Array Value))
  have k3 := k2.upd hDs hDB hoL (fun _ => #[])
  refine wpAny_bind (seqEpoch_at ho1 rfl ?_)
  obtain ⟨e1, he1⟩ : ∃ e1, (if (#[] : Array Value).size == vs.toArray.size then 0 else 0 + 1) = e1 := ⟨_, rfl⟩
  rw [he1] at ho1 ⊢
  obtain ⟨s3, hs3⟩ : ∃ s3 : Shared, s3 = { s1 with heap := (s1.heap.push (seqObj "list" vs.toArray 0)).update s1.heap.objs.size (Obj.mapSeq fun _ => (#[] : Array Value)) } := ⟨_, rfl⟩
  have ho3 : s3.heap.get? s1.heap.objs.size = some (seqObj "list" #[] e1) := by rw [hs3]; exact ho1
  have k3' : Kp B [] s s3 := by rw [hs3]; exact k3
  show wpAny _ _ _ _ _ { s1 with heap := (s1.heap.push (seqObj "list" vs.toArray 0)).update s1.heap.objs.size (Obj.mapSeq fun _ => (#[] : Array Value)) }
  rw [← hs3]
  refine wpAny_bind (wpAny_newTuple ?_ (by show vs.length ≤ _; rw [hsz, sizeLine_eq]; omega))
  refine wpAny_bind (wpAny_newList ?_ (Nat.zero_le _))
  refine wpAny_holding ?_
  have k4 : Kp B [] s { s3 with heap := s3.heap.push (seqObj "tuple" vs.toArray 0) } := k3'.trans (.ofKeep (fun b o e => Heap.get?_push_of_some _ e) rfl rfl)
  have k5 : Kp B [] s { s3 with heap := (s3.heap.push (seqObj "tuple" vs.toArray 0)).push (seqObj "list" #[] 0) } := k4.trans (s' := { s3 with heap := s3.heap.push (seqObj "tuple" vs.toArray 0) }) (.ofKeep (fun b o e => Heap.get?_push_of_some _ e) rfl rfl)
  have hkS := freshI g k4
  have hlt := Heap.lt_size ho3
  have hsz4 : (s3.heap.push (seqObj "tuple" vs.toArray 0)).objs.size = s3.heap.objs.size + 1 := size_push' _ _
  refine sortRest (key := key) (s0 := s) (s := { s3 with heap := (s3.heap.push (seqObj "tuple" vs.toArray 0)).push (seqObj "list" #[] 0) }) (kS := (s3.heap.push (seqObj "tuple" vs.toArray 0)).objs.size) rm.in1.in1 g k5 hDs hDB hkS.1 hkS.2 (Heap.get?_push_size _ rfl) (Heap.get?_push_of_some _ (Heap.get?_push_of_some _ ho3)) (by rw [hsz4]; exact Nat.ne_of_gt (Nat.lt_succ_of_lt hlt)) hI (by rw [List.length_map, hsz]; omega) (fun x hx => ?_) fun s' out c k6 ho6 hout => ?_
  · obtain ⟨i, hi, rfl⟩ := List.mem_map.mp (hP.mem_iff.mp hx)
    exact hkey i hi
  · obtain ⟨ps, p1, p2, p3⟩ := hout
    refine ⟨_, rfl, wpAny_pure ⟨_, rfl, ?_⟩⟩
    have hrel : ∀ p, p ∈ ((vs.map numOf).map key).zip vs → p.1 = key (numOf p.2) ∧ p.2 ∈ vs := by
      rw [List.map_map, List.zip_map_left]
      intro p hp
      obtain ⟨⟨u, v⟩, hq, rfl⟩ := List.mem_map.mp hp
      have h1 : u = v ∧ u ∈ vs := mem_zip_self hq
      refine ⟨?_, ?_⟩
      · show key (numOf u) = key (numOf v)
        rw [h1.1]
      · show v ∈ vs
        rw [← h1.1]
        exact h1.2
    have hov : out.toList.Perm vs := by
      rw [p2]
      have := p1.map Prod.snd
      rwa [List.map_snd_zip (by simp)] at this
    refine h _ s' (out.toList.map numOf) out.toList k6 hDs hDB ⟨c, ho6⟩ (intsAre_map _ fun v hv => hI.all _ (hov.mem_iff.mp hv)) ((hov.map numOf).trans hP) ?_
    rw [List.pairwise_map, p2, List.pairwise_map]
    refine p3.imp_of_mem fun {p q} hp' hq' hr => ?_
    rw [← (hrel p (p1.mem_iff.mp hp')).1, ← (hrel q (p1.mem_iff.mp hq')).1]
    simpa using hr
end
end Mine
end
section
open PySem PySem.W PyProof.Rows
set_option linter.unusedVariables false
set_option maxRecDepth 100000
namespace Mine
/-! sorted(set(before), key=lambda k: before.index(k)) -/
noncomputable def uniq : List Int → List Int
  | [] => []
  | a :: l => a :: (uniq l).filter (fun x => x != a)
theorem mem_uniq : ∀ {l : List Int} {x : Int}, x ∈ uniq l ↔ x ∈ l
  | [], x => by simp [uniq]
  | a :: l, x => by
    simp only [uniq, List.mem_cons, List.mem_filter, mem_uniq (l := l), bne_iff_ne]
    constructor
    · rintro (h | ⟨h, _⟩)
      · exact .inl h
      · exact .inr h
    · intro h
      by_cases q : x = a
      · exact .inl q
      · exact .inr ⟨h.resolve_left q, q⟩
theorem uniq_nodup : ∀ l : List Int, (uniq l).Nodup
  | [] => .nil
  | a :: l => by
    unfold uniq
    exact List.nodup_cons.mpr ⟨by simp, (uniq_nodup l).filter _⟩
theorem uniq_sorted : ∀ l : List Int, (uniq l).Pairwise (fun x y => (l.idxOf x : Int) ≤ (l.idxOf y : Int))
  | [] => .nil
  | a :: l => by
    unfold uniq
    refine List.pairwise_cons.mpr ⟨fun y _ => by simp, ?_⟩
    refine ((uniq_sorted l).filter _).imp_of_mem fun {x y} hx hy h => ?_
    have h1 : x ≠ a := by simpa using (List.mem_filter.mp hx).2
    have h2 : y ≠ a := by simpa using (List.mem_filter.mp hy).2
    rw [List.idxOf_cons, List.idxOf_cons]
    have q1 : (a == x) = false := by simpa using (fun e : a = x => h1 e.symm)
    have q2 : (a == y) = false := by simpa using (fun e : a = y => h2 e.symm)
    simp only [q1, q2, cond_false]
    omega
theorem sort_uniq {l ns : List Int} (hm : ∀ x, x ∈ ns ↔ x ∈ l) (hn : ns.Nodup) (hs : ns.Pairwise (fun x y => (l.idxOf x : Int) ≤ (l.idxOf y : Int))) : ns = uniq l := by
  have hp : ns.Perm (uniq l) := (List.perm_ext_iff_of_nodup hn (uniq_nodup l)).mpr fun x => by rw [hm, mem_uniq]
  refine List.Perm.eq_of_pairwise (le := fun x y => (l.idxOf x : Int) ≤ (l.idxOf y : Int)) (fun a b ha hb h1 h2 => ?_) hs (uniq_sorted l) hp
  have e : l.idxOf a = l.idxOf b := by omega
  have ha' := (hm a).mp ha
  have hb' := mem_uniq.mp hb
  have q1 : l[l.idxOf a]'(List.idxOf_lt_length_of_mem ha') = a := List.getElem_idxOf _
  have q2 : l[l.idxOf b]'(List.idxOf_lt_length_of_mem hb') = b := List.getElem_idxOf _
  rw [← q1, ← q2]
  simp only [e]
theorem uniq_len (l : List Int) : (uniq l).length ≤ l.length := by
  induction l with
  | nil => simp [uniq]
  | cons a l ih =>
    have := List.length_filter_le (fun x => x != a) (uniq l)
    simp only [uniq, List.length_cons]; omega
section
variable {B : Bs}
theorem setObj_at {h : Heap} (g : Gd B h) {S : Addr} {K : List Nat} {ts : List Tok} {ep : Nat} {led : Bool} (hS : h.get? S = some (setObj K ts ep led)) : ∀ t ∈ B.tabs, S ≠ t.P := fun t ht q => by
  obtain ⟨ps, h1, _⟩ := g.tab t ht
  rw [← q, hS] at h1; cases h1
theorem Ev.sortedSet (H : OnT B) {env : Env} {ρ : Rho} {k : Nat} {id id2 : Str} {fp fp2 : Pos} {b : Expr} {kpos pos pos2 lpos : Pos} {params : Arguments} {body : Expr} {scope : Scope} {clos : List (Str × Addr)} {t : Tab} {x : Str} {ns : List Int} {ρc : Rho}
    (hf : EvV B (k + 3) env ρ (.Name id fp) (.builtin "sorted")) (hf2 : EvV B (k + 3) env ρ (.Name id2 fp2) (.type "set")) (n1 : notStar b = true) (h1 : Ev B (k + 3) env ρ b (.list (ns.map PyData.int))) (hns : ∀ x ∈ ns, 0 ≤ x ∧ x < 4) (l : LamOk B env ρ params body scope lpos clos t x ρc)
    (hb : ∀ (B' : Bs), On B' → ∀ pm c ctv L f, ∀ i : Int, i ∈ ns → Ev B' k (lamEnv (lamFd env params body scope clos pm c ctv) L f) ((x, .val (.int i)) :: ρc) body (.int (ns.idxOf i : Nat))) :
    Ev B (k + 3) env ρ (.Call (.Name id fp) [.Call (.Name id2 fp2) [b] [] pos2] [⟨some "key", .Lambda params body scope lpos, kpos⟩] pos) (.list ((uniq ns).map PyData.int)) := fun A Xc s rm F => by
  rw [arm_eval_Call_Name']
  refine wpAny_bind (hf.bind rm F fun s1 k1 F1 => ?_)
  refine callWith_kw ?_ 
  refine wpAny_items_cons ?_
  rw [arm_eval_Call_Name']
  refine wpAny_bind (hf2.bind rm F1 fun s2 k2 F2 => ?_)
  have hst : starEach [b] env = (false, eval b env) :: starEach [] env := starEach_cons n1
  rw [hst]
  show wpAny _ _ (callWith pos2 (.type "set") [] ((false, _) :: backTo pos2 (starEach [] env)) []) _ _ s2
  refine callWith_bare (.ty "set") rfl ?_
  have hsp : wpAny B.M A (spliced (backTo pos2 (starEach [b] env))) (fun vs s' => Kp B [] s2 s' ∧ Reps B (xs env Xc ρ) s'.heap vs [.list (ns.map PyData.int)]) (fun _ _ => False) s2 :=
    (show Evs B (k + 3) env ρ [b] [.list (ns.map PyData.int)] from Evs.cons h1 Evs.nil (starEach_cons n1)) A Xc s2 pos2 rm F2
  rw [hst] at hsp
  refine wpAny_mono hsp (fun vs s3 ⟨k3, r3⟩ => ?_) fun _ _ h => h.elim
  have F3 := F2.kp k3
  cases r3 with | cons r3 rn => cases rn with | nil =>
  obtain ⟨la, vs, rfl, hpl, _, hr⟩ := r3.list_inv
  have hvl := hr.length
  rw [List.length_map] at hvl
  refine callSet (items := vs.toArray) (ns := ns.map Int.toNat) rm.handled hpl.isList (fun i v e => ?_) (by simp [hvl]) fun s4 K ts ep q1 q2 q3 q4 q5 q6 q7 => ?_
  · obtain ⟨t, ht⟩ := hr.ints i v (by simpa using e)
    have hi : i < ns.length := by
      have := (Array.getElem?_eq_some_iff.mp e).1
      simp at this; omega
    have hg : ns.getD i 0 = ns[i] := by simp [List.getD, hi]
    have h4 := hns ns[i] (List.getElem_mem hi)
    refine ⟨t, ns[i].toNat, ?_, by omega, by simp [hi]⟩
    rw [ht, hg, Int.toNat_of_nonneg h4.1]
  have k4 : Kp B [] s3 s4 := .ofKeep q7 q5 q6
  have F4 := F3.kp k4
  refine wpAny_items_nil ?_
  refine kwAll_cons (wpAny_mono (lam_make F4 l.ht (H.inj l.ht) l.hcode l.hpos l.hq l.hcl l.hdef (Q := fun v s5 => ∃ f c' ctv, v = .ref f ∧ Kp B [] s4 s5 ∧ s4.heap.get? f = Option.none ∧ s5.heap.get? f = some (kla_obj "<lambda>" (env.qual ++ "<lambda>") params body scope clos ((B.mg "__name__").getD .none) c' ctv) ∧ s5.heap.CodeRec (.ref c') (env.qual ++ "<lambda>")) fun f c' ctv s5 k5 hf0 hf hrec => ⟨f, c', ctv, rfl, k5, hf0, hf, hrec⟩) ?_ fun _ _ h => h.elim)
  rintro v s5 ⟨f, c', ctv, rfl, k5, hf0, hf, hrec⟩
  refine kwAll_nil ?_
  have F5 := F4.kp k5
  have H' : On (B.at s5.heap F5.g) := H.toOn.at F5.g
  have q1' : s5.heap.get? s3.heap.objs.size = some (setObj K ts ep (!byText B.w)) := k5.keep _ _ (fun h => nomatch h) (setObj_at F4.g q1) q1
  have hmem : ∀ i : Nat, i ∈ K → (i : Int) ∈ ns := fun i hi => by
    obtain ⟨y, hy, e⟩ := List.mem_map.mp ((q4 i).mp hi)
    have h4 := hns y hy
    rw [← e, Int.toNat_of_nonneg h4.1]; exact hy
  refine Mine.sortedSet (B := B.at s5.heap F5.g) (k := k + 1) (key := fun x => (ns.idxOf x : Nat)) rm (B.at_gd F5.g) q1' q2 q3 (fun h => by
    have h : byText B.w = false := h
    rw [h]; rfl) (fun i hi => l.spec0 F4 k5 hf0 hf hrec F5.g (d0 := .int i) fun L => hb _ H' _ _ _ L f i (hmem i hi)) fun D s6 ns' vs' k6 hD hDB hpl' hI hP hS => ?_
  have k6' := k6.back F5.g (B.at_gd F5.g)
  have hu : ns' = uniq ns := by
    refine sort_uniq (fun x => ?_) (hP.nodup_iff.mpr ?_) hS
    · rw [hP.mem_iff]
      constructor
      · intro h
        obtain ⟨i, hi, rfl⟩ := List.mem_map.mp h
        exact hmem i hi
      · intro h
        have h4 := hns x h
        exact List.mem_map.mpr ⟨x.toNat, (q4 _).mpr (List.mem_map_of_mem h), Int.toNat_of_nonneg h4.1⟩
    · have hnd := subs_nd q2
      unfold List.Nodup at hnd ⊢
      rw [List.pairwise_map]
      exact hnd.imp fun h e => h (by omega)
  subst hu
  refine ⟨((((k1.trans k2).trans k3).trans k4).trans k5).trans k6', .list hpl' (fun hm => ?_) ?_⟩
  · have := F5.alive D hm
    rw [hD] at this; cases this
  · have hints : ∀ {vs : List Value} {ns : List Int}, IntsAre vs ns → Reps B (xs env Xc ρ) s6.heap vs (ns.map PyData.int) := by
      intro vs ns h
      induction h with
      | nil => exact .nil
      | cons n t _ ih => exact .cons (.int _ _) ih
    exact hints hI
end
end Mine
end
section
open PySem PySem.W PyProof.Rows
set_option linter.unusedVariables false
set_option maxRecDepth 100000
namespace Mine
/-! _law_entry -/
section
variable {B : Bs} {env : Env} {ρ : Rho} {k : Nat}
theorem CFr.one {scope : Scope} {n : Str} {c : Addr} {d : PyData} (hk : scope.kind = .function) (h1 : (n, c) ∈ env.cells) (h2 : (relabel scope env).names.lookup n = some .cell) (h3 : env.kindOf n = some .cell) (h4 : ρ.lookup n = some (.val d)) (h5 : ([(n, c)] : List (Str × Addr)).lookup n = env.cells.lookup n) : CFr env ρ scope [(n, c)] [(n, .val d)] := by
  refine ⟨hk, fun p hp => ?_, fun p hp => ?_⟩
  · rw [List.mem_singleton.mp hp]; exact h1
  · rw [List.mem_singleton.mp hp]; exact ⟨d, rfl, h2, h3, h4, h5⟩
theorem CFr.two {scope : Scope} {n m : Str} {c c' : Addr} {d d' : PyData} (hk : scope.kind = .function) (h1 : (n, c) ∈ env.cells) (h2 : (relabel scope env).names.lookup n = some .cell) (h3 : env.kindOf n = some .cell) (h4 : ρ.lookup n = some (.val d)) (h5 : ([(n, c), (m, c')] : List (Str × Addr)).lookup n = env.cells.lookup n)
    (g1 : (m, c') ∈ env.cells) (g2 : (relabel scope env).names.lookup m = some .cell) (g3 : env.kindOf m = some .cell) (g4 : ρ.lookup m = some (.val d')) (g5 : ([(n, c), (m, c')] : List (Str × Addr)).lookup m = env.cells.lookup m) : CFr env ρ scope [(n, c), (m, c')] [(n, .val d), (m, .val d')] := by
  refine ⟨hk, fun p hp => ?_, fun p hp => ?_⟩
  · rcases List.mem_cons.mp hp with rfl | hp
    · exact h1
    · rw [List.mem_singleton.mp hp]; exact g1
  · rcases List.mem_cons.mp hp with rfl | hp
    · exact ⟨d, rfl, h2, h3, h4, h5⟩
    · rw [List.mem_singleton.mp hp]; exact ⟨d', rfl, g2, g3, g4, g5⟩
theorem filterMap_ifs {α β : Type} (f : α → β) (b : α → Bool) (l : List α) : l.filterMap (fun x => if b x = true then some (f x) else none) = (l.filter b).map f := by
  induction l with
  | nil => rfl
  | cons a r ih =>
    by_cases h : b a = true
    · simp [h, ih]
    · simp [h, ih]
end
structure EntOk (ps : List Pc) (js : List Jn) (names : List Str) : Prop where
  plen : ps.length ≤ 900
  jlen : js.length ≤ 900
  pb : ∀ p ∈ ps, 0 ≤ p.2.1 ∧ p.2.1 ≤ p.2.2.1 ∧ p.2.2.1 ≤ 1000
  jb : ∀ j ∈ js, 0 ≤ j.1 ∧ j.1 < 4
  nl : names.length = 4
noncomputable def jat (js : List Jn) (i : Nat) : Int := (js.getD i (0, 0)).1
noncomputable def mineOf (ps : List Pc) (w : Int) : List Pc := ps.filter (fun p => p.1 == w)
noncomputable def beforeOf (js : List Jn) (w : Int) : List Int := ((List.range (js.length - 1)).filter (fun i => jat js (i + 1) == w)).map fun i => jat js i
noncomputable def callersOf (names : List Str) (bf : List Int) : List (Str × Int) := (uniq bf).map fun k => (names.getD k.toNat "", ((bf.count k : Nat) : Int))
noncomputable def callsOf (ms : List Pc) : Int := (ms.map fun p => p.2.2.1 - p.2.1).sum
noncomputable def timesOf (ms : List Pc) : Int := (ms.map fun p => (p.2.2.1 - p.2.1) * p.2.2.2).sum
noncomputable def spotsOf (ms : List Pc) : Int := (ms.map fun p => ((p.2.2.1 - p.2.1) * (p.2.1 + p.2.2.1 - 1)).fdiv 2).sum
noncomputable def cwD (p : Str × Int) : PyData := .tuple [.str p.1, .int p.2]
noncomputable def entD (ps : List Pc) (js : List Jn) (names : List Str) (w : Int) : PyData :=
  .tuple [.tuple [.int ((js.filter (fun j => j.1 == w)).length : Nat), .int (callsOf (mineOf ps w)), .int (timesOf (mineOf ps w)), .int (spotsOf (mineOf ps w))], .list ((callersOf names (beforeOf js w)).map cwD)]
theorem lay_small {ns : List Int} (h : ∀ x ∈ ns, 0 ≤ x ∧ x < 4) (hl : ns.length ≤ 900) : PyData.layable0 (.list (ns.map PyData.int)) = true := by
  have h1 : ∀ l : List Int, PyData.canLayAll0 (l.map PyData.int) = true := canLay_map PyData.int fun a => by simp [PyData.canLay0]
  have h2 : ∀ l : List Int, PyData.depthAll (l.map PyData.int) ≤ 0 := depth_map PyData.int 0 fun a => by simp [PyData.depth]
  have h3 : ∀ l : List Int, (∀ x ∈ l, 0 ≤ x ∧ x < 4) → PyData.weightAll (l.map PyData.int) ≤ 3 * l.length := by
    intro l
    induction l with
    | nil => intro _; simp [PyData.weightAll]
    | cons a r ih =>
      intro hx
      have ha := hx a (.head _)
      have hr := ih fun x hm => hx x (.tail _ hm)
      have hw : PyData.weight (.int a) ≤ 2 := by
        have : a = 0 ∨ a = 1 ∨ a = 2 ∨ a = 3 := by omega
        rcases this with rfl | rfl | rfl | rfl <;> decide +kernel
      simp only [List.map_cons, PyData.weightAll, List.length_cons]
      omega
  unfold PyData.layable0
  rw [Bool.and_eq_true, Bool.and_eq_true]
  refine ⟨⟨by rw [PyData.canLay0]; exact h1 ns, decide_eq_true ?_⟩, decide_eq_true ?_⟩
  · rw [PyData.depth]; have := h2 ns; omega
  · rw [PyData.weight]; have := h3 ns h; omega
section
variable {B : Bs}
set_option maxHeartbeats 4000000 in
theorem spec96 (H : OnT B) (ps : List Pc) (js : List Jn) (names : List Str) (w : Int) (hok : EntOk ps js names) : Spec B 6 96 [.list (ps.map pcD), .list (js.map jnD), .list (names.map PyData.str), .int w] (entD ps js names w) := by
  refine Spec.plain H.toOn ["pieces", "joined", "names", "which"] rfl rfl rfl (codeRec H.toOn rfl rfl rfl) rfl rfl (fun vs h => by obtain ⟨a, b, c, d, rfl⟩ := len4 h; kernel_rfl) rfl rfl rfl rfl fun L => ?_
  have hpl := hok.plen
  have hjl := hok.jlen
  have hml : (mineOf ps w).length ≤ ps.length := List.length_filter_le _ _
  -- mine
  refine Ex.seq (Ex1.setComp (xl := ps) (enc := pcD) (g := fun p => if (p.1 == w) = true then some (pcD p) else none) (cl := [("which", L + 3)]) (ρf := [("which", .val (.int w))]) (CFr.one rfl (.tail _ (.head _)) rfl rfl rfl rfl) (CScope.of rfl rfl rfl) (EvI.list (Ev.name rfl rfl)) (by rw [sizeLine_eq]; omega) (fun C p hp => Turn.some (As.name (.loc rfl)) rfl ⟨rfl, trivial⟩ (Tst.cmp (Ev.titem (i := 0) (d := .int p.1) (Ev.name (d := pcD p) rfl rfl).o Ev.int (by decide) rfl (by decide)).o (Ev.cell rfl rfl).o (Cmp.eqInt p.1 w)) fun _ => Ev.name rfl rfl) (.loc rfl)) ?_
  rw [filterMap_ifs]
  show Ex B 5 _ (("mine", .val (.list ((mineOf ps w).map pcD))) :: _) _ _
  -- before
  have hnd : ([L + 4, L + 3, L + 2, L + 1] : List Nat).Nodup := by simp
  have hbf : (List.range (js.length - 1)).filterMap (fun i => if (jat js (i + 1) == w) = true then some (PyData.int (jat js i)) else none) = (beforeOf js w).map PyData.int := by
    rw [filterMap_ifs]; unfold beforeOf; rw [List.map_map]; rfl
  have hjat : ∀ i, i < js.length → (js.map jnD)[i]? = some (jnD (js.getD i (0, 0))) := fun i hi => by simp [hi]
  refine Ex.seq (Ex1.set (Ev.comp (xl := List.range (js.length - 1)) (enc := fun (i : Nat) => .int (1 + (i : Int))) (g := fun i => if (jat js (i + 1) == w) = true then some (PyData.int (jat js i)) else none) (cl := [("which", L + 3), ("joined", L + 1)]) (ρf := [("which", .val (.int w)), ("joined", .val (.list (js.map jnD)))])
    (CFr.two rfl (.tail _ (.head _)) rfl rfl rfl rfl (.tail _ (.tail _ (.tail _ (.head _)))) rfl rfl rfl rfl) (CScope.of rfl rfl rfl) ?_ (by rw [sizeLine_eq, List.length_range]; omega) (fun C i hi => ?_)) (Sto.cell (c := L + 4) rfl rfl hnd)) ?_
  · have e : (List.range (js.length - 1)).map (fun (i : Nat) => PyData.int (1 + (i : Int))) = rng 1 ((js.map jnD).length : Nat) := by
      unfold rng
      rw [List.length_map]
      congr 2
      omega
    rw [e]
    exact EvI.range (EvR.two (EvV.bb H.toOn rfl (by decide +kernel) (by decide) rfl) Ev.int (Ev.bcall (EvV.bb H.toOn rfl (by decide +kernel) (by decide) rfl) (.fn _) (EvOs.cons (Ev.cell rfl rfl).o EvOs.nil) (BC.len_list (by rw [List.length_map]; omega)))) (by omega) (by omega) (by omega) (by rw [List.length_map]; omega)
  · have hi' : i < js.length - 1 := List.mem_range.mp hi
    refine Turn.some (As.name (.loc rfl)) rfl ⟨rfl, rfl, trivial⟩ (Tst.cmp (Ev.titem (i := 0) (ds := [.int (js.getD (i + 1) (0, 0)).1, .int (js.getD (i + 1) (0, 0)).2]) (Ev.item (i := 1 + (i : Int)) (Ev.cell (d := .list (js.map jnD)) rfl rfl).o (Ev.name rfl rfl) (by omega) ?_ (by omega)).o Ev.int (by decide) rfl (by decide)).o (Ev.cell rfl rfl).o (Cmp.eqInt (jat js (i + 1)) w)) fun _ => ?_
    · rw [show (1 + (i : Int)).toNat = i + 1 by omega]; exact hjat _ (by omega)
    · refine Ev.titem (i := 0) (d := .int (jat js i)) (ds := [.int (js.getD i (0, 0)).1, .int (js.getD i (0, 0)).2]) (Ev.item (i := 1 + (i : Int) - 1) (Ev.cell (d := .list (js.map jnD)) rfl rfl).o (Ev.bop (Ev.name rfl rfl) Ev.int (Bop.sub _ _)) (by omega) ?_ (by omega)).o Ev.int (by decide) rfl (by decide)
      rw [show (1 + (i : Int) - 1).toNat = i by omega]; exact hjat _ (by omega)
  rw [hbf]
  have hb4 : ∀ x ∈ beforeOf js w, 0 ≤ x ∧ x < 4 := fun x hx => by
    obtain ⟨i, hi, rfl⟩ := List.mem_map.mp hx
    have hi' := List.mem_range.mp (List.mem_filter.mp hi).1
    have : js.getD i (0, 0) = js[i]'(by omega) := by simp [show i < js.length by omega]
    unfold jat
    rw [this]
    exact hok.jb _ (List.getElem_mem _)
  have hbl : (beforeOf js w).length ≤ 900 := by
    unfold beforeOf
    rw [List.length_map]
    have := List.length_filter_le (fun i => jat js (i + 1) == w) (List.range (js.length - 1))
    rw [List.length_range] at this
    omega
  generalize hbfe : beforeOf js w = bf at *
  have hlay := lay_small hb4 hbl
  have hul := uniq_len bf
  -- callers
  refine Ex.seq (Ex1.setComp (xl := uniq bf) (enc := PyData.int) (g := fun k => some (cwD (names.getD k.toNat "", ((bf.count k : Nat) : Int)))) (cl := [("names", L + 2), ("before", L + 4)]) (ρf := [("names", .val (.list (names.map PyData.str))), ("before", .val (.list (bf.map PyData.int)))])
    (CFr.two rfl (.tail _ (.tail _ (.head _))) rfl rfl rfl rfl (.head _) rfl rfl rfl rfl) (CScope.of rfl rfl rfl) ?_ (by rw [sizeLine_eq]; omega) (fun C i hi => ?_) (.loc rfl)) ?_
  · refine EvI.list (Ev.sortedSet (k := 2) H (t := tabEntry) (x := "k") (clos := [("before", L + 4)]) (ρc := [("before", .val (.list (bf.map PyData.int)))]) (EvV.bb H.toOn rfl (by decide +kernel) (by decide) rfl) (EvV.bb H.toOn rfl (by decide +kernel) (by decide) rfl) rfl (Ev.cell rfl rfl) hb4 ?_ fun B' H' pm c ctv L' f i hi => ?_)
    · refine ⟨by rw [H.tabs]; exact .tail _ (.head _), rfl, rfl, by kernel_rfl, rfl, rfl, fun _ _ _ _ => by kernel_rfl, rfl, rfl, ?_, ?_, rfl⟩
      · intro p hp
        rw [List.mem_singleton.mp hp]
        exact .head _
      · intro p hp
        rw [List.mem_singleton.mp hp]
        exact ⟨by dsimp only; decide, rfl, rfl, rfl, rfl, _, rfl⟩
    · exact Ev.meth (T := "list") (id := "list.index") (Ev.free (d := .list (bf.map PyData.int)) rfl rfl).o (EvOs.cons (Ev.name (d := .int i) rfl rfl).o EvOs.nil) rfl (.inr (.inl rfl)) PySem.F.plainAttrs_list PySem.F.slot_list_index PySem.F.type_list_index (BC.index hi hlay)
  · have hi4 := hb4 i (mem_uniq.mp hi)
    have hnl := hok.nl
    refine Turn.all (As.name (.loc rfl)) rfl ⟨rfl, rfl, trivial⟩ (Ev.tuple (Evs.cons (Ev.item (i := i) (Ev.cell (d := .list (names.map PyData.str)) rfl rfl).o (Ev.name rfl rfl) hi4.1 ?_ (by omega)) (Evs.cons (Ev.meth (T := "list") (id := "list.count") (Ev.cell (d := .list (bf.map PyData.int)) rfl rfl).o (EvOs.cons (Ev.name (d := .int i) rfl rfl).o EvOs.nil) rfl (.inr (.inl rfl)) PySem.F.plainAttrs_list PySem.F.slot_list_count PySem.F.type_list_count (BC.count bf i)) Evs.nil)))
    simp [show i.toNat < names.length by omega]
  rw [filterMap_some]
  have hcal : (uniq bf).map (fun k => cwD (names.getD k.toNat "", ((bf.count k : Nat) : Int))) = (callersOf names bf).map cwD := by
    unfold callersOf; rw [List.map_map]; rfl
  rw [hcal]
  have hms : ∀ p ∈ mineOf ps w, 0 ≤ p.2.1 ∧ p.2.1 ≤ p.2.2.1 ∧ p.2.2.1 ≤ 1000 := fun p hp => hok.pb p (List.mem_filter.mp hp).1
  have hsm : ∀ h : Pc → Int, BC B (.builtin "sum") [.list ((mineOf ps w).filterMap fun p => some (PyData.int (h p)))] (.int ((mineOf ps w).map h).sum) := fun h => by
    rw [filterMap_some, show ((mineOf ps w).map fun p => PyData.int (h p)) = ((mineOf ps w).map h).map PyData.int by rw [List.map_map]; rfl]
    exact BC.sum _
  have hmo : ∀ p ∈ mineOf ps w, ∀ y, IntMulOk (p.2.2.1 - p.2.1) y := fun p hp y => IntMulOk.of_left (intBits_le_64 (by have := hms p hp; omega) (by have := hms p hp; omega))
  -- times, spots, calls
  refine Ex.seq (Ex1.set (d := .int (timesOf (mineOf ps w))) (Ev.bcall (EvV.bb H.toOn rfl (by decide +kernel) (by decide) rfl) (.fn _) (EvOs.cons (Ev.comp (xl := mineOf ps w) (enc := pcD) (g := fun p => some (PyData.int ((p.2.2.1 - p.2.1) * p.2.2.2))) (cl := []) (ρf := []) (CFr.nil rfl) (CScope.of rfl rfl rfl) (EvI.list (Ev.name rfl rfl)) (by rw [sizeLine_eq]; omega)
    (fun C p hp => Turn.all (As.tuple (.cons (.loc rfl) (.cons (.loc rfl) (.cons (.loc rfl) (.cons (.loc rfl) .nil))))) rfl trivial (Ev.bop (Ev.bop (Ev.name rfl rfl) (Ev.name rfl rfl) (Bop.sub _ _)) (Ev.name rfl rfl) (Bop.mul (hmo p hp _))))).o EvOs.nil) (hsm _)) (.loc rfl)) ?_
  refine Ex.seq (Ex1.set (d := .int (spotsOf (mineOf ps w))) (Ev.bcall (EvV.bb H.toOn rfl (by decide +kernel) (by decide) rfl) (.fn _) (EvOs.cons (Ev.comp (xl := mineOf ps w) (enc := pcD) (g := fun p => some (PyData.int (((p.2.2.1 - p.2.1) * (p.2.1 + p.2.2.1 - 1)).fdiv 2))) (cl := []) (ρf := []) (CFr.nil rfl) (CScope.of rfl rfl rfl) (EvI.list (Ev.name rfl rfl)) (by rw [sizeLine_eq]; omega)
    (fun C p hp => Turn.all (As.tuple (.cons (.loc rfl) (.cons (.loc rfl) (.cons (.loc rfl) (.cons (.loc rfl) .nil))))) rfl trivial (Ev.bop (Ev.bop (Ev.bop (Ev.name rfl rfl) (Ev.name rfl rfl) (Bop.sub _ _)) (Ev.bop (Ev.bop (Ev.name rfl rfl) (Ev.name rfl rfl) (Bop.add _ _)) Ev.int (Bop.sub _ _)) (Bop.mul (hmo p hp _))) Ev.int (Bop.div (by decide) (PyProof.noPylong_small (by decide)))))).o EvOs.nil) (hsm _)) (.loc rfl)) ?_
  refine Ex.seq (Ex1.set (d := .int (callsOf (mineOf ps w))) (Ev.bcall (EvV.bb H.toOn rfl (by decide +kernel) (by decide) rfl) (.fn _) (EvOs.cons (Ev.comp (xl := mineOf ps w) (enc := pcD) (g := fun p => some (PyData.int (p.2.2.1 - p.2.1))) (cl := []) (ρf := []) (CFr.nil rfl) (CScope.of rfl rfl rfl) (EvI.list (Ev.name rfl rfl)) (by rw [sizeLine_eq]; omega)
    (fun C p hp => Turn.all (As.tuple (.cons (.loc rfl) (.cons (.loc rfl) (.cons (.loc rfl) (.cons (.loc rfl) .nil))))) rfl trivial (Ev.bop (Ev.name rfl rfl) (Ev.name rfl rfl) (Bop.sub _ _)))).o EvOs.nil) (hsm _)) (.loc rfl)) ?_
  -- the return
  have hlj : ((js.filterMap fun j => if (j.1 == w) = true then some (jnD j) else none)).length = (js.filter (fun j => j.1 == w)).length := by
    rw [filterMap_ifs, List.length_map]
  have hfl : (js.filter (fun j => j.1 == w)).length ≤ js.length := List.length_filter_le _ _
  refine Ex.ret (Ev.tuple (Evs.cons (Ev.tuple (Evs.cons (d := .int ((js.filter (fun j => j.1 == w)).length : Nat)) ?_ (Evs.cons (Ev.name rfl rfl) (Evs.cons (Ev.name rfl rfl) (Evs.cons (Ev.name rfl rfl) Evs.nil))))) (Evs.cons (Ev.name rfl rfl) Evs.nil))) ?_
  · rw [← hlj]
    exact Ev.bcall (EvV.bb H.toOn rfl (by decide +kernel) (by decide) rfl) (.fn _) (EvOs.cons (Ev.comp (xl := js) (enc := jnD) (g := fun j => if (j.1 == w) = true then some (jnD j) else none) (cl := [("which", L + 3)]) (ρf := [("which", .val (.int w))]) (CFr.one rfl (.tail _ (.head _)) rfl rfl rfl rfl) (CScope.of rfl rfl rfl) (EvI.list (Ev.cell rfl rfl)) (by rw [sizeLine_eq]; omega) (fun C j hj => Turn.some (As.name (.loc rfl)) rfl ⟨rfl, trivial⟩ (Tst.cmp (Ev.titem (i := 0) (d := .int j.1) (Ev.name (d := jnD j) rfl rfl).o Ev.int (by decide) rfl (by decide)).o (Ev.cell rfl rfl).o (Cmp.eqInt j.1 w)) fun _ => Ev.name rfl rfl)).o EvOs.nil) (BC.len_list (by rw [hlj]; omega))
  · unfold entD
    rw [hbfe]
end
end Mine
end
section
open PySem PySem.W PyProof.Rows
set_option linter.unusedVariables false
set_option maxRecDepth 100000
namespace Mine
/-! law -/
noncomputable def lineOf (n : Str) : Str := Str.ofString "\t" ++ n ++ Str.ofString "\n"
noncomputable abbrev mOf (ns : List Int) : Int := (tot ns).fmod 1000000000000
noncomputable abbrev psOf (ns : List Int) : List Pc := cut (drawnOf ns) (startOf ns) (stopOf ns)
noncomputable abbrev jsOf (ns : List Int) : List Jn := joined (psOf ns)
noncomputable abbrev nmOf (ns : List Int) : List Str := namesM (mOf ns)
noncomputable abbrev lnOf (ns : List Int) : List Str := (nmOf ns).map lineOf
noncomputable abbrev smOf (ns : List Int) (f : Int → Str × Int) : Sm := sampled f (startOf ns) (stopOf ns)
noncomputable abbrev lawEnv (w : World) (L fa : Addr) (cd : Value) : Env := envOfC "law" (fdat w.params 108).scope L fa cd
noncomputable abbrev ρA (ns : List Int) (f : Int → Str × Int) : Rho := [("table", .val (dct (tbD (smOf ns f).table))), ("strip", .val (.str (smOf ns f).strip)), ("names", .val (.list ((nmOf ns).map PyData.str))), ("lines", .val (.list ((lnOf ns).map PyData.str))),
  ("pieces", .val (.list ((psOf ns).map pcD))), ("joined", .val (.list ((jsOf ns).map jnD))), ("start", .val (.int (startOf ns))), ("stop", .val (.int (stopOf ns)))]
structure LawA (ns : List Int) (f : Int → Str × Int) : Prop where
  len : ns.length ≤ 63
  tk : 0 < ticksOf (drawnOf ns)
  sm : SmOk (drawnOf ns) (mOf ns) (startOf ns) (stopOf ns) f
  pl : (psOf ns).length ≤ 900
  nl : ∀ n ∈ nmOf ns, n.length ≤ 1000
section
variable {B : Bs}
set_option maxHeartbeats 4000000 in
theorem law_a (H : OnT B) {L fa : Addr} {cd : Value} (ns : List Int) (f : Int → Str × Int) (ok : LawA ns f) {Post : Out → Prop} (h : Ex B 10 (lawEnv B.w L fa cd) (ρA ns f) ((bod B.w.params 108).drop 6) Post) :
    Ex B 10 (lawEnv B.w L fa cd) [("script", .val (.list (ns.map PyData.int)))] (bod B.w.params 108) Post := by
  have hnd : ([L + 4, L + 3, L + 2, L + 1] : List Nat).Nodup := by simp
  refine Ex.seq (Ex1.setTuple (Ev.call (EvV.kk H.toOn rfl rfl) (H.toOn.get 72 rfl) rfl (Evs.cons (Ev.name rfl rfl) Evs.nil) (spec72 H.toOn ns ok.len ok.tk) (by omega)) (As.tuple (.cons (.loc rfl) (.cons (.loc rfl) (.cons (.loc rfl) (.cons (.loc rfl) .nil)))))) ?_
  refine Ex.seq (Ex1.setTuple (Ev.call (EvV.kk H.toOn rfl rfl) (H.toOn.get 77 rfl) rfl (Evs.cons (Ev.name (d := .list ((funcsM (mOf ns)).map funD)) rfl rfl) (Evs.cons (Ev.name rfl rfl) (Evs.cons (Ev.name rfl rfl) (Evs.cons (Ev.name rfl rfl) Evs.nil)))) (spec77 H.toOn (drawnOf ns) (mOf ns) (startOf ns) (stopOf ns) f ok.sm) (by omega)) (As.tuple (.cons (.loc rfl) (.cons (.loc rfl) .nil)))) ?_
  have hM0 : 0 ≤ mOf ns := ok.sm.m0
  have hM1 := ok.sm.m1
  have h13 : ∀ m : Int, 0 ≤ m → m ≤ 1000000000000 → m.natAbs.log2 < 1920 := fun m h0 h1 => by
    by_cases q : m.natAbs = 0
    · rw [q]; decide
    · have h41 : m.natAbs < 2 ^ 41 := by omega
      exact (Nat.log2_lt q).mpr (Nat.lt_of_lt_of_le h41 (Nat.pow_le_pow_right (by decide) (by decide)))
  have hl0 := ok.nl (Str.ofString "a..py:" ++ Str.ofString (toString (mOf ns)) ++ Str.ofString "(f)") (by simp [namesM])
  have hl3 := ok.nl (Str.ofString "~:" ++ Str.ofString (toString (1 + mOf ns)) ++ Str.ofString "(<f>)") (by simp [namesM])
  rw [str_len, str_len] at hl0 hl3
  have hnl : (nmOf ns).length = 4 := rfl
  have hdl : (drawnOf ns).length ≤ 900 := by have := ok.sm.dlen; omega
  refine Ex.seq (Ex1.set (d := .list [.str (Str.ofString "a..py:" ++ Str.ofString (toString (mOf ns)) ++ Str.ofString "(f)"), .str "{f}", .str "<f", .str (Str.ofString "~:" ++ Str.ofString (toString (1 + mOf ns)) ++ Str.ofString "(<f>)")]) ?hv (Sto.cell (c := L + 1) rfl rfl hnd)) ?_
  case hv =>
    refine Ev.list (Evs.cons ?ga (Evs.cons Ev.str (Evs.cons Ev.str (Evs.cons ?gd Evs.nil))))
    case ga =>
      refine Ev.bop (Ev.bop Ev.str (Ev.bcall (EvV.bb H.toOn rfl (by decide +kernel) (by decide) rfl) (.ty _) (EvOs.cons (Ev.titem (i := 1) (d := .int (mOf ns)) (Ev.item (i := 0) (d := funD ("a..py", (mOf ns), "f")) (Ev.name (d := .list ((funcsM (mOf ns)).map funD)) rfl rfl).o Ev.int (by decide) rfl (by decide)).o Ev.int (by decide) rfl (by decide)).o EvOs.nil) (BC.str_int (h13 (mOf ns) hM0 (by omega)))) (Bop.cat ?_)) Ev.str (Bop.cat ?_)
      · rw [sizeLine_eq]; exact Nat.le_trans (Nat.le_add_right _ _) (Nat.le_trans hl0 (by omega))
      · rw [sizeLine_eq, str_len]; exact Nat.le_trans hl0 (by omega)
    case gd =>
      refine Ev.bop (Ev.bop Ev.str (Ev.bcall (EvV.bb H.toOn rfl (by decide +kernel) (by decide) rfl) (.ty _) (EvOs.cons (Ev.titem (i := 1) (d := .int (1 + (mOf ns))) (Ev.item (i := 3) (d := funD ("~", 1 + (mOf ns), "<f>")) (Ev.name (d := .list ((funcsM (mOf ns)).map funD)) rfl rfl).o Ev.int (by decide) rfl (by decide)).o Ev.int (by decide) rfl (by decide)).o EvOs.nil) (BC.str_int (h13 (1 + (mOf ns)) (by omega) (by omega)))) (Bop.cat ?_)) Ev.str (Bop.cat ?_)
      · rw [sizeLine_eq]; exact Nat.le_trans (Nat.le_add_right _ _) (Nat.le_trans hl3 (by omega))
      · rw [sizeLine_eq, str_len]; exact Nat.le_trans hl3 (by omega)
  have hnl2 : ∀ n ∈ namesM (mOf ns), n.length ≤ 1000 := fun n hn => ok.nl n hn
  have q1 : (Str.ofString "\t").length = 1 := by decide +kernel
  have q2 : (Str.ofString "\n").length = 1 := by decide +kernel
  refine Ex.seq (Ex1.set (Ev.comp (xl := namesM (mOf ns)) (enc := PyData.str) (g := fun n => some (PyData.str (lineOf n))) (cl := []) (ρf := []) (CFr.nil rfl) (CScope.of rfl rfl rfl) (EvI.list (Ev.cell (d := .list ((namesM (mOf ns)).map PyData.str)) rfl rfl)) (by rw [sizeLine_eq]; have : (namesM (mOf ns)).length = 4 := rfl; omega) (fun C n hn => Turn.all (As.name (.loc rfl)) rfl trivial (Ev.bop (Ev.bop Ev.str (Ev.name rfl rfl) (Bop.cat ?_)) Ev.str (Bop.cat ?_)))) (Sto.cell (c := L + 2) rfl rfl hnd)) ?_
  · have := hnl2 n hn
    rw [sizeLine_eq]; show (Str.ofString "\t").length + _ ≤ _; rw [q1]; omega
  · have := hnl2 n hn
    rw [sizeLine_eq]; show (Str.ofString "\t" ++ n).length + (Str.ofString "\n").length ≤ _; rw [str_len, q1, q2]; omega
  rw [filterMap_some]
  have hln : (namesM (mOf ns)).map (fun n => PyData.str (lineOf n)) = ((namesM (mOf ns)).map lineOf).map PyData.str := by rw [List.map_map]; rfl
  rw [hln]
  refine Ex.seq (Ex1.set (d := .list ((psOf ns).map pcD)) (Ev.call (EvV.kk H.toOn rfl rfl) (H.toOn.get 84 rfl) rfl (Evs.cons (Ev.name rfl rfl) (Evs.cons (Ev.name rfl rfl) (Evs.cons (Ev.name rfl rfl) Evs.nil))) (spec84 H.toOn (drawnOf ns) (startOf ns) (stopOf ns) hdl) (by omega)) (.loc rfl)) ?_
  refine Ex.seq (Ex1.set (d := .list ((jsOf ns).map jnD)) (Ev.call (EvV.kk H.toOn rfl rfl) (H.toOn.get 91 rfl) rfl (Evs.cons (Ev.name rfl rfl) Evs.nil) (spec91 H.toOn (psOf ns) ok.pl) (by omega)) (Sto.cell (c := L + 3) rfl rfl hnd)) ?_
  refine Ex.to (ρA ns f) ?_ rfl h
  exact ⟨rfl, rfl, rfl, rfl, rfl, rfl, rfl, rfl, trivial⟩
end
end Mine
end
section
open PySem PySem.W PyProof.Rows
set_option linter.unusedVariables false
set_option maxRecDepth 100000
namespace Mine
noncomputable def lnAt (ns : List Int) (i : Int) : Str := (lnOf ns).getD i.toNat ""
noncomputable def nmAt (ns : List Int) (i : Int) : Str := (nmOf ns).getD i.toNat ""
noncomputable def textsOf (ns : List Int) : List Str := (jsOf ns).map fun j => Txt.mul (lnAt ns j.1) j.2
noncomputable def cameOf (js : List Jn) : List Int := ((List.range js.length).filter (fun k => !((js.take k).map (·.1)).contains (jat js k))).map (jat js)
structure LawB (ns : List Int) (f : Int → Str × Int) : Prop extends LawA ns f where
  jb : ∀ j ∈ jsOf ns, 0 ≤ j.1 ∧ j.1 < 4 ∧ 0 ≤ j.2 ∧ j.2 ≤ 300
  jl : (jsOf ns).length ≤ 900
  jok : JoinOk "" (textsOf ns) = true
  whole : ell (Txt.join "" (textsOf ns)) (smOf ns f).strip = true
  wok : EllOk (Txt.join "" (textsOf ns)) (smOf ns f).strip
  keys : (smOf ns f).table.map (·.1) = (cameOf (jsOf ns)).map (nmAt ns)
  tl : (smOf ns f).table.length ≤ 900
  stk : ∀ n ∈ nmOf ns, PyData.strOk n = true
theorem line_len {n : Str} (h : n.length ≤ 1000) : (lineOf n).length ≤ 1002 := by
  have q1 : (Str.ofString "\t").length = 1 := by decide +kernel
  have q2 : (Str.ofString "\n").length = 1 := by decide +kernel
  unfold lineOf
  rw [str_len, str_len, q1, q2]; omega
theorem at_four {l : List Str} (hl : l.length = 4) {i : Int} (h0 : 0 ≤ i) (h4 : i < 4) : (l.map PyData.str)[i.toNat]? = some (.str (l.getD i.toNat "")) := by
  have : i.toNat < l.length := by omega
  simp [this]
theorem at_mem {l : List Str} (hl : l.length = 4) {i : Int} (h0 : 0 ≤ i) (h4 : i < 4) : l.getD i.toNat "" ∈ l := by
  have : i.toNat < l.length := by omega
  simp [List.getD, this]
theorem LawA.line (h : LawA ns f) {i : Int} (h0 : 0 ≤ i) (h4 : i < 4) : (lnAt ns i).length ≤ 1002 := by
  obtain ⟨n, hn, e⟩ := List.mem_map.mp (at_mem (l := lnOf ns) rfl h0 h4)
  unfold lnAt
  rw [← e]
  exact line_len (h.nl n hn)
theorem LawB.cb (h : LawB ns f) : ∀ w ∈ cameOf (jsOf ns), 0 ≤ w ∧ w < 4 := fun w hw => by
  obtain ⟨k, hk, rfl⟩ := List.mem_map.mp hw
  have hk' := List.mem_range.mp (List.mem_filter.mp hk).1
  have e : (jsOf ns).getD k (0, 0) = (jsOf ns)[k] := by simp [List.getD, hk']
  unfold jat
  rw [e]
  have := h.jb _ (List.getElem_mem hk')
  exact ⟨this.1, this.2.1⟩
theorem came_len (js : List Jn) : (cameOf js).length ≤ js.length := by
  unfold cameOf
  rw [List.length_map]
  have := List.length_filter_le (fun k => !((js.take k).map (·.1)).contains (jat js k)) (List.range js.length)
  rwa [List.length_range] at this
noncomputable abbrev ρB (ns : List Int) (f : Int → Str × Int) : Rho := ("came", .val (.list ((cameOf (jsOf ns)).map PyData.int))) :: ρA ns f
section
variable {B : Bs}
set_option maxHeartbeats 4000000 in
theorem law_b (H : OnT B) {L fa : Addr} {cd : Value} (ns : List Int) (f : Int → Str × Int) (ok : LawB ns f) {Post : Out → Prop} (h : Ex B 10 (lawEnv B.w L fa cd) (ρB ns f) ((bod B.w.params 108).drop 9) Post) :
    Ex B 10 (lawEnv B.w L fa cd) (ρA ns f) ((bod B.w.params 108).drop 6) Post := by
  have hjl := ok.jl
  have hjoin : BC B (.builtin "str.join") [.str (Str.ofString ""), .list ((jsOf ns).filterMap fun j => some (PyData.str (Txt.mul (lnAt ns j.1) j.2)))] (.str (Txt.join "" (textsOf ns))) := by
    rw [filterMap_some, show ((jsOf ns).map fun j => PyData.str (Txt.mul (lnAt ns j.1) j.2)) = (textsOf ns).map PyData.str by unfold textsOf; rw [List.map_map]; rfl]
    exact BC.join ok.jok
  refine Ex.cons (Ex1.if (b := false) ?t1 (fun h => nomatch h) fun _ => Ex.nil ?_)
  case t1 =>
    have c := Cmp.isNotBool (B := B) (ell (Txt.join "" (textsOf ns)) (smOf ns f).strip) true
    rw [ok.whole] at c
    refine Tst.cmp (Ev.call (EvV.kk H.toOn rfl rfl) (H.toOn.get 21 rfl) rfl (Evs.cons (Ev.meth (T := "str") (id := "str.join") Ev.str.o (EvOs.cons (Ev.comp (xl := jsOf ns) (enc := jnD) (g := fun j => some (PyData.str (Txt.mul (lnAt ns j.1) j.2))) (cl := [("lines", L + 2)]) (ρf := [("lines", .val (.list ((lnOf ns).map PyData.str)))]) (CFr.one rfl (.tail _ (.tail _ (.head _))) rfl rfl rfl rfl) (CScope.of rfl rfl rfl) (EvI.list (Ev.cell rfl rfl)) (by rw [sizeLine_eq]; omega) (fun C j hj => Turn.all (As.tuple (.cons (.loc rfl) (.cons (.loc rfl) .nil))) rfl ⟨rfl, trivial⟩ ?_)).o EvOs.nil) rfl (.inl rfl) PySem.F.plainAttrs_str PySem.F.slot_str_join PySem.F.type_str_join hjoin) (Evs.cons (Ev.name rfl rfl) Evs.nil)) (spec21 H.toOn _ (smOf ns f).strip ok.wok) (by omega)).o Ev.bool.o (by rw [ok.whole]; exact c)
    obtain ⟨j0, j1, j2, j3⟩ := ok.jb j hj
    have hl := ok.toLawA.line j0 j1
    have hm : MulOk (lnAt ns j.1) j.2 := by
      have := mulOk_small (x := lnAt ns j.1) (n := j.2.toNat) (by omega) (by omega)
      rwa [Int.toNat_of_nonneg j2] at this
    exact Ev.bop (Ev.item (i := j.1) (d := .str (lnAt ns j.1)) (Ev.cell (d := .list ((lnOf ns).map PyData.str)) rfl rfl).o (Ev.name rfl rfl) j0 (at_four rfl j0 j1) (by omega)) (Ev.name rfl rfl) (Bop.rpt hm)
  -- came
  have hjat : ∀ i, i < (jsOf ns).length → ((jsOf ns).map jnD)[i]? = some (jnD ((jsOf ns).getD i (0, 0))) := fun i hi => by simp [hi]
  have hcm : (List.range (jsOf ns).length).filterMap (fun k => if (!(((jsOf ns).take k).map (·.1)).contains (jat (jsOf ns) k)) = true then some (PyData.int (jat (jsOf ns) k)) else none) = (cameOf (jsOf ns)).map PyData.int := by
    rw [filterMap_ifs]; unfold cameOf; rw [List.map_map]; rfl
  refine Ex.seq (Ex1.setComp (xl := List.range (jsOf ns).length) (enc := fun (k : Nat) => PyData.int k) (g := fun k => if (!(((jsOf ns).take k).map (·.1)).contains (jat (jsOf ns) k)) = true then some (PyData.int (jat (jsOf ns) k)) else none) (cl := [("joined", L + 3)]) (ρf := [("joined", .val (.list ((jsOf ns).map jnD)))]) (CFr.one rfl (.tail _ (.head _)) rfl rfl rfl rfl) (CScope.of rfl rfl rfl) ?_ (by rw [sizeLine_eq, List.length_range]; omega) (fun C k hk => ?_) (.loc rfl)) ?_
  · have e : (List.range (jsOf ns).length).map (fun (k : Nat) => PyData.int k) = rng 0 ((((jsOf ns).map jnD).length : Nat) : Int) := by
      unfold rng
      rw [List.length_map]
      simp
    rw [e]
    exact EvI.range (EvR.one (EvV.bb H.toOn rfl (by decide +kernel) (by decide) rfl) (Ev.bcall (EvV.bb H.toOn rfl (by decide +kernel) (by decide) rfl) (.fn _) (EvOs.cons (Ev.cell rfl rfl).o EvOs.nil) (BC.len_list (by rw [List.length_map]; omega)))) (by omega) (by omega) (by omega) (by rw [List.length_map]; omega)
  · have hk' : k < (jsOf ns).length := List.mem_range.mp hk
    have hin : Cmp B .NotIn (.int (jat (jsOf ns) k)) (.list (((jsOf ns).take k).filterMap fun j => some (PyData.int j.1))) (!(((jsOf ns).take k).map (·.1)).contains (jat (jsOf ns) k)) := by
      rw [filterMap_some, show (((jsOf ns).take k).map fun j => PyData.int j.1) = (((jsOf ns).take k).map (·.1)).map PyData.int by rw [List.map_map]; rfl]
      exact Cmp.notInInts _ _
    have hit : ∀ {ρ : Rho} {cenv : Env} {p1 p2 p3 p4 p5 : Pos}, True := fun {_ _ _ _ _ _ _} => trivial
    refine Turn.some (As.name (.loc rfl)) rfl ⟨rfl, trivial⟩ (Tst.cmp (Ev.titem (i := 0) (d := .int (jat (jsOf ns) k)) (ds := [.int ((jsOf ns).getD k (0, 0)).1, .int ((jsOf ns).getD k (0, 0)).2]) (Ev.item (i := (k : Int)) (Ev.cell (d := .list ((jsOf ns).map jnD)) rfl rfl).o (Ev.name rfl rfl) (by omega) (by rw [Int.toNat_natCast]; exact hjat k hk') (by omega)).o Ev.int (by decide) rfl (by decide)).o
      (Ev.comp (xl := (jsOf ns).take k) (enc := jnD) (g := fun j => some (PyData.int j.1)) (cl := []) (ρf := []) (CFr.nil rfl) (CScope.of rfl rfl rfl) ?_ ?_ (fun C' j hj => Turn.all (As.name (.loc rfl)) rfl trivial (Ev.titem (i := 0) (d := .int j.1) (Ev.name (d := jnD j) rfl rfl).o Ev.int (by decide) rfl (by decide)))).o hin) fun _ => ?_
    · rw [List.map_take]
      exact EvI.list (Ev.sliceTo (i := (k : Int)) (Ev.cell rfl rfl).o (Ev.name rfl rfl) (.inl ⟨by omega, by omega⟩) (by rw [List.length_map]; omega))
    · rw [sizeLine_eq, List.length_take]; omega
    · exact Ev.titem (i := 0) (d := .int (jat (jsOf ns) k)) (ds := [.int ((jsOf ns).getD k (0, 0)).1, .int ((jsOf ns).getD k (0, 0)).2]) (Ev.item (i := (k : Int)) (Ev.cell (d := .list ((jsOf ns).map jnD)) rfl rfl).o (Ev.name rfl rfl) (by omega) (by rw [Int.toNat_natCast]; exact hjat k hk') (by omega)).o Ev.int (by decide) rfl (by decide)
  rw [hcm]
  have hcl := came_len (jsOf ns)
  refine Ex.cons (Ex1.if (b := false) ?t2 (fun h => nomatch h) fun _ => Ex.nil h)
  case t2 =>
    have hlay : PyData.canLay0 (.list (((cameOf (jsOf ns)).map (nmAt ns)).map PyData.str)) = true := by
      rw [PyData.canLay0]
      have : ∀ l : List Str, (∀ x ∈ l, PyData.strOk x = true) → PyData.canLayAll0 (l.map PyData.str) = true := by
        intro l
        induction l with
        | nil => intro _; rfl
        | cons a r ih =>
          intro hx
          rw [List.map_cons, PyData.canLayAll0, PyData.canLay0, hx a (.head _), ih fun x hm => hx x (.tail _ hm)]; rfl
      refine this _ fun x hx => ?_
      obtain ⟨w, hw, rfl⟩ := List.mem_map.mp hx
      exact ok.stk _ (at_mem rfl (ok.cb w hw).1 (ok.cb w hw).2)
    have hsh : SeqAt.shaped (.list (((cameOf (jsOf ns)).map (nmAt ns)).map PyData.str)) = true := by
      unfold SeqAt.shaped
      rw [Bool.and_eq_true]
      refine ⟨hlay, decide_eq_true ?_⟩
      rw [PyData.depth]
      have := depth_map PyData.str 0 (fun a => by simp [PyData.depth]) ((cameOf (jsOf ns)).map (nmAt ns))
      omega
    have c := Cmp.ne (B := B) hsh hsh
    rw [SeqAt.eqv_refl _ hlay] at c
    have hk : (tbD (smOf ns f).table).map (·.1) = (cameOf (jsOf ns)).map (nmAt ns) := by
      rw [← ok.keys]; unfold tbD; rw [List.map_map]; rfl
    have hb : BC B (.type "list") [dct (tbD (smOf ns f).table)] (.list (((cameOf (jsOf ns)).map (nmAt ns)).map PyData.str)) := by
      rw [← hk]
      exact BC.list_dict (by unfold tbD; rw [List.length_map]; have := ok.tl; omega)
    have hcc : ((cameOf (jsOf ns)).filterMap fun w => some (PyData.str (nmAt ns w))) = ((cameOf (jsOf ns)).map (nmAt ns)).map PyData.str := by
      rw [filterMap_some, List.map_map]; rfl
    refine Tst.cmp (Ev.bcall (EvV.bb H.toOn rfl (by decide +kernel) (by decide) rfl) (.ty _) (EvOs.cons (Ev.name rfl rfl).o EvOs.nil) hb).o (hcc ▸ Ev.comp (xl := cameOf (jsOf ns)) (enc := PyData.int) (g := fun w => some (PyData.str (nmAt ns w))) (cl := [("names", L + 1)]) (ρf := [("names", .val (.list ((nmOf ns).map PyData.str)))]) (CFr.one rfl (.tail _ (.tail _ (.tail _ (.head _)))) rfl rfl rfl rfl) (CScope.of rfl rfl rfl) (EvI.list (Ev.name rfl rfl)) (by rw [sizeLine_eq]; omega) (fun C w hw => Turn.all (As.name (.loc rfl)) rfl ⟨rfl, trivial⟩ (Ev.item (i := w) (d := .str (nmAt ns w)) (Ev.cell (d := .list ((nmOf ns).map PyData.str)) rfl rfl).o (Ev.name rfl rfl) (ok.cb w hw).1 (at_four rfl (ok.cb w hw).1 (ok.cb w hw).2) (by have := ok.cb w hw; omega)))).o c
end
end Mine
end
section
open PySem PySem.W PyProof.Rows
set_option linter.unusedVariables false
set_option maxRecDepth 100000
namespace Mine
noncomputable def runOf (js : List Jn) : List Int := js.flatMap fun j => List.replicate j.2.toNat j.1
structure EntryIs (ns : List Int) (w : Int) (e : En) : Prop where
  cc : e.cc = ((jsOf ns).filter (fun j => j.1 == w)).length
  nc : e.nc = callsOf (mineOf (psOf ns) w)
  tt : e.tt = timesOf (mineOf (psOf ns) w)
  ct : e.ct = spotsOf (mineOf (psOf ns) w)
  cs : e.cs = callersOf (nmOf ns) (beforeOf (jsOf ns) w)
  sum : e.cc = (e.cs.map (·.2)).sum + (if w = (cameOf (jsOf ns)).headD 0 then 1 else 0)
structure LawC (ns : List Int) (f : Int → Str × Int) : Prop extends LawB ns f where
  ent : EntOk (psOf ns) (jsOf ns) (nmOf ns)
  entry : ∀ w ∈ cameOf (jsOf ns), ∃ e, tget (smOf ns f).table (nmAt ns w) = some e ∧ EntryIs ns w e
  rl : (runOf (jsOf ns)).length ≤ 500
noncomputable abbrev ρC (ns : List Int) (f : Int → Str × Int) : Rho := ("run", .val (.list ((runOf (jsOf ns)).map PyData.int))) :: ρB ns f
theorem rng_run (j : Jn) : (rng 0 j.2).map (fun _ => PyData.int j.1) = (List.replicate j.2.toNat j.1).map PyData.int := by
  unfold rng
  rw [List.map_map]
  simp [List.map_const', Function.comp_def]
theorem cw_lay (l : List (Str × Int)) (h : ∀ p ∈ l, PyData.strOk p.1 = true) : PyData.canLayAll0 (l.map cwD) = true := by
  induction l with
  | nil => rfl
  | cons a r ih =>
    rw [List.map_cons, PyData.canLayAll0, ih fun p hp => h p (.tail _ hp)]
    simp [cwD, PyData.canLay0, PyData.canLayAll0, h a (.head _)]
theorem ent_lay (ps : List Pc) (js : List Jn) (names : List Str) (w : Int) (h : ∀ p ∈ callersOf names (beforeOf js w), PyData.strOk p.1 = true) : PyData.canLay0 (entD ps js names w) = true := by
  unfold entD
  rw [PyData.canLay0, PyData.canLayAll0, PyData.canLayAll0, PyData.canLayAll0, PyData.canLay0, PyData.canLay0, cw_lay _ h]
  simp [PyData.canLayAll0, PyData.canLay0]
theorem ent_depth (ps : List Pc) (js : List Jn) (names : List Str) (w : Int) : PyData.depth (entD ps js names w) ≤ 3 := by
  unfold entD
  have := depth_map cwD 1 (fun a => by simp [cwD, PyData.depth, PyData.depthAll]) (callersOf names (beforeOf js w))
  simp [PyData.depth, PyData.depthAll]
  omega
section
variable {B : Bs}
set_option maxHeartbeats 4000000 in
theorem law_c (H : OnT B) {L fa : Addr} {cd : Value} (ns : List Int) (f : Int → Str × Int) (ok : LawC ns f) {Post : Out → Prop} (h : Ex B 10 (lawEnv B.w L fa cd) (ρC ns f) ((bod B.w.params 108).drop 11) Post) :
    Ex B 10 (lawEnv B.w L fa cd) (ρB ns f) ((bod B.w.params 108).drop 9) Post := by
  have hjl := ok.jl
  refine Ex.cons (Ex1.forC (xl := cameOf (jsOf ns)) (enc := PyData.int) (fun _ => ρB ns f) (EvI.list (Ev.name rfl rfl)) rfl (fun _ => rfl) (fun i w hw => ?_) ?_)
  · have hwm := List.mem_of_getElem? hw
    obtain ⟨w0, w4⟩ := ok.cb w hwm
    obtain ⟨e, he, E⟩ := ok.entry w hwm
    have hb4 : ∀ x ∈ beforeOf (jsOf ns) w, 0 ≤ x ∧ x < 4 := fun x hx => by
      obtain ⟨i, hi, rfl⟩ := List.mem_map.mp hx
      have hi' := List.mem_range.mp (List.mem_filter.mp hi).1
      have : (jsOf ns).getD i (0, 0) = (jsOf ns)[i]'(by omega) := by simp [show i < (jsOf ns).length by omega]
      unfold jat
      rw [this]
      have := ok.jb _ (List.getElem_mem (l := jsOf ns) (n := i) (by omega))
      exact ⟨this.1, this.2.1⟩
    have hst : ∀ p ∈ callersOf (nmOf ns) (beforeOf (jsOf ns) w), PyData.strOk p.1 = true := fun p hp => by
      obtain ⟨k, hk, rfl⟩ := List.mem_map.mp hp
      have := hb4 k (mem_uniq.mp hk)
      exact ok.stk _ (at_mem rfl this.1 this.2)
    have hlay := ent_lay (psOf ns) (jsOf ns) (nmOf ns) w hst
    have hsh : SeqAt.shaped (entD (psOf ns) (jsOf ns) (nmOf ns) w) = true := by
      unfold SeqAt.shaped
      rw [Bool.and_eq_true]
      exact ⟨hlay, decide_eq_true (by have := ent_depth (psOf ns) (jsOf ns) (nmOf ns) w; omega)⟩
    have hcl : e.cs.length ≤ 900 := by
      rw [E.cs]
      unfold callersOf
      rw [List.length_map]
      have h1 := uniq_len (beforeOf (jsOf ns) w)
      have h2 : (beforeOf (jsOf ns) w).length ≤ (jsOf ns).length - 1 := by
        unfold beforeOf
        rw [List.length_map]
        have := List.length_filter_le (fun i => jat (jsOf ns) (i + 1) == w) (List.range ((jsOf ns).length - 1))
        rwa [List.length_range] at this
      omega
    have hed : (PyData.tuple [.tuple [.int e.cc, .int e.nc, .int e.tt, .int e.ct], .list ((dc e.cs).map fun p => PyData.tuple [.str p.1, p.2])]) = entD (psOf ns) (jsOf ns) (nmOf ns) w := by
      unfold entD
      rw [E.cc, E.nc, E.tt, E.ct, ← E.cs]
      congr 3
      unfold dc
      rw [List.map_map]; rfl
    refine ⟨_, As.name (.loc rfl), rfl, ?_⟩
    refine Ex.seq (Ex1.setTuple (d := e.d) (Ev.ditem (x := nmAt ns w) (Ev.name (d := dct (tbD (smOf ns f).table)) rfl rfl).o (Ev.item (i := w) (d := .str (nmAt ns w)) (Ev.cell (d := .list ((nmOf ns).map PyData.str)) rfl rfl).o (Ev.name rfl rfl) w0 (at_four rfl w0 w4) (by omega)) (by rw [tb_get, he]; rfl)) (As.tuple (.cons (.loc rfl) (.cons (.loc rfl) (.cons (.loc rfl) (.cons (.loc rfl) (.cons (.loc rfl) .nil))))))) ?_
    refine Ex.cons (Ex1.if (b := false) ?t1 (fun h => nomatch h) fun _ => Ex.nil ?_)
    case t1 =>
      have c := Cmp.ne (B := B) hsh hsh
      rw [SeqAt.eqv_refl _ hlay] at c
      refine Tst.cmp (d1 := entD (psOf ns) (jsOf ns) (nmOf ns) w) (Ev.o ?_) (Ev.call (EvV.kk H.toOn rfl rfl) (H.toOn.get 96 rfl) rfl (Evs.cons (Ev.name rfl rfl) (Evs.cons (Ev.cell rfl rfl) (Evs.cons (Ev.cell rfl rfl) (Evs.cons (Ev.name rfl rfl) Evs.nil)))) (spec96 H (psOf ns) (jsOf ns) (nmOf ns) w ok.ent) (by omega)).o c
      rw [← hed]
      exact Ev.tuple (Evs.cons (Ev.tuple (Evs.cons (Ev.name rfl rfl) (Evs.cons (Ev.name rfl rfl) (Evs.cons (Ev.name rfl rfl) (Evs.cons (Ev.name rfl rfl) Evs.nil))))) (Evs.cons (Ev.listItems (EvV.bb H.toOn rfl (by decide +kernel) (by decide) rfl) (Ev.name rfl rfl) (by unfold dc; rw [List.length_map]; omega)) Evs.nil))
    refine Ex.cons (Ex1.if (b := false) ?t2 (fun h => nomatch h) fun _ => Ex.nil (Ex.ends (ρB ns f) ⟨rfl, rfl, rfl, rfl, rfl, rfl, rfl, rfl, rfl, trivial⟩ rfl rfl))
    case t2 =>
      have c := Cmp.neInt (B := B) e.cc ((e.cs.map (·.2)).sum + (if w = (cameOf (jsOf ns)).headD 0 then 1 else 0))
      rw [show (e.cc != (e.cs.map (·.2)).sum + (if w = (cameOf (jsOf ns)).headD 0 then 1 else 0)) = false by rw [← E.sum]; simp] at c
      have h0 : ((cameOf (jsOf ns)).map PyData.int)[(0 : Int).toNat]? = some (.int ((cameOf (jsOf ns)).headD 0)) := by
        cases hc : cameOf (jsOf ns) with
        | nil => rw [hc] at hwm; cases hwm
        | cons a r => rfl
      refine Tst.cmp (Ev.name (d := .int e.cc) rfl rfl).o (Ev.bop (Ev.call (EvV.kk H.toOn rfl rfl) (H.toOn.get 67 rfl) rfl (Evs.cons (Ev.name rfl rfl) Evs.nil) (spec67 H.toOn e.cs) (by omega)) (d2 := .int (if w = (cameOf (jsOf ns)).headD 0 then 1 else 0)) (Ev.ifexp (b := w == (cameOf (jsOf ns)).headD 0) (Tst.cmp (Ev.name rfl rfl).o (Ev.item (i := 0) (Ev.name rfl rfl).o Ev.int (by decide) h0 (by decide)).o (Cmp.eqInt _ _)) (fun hb => ?_) fun hb => ?_) (Bop.add _ _)).o c
      · rw [if_pos (eq_of_beq hb)]; exact Ev.int
      · rw [if_neg (by simpa using hb)]; exact Ev.int
  · show Ex B 10 _ _ _ _
    have hrun : ((jsOf ns).flatMap fun j => (rng 0 j.2).map fun _ => PyData.int j.1) = (runOf (jsOf ns)).map PyData.int := by
      unfold runOf
      rw [List.map_flatMap]
      congr 1
      funext j
      exact rng_run j
    have hb : ∀ j ∈ jsOf ns, 0 ≤ j.2 ∧ j.2 ≤ 300 := fun j hj => (ok.jb j hj).2.2
    refine Ex.seq (Ex1.setComp2 (xl := jsOf ns) (enc := jnD) (l2 := fun j => rng 0 j.2) (o := fun j _ => PyData.int j.1) (cl := []) (ρf := []) (CFr.nil rfl) (CScope.of rfl rfl rfl) (EvI.list (Ev.cell rfl rfl)) (by rw [hrun, List.length_map, sizeLine_eq]; have := ok.rl; omega) (fun C j hj => ⟨⟨_, As.tuple (.cons (.loc rfl) (.cons (.loc rfl) .nil)), rfl, (fun p hp => nomatch hp), EvI.range (EvR.one (EvV.bb H.toOn rfl (by decide +kernel) (by decide) rfl) (Ev.name rfl rfl)) (by omega) (by omega) (by have := hb j hj; omega) (by have := hb j hj; omega), fun y hy => ⟨_, As.name (.loc rfl), rfl, ?_, Ev.name rfl rfl⟩⟩⟩) (.loc rfl)) ?_
    · intro p hp
      simp only [List.mem_cons, List.not_mem_nil, or_false] at hp
      rcases hp with rfl | rfl <;> rfl
    · rw [hrun]; exact h
end
end Mine
end
section
open PySem PySem.W PyProof.Rows
set_option linter.unusedVariables false
set_option maxRecDepth 100000
namespace Mine
noncomputable def nOf (ns : List Int) : Nat := (stopOf ns - startOf ns).toNat
noncomputable def mostIs (ns : List Int) (f : Int → Str × Int) (l r : Int) : Int := if l = r then (((jsOf ns).filter (fun j => j.1 == l)).map (fun j => j.2.fdiv 2)).sum else (cget ((tget (smOf ns f).table (nmAt ns r)).getD En.zero).cs (nmAt ns l)).getD 0
structure PairOk (ns : List Int) (f : Int → Str × Int) (l r : Int) : Prop where
  most : MostOk (lnAt ns l ++ lnAt ns r) (smOf ns f).strip (nOf ns)
  mostv : mostOf (lnAt ns l ++ lnAt ns r) (smOf ns f).strip (nOf ns) = mostIs ns f l r
  two : EllOk (lnAt ns l ++ lnAt ns r) (smOf ns f).strip
  twov : ell (lnAt ns l ++ lnAt ns r) (smOf ns f).strip = PyData.eqv (.list ((runOf (jsOf ns)).map PyData.int)) (.list [.int l, .int r])
  ends1 : EllOk (lnAt ns l ++ dots ++ lnAt ns r) (smOf ns f).strip
  ends1v : ell (lnAt ns l ++ dots ++ lnAt ns r) (smOf ns f).strip = (((runOf (jsOf ns)).headD 0 == l) && (((runOf (jsOf ns)).getLastD 0 == r) && decide ((1 : Int) < ((runOf (jsOf ns)).length : Nat))))
  ends2 : EllOk (dots ++ lnAt ns l ++ dots ++ lnAt ns r) (smOf ns f).strip
  ends2v : ell (dots ++ lnAt ns l ++ dots ++ lnAt ns r) (smOf ns f).strip = (((runOf (jsOf ns)).getLastD 0 == r) && (runOf (jsOf ns)).dropLast.contains l)
structure LawD (ns : List Int) (f : Int → Str × Int) : Prop extends LawC ns f where
  hN : stopOf ns - startOf ns = (nOf ns : Int)
  rne : runOf (jsOf ns) ≠ []
  most1 : ∀ l : Int, 0 ≤ l → l < 4 → MostOk (lnAt ns l) (smOf ns f).strip (nOf ns) ∧ mostOf (lnAt ns l) (smOf ns f).strip (nOf ns) = (((runOf (jsOf ns)).count l : Nat) : Int)
  pair : ∀ l r : Int, 0 ≤ l → l < 4 → 0 ≤ r → r < 4 → PairOk ns f l r
theorem four_rng : rng 0 4 = ([0, 1, 2, 3] : List Int).map PyData.int := rfl
theorem mem_four {x : Int} (h : x ∈ ([0, 1, 2, 3] : List Int)) : 0 ≤ x ∧ x < 4 := by
  revert x; decide
theorem isNot_same {B : Bs} {a b : Bool} (h : a = b) : Cmp B .IsNot (.bool a) (.bool b) false := by
  subst h
  have := Cmp.isNotBool (B := B) a a
  rwa [show (!(a == a)) = false by cases a <;> rfl] at this
theorem ne_same {B : Bs} {a b : Int} (h : a = b) : Cmp B .NotEq (.int a) (.int b) false := by
  subst h
  have := Cmp.neInt (B := B) a a
  rwa [show (a != a) = false by simp] at this
theorem ints_shaped (l : List Int) : SeqAt.shaped (.list (l.map PyData.int)) = true := shaped_map PyData.int 0 (by omega) (fun a => by simp [PyData.canLay0]) (fun a => by simp [PyData.depth]) l
section
variable {B : Bs}
noncomputable abbrev ρD (ns : List Int) (f : Int → Str × Int) (l : Int) : Rho := ("left", .val (.int l)) :: ρC ns f
noncomputable abbrev ρE (ns : List Int) (f : Int → Str × Int) (l r : Int) : Rho := ("right", .val (.int r)) :: ρD ns f l
/-- lines[i] -/
theorem ev_line {L fa : Addr} {cd : Value} {ns : List Int} {k : Nat} {ρ : Rho} {ve se : Expr} {pos : Pos} {i : Int} (h1 : Ev B k (lawEnv B.w L fa cd) ρ ve (.list ((lnOf ns).map PyData.str))) (h2 : Ev B k (lawEnv B.w L fa cd) ρ se (.int i)) (i0 : 0 ≤ i) (i4 : i < 4)
    (hs : ∀ a u, subscripted se false (.ref a) (.int i u) = operate [.ref a, .int i u] (getItem (.ref a) (.int i u)) := by intro _ _; with_unfolding_all rfl) : Ev B k (lawEnv B.w L fa cd) ρ (.Subscript ve se pos) (.str (lnAt ns i)) :=
  Ev.item (i := i) h1.o h2 i0 (at_four rfl i0 i4) (by omega) hs
noncomputable def forBody : List Stmt → List Stmt
  | .For _ _ b _ _ :: _ => b
  | _ => []
noncomputable abbrev lawL (w : World) : List Stmt := forBody ((bod w.params 108).drop 11)
noncomputable abbrev lawR (w : World) : List Stmt := forBody ((lawL w).drop 1)
theorem ev_n {L fa : Addr} {cd : Value} {ns : List Int} {f : Int → Str × Int} (ok : LawD ns f) {k : Nat} {ρ : Rho} {e1 e2 : Expr} {pos : Pos} (h1 : Ev B k (lawEnv B.w L fa cd) ρ e1 (.int (stopOf ns))) (h2 : Ev B k (lawEnv B.w L fa cd) ρ e2 (.int (startOf ns))) : Ev B k (lawEnv B.w L fa cd) ρ (.BinOp e1 .Sub e2 pos) (.int (nOf ns : Nat)) := by
  rw [← ok.hN]
  exact Ev.bop h1 h2 (Bop.sub _ _)
set_option maxHeartbeats 4000000 in
theorem law_p (H : OnT B) {L fa : Addr} {cd : Value} (ns : List Int) (f : Int → Str × Int) (ok : LawD ns f) (l r : Int) (l0 : 0 ≤ l) (l4 : l < 4) (r0 : 0 ≤ r) (r4 : r < 4) (P : PairOk ns f l r) :
    Ex B 10 (lawEnv B.w L fa cd) (ρE ns f l r) (lawR B.w) (fun o => o = .nxt (ρD ns f l)) := by
  have hll := ok.toLawA.line l0 l4
  have hlr := ok.toLawA.line r0 r4
  have hd3 : dots.length = 3 := by decide +kernel
  have hjl := ok.jl
  have hrl := ok.rl
  -- most
  refine Ex.cons (Ex1.mono (P := fun o => o = .nxt (("most", .val (.int (mostIs ns f l r))) :: ρE ns f l r)) (Ex1.if (b := l == r) (Tst.cmp (Ev.cell (d := .int l) rfl rfl).o (Ev.name (d := .int r) rfl rfl).o (Cmp.eqInt l r)) (fun hb => ?_) fun hb => ?_) fun o e => ?_)
  · have hb' : l = r := eq_of_beq hb
    have hm : mostIs ns f l r = (((jsOf ns).filter (fun j => j.1 == l)).map (fun j => j.2.fdiv 2)).sum := if_pos hb'
    have hsum : BC B (.builtin "sum") [.list ((jsOf ns).filterMap fun j => if (j.1 == l) = true then some (PyData.int (j.2.fdiv 2)) else none)] (.int (mostIs ns f l r)) := by
      rw [hm, filterMap_ifs, show ((jsOf ns).filter (fun j => j.1 == l)).map (fun j => PyData.int (j.2.fdiv 2)) = (((jsOf ns).filter (fun j => j.1 == l)).map (fun j => j.2.fdiv 2)).map PyData.int by rw [List.map_map]; rfl]
      exact BC.sum _
    exact Ex.seq (Ex1.set (Ev.bcall (EvV.bb H.toOn rfl (by decide +kernel) (by decide) rfl) (.fn _) (EvOs.cons (Ev.comp (xl := jsOf ns) (enc := jnD) (g := fun j => if (j.1 == l) = true then some (PyData.int (j.2.fdiv 2)) else none) (cl := [("left", L + 4)]) (ρf := [("left", .val (.int l))]) (CFr.one rfl (.head _) rfl rfl rfl rfl) (CScope.of rfl rfl rfl) (EvI.list (Ev.cell rfl rfl)) (by rw [sizeLine_eq]; omega) (fun C j hj => Turn.some (As.tuple (.cons (.loc rfl) (.cons (.loc rfl) .nil))) rfl ⟨rfl, trivial⟩ (Tst.cmp (Ev.name rfl rfl).o (Ev.cell rfl rfl).o (Cmp.eqInt _ _)) fun _ => Ev.bop (Ev.name rfl rfl) Ev.int (Bop.div (by decide) (PyProof.noPylong_small (by decide))))).o EvOs.nil) hsum) (.loc rfl)) (Ex.nil rfl)
  · have hb' : ¬ l = r := by simpa using hb
    have hm : mostIs ns f l r = (cget ((tget (smOf ns f).table (nmAt ns r)).getD En.zero).cs (nmAt ns l)).getD 0 := if_neg hb'
    have hg1 : BC B (.builtin "dict.get") [dct (tbD (smOf ns f).table), .str (nmAt ns r), En.zero.d] ((tget (smOf ns f).table (nmAt ns r)).getD En.zero).d := by
      have := BC.dictGet (B := B) (x := nmAt ns r) (l := tbD (smOf ns f).table) (dflt := En.zero.d) rfl
      rw [tb_get] at this
      cases hg : tget (smOf ns f).table (nmAt ns r) with
      | none => rw [hg] at this; exact this
      | some e => rw [hg] at this; exact this
    have hg2 : BC B (.builtin "dict.get") [dct (dc ((tget (smOf ns f).table (nmAt ns r)).getD En.zero).cs), .str (nmAt ns l), .int 0] (.int (mostIs ns f l r)) := by
      have := BC.dictGet (B := B) (x := nmAt ns l) (l := dc ((tget (smOf ns f).table (nmAt ns r)).getD En.zero).cs) (dflt := .int 0) rfl
      rw [dc_get] at this
      rw [hm]
      cases hg : cget ((tget (smOf ns f).table (nmAt ns r)).getD En.zero).cs (nmAt ns l) with
      | none => rw [hg] at this; exact this
      | some e => rw [hg] at this; exact this
    refine Ex.seq (Ex1.set (Ev.meth (T := "dict") (id := "dict.get") (Ev.titem (i := 4) (d := dct (dc ((tget (smOf ns f).table (nmAt ns r)).getD En.zero).cs)) (Ev.meth (T := "dict") (id := "dict.get") (Ev.name (d := dct (tbD (smOf ns f).table)) rfl rfl).o (EvOs.cons (Ev.item (i := r) (d := .str (nmAt ns r)) (Ev.cell (d := .list ((nmOf ns).map PyData.str)) rfl rfl).o (Ev.name rfl rfl) r0 (at_four rfl r0 r4) (by omega)).o (EvOs.cons (Ev.tuple (ds := [.int 0, .int 0, .int 0, .int 0, dct (dc [])]) (Evs.cons Ev.int (Evs.cons Ev.int (Evs.cons Ev.int (Evs.cons Ev.int (Evs.cons Ev.dict0 Evs.nil)))))).o EvOs.nil)) rfl (.inr (.inr rfl)) PySem.F.plainAttrs_dict PySem.F.slot_dict_get PySem.F.type_dict_get hg1).o Ev.int (by decide) rfl (by decide)).o (EvOs.cons (Ev.item (i := l) (d := .str (nmAt ns l)) (Ev.cell (d := .list ((nmOf ns).map PyData.str)) rfl rfl).o (Ev.cell rfl rfl) l0 (at_four rfl l0 l4) (by omega)).o (EvOs.cons Ev.int.o EvOs.nil)) rfl (.inr (.inr rfl)) PySem.F.plainAttrs_dict PySem.F.slot_dict_get PySem.F.type_dict_get hg2) (.loc rfl)) (Ex.nil rfl)
  subst e
  show Ex B 10 _ _ _ _
  refine Ex.cons (Ex1.if (b := false) ?t1 (fun h => nomatch h) fun _ => Ex.nil ?_)
  case t1 => exact Tst.cmp (Ev.call (EvV.kk H.toOn rfl rfl) (H.toOn.get 103 rfl) rfl (Evs.cons (Ev.bop (ev_line (Ev.cell rfl rfl) (Ev.cell rfl rfl) l0 l4) (ev_line (Ev.cell rfl rfl) (Ev.name rfl rfl) r0 r4) (Bop.cat (by rw [sizeLine_eq]; omega))) (Evs.cons (Ev.name rfl rfl) (Evs.cons (ev_n ok (Ev.name rfl rfl) (Ev.name rfl rfl)) Evs.nil))) (spec103 H _ _ _ P.most) (by omega)).o (Ev.name (d := .int (mostIs ns f l r)) rfl rfl).o (ne_same P.mostv)
  refine Ex.cons (Ex1.if (b := false) ?t2 (fun h => nomatch h) fun _ => Ex.nil ?_)
  case t2 => exact Tst.cmp (Ev.call (EvV.kk H.toOn rfl rfl) (H.toOn.get 21 rfl) rfl (Evs.cons (Ev.bop (ev_line (Ev.cell rfl rfl) (Ev.cell rfl rfl) l0 l4) (ev_line (Ev.cell rfl rfl) (Ev.name rfl rfl) r0 r4) (Bop.cat (by rw [sizeLine_eq]; omega))) (Evs.cons (Ev.name rfl rfl) Evs.nil)) (spec21 H.toOn _ _ P.two) (by omega)).o (Ev.cmp (Ev.name rfl rfl).o (Ev.list (ds := [.int l, .int r]) (Evs.cons (Ev.cell rfl rfl) (Evs.cons (Ev.name rfl rfl) Evs.nil))).o (Cmp.eq (ints_shaped _) (ints_shaped [l, r]))).o (isNot_same P.twov)
  have hhd : ((runOf (jsOf ns)).map PyData.int)[(0 : Int).toNat]? = some (.int ((runOf (jsOf ns)).headD 0)) := by
    cases hc : runOf (jsOf ns) with
    | nil => exact absurd hc ok.rne
    | cons a t => rfl
  have hls : ((runOf (jsOf ns)).map PyData.int).getLast? = some (.int ((runOf (jsOf ns)).getLastD 0)) := by
    rw [List.getLast?_map, List.getLast?_eq_some_getLast ok.rne, List.getLastD_eq_getLast?, List.getLast?_eq_some_getLast ok.rne]; rfl
  have hdl : ((runOf (jsOf ns)).map PyData.int).take (((runOf (jsOf ns)).map PyData.int).length - (-(-1 : Int)).toNat) = (runOf (jsOf ns)).dropLast.map PyData.int := by
    rw [List.map_dropLast, List.dropLast_eq_take]; rfl
  refine Ex.seq (Ex1.set (d := .bool (((runOf (jsOf ns)).headD 0 == l) && (((runOf (jsOf ns)).getLastD 0 == r) && decide ((1 : Int) < ((runOf (jsOf ns)).length : Nat))))) (Ev.and3 (Ev.cmp (Ev.item (i := 0) (Ev.name rfl rfl).o Ev.int (by decide) hhd (by decide)).o (Ev.cell rfl rfl).o (Cmp.eqInt _ l)) (fun _ => Ev.cmp (Ev.last (Ev.name rfl rfl).o (Ev.neg Ev.int) hls).o (Ev.name rfl rfl).o (Cmp.eqInt _ r)) (fun _ _ => Ev.cmp (Ev.bcall (EvV.bb H.toOn rfl (by decide +kernel) (by decide) rfl) (.fn _) (EvOs.cons (Ev.name (d := .list ((runOf (jsOf ns)).map PyData.int)) rfl rfl).o EvOs.nil) (BC.len_list (by rw [List.length_map]; omega))).o Ev.int.o (by rw [List.length_map]; exact Cmp.gt _ _))) (.loc rfl)) ?_
  refine Ex.cons (Ex1.if (b := false) ?t3 (fun h => nomatch h) fun _ => Ex.nil ?_)
  case t3 => exact Tst.cmp (Ev.call (EvV.kk H.toOn rfl rfl) (H.toOn.get 21 rfl) rfl (Evs.cons (Ev.bop (Ev.bop (ev_line (Ev.cell rfl rfl) (Ev.cell rfl rfl) l0 l4) Ev.str (Bop.cat (by rw [sizeLine_eq]; show _ + dots.length ≤ _; omega))) (ev_line (Ev.cell rfl rfl) (Ev.name rfl rfl) r0 r4) (Bop.cat (by rw [sizeLine_eq, str_len]; show _ + dots.length + _ ≤ _; omega))) (Evs.cons (Ev.name rfl rfl) Evs.nil)) (spec21 H.toOn _ _ P.ends1) (by omega)).o (Ev.name rfl rfl).o (isNot_same P.ends1v)
  refine Ex.seq (Ex1.set (d := .bool (((runOf (jsOf ns)).getLastD 0 == r) && (runOf (jsOf ns)).dropLast.contains l)) (Ev.and2 (Ev.cmp (Ev.last (Ev.name rfl rfl).o (Ev.neg Ev.int) hls).o (Ev.name rfl rfl).o (Cmp.eqInt _ r)) (fun _ => Ev.cmp (Ev.cell (d := .int l) rfl rfl).o (Ev.sliceTo (i := -1) (n := ((runOf (jsOf ns)).map PyData.int).length - (-(-1 : Int)).toNat) (Ev.name rfl rfl).o (Ev.neg Ev.int) (.inr ⟨by decide, rfl⟩) (by rw [List.length_map]; omega)).o (by rw [hdl]; exact Cmp.inInts _ l))) (.loc rfl)) ?_
  refine Ex.cons (Ex1.if (b := false) ?t4 (fun h => nomatch h) fun _ => Ex.nil (Ex.ends (ρD ns f l) ⟨rfl, rfl, rfl, rfl, rfl, rfl, rfl, rfl, rfl, rfl, rfl, trivial⟩ rfl rfl))
  case t4 => exact Tst.cmp (Ev.call (EvV.kk H.toOn rfl rfl) (H.toOn.get 21 rfl) rfl (Evs.cons (Ev.bop (Ev.bop (Ev.bop Ev.str (ev_line (Ev.cell rfl rfl) (Ev.cell rfl rfl) l0 l4) (Bop.cat (by rw [sizeLine_eq]; show dots.length + _ ≤ _; omega))) Ev.str (Bop.cat (by rw [sizeLine_eq, str_len]; show dots.length + _ + dots.length ≤ _; omega))) (ev_line (Ev.cell rfl rfl) (Ev.name rfl rfl) r0 r4) (Bop.cat (by rw [sizeLine_eq, str_len, str_len]; show dots.length + _ + dots.length + _ ≤ _; omega))) (Evs.cons (Ev.name rfl rfl) Evs.nil)) (spec21 H.toOn _ _ P.ends2) (by omega)).o (Ev.name rfl rfl).o (isNot_same P.ends2v)
end
end Mine
end
section
open PySem PySem.W PyProof.Rows
set_option linter.unusedVariables false
set_option maxRecDepth 100000
namespace Mine
section
variable {B : Bs}
set_option maxHeartbeats 4000000 in
theorem law_d (H : OnT B) {L fa : Addr} {cd : Value} (ns : List Int) (f : Int → Str × Int) (ok : LawD ns f) :
    Ex B 10 (lawEnv B.w L fa cd) (ρC ns f) ((bod B.w.params 108).drop 11) (fun o => o = .ret (.bool true)) := by
  have hnd : ([L + 4, L + 3, L + 2, L + 1] : List Nat).Nodup := by simp
  refine Ex.cons (Ex1.forC (xl := ([0, 1, 2, 3] : List Int)) (enc := PyData.int) (fun _ => ρC ns f) (by rw [← four_rng]; exact EvI.range (EvR.one (EvV.bb H.toOn rfl (by decide +kernel) (by decide) rfl) Ev.int) (by omega) (by omega) (by omega) (by omega)) rfl (fun _ => rfl) (fun i l hl => ?_) ?_)
  · obtain ⟨l0, l4⟩ := mem_four (List.mem_of_getElem? hl)
    obtain ⟨m1, m2⟩ := ok.most1 l l0 l4
    refine ⟨_, As.name (Sto.cell (c := L + 4) rfl rfl hnd), rfl, ?_⟩
    refine Ex.cons (Ex1.if (b := false) ?t1 (fun h => nomatch h) fun _ => Ex.nil ?_)
    case t1 => exact Tst.cmp (Ev.call (EvV.kk H.toOn rfl rfl) (H.toOn.get 103 rfl) rfl (Evs.cons (ev_line (Ev.cell rfl rfl) (Ev.cell rfl rfl) l0 l4) (Evs.cons (Ev.name rfl rfl) (Evs.cons (ev_n ok (Ev.name rfl rfl) (Ev.name rfl rfl)) Evs.nil))) (spec103 H _ _ _ m1) (by omega)).o (Ev.meth (T := "list") (id := "list.count") (Ev.name (d := .list ((runOf (jsOf ns)).map PyData.int)) rfl rfl).o (EvOs.cons (Ev.cell (d := .int l) rfl rfl).o EvOs.nil) rfl (.inr (.inl rfl)) PySem.F.plainAttrs_list PySem.F.slot_list_count PySem.F.type_list_count (BC.count (runOf (jsOf ns)) l)).o (ne_same m2)
    refine Ex.cons (Ex1.forC (xl := ([0, 1, 2, 3] : List Int)) (enc := PyData.int) (fun _ => ρD ns f l) (by rw [← four_rng]; exact EvI.range (EvR.one (EvV.bb H.toOn rfl (by decide +kernel) (by decide) rfl) Ev.int) (by omega) (by omega) (by omega) (by omega)) rfl (fun _ => rfl) (fun j r hr => ?_) ?_)
    · obtain ⟨r0, r4⟩ := mem_four (List.mem_of_getElem? hr)
      refine ⟨_, As.name (.loc rfl), rfl, Ex.mono (law_p H ns f ok l r l0 l4 r0 r4 (ok.pair l r l0 l4 r0 r4)) fun o e => ?_⟩
      subst e; rfl
    · exact Ex.ends (ρC ns f) ⟨rfl, rfl, rfl, rfl, rfl, rfl, rfl, rfl, rfl, rfl, trivial⟩ rfl rfl
  · exact Ex.ret Ev.bool rfl
theorem lawEx (H : OnT B) {L fa : Addr} {cd : Value} (ns : List Int) (f : Int → Str × Int) (ok : LawD ns f) :
    Ex B 10 (lawEnv B.w L fa cd) [("script", .val (.list (ns.map PyData.int)))] (bod B.w.params 108) (fun o => o = .ret (.bool true)) :=
  law_a H ns f ok.toLawA (law_b H ns f ok.toLawB (law_c H ns f ok.toLawC (law_d H ns f ok)))
end
end Mine
end
section
open PySem PySem.W PyProof.Rows
set_option linter.unusedVariables false
set_option maxRecDepth 100000
namespace Mine
theorem wellInts {P : Params} {h : Heap} : ∀ {vs : List Value} {ns : List Int}, WellAll P h vs (ns.map WData.int) → ∀ {B : Bs} {X : List Addr} {h' : Heap}, Reps B X h' vs (ns.map PyData.int)
  | [], [], _, B, X, h' => .nil
  | [], _ :: _, x, _, _, _ => by cases x
  | _ :: _, [], x, _, _, _ => by cases x
  | v :: vs, n :: ns, x, B, X, h' => by
    cases x with | cons a r => cases a with | int i t => exact .cons (.int _ _) (wellInts r)
theorem lawJoin {prog : Program} {w : World} {p0 : Program} {loose : List Str} {mean : ExcName → Option Value} {mg mb : Str → Option Value} {hB h1 : Heap} {L fa a : Addr} {cd : Value} {m : Str → Option Value} {gens dr tk os} {vs : List Value} {ns : List Int} {f : Int → Str × Int} {oA oB oC oD : Obj} {vA vB vC vD : Option Value}
    (T : Top p0 loose mean mg mb hB) (X : (KK w.params).In hB) (F : Fr hB L h1 m) (c98 : CodeHd hB 102 98) (c93 : CodeHd hB 95 93)
    (N : News hB L h1 [(L + 1 + 1 + 1 + 1, oA), (L + 1 + 1 + 1, oB), (L + 1 + 1, oC), (L + 1, oD), (98, tabObj #[]), (93, tabObj #[])])
    (dA : oA.data = .cell vA) (dB : oB.data = .cell vB) (dC : oC.data = .cell vC) (dD : oD.data = .cell vD)
    (hm : m (Str.ofString "script") = some (.ref a)) (hl : hB.PlainList a vs.toArray) (hi : ∀ {B : Bs} {X : List Addr} {h' : Heap}, Reps B X h' vs (ns.map PyData.int)) (ok : LawD ns f) :
    wpAny (model prog w) (callerA.deeper (lawEnv w L fa cd)) (execs (bod w.params 108) (lawEnv w L fa cd))
      (fun fl s' => fl = .ret (.bool true) ∧ (∀ b o, hB.get? b = some o → s'.heap.get? b = some o) ∧ s'.gens = gens ∧ s'.os = os ∧ GrownAll [(102, 98), (95, 93)] s'.heap) (fun _ _ => False)
      ⟨h1, gens, dr, tk, os⟩ := by
  let B : Bs := { prog := prog, w := w, hB := hB, mg := mg, mb := mb, p0 := p0, loose := loose, mean := mean, tabs := [tabMost, tabEntry], T := T
                  code := fun t ht => by
                    simp only [List.mem_cons, List.not_mem_nil, or_false] at ht
                    rcases ht with rfl | rfl
                    · exact c98
                    · exact c93
                  hid := fun t ht => by
                    simp only [List.mem_cons, List.not_mem_nil, or_false] at ht
                    rcases ht with rfl | rfl
                    · exact (N (98, tabObj #[]) (by simp)).2.2
                    · exact (N (93, tabObj #[]) (by simp)).2.2 }
  have H : OnT B := { X := X, tabs := rfl }
  have g : Gd B h1 := ⟨F.keep, fun t ht => by
    have ht : t ∈ [tabMost, tabEntry] := ht
    simp only [List.mem_cons, List.not_mem_nil, or_false] at ht
    rcases ht with rfl | rfl
    · exact ⟨_, (N (98, tabObj #[]) (by simp)).1, .inl rfl⟩
    · exact ⟨_, (N (93, tabObj #[]) (by simp)).1, .inl rfl⟩⟩
  have hL : hB.get? L = none := Heap.get?_none_of_le F.above
  have hcells : (lawEnv w L fa cd).cells = [(Str.ofString "left", L + 1 + 1 + 1 + 1), (Str.ofString "joined", L + 1 + 1 + 1), (Str.ofString "lines", L + 1 + 1), (Str.ofString "names", L + 1)] := rfl
  have hal : a ≠ L := fun q => by obtain ⟨n, e⟩ := hl; rw [q, hL] at e; cases e
  have FF : Fok B (lawEnv w L fa cd) [] [("script", .val (.list (ns.map PyData.int)))] h1 := by
    refine ⟨g, (fun a ha => nomatch ha), rfl, rfl, rfl, ⟨m, F.ns, fun y sl hy hk => ?_⟩, fun p hp => ?_, fun y sl hy hk => ?_, hL, fun c hc => ?_, fun a ha => nomatch ha⟩
    · rw [List.lookup_cons] at hy
      by_cases q : y == Str.ofString "script"
      · rw [q] at hy; cases hy
        have := eq_of_beq q
        subst this
        refine ⟨_, hm, .list (hl.at fun o e => F.keep _ _ e) ?_ hi⟩
        simp only [xs, owns, List.filterMap_cons, Slot.addr, List.filterMap_nil, List.nil_append, List.mem_cons, List.not_mem_nil, or_false]
        exact hal
      · rw [Bool.not_eq_true] at q; rw [q] at hy; simp at hy
    · rw [hcells] at hp
      simp only [List.mem_cons, List.not_mem_nil, or_false] at hp
      rcases hp with rfl | rfl | rfl | rfl
      · exact ⟨_, _, (N (_, oA) (by simp)).1, dA⟩
      · exact ⟨_, _, (N (_, oB) (by simp)).1, dB⟩
      · exact ⟨_, _, (N (_, oC) (by simp)).1, dC⟩
      · exact ⟨_, _, (N (_, oD) (by simp)).1, dD⟩
    · rw [List.lookup_cons] at hy
      by_cases q : y == Str.ofString "script"
      · have := eq_of_beq q
        subst this
        rcases hk with h | h <;> cases h
      · rw [Bool.not_eq_true] at q; rw [q] at hy; simp at hy
    · obtain ⟨p, hp, rfl⟩ := cellsOf_mem hc
      rw [hcells] at hp
      simp only [List.mem_cons, List.not_mem_nil, or_false] at hp
      rcases hp with rfl | rfl | rfl | rfl
      · exact (N (_, oA) (by simp)).2.2
      · exact (N (_, oB) (by simp)).2.2
      · exact (N (_, oC) (by simp)).2.2
      · exact (N (_, oD) (by simp)).2.2
  have rm : Rm 10 (callerA.deeper (lawEnv w L fa cd)) := ⟨rfl, by show 1 + claimMargin + 1 + 10 < recursionLimit; decide +kernel, by show 4 + 3 + 80 * 10 + 200 < cLine; decide +kernel⟩
  refine wpAny_mono (lawEx H (L := L) (fa := fa) (cd := cd) ns f ok (callerA.deeper (lawEnv w L fa cd)) [] ⟨h1, gens, dr, tk, os⟩ rm FF) (fun fl s' ⟨o, ho, hr⟩ => ?_) fun _ _ h => h
  subst ho
  obtain ⟨v, rfl, r, k⟩ := hr
  have := r.bool_inv
  subst this
  have g' := k.gd g
  refine ⟨rfl, g'.keep, k.gens, k.os, ?_, ?_, trivial⟩
  · obtain ⟨ps, e, _⟩ := g'.tab tabMost (by show tabMost ∈ [tabMost, tabEntry]; simp)
    exact ⟨ps, e⟩
  · obtain ⟨ps, e, _⟩ := g'.tab tabEntry (by show tabEntry ∈ [tabMost, tabEntry]; simp)
    exact ⟨ps, e⟩
end Mine
end
section
open PySem PySem.W PyProof.Rows
set_option linter.unusedVariables false
namespace Mine
/-! tokens: runs, changes, first meetings -/
theorem uniq_snoc (a : Int) : ∀ l : List Int, uniq (l ++ [a]) = if a ∈ l then uniq l else uniq l ++ [a]
  | [] => by simp [uniq]
  | b :: l => by
    have ih := uniq_snoc a l
    simp only [List.cons_append, uniq, ih]
    by_cases h1 : a ∈ l
    · simp [h1]
    · by_cases h2 : a = b
      · subst h2; simp [h1, List.filter_append]
      · simp [h1, h2, List.filter_append]
theorem came_uniq (js : List Jn) : cameOf js = uniq (js.map (·.1)) := by
  have key : ∀ n, n ≤ js.length → ((List.range n).filter (fun k => !((js.take k).map (·.1)).contains (jat js k))).map (jat js) = uniq ((js.take n).map (·.1)) := by
    intro n
    induction n with
    | zero => intro _; simp [uniq]
    | succ n ih =>
      intro hn
      have hlt : n < js.length := hn
      rw [List.range_succ, List.filter_append, List.map_append, ih (Nat.le_of_lt hlt), List.take_succ_eq_append_getElem hlt, List.map_append]
      have ej : jat js n = js[n].1 := by simp [jat, hlt]
      show _ = uniq ((js.take n).map (·.1) ++ [js[n].1])
      rw [uniq_snoc]
      by_cases h : js[n].1 ∈ (js.take n).map (·.1)
      · rw [if_pos h]
        have : ((js.take n).map (·.1)).contains (jat js n) = true := by rw [ej]; exact List.contains_iff_mem.mpr h
        simp only [List.filter_cons, List.filter_nil, this, Bool.not_true, Bool.false_eq_true, if_false, List.map_nil, List.append_nil]
      · rw [if_neg h]
        have : ((js.take n).map (·.1)).contains (jat js n) = false := by rw [ej, Bool.eq_false_iff]; exact fun q => h (List.contains_iff_mem.mp q)
        simp only [List.filter_cons, List.filter_nil, this, Bool.not_false, if_true, List.map_cons, List.map_nil]
        rw [ej]
  have := key js.length (Nat.le_refl _)
  rw [List.take_length] at this
  exact this
/-- the changes: what ran ahead, what runs now -/
noncomputable def ch : Option Int → List Int → List (Option Int × Int)
  | _, [] => []
  | p, a :: r => if p = some a then ch (some a) r else (p, a) :: ch (some a) r
noncomputable def lastO (p : Option Int) (l : List Int) : Option Int := l.getLast?.or p
theorem lastO_cons (p : Option Int) (a : Int) (r : List Int) : lastO p (a :: r) = lastO (some a) r := by
  unfold lastO
  cases r with
  | nil => rfl
  | cons b t => rw [List.getLast?_cons_cons]; cases h : (b :: t).getLast? with
    | none => simp at h
    | some c => rfl
theorem ch_snoc (a : Int) : ∀ (l : List Int) (p : Option Int), ch p (l ++ [a]) = ch p l ++ (if lastO p l = some a then [] else [(lastO p l, a)])
  | [], p => by
    show ch p [a] = _
    have hl : lastO p [] = p := by unfold lastO; simp
    rw [hl]
    by_cases h : p = some a
    · simp [ch, h]
    · simp [ch, h]
  | b :: l, p => by
    have ih := ch_snoc a l (some b)
    rw [lastO_cons]
    show ch p (b :: (l ++ [a])) = _
    unfold ch
    by_cases h : p = some b
    · rw [if_pos h, if_pos h, ih]
    · rw [if_neg h, if_neg h, ih, List.cons_append]
noncomputable def befO (w : Int) (l : List (Option Int × Int)) : List Int := l.filterMap fun q => if q.2 = w then q.1 else none
theorem lastO_none (l : List Int) : lastO none l = l.getLast? := by unfold lastO; simp
theorem last_mem {l : List Int} {a : Int} (h : l.getLast? = some a) : a ∈ l := List.mem_of_getLast? h
theorem uniq_ch : ∀ rs : List Int, uniq ((ch none rs).map (·.2)) = uniq rs := by
  intro rs
  suffices h : ∀ n, n ≤ rs.length → uniq ((ch none (rs.take n)).map (·.2)) = uniq (rs.take n) ∧ ∀ x, x ∈ (ch none (rs.take n)).map (·.2) ↔ x ∈ rs.take n by
    have := (h rs.length (Nat.le_refl _)).1
    rwa [List.take_length] at this
  intro n
  induction n with
  | zero => intro _; simp [ch]
  | succ n ih =>
    intro hn
    have hlt : n < rs.length := hn
    obtain ⟨i1, i2⟩ := ih (Nat.le_of_lt hlt)
    rw [List.take_succ_eq_append_getElem hlt, ch_snoc, List.map_append, lastO_none]
    by_cases h : (rs.take n).getLast? = some rs[n]
    · rw [if_pos h]
      have hm := last_mem h
      rw [uniq_snoc, if_pos hm]
      simp only [List.map_nil, List.append_nil]
      refine ⟨i1, fun x => ?_⟩
      rw [i2, List.mem_append, List.mem_singleton]
      exact ⟨.inl, fun q => q.elim id fun e => e ▸ hm⟩
    · rw [if_neg h]
      simp only [List.map_cons, List.map_nil]
      rw [uniq_snoc, uniq_snoc, i1]
      refine ⟨?_, fun x => ?_⟩
      · by_cases q : rs[n] ∈ rs.take n
        · rw [if_pos q, if_pos ((i2 _).mpr q)]
        · rw [if_neg q, if_neg fun q' => q ((i2 _).mp q')]
      · rw [List.mem_append, List.mem_append, i2]
/-! runs -/
noncomputable def Proper : Option Int → List Jn → Prop
  | _, [] => True
  | p, j :: r => p ≠ some j.1 ∧ 1 ≤ j.2 ∧ Proper (some j.1) r
noncomputable def chJ : Option Int → List Jn → List (Option Int × Int)
  | _, [] => []
  | p, j :: r => (p, j.1) :: chJ (some j.1) r
theorem ch_same (a : Int) (rest : List Int) : ∀ n, ch (some a) (List.replicate n a ++ rest) = ch (some a) rest
  | 0 => rfl
  | n + 1 => by
    rw [List.replicate_succ, List.cons_append]
    show (if some a = some a then ch (some a) (List.replicate n a ++ rest) else _) = _
    rw [if_pos rfl]
    exact ch_same a rest n
theorem run_cons (j : Jn) (r : List Jn) : runOf (j :: r) = List.replicate j.2.toNat j.1 ++ runOf r := by simp [runOf]
theorem ch_run : ∀ (js : List Jn) (p : Option Int), Proper p js → ch p (runOf js) = chJ p js
  | [], _, _ => rfl
  | j :: r, p, ⟨h1, h2, h3⟩ => by
    obtain ⟨n, hn⟩ : ∃ n, j.2.toNat = n + 1 := ⟨j.2.toNat - 1, by omega⟩
    rw [run_cons, hn, List.replicate_succ, List.cons_append]
    unfold ch chJ
    rw [if_neg h1, ch_same, ch_run r _ h3]
theorem chJ_snd : ∀ (js : List Jn) (p : Option Int), (chJ p js).map (·.2) = js.map (·.1)
  | [], _ => rfl
  | j :: r, p => by simp [chJ, chJ_snd r]
theorem before_chJ (w : Int) : ∀ (js : List Jn), beforeOf js w = befO w (chJ none js) := by
  have gen : ∀ (js : List Jn) (a : Jn), beforeOf (a :: js) w = befO w (chJ (some a.1) js) := by
    intro js
    induction js with
    | nil => intro a; rfl
    | cons b r ih =>
      intro a
      have e : beforeOf (a :: b :: r) w = (if b.1 = w then [a.1] else []) ++ beforeOf (b :: r) w := by
        unfold beforeOf
        show ((List.range (r.length + 1)).filter _).map _ = _
        rw [List.range_succ_eq_map, List.filter_cons, List.filter_map, List.length_cons, Nat.add_sub_cancel]
        have h0 : jat (a :: b :: r) (0 + 1) = b.1 := rfl
        have h1 : jat (a :: b :: r) 0 = a.1 := rfl
        have h2 : ((fun i => jat (a :: b :: r) (i + 1) == w) ∘ Nat.succ) = fun i => jat (b :: r) (i + 1) == w := by funext i; rfl
        rw [h0, h2]
        by_cases q : b.1 = w
        · simp only [q, beq_self_eq_true, if_true, List.map_cons, List.map_map, List.cons_append, List.nil_append]
          congr 1
        · have : (b.1 == w) = false := by simpa using q
          simp only [this, q, if_false, Bool.false_eq_true, List.map_map, List.nil_append]
          congr 1
      rw [e, ih b]
      show _ = befO w ((some a.1, b.1) :: chJ (some b.1) r)
      unfold befO
      rw [List.filterMap_cons]
      by_cases q : b.1 = w <;> simp [q]
  intro js
  cases js with
  | nil => rfl
  | cons a r =>
    rw [gen]
    show _ = befO w ((none, a.1) :: chJ (some a.1) r)
    unfold befO
    rw [List.filterMap_cons]
    by_cases q : a.1 = w <;> simp [q]
end Mine
end
section
open PySem PySem.W PyProof.Rows
set_option linter.unusedVariables false
namespace Mine
/-! how often a pattern can be laid into a run -/
noncomputable def tfind (p : List Int) : List Int → Option Nat
  | [] => none
  | a :: r => if p.isPrefixOf (a :: r) = true then some 0 else (tfind p r).map (· + 1)
noncomputable def gm (p : List Int) : Nat → List Int → Bool
  | 0, _ => true
  | k + 1, rs => match tfind p rs with
    | none => false
    | some i => gm p k (rs.drop (i + p.length))
theorem gm_le {p : List Int} {m : List Int → Nat} (h0 : ∀ rs, tfind p rs = none → m rs = 0) (h1 : ∀ rs i, tfind p rs = some i → m rs = 1 + m (rs.drop (i + p.length))) : ∀ k rs, gm p k rs = decide (k ≤ m rs)
  | 0, rs => by simp [gm]
  | k + 1, rs => by
    unfold gm
    cases h : tfind p rs with
    | none => simp [h0 rs h]
    | some i =>
      dsimp only
      rw [gm_le h0 h1 k, h1 rs i h]
      simp only [decide_eq_decide]
      omega
theorem count_none (l : Int) : ∀ rs, tfind [l] rs = none → rs.count l = 0
  | [], _ => rfl
  | a :: r, h => by
    unfold tfind at h
    by_cases q : l = a
    · subst q; simp [List.isPrefixOf] at h
    · have e : [l].isPrefixOf (a :: r) = false := by simp [List.isPrefixOf, q]
      rw [e] at h
      simp only [Bool.false_eq_true, if_false, Option.map_eq_none_iff] at h
      rw [List.count_cons, count_none l r h]
      have q' : ¬ a = l := fun e => q e.symm
      simp [q']
theorem count_some (l : Int) : ∀ rs i, tfind [l] rs = some i → rs.count l = 1 + (rs.drop (i + 1)).count l
  | [], i, h => by cases h
  | a :: r, i, h => by
    unfold tfind at h
    by_cases q : l = a
    · subst q
      simp [List.isPrefixOf] at h
      subst h
      simp [List.count_cons]; omega
    · have e : [l].isPrefixOf (a :: r) = false := by simp [List.isPrefixOf, q]
      rw [e] at h
      simp only [Bool.false_eq_true, if_false, Option.map_eq_some_iff] at h
      obtain ⟨j, hj, rfl⟩ := h
      rw [List.count_cons, count_some l r j hj]
      have q' : ¬ a = l := fun e => q e.symm
      simp [q']
noncomputable def prs (l r : Int) : List Int → Nat
  | a :: b :: t => if a = l ∧ b = r then 1 + prs l r t else prs l r (b :: t)
  | _ => 0
theorem prs_none (l r : Int) : ∀ rs, tfind [l, r] rs = none → prs l r rs = 0
  | [], _ => rfl
  | [a], _ => rfl
  | a :: b :: t, h => by
    unfold tfind at h
    by_cases q : a = l ∧ b = r
    · obtain ⟨rfl, rfl⟩ := q; simp [List.isPrefixOf] at h
    · have e : [l, r].isPrefixOf (a :: b :: t) = false := by
        rw [Bool.eq_false_iff]; intro e
        simp [List.isPrefixOf] at e
        exact q ⟨e.1.symm, e.2.symm⟩
      rw [e] at h
      simp only [Bool.false_eq_true, if_false, Option.map_eq_none_iff] at h
      unfold prs
      rw [if_neg q, prs_none l r (b :: t) h]
theorem prs_some (l r : Int) : ∀ rs i, tfind [l, r] rs = some i → prs l r rs = 1 + prs l r (rs.drop (i + 2))
  | [], i, h => by cases h
  | [a], i, h => by simp [tfind, List.isPrefixOf] at h
  | a :: b :: t, i, h => by
    unfold tfind at h
    by_cases q : a = l ∧ b = r
    · obtain ⟨rfl, rfl⟩ := q
      simp [List.isPrefixOf] at h
      subst h
      rw [prs, if_pos ⟨rfl, rfl⟩]
      rfl
    · have e : [l, r].isPrefixOf (a :: b :: t) = false := by
        rw [Bool.eq_false_iff]; intro e
        simp [List.isPrefixOf] at e
        exact q ⟨e.1.symm, e.2.symm⟩
      rw [e] at h
      simp only [Bool.false_eq_true, if_false, Option.map_eq_some_iff] at h
      obtain ⟨j, hj, rfl⟩ := h
      have ih := prs_some l r (b :: t) j hj
      rw [prs, if_neg q, ih]
      rfl
theorem prs_le (l r : Int) : ∀ rs : List Int, prs l r rs ≤ rs.length
  | [] => Nat.le_refl _
  | [a] => Nat.zero_le _
  | a :: b :: t => by
    unfold prs
    split
    · have := prs_le l r t; simp only [List.length_cons]; omega
    · have := prs_le l r (b :: t); simp only [List.length_cons] at this ⊢; omega
theorem prs_skip {l r a : Int} {rest : List Int} (h : ¬ a = l) : prs l r (a :: rest) = prs l r rest := by
  cases rest with
  | nil => rfl
  | cons b t => rw [prs, if_neg fun q => h q.1]
theorem prs_same (l a : Int) (rest : List Int) (hr : rest.head? ≠ some a) : ∀ n, prs l l (List.replicate n a ++ rest) = (if a = l then n / 2 else 0) + prs l l rest
  | 0 => by simp
  | 1 => by
    show prs l l (a :: rest) = _
    cases rest with
    | nil => simp [prs]
    | cons b t =>
      have hb : b ≠ a := fun e => hr (by rw [e]; rfl)
      rw [prs, if_neg fun q => hb (q.2.trans q.1.symm)]
      simp
  | n + 2 => by
    show prs l l (a :: a :: (List.replicate n a ++ rest)) = _
    by_cases q : a = l
    · rw [prs, if_pos ⟨q, q⟩, prs_same l a rest hr n]
      simp only [q, if_true]
      omega
    · rw [prs_skip q, prs_skip q, prs_same l a rest hr n]
      simp [q]
theorem prs_diff {l r : Int} (hlr : l ≠ r) (a : Int) (rest : List Int) (hr : rest.head? ≠ some a) : ∀ n, prs l r (List.replicate (n + 1) a ++ rest) = (if a = l ∧ rest.head? = some r then 1 else 0) + prs l r rest
  | 0 => by
    show prs l r (a :: rest) = _
    cases rest with
    | nil => simp [prs]
    | cons b t =>
      by_cases q : a = l ∧ b = r
      · obtain ⟨rfl, rfl⟩ := q
        rw [prs, if_pos ⟨rfl, rfl⟩, prs_skip (fun e => hlr e.symm)]
        simp
      · rw [prs, if_neg q]
        have : ¬ (a = l ∧ (b :: t).head? = some r) := fun h => q ⟨h.1, by simpa using h.2⟩
        rw [if_neg this]; omega
  | n + 1 => by
    show prs l r (a :: (a :: (List.replicate n a ++ rest))) = _
    rw [prs, if_neg fun q => hlr (q.1.symm.trans q.2)]
    exact prs_diff hlr a rest hr n
theorem run_head {p : Option Int} : ∀ {js : List Jn}, Proper p js → (runOf js).head? = js.head?.map (·.1)
  | [], _ => rfl
  | j :: r, h => by
    obtain ⟨n, hn⟩ : ∃ n, j.2.toNat = n + 1 := ⟨j.2.toNat - 1, by have := h.2.1; omega⟩
    rw [run_cons, hn, List.replicate_succ]; rfl
theorem head_ne {a : Int} {js : List Jn} (h : Proper (some a) js) : (runOf js).head? ≠ some a := by
  rw [run_head h]
  cases js with
  | nil => simp
  | cons j r => exact fun e => h.1 (by simpa using e.symm)
theorem dbl_run (l : Int) : ∀ (js : List Jn) (p : Option Int), Proper p js → ((prs l l (runOf js) : Nat) : Int) = ((js.filter (fun j => j.1 == l)).map (fun j => j.2.fdiv 2)).sum
  | [], _, _ => rfl
  | j :: r, p, ⟨_, h2, h3⟩ => by
    have ih := dbl_run l r _ h3
    rw [run_cons, prs_same l j.1 _ (head_ne h3)]
    have e : j.2.fdiv 2 = ((j.2.toNat / 2 : Nat) : Int) := by rw [Int.fdiv_eq_ediv_of_nonneg _ (by omega)]; omega
    by_cases q : j.1 = l
    · rw [if_pos q, List.filter_cons, if_pos (by simpa using q), List.map_cons, List.sum_cons, e, ← ih]
      push_cast; rfl
    · rw [if_neg q, List.filter_cons, if_neg (by simpa using q), ← ih]; simp
theorem pair_run {l r : Int} (hlr : l ≠ r) : ∀ (js : List Jn) (a : Int) (n : Nat), Proper (some a) js → prs l r (List.replicate (n + 1) a ++ runOf js) = (befO r (chJ (some a) js)).count l
  | [], a, n, _ => by
    rw [show runOf [] = [] from rfl, prs_diff hlr a [] (by simp)]
    simp [prs, chJ, befO]
  | j :: js, a, n, h => by
    have h' := h
    obtain ⟨h1, h2, h3⟩ := h
    rw [prs_diff hlr a _ (head_ne h'), run_head h']
    obtain ⟨m, hm⟩ : ∃ m, j.2.toNat = m + 1 := ⟨j.2.toNat - 1, by omega⟩
    rw [run_cons, hm, pair_run hlr js j.1 m h3]
    show _ = (befO r ((some a, j.1) :: chJ (some j.1) js)).count l
    unfold befO
    rw [List.filterMap_cons]
    by_cases q : j.1 = r
    · by_cases q2 : a = l
      · simp [q, q2, List.count_cons]; omega
      · simp [q, q2, List.count_cons]
    · simp [q]
theorem pair_runs {l r : Int} (hlr : l ≠ r) (js : List Jn) (h : Proper none js) : prs l r (runOf js) = (befO r (chJ none js)).count l := by
  cases js with
  | nil => rfl
  | cons j js =>
    obtain ⟨h1, h2, h3⟩ := h
    obtain ⟨m, hm⟩ : ∃ m, j.2.toNat = m + 1 := ⟨j.2.toNat - 1, by omega⟩
    rw [run_cons, hm, pair_run hlr js j.1 m h3]
    show _ = (befO r ((none, j.1) :: chJ (some j.1) js)).count l
    unfold befO
    rw [List.filterMap_cons]
    by_cases q : j.1 = r <;> simp [q]
/-- counting by halving's answer -/
theorem count_le (m n : Nat) (h : m ≤ n) : (List.range (n + 1)).countP (fun i => decide (i ≤ m)) = m + 1 := by
  have e : List.range (n + 1) = List.range (m + 1) ++ (List.range (n - m)).map (m + 1 + ·) := by
    rw [← List.range_add, show m + 1 + (n - m) = n + 1 by omega]
  rw [e, List.countP_append]
  have c1 : (List.range (m + 1)).countP (fun i => decide (i ≤ m)) = m + 1 := by
    rw [List.countP_eq_length.mpr, List.length_range]
    intro i hi; have := List.mem_range.mp hi; exact decide_eq_true (by omega)
  have c2 : ((List.range (n - m)).map (m + 1 + ·)).countP (fun i => decide (i ≤ m)) = 0 := by
    rw [List.countP_eq_zero]
    intro i hi
    obtain ⟨j, hj, rfl⟩ := List.mem_map.mp hi
    simp; omega
  omega
end Mine
end
section
open PySem PySem.W PyProof.Rows PySem.StrLaws PySem.Builtin.Str
set_option linter.unusedVariables false
namespace Mine
/-! texts as lists of code points -/
noncomputable def cpl (s : Str) : List Nat := s.cps.toList
theorem cpl_cat (a b : Str) : cpl (a ++ b) = cpl a ++ cpl b := by unfold cpl; rw [Str.cps_append, Array.toList_append]
theorem cpl_inj {a b : Str} (h : cpl a = cpl b) : a = b := by
  cases a; cases b
  unfold cpl at h
  exact congrArg Str.mk (Array.toList_inj.mp h)
theorem cpl_len (s : Str) : (cpl s).length = s.length := by unfold cpl; simp [Str.length]
noncomputable abbrev D3l : List Nat := [46, 46, 46]
theorem cpl_dots : cpl dots = D3l := by decide +kernel
theorem at_iff (x y : Str) (hi i : Nat) : At x y hi i ↔ i + y.length ≤ hi ∧ cpl y <+: (cpl x).drop i := by
  unfold At
  rw [subAt_eq, beq_iff_eq]
  show _ ∧ (List.take y.length ((cpl x).drop i) = cpl y) ↔ _
  rw [List.prefix_iff_eq_take, cpl_len]
  constructor
  · rintro ⟨h1, h2⟩; exact ⟨h1, h2.symm⟩
  · rintro ⟨h1, h2⟩; exact ⟨h1, h2.symm⟩
theorem from_nat (n i : Nat) : fromIndex n (i : Int) = i := by
  unfold fromIndex
  rw [if_neg (by omega)]
  omega
theorem range_pre {i n b : Nat} {pre post : List Nat} (h : List.range' i n = pre ++ b :: post) {a : Nat} (ha : a ∈ List.range' i n) (hab : a < b) : a ∈ pre := by
  have hp : (List.range' i n).Pairwise (· < ·) := List.pairwise_lt_range'
  rw [h] at ha hp
  rcases List.mem_append.mp ha with h1 | h1
  · exact h1
  · have h2 := (List.pairwise_append.mp hp).2.1
    rcases List.mem_cons.mp h1 with h3 | h3
    · omega
    · have := (List.pairwise_cons.mp h2).1 a h3; omega
theorem find_some (x y : Str) {i j a : Nat} (hj : j ≤ x.length) (hia : i ≤ a) (ha : At x y j a) (hn : ∀ k, i ≤ k → k < a → ¬ At x y j k) : findAt x y i j = a := by
  unfold findAt
  rw [from_nat, from_nat, Nat.min_eq_left hj, occ_eq]
  have haj : a ≤ j := by have := ha.1; omega
  have hm : a ∈ List.range' i (j + 1 - i) := by rw [List.mem_range'_1]; omega
  rcases occ_first x y j 1 (Nat.le_refl _) (List.range' i (j + 1 - i)) i (fun k hk => (List.mem_range'_1.mp hk).1) with ⟨h0, h1⟩ | ⟨pre, b, post, e, h0, hb, h1⟩
  · exact absurd ha (h1 a hm)
  · generalize (forIn (List.range' i (j + 1 - i)) ((#[] : Array Nat), i) (occBody x y j 1)).run.fst = arr at h0
    have hbm : b ∈ List.range' i (j + 1 - i) := by rw [e]; simp
    have hab : b = a := by
      rcases Nat.lt_trichotomy a b with h | h | h
      · exact absurd ha (h1 a (range_pre e hm h))
      · exact h.symm
      · exact absurd hb (hn b (List.mem_range'_1.mp hbm).1 h)
    subst hab
    have h2 : arr.toList[0]? = some b := by simpa using h0
    cases hL : arr.toList with
    | nil => rw [hL] at h2; cases h2
    | cons c t => rw [hL] at h2; simp at h2; rw [h2]
theorem find_none (x y : Str) {i j : Nat} (hj : j ≤ x.length) (hn : ∀ k, i ≤ k → ¬ At x y j k) : findAt x y i j = -1 := by
  unfold findAt
  rw [from_nat, from_nat, Nat.min_eq_left hj, occ_eq]
  rcases occ_first x y j 1 (Nat.le_refl _) (List.range' i (j + 1 - i)) i (fun k hk => (List.mem_range'_1.mp hk).1) with ⟨h0, h1⟩ | ⟨pre, b, post, e, h0, hb, h1⟩
  · rw [h0]
  · have hbm : b ∈ List.range' i (j + 1 - i) := by rw [e]; simp
    exact absurd hb (hn b (List.mem_range'_1.mp hbm).1)
/-! split by three dots -/
noncomputable def Clean (p : List Nat) : Prop := ∀ j, j < p.length → ∀ t, ¬ D3l <+: (p.drop j ++ t)
theorem Clean.nil : Clean [] := fun j h => absurd h (Nat.not_lt_zero _)
theorem Clean.append {p q : List Nat} (hp : Clean p) (hq : Clean q) : Clean (p ++ q) := fun j hj t => by
  by_cases h : j < p.length
  · rw [List.drop_append_of_le_length (Nat.le_of_lt h), List.append_assoc]
    exact hp j h _
  · rw [List.drop_append]
    have e : p.drop j = [] := List.drop_eq_nil_of_le (by omega)
    rw [e, List.nil_append]
    refine hq (j - p.length) ?_ t
    rw [List.length_append] at hj; omega
theorem Clean.of_ne {p : List Nat} (h : ∀ c ∈ p, c ≠ 46) : Clean p := fun j hj t hd => by
  rw [List.drop_eq_getElem_cons hj, List.cons_append, List.cons_prefix_cons] at hd
  exact h _ (List.getElem_mem hj) hd.1.symm
theorem Clean.two {c : Nat} {p : List Nat} (hc : c ≠ 46) : Clean [46, 46, c] := fun j hj t hd => by
  have : j = 0 ∨ j = 1 ∨ j = 2 := by simp at hj; omega
  rcases this with rfl | rfl | rfl
  · simp at hd; exact hc hd.symm
  · simp at hd; exact hc hd.1.symm
  · simp at hd; exact hc hd.1.symm
theorem at_dots (x : Str) (k : Nat) : At x dots x.length k ↔ D3l <+: (cpl x).drop k := by
  rw [at_iff, cpl_dots]
  refine ⟨fun h => h.2, fun h => ⟨?_, h⟩⟩
  have := h.length_le
  rw [List.length_drop, cpl_len] at this
  have e : dots.length = 3 := by decide +kernel
  rw [e]
  simp at this; omega
noncomputable def jl : List (List Nat) → List Nat
  | [] => []
  | [p] => p
  | p :: q :: r => p ++ D3l ++ jl (q :: r)
noncomputable def cutsOf : Nat → List (List Nat) → List Nat
  | _, [] => []
  | _, [_] => []
  | a, p :: q :: r => (a + p.length) :: cutsOf (a + p.length + 3) (q :: r)
theorem chain_parts (x : Str) : ∀ (parts : List (List Nat)) (pre : List Nat), parts ≠ [] → (∀ p ∈ parts, Clean p) → cpl x = pre ++ jl parts →
    ∃ f, ChainG x dots x.length pre.length (cutsOf pre.length parts) f ∧ (∀ k, f ≤ k → ¬ At x dots x.length k) ∧ (partsFrom x 3 pre.length (cutsOf pre.length parts)).map cpl = parts
  | [], pre, h, _, _ => absurd rfl h
  | [p], pre, _, hc, e => by
    have e' : cpl x = pre ++ p := e
    refine ⟨pre.length, rfl, fun k hk hA => ?_, ?_⟩
    · rw [at_dots, e', List.drop_append, List.drop_eq_nil_of_le hk, List.nil_append] at hA
      by_cases h : k - pre.length < p.length
      · have := hc p (.head _) (k - pre.length) h []
        rw [List.append_nil] at this
        exact this hA
      · rw [List.drop_eq_nil_of_le (by omega)] at hA
        simp at hA
    · show [cpl (strSub x pre.length x.length)] = [p]
      unfold cpl
      rw [strSub_toList]
      show [List.take _ (List.drop pre.length (cpl x))] = [p]
      rw [e', List.drop_append, List.drop_eq_nil_of_le (Nat.le_refl _), Nat.sub_self, List.drop_zero, List.nil_append, List.take_of_length_le]
      have := cpl_len x
      rw [e', List.length_append] at this; omega
  | p :: q :: r, pre, _, hc, e => by
    have e1 : cpl x = (pre ++ p ++ D3l) ++ jl (q :: r) := by rw [e]; simp [jl]
    have hl : (pre ++ p ++ D3l).length = pre.length + p.length + 3 := by simp; omega
    obtain ⟨f, h1, h2, h3⟩ := chain_parts x (q :: r) (pre ++ p ++ D3l) (by simp) (fun z hz => hc z (.tail _ hz)) e1
    rw [hl] at h1 h3
    have hd : dots.length = 3 := by decide +kernel
    refine ⟨f, ⟨Nat.le_add_right _ _, ?_, fun k hk1 hk2 hA => ?_, ?_⟩, h2, ?_⟩
    · rw [at_dots, e]
      show D3l <+: (pre ++ (p ++ D3l ++ jl (q :: r))).drop (pre.length + p.length)
      rw [show pre ++ (p ++ D3l ++ jl (q :: r)) = (pre ++ p) ++ (D3l ++ jl (q :: r)) by simp, List.drop_append_of_le_length (by simp), List.drop_eq_nil_of_le (by simp), List.nil_append]
      exact List.prefix_append _ _
    · rw [at_dots, e] at hA
      have e2 : (pre ++ jl (p :: q :: r)).drop k = p.drop (k - pre.length) ++ (D3l ++ jl (q :: r)) := by
        show (pre ++ (p ++ D3l ++ jl (q :: r))).drop k = _
        rw [List.drop_append, List.drop_eq_nil_of_le hk1, List.nil_append, List.append_assoc, List.drop_append_of_le_length (by omega)]
      rw [e2] at hA
      exact hc p (.head _) _ (by omega) _ hA
    · rw [hd]; exact h1
    · show cpl (strSub x pre.length (pre.length + p.length)) :: (partsFrom x 3 (pre.length + p.length + 3) _).map cpl = _
      rw [h3]
      congr 1
      unfold cpl
      rw [strSub_toList]
      show List.take _ (List.drop pre.length (cpl x)) = p
      rw [e]
      show List.take _ (List.drop pre.length (pre ++ (p ++ D3l ++ jl (q :: r)))) = p
      rw [List.drop_append, List.drop_eq_nil_of_le (Nat.le_refl _), Nat.sub_self, List.drop_zero, List.nil_append, List.append_assoc, List.take_append_of_le_length (by omega), Nat.add_sub_cancel_left, List.take_length]
theorem chain_unique {x y : Str} {hi : Nat} : ∀ {a : Nat} {cs cs' : List Nat} {f f' : Nat}, ChainG x y hi a cs f → (∀ k, f ≤ k → ¬ At x y hi k) → ChainG x y hi a cs' f' → (∀ k, f' ≤ k → ¬ At x y hi k) → cs = cs'
  | a, [], [], _, _, _, _, _, _ => rfl
  | a, [], c :: r, f, f', h, hn, h', _ => by
    have : f = a := h
    subst this
    exact absurd h'.2.1 (hn c h'.1)
  | a, c :: r, [], f, f', h, _, h', hn => by
    have : f' = a := h'
    subst this
    exact absurd h.2.1 (hn c h.1)
  | a, c :: r, c' :: r', f, f', h, hn, h', hn' => by
    have e : c = c' := by
      rcases Nat.lt_trichotomy c c' with q | q | q
      · exact absurd h.2.1 (h'.2.2.1 c h.1 q)
      · exact q
      · exact absurd h'.2.1 (h.2.2.1 c' h'.1 q)
    subst e
    rw [chain_unique h.2.2.2 hn h'.2.2.2 hn']
theorem dots_occ (x : Str) (parts : List (List Nat)) (hne : parts ≠ []) (hc : ∀ p ∈ parts, Clean p) (e : cpl x = jl parts) :
    occurrences x dots 0 x.length (x.length + 1) = cutsOf 0 parts ∧ (partsBetween x (cutsOf 0 parts) dots.length).map cpl = parts := by
  obtain ⟨f, h1, h2, h3⟩ := chain_parts x parts [] hne hc (by simpa using e)
  obtain ⟨f', g1, g2⟩ := occ_tight x dots (by decide +kernel)
  refine ⟨chain_unique g1 g2 h1 h2, ?_⟩
  rw [partsBetween_eq, show dots.length = 3 by decide +kernel]
  exact h3
theorem cuts_len : ∀ (parts : List (List Nat)) (a : Nat), (cutsOf a parts).length = parts.length - 1
  | [], _ => rfl
  | [_], _ => rfl
  | p :: q :: r, a => by
    have := cuts_len (q :: r) (a + p.length + 3)
    simp only [cutsOf, List.length_cons] at this ⊢
    omega
theorem contains_false {x : Str} (h : Clean (cpl x)) : Txt.contains x dots = false := by
  have hn : ∀ k, ¬ At x dots x.length k := fun k hA => by
    rw [at_dots] at hA
    by_cases q : k < (cpl x).length
    · have := h k q []
      rw [List.append_nil] at this
      exact this hA
    · rw [List.drop_eq_nil_of_le (by omega)] at hA
      simp at hA
  rw [Bool.eq_false_iff]
  intro hc
  obtain ⟨i, hi⟩ := (found_iff x dots).mp hc
  exact hn i hi
theorem split_parts {x : Str} {p q : List Nat} {r : List (List Nat)} (hc : ∀ z ∈ p :: q :: r, Clean z) (e : cpl x = jl (p :: q :: r)) : Txt.contains x dots = true ∧ (Txt.split x dots).map cpl = p :: q :: r := by
  obtain ⟨h1, h2⟩ := dots_occ x (p :: q :: r) (by simp) hc e
  have hA : At x dots x.length p.length := by
    rw [at_dots, e]
    show D3l <+: (p ++ D3l ++ jl (q :: r)).drop p.length
    rw [List.append_assoc, List.drop_append_of_le_length (Nat.le_refl _), List.drop_eq_nil_of_le (Nat.le_refl _), List.nil_append]
    exact List.prefix_append _ _
  refine ⟨(found_iff x dots).mpr ⟨_, hA⟩, ?_⟩
  unfold Txt.split
  have hlen : 3 ≤ x.length := by
    have := hA.1
    rw [show dots.length = 3 by decide +kernel] at this; omega
  have hk : Builtin.Str.strKind dots = 1 := by decide +kernel
  have hk1 : 1 ≤ Builtin.Str.strKind x := by unfold Builtin.Str.strKind; split <;> (try split) <;> omega
  rw [if_neg (by rw [hk, show dots.length = 3 by decide +kernel]; simp; omega), h1, if_neg (by simp [cutsOf])]
  exact h2
theorem split_none {x : Str} (h : Clean (cpl x)) : Txt.split x dots = [x] := by
  have h1 := (dots_occ x [cpl x] (by simp) (fun p hp => by rw [List.mem_singleton.mp hp]; exact h) rfl).1
  unfold Txt.split
  rw [h1]
  split
  · rfl
  · rfl
end Mine
end
section
open PySem PySem.W PyProof.Rows PySem.StrLaws PySem.Builtin.Str
set_option linter.unusedVariables false
namespace Mine
/-! lines -/
noncomputable def Tk (rs : List Int) : Prop := ∀ w ∈ rs, 0 ≤ w ∧ w < 4
structure Nms (nm : Int → List Nat) : Prop where
  h10 : ∀ w, 0 ≤ w → w < 4 → 10 ∉ nm w
  h9 : ∀ w, 0 ≤ w → w < 4 → 9 ∉ nm w
  inj : ∀ w v, 0 ≤ w → w < 4 → 0 ≤ v → v < 4 → nm w = nm v → w = v
  clean : ∀ w, 0 ≤ w → w < 4 → Clean (nm w)
noncomputable def ln (nm : Int → List Nat) (w : Int) : List Nat := 9 :: nm w ++ [10]
noncomputable def txt (nm : Int → List Nat) (rs : List Int) : List Nat := rs.flatMap (ln nm)
variable {nm : Int → List Nat}
theorem txt_cons (w : Int) (rs : List Int) : txt nm (w :: rs) = ln nm w ++ txt nm rs := by simp [txt]
theorem txt_append (a b : List Int) : txt nm (a ++ b) = txt nm a ++ txt nm b := by simp [txt]
theorem Tk.tail {w : Int} {rs : List Int} (h : Tk (w :: rs)) : Tk rs := fun v hv => h v (.tail _ hv)
theorem Tk.head {w : Int} {rs : List Int} (h : Tk (w :: rs)) : 0 ≤ w ∧ w < 4 := h w (.head _)
theorem Tk.sub {a b : List Int} (h : Tk b) (hs : ∀ x ∈ a, x ∈ b) : Tk a := fun v hv => h v (hs v hv)
theorem upto_ten {a b X Y : List Nat} (ha : 10 ∉ a) (hb : 10 ∉ b) : a ++ 10 :: X <+: b ++ 10 :: Y ↔ a = b ∧ X <+: Y := by
  induction a generalizing b with
  | nil =>
    cases b with
    | nil => simp
    | cons c b =>
      simp only [List.nil_append, List.cons_append, List.cons_prefix_cons]
      constructor
      · rintro ⟨h, _⟩; exact absurd (h ▸ List.mem_cons_self) hb
      · rintro ⟨h, _⟩; cases h
  | cons d a ih =>
    cases b with
    | nil =>
      simp only [List.nil_append, List.cons_append, List.cons_prefix_cons]
      constructor
      · rintro ⟨h, _⟩; exact absurd (h ▸ List.mem_cons_self) ha
      · rintro ⟨h, _⟩; cases h
    | cons c b =>
      simp only [List.cons_append, List.cons_prefix_cons, List.cons.injEq]
      rw [ih (fun h => ha (.tail _ h)) (fun h => hb (.tail _ h))]
      constructor
      · rintro ⟨h1, h2, h3⟩; exact ⟨⟨h1, h2⟩, h3⟩
      · rintro ⟨⟨h1, h2⟩, h3⟩; exact ⟨h1, h2, h3⟩
theorem pre_line (N : Nms nm) {q w : Int} (hq : 0 ≤ q ∧ q < 4) (hw : 0 ≤ w ∧ w < 4) (X Y : List Nat) : ln nm q ++ X <+: ln nm w ++ Y ↔ q = w ∧ X <+: Y := by
  unfold ln
  simp only [List.cons_append, List.append_assoc, List.nil_append, List.cons_prefix_cons, true_and]
  rw [upto_ten (N.h10 q hq.1 hq.2) (N.h10 w hw.1 hw.2)]
  constructor
  · rintro ⟨h1, h2⟩; exact ⟨N.inj q w hq.1 hq.2 hw.1 hw.2 h1, h2⟩
  · rintro ⟨h1, h2⟩; exact ⟨by rw [h1], h2⟩
theorem pre_txt (N : Nms nm) : ∀ {p rs : List Int}, Tk p → Tk rs → (txt nm p <+: txt nm rs ↔ p <+: rs)
  | [], rs, _, _ => by simp [txt]
  | q :: p, [], _, _ => by simp [txt, ln]
  | q :: p, w :: rs, hp, hr => by
    rw [txt_cons, txt_cons, pre_line N hp.head hr.head, pre_txt N hp.tail hr.tail, List.cons_prefix_cons]
theorem txt_inj (N : Nms nm) {p rs : List Int} (hp : Tk p) (hr : Tk rs) (h : txt nm p = txt nm rs) : p = rs := by
  have h1 := (pre_txt N hp hr).mp (h ▸ List.prefix_refl _)
  have h2 := (pre_txt N hr hp).mp (h ▸ List.prefix_refl _)
  exact h1.eq_of_length (Nat.le_antisymm h1.length_le h2.length_le)
noncomputable def off (nm : Int → List Nat) (rs : List Int) (k : Nat) : Nat := (txt nm (rs.take k)).length
theorem ln_len (w : Int) : (ln nm w).length = (nm w).length + 2 := by simp [ln]
theorem off_zero (rs : List Int) : off nm rs 0 = 0 := by simp [off, txt]
theorem off_end (rs : List Int) : off nm rs rs.length = (txt nm rs).length := by simp [off]
theorem off_cons (w : Int) (rs : List Int) (k : Nat) : off nm (w :: rs) (k + 1) = (ln nm w).length + off nm rs k := by simp [off, txt_cons]
theorem off_add (rs : List Int) (k j : Nat) : off nm rs (k + j) = off nm rs k + (txt nm ((rs.drop k).take j)).length := by
  unfold off
  rw [List.take_add, txt_append, List.length_append]
theorem off_lt {rs : List Int} {k k' : Nat} (h : k < k') (hk : k' ≤ rs.length) : off nm rs k < off nm rs k' := by
  obtain ⟨d, rfl⟩ := Nat.exists_eq_add_of_lt h
  rw [show k + d + 1 = k + (d + 1) by omega, off_add]
  have hlt : k < rs.length := by omega
  rw [List.drop_eq_getElem_cons hlt, List.take_succ_cons, txt_cons, List.length_append, ln_len]
  omega
theorem off_le {rs : List Int} {k k' : Nat} (h : k ≤ k') : off nm rs k ≤ off nm rs k' := by
  obtain ⟨d, rfl⟩ := Nat.exists_eq_add_of_le h
  rw [off_add]; omega
theorem at_txt (N : Nms nm) {q : Int} {p : List Int} (hp : Tk (q :: p)) : ∀ {rs : List Int} {a : Nat}, Tk rs → (txt nm (q :: p) <+: (txt nm rs).drop a ↔ ∃ k, k ≤ rs.length ∧ a = off nm rs k ∧ (q :: p) <+: rs.drop k)
  | [], a, _ => by
    constructor
    · intro h
      simp [txt, ln] at h
    · rintro ⟨k, _, _, h⟩
      simp at h
  | w :: rs, 0, hr => by
    rw [List.drop_zero, pre_txt N hp hr]
    constructor
    · intro h; exact ⟨0, Nat.zero_le _, (off_zero _).symm, h⟩
    · rintro ⟨k, hk, h0, h⟩
      rcases Nat.eq_zero_or_pos k with rfl | hk0
      · exact h
      · have := off_lt (nm := nm) (rs := w :: rs) hk0 hk
        rw [off_zero] at this; omega
  | w :: rs, a + 1, hr => by
    by_cases h : a + 1 < (ln nm w).length
    · constructor
      · intro hx
        exfalso
        rw [txt_cons w, List.drop_append_of_le_length (Nat.le_of_lt h), txt_cons q] at hx
        rw [List.drop_eq_getElem_cons h] at hx
        have e : ln nm q ++ txt nm p = 9 :: (nm q ++ [10] ++ txt nm p) := by simp [ln]
        rw [e, List.cons_append, List.cons_prefix_cons] at hx
        have hm : (ln nm w)[a + 1] ∈ nm w ++ [10] := by
          have : (ln nm w)[a + 1] = (nm w ++ [10])[a]'(by rw [ln_len] at h; simp; omega) := by simp [ln]
          rw [this]; exact List.getElem_mem _
        rw [← hx.1] at hm
        rcases List.mem_append.mp hm with h9 | h9
        · exact N.h9 w hr.head.1 hr.head.2 h9
        · simp at h9
      · rintro ⟨k, hk, h0, hx⟩
        cases k with
        | zero => rw [off_zero] at h0; omega
        | succ k => rw [off_cons] at h0; omega
    · obtain ⟨b, hb⟩ : ∃ b, a + 1 = (ln nm w).length + b := ⟨a + 1 - (ln nm w).length, by omega⟩
      rw [hb, txt_cons w, List.drop_append, List.drop_eq_nil_of_le (Nat.le_add_right _ _), List.nil_append, Nat.add_sub_cancel_left, at_txt N hp (rs := rs) hr.tail]
      constructor
      · rintro ⟨k, hk, h0, hx⟩
        exact ⟨k + 1, by simp; omega, by rw [off_cons, h0], hx⟩
      · rintro ⟨k, hk, h0, hx⟩
        cases k with
        | zero => rw [off_zero] at h0; have := ln_len (nm := nm) w; omega
        | succ k =>
          rw [off_cons] at h0
          exact ⟨k, by simp at hk; omega, by omega, hx⟩
theorem tfind_some {p : List Int} : ∀ {rs : List Int} {i : Nat}, tfind p rs = some i → p <+: rs.drop i ∧ i < rs.length ∧ ∀ j, j < i → ¬ p <+: rs.drop j
  | [], i, h => by cases h
  | a :: r, i, h => by
    unfold tfind at h
    by_cases q : p.isPrefixOf (a :: r) = true
    · rw [if_pos q] at h
      cases h
      exact ⟨List.isPrefixOf_iff_prefix.mp q, by simp, fun j hj => absurd hj (Nat.not_lt_zero _)⟩
    · rw [if_neg q] at h
      obtain ⟨j, hj, rfl⟩ := Option.map_eq_some_iff.mp h
      obtain ⟨h1, h2, h3⟩ := tfind_some hj
      refine ⟨h1, by simp; omega, fun k hk => ?_⟩
      cases k with
      | zero => exact fun hx => q (List.isPrefixOf_iff_prefix.mpr hx)
      | succ k => exact h3 k (by omega)
theorem tfind_none {q : Int} {p : List Int} : ∀ {rs : List Int}, tfind (q :: p) rs = none → ∀ j, ¬ (q :: p) <+: rs.drop j
  | [], _, j => by simp
  | a :: r, h, j => by
    unfold tfind at h
    by_cases q' : (q :: p).isPrefixOf (a :: r) = true
    · rw [if_pos q'] at h; cases h
    · rw [if_neg q', Option.map_eq_none_iff] at h
      cases j with
      | zero => exact fun hx => q' (List.isPrefixOf_iff_prefix.mpr hx)
      | succ j => exact tfind_none h j
section
variable {S P : Str} {rs : List Int} {q : Int} {p : List Int}
theorem at_S (N : Nms nm) (hr : Tk rs) (hp : Tk (q :: p)) (hS : cpl S = txt nm rs) (hP : cpl P = txt nm (q :: p)) (hi a : Nat) : At S P hi a ↔ a + (txt nm (q :: p)).length ≤ hi ∧ ∃ k, k ≤ rs.length ∧ a = off nm rs k ∧ (q :: p) <+: rs.drop k := by
  rw [at_iff, hS, hP, at_txt N hp hr, ← cpl_len P, hP]
theorem S_len (hS : cpl S = txt nm rs) : S.length = off nm rs rs.length := by rw [← cpl_len, hS, off_end]
theorem find_S (N : Nms nm) (hr : Tk rs) (hp : Tk (q :: p)) (hS : cpl S = txt nm rs) (hP : cpl P = txt nm (q :: p)) {k0 : Nat} (hk : k0 ≤ rs.length) :
    findAt S P (off nm rs k0 : Nat) (S.length : Nat) = match tfind (q :: p) (rs.drop k0) with | none => -1 | some i => ((off nm rs (k0 + i) : Nat) : Int) := by
  cases h : tfind (q :: p) (rs.drop k0) with
  | none =>
    refine find_none S P (Nat.le_refl _) fun a ha hA => ?_
    obtain ⟨_, k, h1, h2, h3⟩ := (at_S N hr hp hS hP _ _).mp hA
    have hkk : k0 ≤ k := by
      rcases Nat.lt_or_ge k k0 with h' | h'
      · have := off_lt (nm := nm) h' hk; omega
      · exact h'
    refine tfind_none h (k - k0) ?_
    rw [List.drop_drop, show k0 + (k - k0) = k by omega]
    exact h3
  | some i =>
    obtain ⟨h1, h2, h3⟩ := tfind_some h
    rw [List.drop_drop] at h1
    rw [List.length_drop] at h2
    refine find_some S P (Nat.le_refl _) (off_le (by omega)) ((at_S N hr hp hS hP _ _).mpr ⟨?_, k0 + i, by omega, rfl, h1⟩) fun a ha1 ha2 hA => ?_
    · rw [S_len hS]
      have e : (rs.drop (k0 + i)).take (q :: p).length = q :: p := (List.prefix_iff_eq_take.mp h1).symm
      have := off_add (nm := nm) rs (k0 + i) (q :: p).length
      rw [e] at this
      rw [← this]
      have hl := h1.length_le
      rw [List.length_drop] at hl
      exact off_le (by omega)
    · obtain ⟨_, k, g1, g2, g3⟩ := (at_S N hr hp hS hP _ _).mp hA
      have hk1 : k0 ≤ k := by
        rcases Nat.lt_or_ge k k0 with h' | h'
        · have := off_lt (nm := nm) h' hk; omega
        · exact h'
      have hk2 : k < k0 + i := by
        rcases Nat.lt_or_ge k (k0 + i) with h' | h'
        · exact h'
        · have := off_le (nm := nm) (rs := rs) h'; omega
      refine h3 (k - k0) (by omega) ?_
      rw [List.drop_drop, show k0 + (k - k0) = k by omega]
      exact g3
theorem find_nil (S : Str) {a j : Nat} (ha : a ≤ j) (hj : j ≤ S.length) : findAt S Str.empty (a : Nat) (j : Nat) = a := by
  refine find_some S Str.empty hj (Nat.le_refl _) ((at_iff _ _ _ _).mpr ⟨by show a + 0 ≤ j; omega, ?_⟩) fun k h1 h2 => by omega
  exact List.nil_prefix
theorem loop_gm (N : Nms nm) (hr : Tk rs) (hp : Tk (q :: p)) (hS : cpl S = txt nm rs) (hP : cpl P = txt nm (q :: p)) : ∀ (k k0 : Nat), k0 ≤ rs.length →
    ellLoop S (S.length : Nat) (List.replicate k P ++ [Str.empty]) (off nm rs k0 : Nat) = gm (q :: p) k (rs.drop k0)
  | 0, k0, hk => by
    have hle : off nm rs k0 ≤ S.length := by rw [S_len hS]; exact off_le hk
    simp only [List.replicate_zero, List.nil_append, ellLoop, gm]
    rw [find_nil S hle (Nat.le_refl _), if_neg (by omega)]
  | k + 1, k0, hk => by
    rw [List.replicate_succ, List.cons_append, ellLoop, find_S N hr hp hS hP hk, gm]
    cases h : tfind (q :: p) (rs.drop k0) with
    | none => rfl
    | some i =>
      obtain ⟨h1, h2, h3⟩ := tfind_some h
      rw [List.drop_drop] at h1
      rw [List.length_drop] at h2
      dsimp only
      rw [if_neg (Int.not_lt.mpr (Int.natCast_nonneg _))]
      have e : (rs.drop (k0 + i)).take (q :: p).length = q :: p := (List.prefix_iff_eq_take.mp h1).symm
      have e2 := off_add (nm := nm) rs (k0 + i) (q :: p).length
      rw [e] at e2
      have e3 : ((off nm rs (k0 + i) : Nat) : Int) + (P.length : Nat) = (off nm rs (k0 + i + (q :: p).length) : Nat) := by
        rw [e2, ← hP, cpl_len]; push_cast; rfl
      have hl := h1.length_le
      rw [List.length_drop] at hl
      rw [e3, loop_gm N hr hp hS hP k _ (by omega), List.drop_drop]
      congr 2
      omega
end
end Mine
end
section
open PySem PySem.W PyProof.Rows PySem.StrLaws PySem.Builtin.Str
set_option linter.unusedVariables false
namespace Mine
variable {nm : Int → List Nat}
theorem least {Q : Nat → Prop} {n : Nat} (h : Q n) : ∃ m, m ≤ n ∧ Q m ∧ ∀ k, k < m → ¬ Q k := by
  induction n using Nat.strongRecOn with
  | ind n ih =>
    by_cases q : ∃ k, k < n ∧ Q k
    · obtain ⟨k, hk, hq⟩ := q
      obtain ⟨m, h1, h2, h3⟩ := ih k hk hq
      exact ⟨m, by omega, h2, h3⟩
    · exact ⟨n, Nat.le_refl _, h, fun k hk hq => q ⟨k, hk, hq⟩⟩
theorem find_pos {x y : Str} {i j a : Nat} (hj : j ≤ x.length) (hia : i ≤ a) (ha : At x y j a) : ∃ b : Nat, findAt x y i j = b := by
  obtain ⟨m, h1, ⟨h2, h3⟩, h4⟩ := least (Q := fun a => i ≤ a ∧ At x y j a) ⟨hia, ha⟩
  exact ⟨m, find_some x y hj h2 h3 fun k hk1 hk2 hA => h4 k hk2 ⟨hk1, hA⟩⟩
theorem starts_at (S P : Str) : startsW S P = true ↔ At S P S.length 0 := by
  unfold startsW At
  rw [Bool.and_eq_true, decide_eq_true_eq]
theorem ends_at (S P : Str) : endsW S P = true ↔ P.length ≤ S.length ∧ At S P S.length (S.length - P.length) := by
  unfold endsW At
  rw [Bool.and_eq_true, decide_eq_true_eq]
  constructor
  · rintro ⟨h1, h2⟩; exact ⟨by omega, by omega, h2⟩
  · rintro ⟨h1, h2, h3⟩; exact ⟨by omega, h3⟩
section
variable {S P : Str} {rs : List Int} {l : Int}
theorem starts_iff (N : Nms nm) (hr : Tk rs) (hl : 0 ≤ l ∧ l < 4) (hS : cpl S = txt nm rs) (hP : cpl P = txt nm [l]) : startsW S P = true ↔ rs.head? = some l := by
  have hp : Tk [l] := fun v hv => by rw [List.mem_singleton.mp hv]; exact hl
  rw [starts_at, at_S N hr hp hS hP]
  constructor
  · rintro ⟨_, k, h1, h2, h3⟩
    have : k = 0 := by
      rcases Nat.eq_zero_or_pos k with h | h
      · exact h
      · have := off_lt (nm := nm) (rs := rs) h h1; rw [off_zero] at this; omega
    subst this
    cases rs with
    | nil => simp at h3
    | cons a r => simp at h3; simp [h3]
  · intro h
    cases rs with
    | nil => cases h
    | cons a r =>
      cases h
      refine ⟨?_, 0, Nat.zero_le _, (off_zero _).symm, by simp⟩
      have := S_len hS
      rw [this, show [l] = (l :: r).take 1 from rfl]
      show 0 + off nm (l :: r) 1 ≤ _
      rw [Nat.zero_add]
      exact off_le (by simp)
theorem last_split {α : Type} {rs : List α} {r : α} (h : rs.getLast? = some r) : rs = rs.dropLast ++ [r] := by
  have hne : rs ≠ [] := fun e => by rw [e] at h; cases h
  rw [List.getLast?_eq_some_getLast hne] at h
  cases h
  exact (List.dropLast_concat_getLast hne).symm
theorem off_last {rs : List Int} {r : Int} (h : rs.getLast? = some r) : off nm rs rs.length = off nm rs (rs.length - 1) + (ln nm r).length ∧ [r] <+: rs.drop (rs.length - 1) ∧ 1 ≤ rs.length := by
  have e := last_split h
  have hl : 1 ≤ rs.length := by rw [e]; simp
  have hd : rs.drop (rs.length - 1) = [r] := by
    have : rs.length - 1 = rs.dropLast.length := by simp
    rw [this]
    conv => lhs; rw [e]
    simp
  have h1 := off_add (nm := nm) rs (rs.length - 1) 1
  rw [hd, show rs.length - 1 + 1 = rs.length by omega] at h1
  refine ⟨?_, by rw [hd]; exact List.prefix_refl _, hl⟩
  rw [h1]; simp [txt]
theorem ends_iff (N : Nms nm) (hr : Tk rs) (hl : 0 ≤ l ∧ l < 4) (hS : cpl S = txt nm rs) (hP : cpl P = txt nm [l]) : endsW S P = true ↔ rs.getLast? = some l := by
  have hp : Tk [l] := fun v hv => by rw [List.mem_singleton.mp hv]; exact hl
  have hPl : P.length = (ln nm l).length := by rw [← cpl_len, hP]; simp [txt]
  have hSl := S_len hS
  have htl : (txt nm [l]).length = (ln nm l).length := by simp [txt]
  rw [ends_at, at_S N hr hp hS hP]
  constructor
  · rintro ⟨h0, _, k, h1, h2, h3⟩
    have hk : k < rs.length := by
      have := h3.length_le
      simp at this; omega
    have e : (rs.drop k).take 1 = [l] := (List.prefix_iff_eq_take.mp h3).symm
    have h4 := off_add (nm := nm) rs k 1
    rw [e, htl] at h4
    have : k + 1 = rs.length := by
      rcases Nat.lt_or_ge (k + 1) rs.length with h | h
      · have := off_lt (nm := nm) h (Nat.le_refl _); omega
      · omega
    rw [List.drop_eq_getElem_cons hk] at e
    simp only [List.take_succ_cons, List.take_zero, List.cons.injEq, and_true] at e
    rw [List.getLast?_eq_getElem?, show rs.length - 1 = k by omega, List.getElem?_eq_getElem hk, e]
  · intro h
    obtain ⟨h1, h2, h3⟩ := off_last (nm := nm) h
    refine ⟨by omega, by omega, rs.length - 1, by omega, by omega, h2⟩
end
theorem empty_cpl : cpl Str.empty = [] := rfl
theorem of_cpl {xs ys : List Str} (h : xs.map cpl = ys.map cpl) : xs = ys := by
  induction xs generalizing ys with
  | nil => cases ys with | nil => rfl | cons => cases h
  | cons a r ih =>
    cases ys with
    | nil => cases h
    | cons b t =>
      simp only [List.map_cons, List.cons.injEq] at h
      rw [cpl_inj h.1, ih h.2]
/-- a want with three dots: what the parts are -/
structure Parts (W : Str) (ws : List Str) : Prop where
  two : 2 ≤ ws.length
  clean : ∀ p ∈ ws, Clean (cpl p)
  eq : cpl W = jl (ws.map cpl)
theorem Parts.split {W : Str} {ws : List Str} (h : Parts W ws) : Txt.contains W dots = true ∧ Txt.split W dots = ws := by
  obtain ⟨p, q, r, rfl⟩ : ∃ p q r, ws = p :: q :: r := by
    match ws, h.two with | p :: q :: r, _ => exact ⟨p, q, r, rfl⟩
  obtain ⟨h1, h2⟩ := split_parts (x := W) (p := cpl p) (q := cpl q) (r := r.map cpl) (fun z hz => by
    have hz : z ∈ (p :: q :: r).map cpl := hz
    obtain ⟨y, hy, rfl⟩ := List.mem_map.mp hz
    exact h.clean y hy) h.eq
  exact ⟨h1, of_cpl h2⟩
theorem Parts.ell {W S : Str} {ws : List Str} (h : Parts W ws) : ell W S = ell1 S ws := by
  unfold Mine.ell
  rw [if_pos h.split.1, h.split.2]
theorem jl_len : ∀ (ws : List (List Nat)), ws.length ≤ (jl ws).length + 1 ∧ ∀ p ∈ ws, p.length ≤ (jl ws).length
  | [] => ⟨Nat.zero_le _, fun p hp => nomatch hp⟩
  | [p] => ⟨by simp, fun q hq => by rw [List.mem_singleton.mp hq]; exact Nat.le_refl _⟩
  | p :: q :: r => by
    obtain ⟨h1, h2⟩ := jl_len (q :: r)
    have e : (jl (p :: q :: r)).length = p.length + 3 + (jl (q :: r)).length := by simp [jl]; omega
    refine ⟨by rw [e]; simp only [List.length_cons] at h1 ⊢; omega, fun z hz => ?_⟩
    rw [e]
    rcases List.mem_cons.mp hz with rfl | hz
    · omega
    · have := h2 z hz; omega
theorem Parts.ok {W S : Str} {ws : List Str} (h : Parts W ws) (hw : W.length ≤ 890) (hs : S.length ≤ 1000000) : EllOk W S := by
  obtain ⟨h1, h2⟩ := h.split
  obtain ⟨j1, j2⟩ := jl_len (ws.map cpl)
  rw [← h.eq, cpl_len, List.length_map] at j1
  refine ⟨by omega, hs, by rw [h2]; omega, ?_, fun _ => by rw [h2]; exact h.two, fun w hm => ?_⟩
  · rw [length_partsBetween, sizeLine_eq]
    have := occ_length_le W dots 0 W.length (W.length + 1)
    omega
  · rw [h2] at hm
    have := j2 _ (List.mem_map_of_mem hm)
    rw [← h.eq, cpl_len, cpl_len] at this
    omega
theorem ok_plain {W S : Str} (h : Clean (cpl W)) (hw : W.length ≤ 890) (hs : S.length ≤ 1000000) : EllOk W S := by
  refine ⟨by omega, hs, by rw [split_none h]; simp, ?_, fun hc => (by rw [contains_false h] at hc; cases hc), fun w hm => ?_⟩
  · rw [length_partsBetween, sizeLine_eq]
    have := occ_length_le W dots 0 W.length (W.length + 1)
    omega
  · rw [split_none h] at hm
    rw [List.mem_singleton.mp hm]; omega
theorem ell_plain {W S : Str} (h : Clean (cpl W)) : ell W S = (W == S) := by
  unfold ell
  rw [contains_false h, if_neg (by decide)]
section
variable {S : Str} {rs : List Int}
theorem txt_clean (N : Nms nm) : ∀ {p : List Int}, Tk p → Clean (txt nm p)
  | [], _ => by simpa [txt] using Clean.nil
  | w :: p, h => by
    rw [txt_cons]
    refine Clean.append ?_ (txt_clean N h.tail)
    unfold ln
    exact Clean.append (p := [9] ++ nm w) (Clean.append (Clean.of_ne (by simp)) (N.clean w h.head.1 h.head.2)) (Clean.of_ne (by simp))
theorem ell_many (N : Nms nm) (hr : Tk rs) {q : Int} {p : List Int} (hp : Tk (q :: p)) (hS : cpl S = txt nm rs) {P W : Str} (hP : cpl P = txt nm (q :: p)) (k : Nat) (h : Parts W (Str.empty :: (List.replicate k P ++ [Str.empty]))) : ell W S = gm (q :: p) k rs := by
  have e0 : ((Str.empty.length : Int) != 0) = false := by decide
  have hl : (Str.empty :: (List.replicate k P ++ [Str.empty])).getLast? = some Str.empty := by
    rw [← List.cons_append, List.getLast?_append]; rfl
  rw [h.ell]
  unfold ell1
  simp only [List.head?_cons, e0, Bool.false_eq_true, if_false]
  unfold ell2
  rw [hl]
  simp only [e0, Bool.false_eq_true, if_false]
  unfold ell3
  rw [if_neg (by omega), ellLoop]
  have f0 : findAt S Str.empty 0 (S.length : Nat) = 0 := find_nil S (Nat.zero_le _) (Nat.le_refl _)
  rw [f0, if_neg (by decide)]
  have := loop_gm N hr hp hS hP k 0 (Nat.zero_le _)
  rw [off_zero, List.drop_zero] at this
  exact this
theorem ell_lr (N : Nms nm) (hr : Tk rs) {l r : Int} (hl : 0 ≤ l ∧ l < 4) (h4 : 0 ≤ r ∧ r < 4) (hS : cpl S = txt nm rs) {P R W : Str} (hP : cpl P = txt nm [l]) (hR : cpl R = txt nm [r]) (h : Parts W [P, R]) (hne : rs ≠ []) :
    ell W S = ((rs.headD 0 == l) && ((rs.getLastD 0 == r) && decide ((1 : Int) < (rs.length : Nat)))) := by
  have hPl : P.length = (ln nm l).length := by rw [← cpl_len, hP]; simp [txt]
  have hRl : R.length = (ln nm r).length := by rw [← cpl_len, hR]; simp [txt]
  have e1 : ((P.length : Int) != 0) = true := by rw [hPl, ln_len]; simp; omega
  have e2 : ((R.length : Int) != 0) = true := by rw [hRl, ln_len]; simp; omega
  have hSl := S_len hS
  rw [h.ell]
  unfold ell1
  simp only [List.head?_cons, e1, if_true, List.tail_cons]
  have hh : rs.headD 0 == l ↔ rs.head? = some l := by
    cases rs with
    | nil => exact absurd rfl hne
    | cons a t => simp
  have hg : rs.getLastD 0 == r ↔ rs.getLast? = some r := by
    rw [List.getLastD_eq_getLast?, List.getLast?_eq_some_getLast hne]; simp
  by_cases c1 : startsW S P = true
  · rw [if_pos c1, hh.mpr ((starts_iff N hr hl hS hP).mp c1), Bool.true_and]
    unfold ell2
    simp only [List.getLast?_singleton, e2, if_true]
    by_cases c2 : endsW S R = true
    · rw [if_pos c2, hg.mpr ((ends_iff N hr h4 hS hR).mp c2), Bool.true_and]
      unfold ell3
      have hs0 := (starts_iff N hr hl hS hP).mp c1
      have hs1 := (ends_iff N hr h4 hS hR).mp c2
      obtain ⟨g1, g2, g3⟩ := off_last (nm := nm) hs1
      have hd : [R].dropLast = [] := rfl
      have o1 : off nm rs 1 = (ln nm l).length := by
        cases rs with
        | nil => exact absurd rfl hne
        | cons a t => cases hs0; rw [off_cons, off_zero]; omega
      by_cases c3 : 1 < rs.length
      · have := off_le (nm := nm) (rs := rs) (k := 1) (k' := rs.length - 1) (by omega)
        rw [if_neg (by omega), hd, ellLoop, decide_eq_true (by omega)]
      · have h1 : rs.length = 1 := by omega
        rw [h1] at g1
        rw [show 1 - 1 = 0 from rfl, off_zero] at g1
        rw [h1] at hSl
        have := ln_len (nm := nm) r
        rw [if_pos (by omega), decide_eq_false (by omega)]
    · rw [if_neg c2]
      have : (rs.getLastD 0 == r) = false := by
        rw [Bool.eq_false_iff]; intro q; exact c2 ((ends_iff N hr h4 hS hR).mpr (hg.mp q))
      rw [this]; rfl
  · rw [if_neg c1]
    have : (rs.headD 0 == l) = false := by
      rw [Bool.eq_false_iff]; intro q; exact c1 ((starts_iff N hr hl hS hP).mpr (hh.mp q))
    rw [this]; rfl
theorem ell_dlr (N : Nms nm) (hr : Tk rs) {l r : Int} (hl : 0 ≤ l ∧ l < 4) (h4 : 0 ≤ r ∧ r < 4) (hS : cpl S = txt nm rs) {P R W : Str} (hP : cpl P = txt nm [l]) (hR : cpl R = txt nm [r]) (h : Parts W [Str.empty, P, R]) (hne : rs ≠ []) :
    ell W S = ((rs.getLastD 0 == r) && rs.dropLast.contains l) := by
  have hp : Tk [l] := fun v hv => by rw [List.mem_singleton.mp hv]; exact hl
  have hPl : P.length = (ln nm l).length := by rw [← cpl_len, hP]; simp [txt]
  have hRl : R.length = (ln nm r).length := by rw [← cpl_len, hR]; simp [txt]
  have htl : (txt nm [l]).length = (ln nm l).length := by simp [txt]
  have e0 : ((Str.empty.length : Int) != 0) = false := by decide
  have e2 : ((R.length : Int) != 0) = true := by rw [hRl, ln_len]; simp; omega
  have hSl := S_len hS
  have hg : rs.getLastD 0 == r ↔ rs.getLast? = some r := by
    rw [List.getLastD_eq_getLast?, List.getLast?_eq_some_getLast hne]; simp
  rw [h.ell]
  unfold ell1
  simp only [List.head?_cons, e0, Bool.false_eq_true, if_false]
  unfold ell2
  have hgl : ([Str.empty, P, R] : List Str).getLast? = some R := rfl
  rw [hgl]
  simp only [e2, if_true]
  by_cases c2 : endsW S R = true
  · rw [if_pos c2, hg.mpr ((ends_iff N hr h4 hS hR).mp c2), Bool.true_and]
    obtain ⟨g1, g2, g3⟩ := off_last (nm := nm) ((ends_iff N hr h4 hS hR).mp c2)
    have ep : (S.length : Int) - (R.length : Nat) = (off nm rs (rs.length - 1) : Nat) := by omega
    have hle : off nm rs (rs.length - 1) ≤ S.length := by omega
    unfold ell3
    rw [ep, if_neg (by omega)]
    show ellLoop S _ [Str.empty, P] 0 = _
    rw [ellLoop]
    have f0 : findAt S Str.empty 0 (off nm rs (rs.length - 1) : Nat) = 0 := find_nil S (Nat.zero_le _) hle
    rw [f0, if_neg (by decide)]
    show ellLoop S _ [P] 0 = _
    rw [ellLoop]
    by_cases c3 : l ∈ rs.dropLast
    · rw [List.contains_iff_mem.mpr c3]
      obtain ⟨k, hk⟩ := List.getElem?_of_mem c3
      have hk1 : k < rs.length - 1 := by
        have := (List.getElem?_eq_some_iff.mp hk).1
        simpa using this
      have hk2 : rs[k]? = some l := by rw [List.getElem?_dropLast] at hk; rw [if_pos hk1] at hk; exact hk
      have hpre : [l] <+: rs.drop k := by
        obtain ⟨h1, rfl⟩ := List.getElem?_eq_some_iff.mp hk2
        exact ⟨rs.drop (k + 1), (List.drop_eq_getElem_cons h1).symm⟩
      have e : (rs.drop k).take 1 = [l] := (List.prefix_iff_eq_take.mp hpre).symm
      have h5 := off_add (nm := nm) rs k 1
      rw [e, htl] at h5
      have h6 := off_le (nm := nm) (rs := rs) (k := k + 1) (k' := rs.length - 1) (by omega)
      obtain ⟨b, hb⟩ := find_pos (x := S) (y := P) (i := 0) (j := off nm rs (rs.length - 1)) (a := off nm rs k) hle (Nat.zero_le _) ((at_S N hr hp hS hP _ _).mpr ⟨by omega, k, by omega, rfl, hpre⟩)
      have hb : findAt S P 0 (off nm rs (rs.length - 1) : Nat) = b := hb
      rw [hb, if_neg (Int.not_lt.mpr (Int.natCast_nonneg _)), ellLoop]
    · have : rs.dropLast.contains l = false := by
        rw [Bool.eq_false_iff]; intro q; exact c3 (List.contains_iff_mem.mp q)
      rw [this]
      have hno := find_none S P (i := 0) (j := off nm rs (rs.length - 1)) hle fun a _ hA => by
        obtain ⟨q1, k, q2, q3, q4⟩ := (at_S N hr hp hS hP _ _).mp hA
        have e : (rs.drop k).take 1 = [l] := (List.prefix_iff_eq_take.mp q4).symm
        have h5 := off_add (nm := nm) rs k 1
        rw [e, htl] at h5
        have hk : k < rs.length := by
          have := q4.length_le
          simp at this; omega
        have hk1 : k + 1 ≤ rs.length - 1 := by
          rcases Nat.lt_or_ge (rs.length - 1) (k + 1) with h' | h'
          · have := off_lt (nm := nm) (rs := rs) h' (by omega); omega
          · exact h'
        refine c3 (List.mem_of_getElem? (i := k) ?_)
        rw [List.getElem?_dropLast, if_pos (by omega), List.getElem?_eq_getElem hk]
        rw [List.drop_eq_getElem_cons hk] at e
        simp only [List.take_succ_cons, List.take_zero, List.cons.injEq, and_true] at e
        rw [e]
      have hno : findAt S P 0 (off nm rs (rs.length - 1) : Nat) = -1 := hno
      rw [hno, if_pos (by decide)]
  · rw [if_neg c2]
    have : (rs.getLastD 0 == r) = false := by
      rw [Bool.eq_false_iff]; intro q; exact c2 ((ends_iff N hr h4 hS hR).mpr (hg.mp q))
    rw [this]; rfl
end
end Mine
end
section
open PySem PySem.W PyProof.Rows PySem.StrLaws PySem.Builtin.Str
set_option linter.unusedVariables false
namespace Mine
theorem digit_cps {M : Int} (h : 0 ≤ M) : ∀ c ∈ cpl (Str.ofString (toString M)), 48 ≤ c ∧ c ≤ 57 := by
  obtain ⟨n, rfl⟩ := Int.eq_ofNat_of_zero_le h
  intro c hc
  rw [Str.ofString_eq_toList] at hc
  have hc : c ∈ (((toString (n : Int)).toList.map Char.toNat).toArray).toList := hc
  rw [List.toList_toArray] at hc
  obtain ⟨d, hd, rfl⟩ := List.mem_map.mp hc
  have e : (toString (n : Int)).toList = Nat.toDigits 10 n := by
    show (Nat.repr n).toList = _
    unfold Nat.repr
    simp
  rw [e] at hd
  have := Nat.isDigit_of_mem_toDigits (by decide) (by decide) hd
  unfold Char.isDigit at this
  simp at this
  exact ⟨this.1, this.2⟩
noncomputable def nml (M : Int) (w : Int) : List Nat := cpl ((namesM M).getD w.toNat "")
theorem c_apy : cpl (Str.ofString "a..py:") = [97] ++ [46, 46, 112] ++ [121, 58] := by decide +kernel
theorem c_f : cpl (Str.ofString "(f)") = [40, 102, 41] := by decide +kernel
theorem c_ff : cpl (Str.ofString "(<f>)") = [40, 60, 102, 62, 41] := by decide +kernel
theorem c_tl : cpl (Str.ofString "~:") = [126, 58] := by decide +kernel
theorem c_br : cpl (Str.ofString "{f}") = [123, 102, 125] := by decide +kernel
theorem c_lt : cpl (Str.ofString "<f") = [60, 102] := by decide +kernel
theorem nml0 (M : Int) : nml M 0 = [97] ++ [46, 46, 112] ++ [121, 58] ++ cpl (Str.ofString (toString M)) ++ [40, 102, 41] := by
  show cpl (Str.ofString "a..py:" ++ Str.ofString (toString M) ++ Str.ofString "(f)") = _
  rw [cpl_cat, cpl_cat, c_apy, c_f]
theorem nml1 (M : Int) : nml M 1 = [123, 102, 125] := c_br
theorem nml2 (M : Int) : nml M 2 = [60, 102] := c_lt
theorem nml3 (M : Int) : nml M 3 = [126, 58] ++ cpl (Str.ofString (toString (1 + M))) ++ [40, 60, 102, 62, 41] := by
  show cpl (Str.ofString "~:" ++ Str.ofString (toString (1 + M)) ++ Str.ofString "(<f>)") = _
  rw [cpl_cat, cpl_cat, c_tl, c_ff]
theorem four_cases {w : Int} (h0 : 0 ≤ w) (h4 : w < 4) : w = 0 ∨ w = 1 ∨ w = 2 ∨ w = 3 := by omega
theorem nml_head (M : Int) (w : Int) (h0 : 0 ≤ w) (h4 : w < 4) : (nml M w).head? = some (if w = 0 then 97 else if w = 1 then 123 else if w = 2 then 60 else 126) := by
  rcases four_cases h0 h4 with rfl | rfl | rfl | rfl
  · rw [nml0]; rfl
  · rw [nml1]; rfl
  · rw [nml2]; rfl
  · rw [nml3]; rfl
theorem nml_bound {M : Int} (hM : 0 ≤ M) (w : Int) (h0 : 0 ≤ w) (h4 : w < 4) : ∀ c ∈ nml M w, 40 ≤ c ∧ c < 128 := by
  intro c hc
  rcases four_cases h0 h4 with rfl | rfl | rfl | rfl
  · rw [nml0] at hc
    simp only [List.mem_append] at hc
    rcases hc with (((hc | hc) | hc) | hc) | hc
    · simp at hc; omega
    · simp at hc; omega
    · simp at hc; omega
    · have := digit_cps hM c hc; omega
    · simp at hc; omega
  · rw [nml1] at hc; simp at hc; omega
  · rw [nml2] at hc; simp at hc; omega
  · rw [nml3] at hc
    simp only [List.mem_append] at hc
    rcases hc with (hc | hc) | hc
    · simp at hc; omega
    · have := digit_cps (by omega : 0 ≤ 1 + M) c hc; omega
    · simp at hc; omega
theorem nms {M : Int} (hM : 0 ≤ M) : Nms (nml M) where
  h10 := fun w h0 h4 hm => by have := nml_bound hM w h0 h4 10 hm; omega
  h9 := fun w h0 h4 hm => by have := nml_bound hM w h0 h4 9 hm; omega
  inj := fun w v h0 h4 g0 g4 e => by
    have h1 := nml_head M w h0 h4
    have h2 := nml_head M v g0 g4
    rw [e, h2, Option.some.injEq] at h1
    rcases four_cases h0 h4 with rfl | rfl | rfl | rfl <;> rcases four_cases g0 g4 with rfl | rfl | rfl | rfl <;> first | rfl | (exfalso; revert h1; decide)
  clean := fun w h0 h4 => by
    rcases four_cases h0 h4 with rfl | rfl | rfl | rfl
    · rw [nml0]
      refine Clean.append (Clean.append (Clean.append (Clean.append (Clean.of_ne (by simp)) (Clean.two (p := []) (by decide))) (Clean.of_ne (by simp))) (Clean.of_ne fun c hc => ?_)) (Clean.of_ne (by simp))
      have := digit_cps hM c hc; omega
    · rw [nml1]; exact Clean.of_ne (by simp)
    · rw [nml2]; exact Clean.of_ne (by simp)
    · rw [nml3]
      refine Clean.append (Clean.append (Clean.of_ne (by simp)) (Clean.of_ne fun c hc => ?_)) (Clean.of_ne (by simp))
      have := digit_cps (by omega : 0 ≤ 1 + M) c hc; omega
theorem nml_len {M : Int} (hM : 0 ≤ M) (h12 : M < 1000000000000) (w : Int) (h0 : 0 ≤ w) (h4 : w < 4) : (nml M w).length ≤ 24 := by
  have d1 : (cpl (Str.ofString (toString M))).length ≤ 13 := by
    rw [cpl_len]; exact toString_length_le hM (by decide) (by omega)
  have d2 : (cpl (Str.ofString (toString (1 + M)))).length ≤ 13 := by
    rw [cpl_len]; exact toString_length_le (by omega) (by decide) (by omega)
  rcases four_cases h0 h4 with rfl | rfl | rfl | rfl
  · rw [nml0]; simp only [List.length_append, List.length_cons, List.length_nil]; omega
  · rw [nml1]; simp
  · rw [nml2]; simp
  · rw [nml3]; simp only [List.length_append, List.length_cons, List.length_nil]; omega
theorem names_mem {M : Int} {n : Str} (h : n ∈ namesM M) : ∃ w : Int, 0 ≤ w ∧ w < 4 ∧ n = (namesM M).getD w.toNat "" := by
  simp only [namesM, List.mem_cons, List.not_mem_nil, or_false] at h
  rcases h with rfl | rfl | rfl | rfl
  · exact ⟨0, by decide, by decide, rfl⟩
  · exact ⟨1, by decide, by decide, rfl⟩
  · exact ⟨2, by decide, by decide, rfl⟩
  · exact ⟨3, by decide, by decide, rfl⟩
theorem names_len {M : Int} (hM : 0 ≤ M) (h12 : M < 1000000000000) {n : Str} (h : n ∈ namesM M) : n.length ≤ 24 := by
  obtain ⟨w, h0, h4, rfl⟩ := names_mem h
  rw [← cpl_len]
  exact nml_len hM h12 w h0 h4
theorem names_ok {M : Int} (hM : 0 ≤ M) {n : Str} (h : n ∈ namesM M) : PyData.strOk n = true := by
  obtain ⟨w, h0, h4, rfl⟩ := names_mem h
  unfold PyData.strOk
  rw [← Array.all_toList, List.all_eq_true]
  intro c hc
  have := nml_bound hM w h0 h4 c hc
  exact decide_eq_true (by omega)
theorem c_tab : cpl (Str.ofString "\t") = [9] := by decide +kernel
theorem c_nl : cpl (Str.ofString "\n") = [10] := by decide +kernel
theorem cpl_line (n : Str) : cpl (lineOf n) = 9 :: cpl n ++ [10] := by
  unfold lineOf
  rw [cpl_cat, cpl_cat, c_tab, c_nl]; rfl
theorem cpl_lnAt (ns : List Int) {w : Int} (h0 : 0 ≤ w) (h4 : w < 4) : cpl (lnAt ns w) = txt (nml (mOf ns)) [w] := by
  have e : lnAt ns w = lineOf ((namesM (mOf ns)).getD w.toNat "") := by
    rcases four_cases h0 h4 with rfl | rfl | rfl | rfl <;> rfl
  rw [e, cpl_line]
  simp [txt, ln, nml]
theorem cpl_mul (x : Str) (n : Nat) : cpl (Txt.mul x (n : Int)) = (List.replicate n (cpl x)).flatten := by
  have hf : ∀ (k : Nat) (acc : Array Nat), ((List.replicate k x.cps).foldl (· ++ ·) acc).toList = acc.toList ++ (List.replicate k (cpl x)).flatten := by
    intro k
    induction k with
    | zero => intro acc; simp
    | succ k ih =>
      intro acc
      rw [List.replicate_succ, List.foldl_cons, ih, Array.toList_append, List.replicate_succ, List.flatten_cons, List.append_assoc]; rfl
  unfold Txt.mul
  by_cases h : (n : Int) < 1
  · have : n = 0 := by omega
    subst this
    rfl
  · rw [if_neg h]
    by_cases h2 : ((n : Int) == 1 || x.length == 0) = true
    · rw [if_pos h2]
      rw [Bool.or_eq_true] at h2
      rcases h2 with h2 | h2
      · have : n = 1 := by have := eq_of_beq h2; omega
        subst this
        simp
      · have h0 : cpl x = [] := List.eq_nil_of_length_eq_zero (by rw [cpl_len]; exact eq_of_beq h2)
        rw [h0]; simp
    · rw [if_neg h2]
      unfold cpl
      rw [hf, Int.toNat_natCast]
      simp [cpl]
theorem jl_cons {p : List Nat} {r : List (List Nat)} (h : r ≠ []) : jl (p :: r) = p ++ D3l ++ jl r := by
  cases r with
  | nil => exact absurd rfl h
  | cons q r => rfl
theorem jl_many (t : List Nat) : ∀ k, jl ([] :: (List.replicate k t ++ [[]])) = D3l ++ (List.replicate k (t ++ D3l)).flatten
  | 0 => rfl
  | k + 1 => by
    have ih := jl_many t k
    rw [jl_cons (by simp)] at ih ⊢
    have ih' : jl (List.replicate k t ++ [[]]) = (List.replicate k (t ++ D3l)).flatten := by simpa using ih
    rw [List.replicate_succ, List.cons_append, jl_cons (by simp), ih', List.replicate_succ, List.flatten_cons]
    simp
section
variable {nm : Int → List Nat}
theorem parts_many (N : Nms nm) {p : List Int} (hp : Tk p) {P : Str} (hP : cpl P = txt nm p) (k : Nat) : Parts (wantK P k) (Str.empty :: (List.replicate k P ++ [Str.empty])) := by
  refine ⟨by simp, fun z hz => ?_, ?_⟩
  · simp only [List.mem_cons, List.mem_append, List.mem_replicate, List.not_mem_nil, or_false] at hz
    rcases hz with rfl | ⟨_, rfl⟩ | rfl
    · exact Clean.nil
    · rw [hP]; exact txt_clean N hp
    · exact Clean.nil
  · unfold wantK
    rw [cpl_cat, cpl_mul, cpl_cat, cpl_dots, List.map_cons, List.map_append, List.map_replicate, List.map_cons, List.map_nil, empty_cpl, jl_many]
theorem parts_lr (N : Nms nm) {l r : Int} (hl : 0 ≤ l ∧ l < 4) (hr : 0 ≤ r ∧ r < 4) {P R : Str} (hP : cpl P = txt nm [l]) (hR : cpl R = txt nm [r]) : Parts (P ++ dots ++ R) [P, R] := by
  refine ⟨by simp, fun z hz => ?_, ?_⟩
  · simp only [List.mem_cons, List.not_mem_nil, or_false] at hz
    rcases hz with rfl | rfl
    · rw [hP]; exact txt_clean N fun v hv => by rw [List.mem_singleton.mp hv]; exact hl
    · rw [hR]; exact txt_clean N fun v hv => by rw [List.mem_singleton.mp hv]; exact hr
  · rw [cpl_cat, cpl_cat, cpl_dots]; rfl
theorem parts_dlr (N : Nms nm) {l r : Int} (hl : 0 ≤ l ∧ l < 4) (hr : 0 ≤ r ∧ r < 4) {P R : Str} (hP : cpl P = txt nm [l]) (hR : cpl R = txt nm [r]) : Parts (dots ++ P ++ dots ++ R) [Str.empty, P, R] := by
  refine ⟨by simp, fun z hz => ?_, ?_⟩
  · simp only [List.mem_cons, List.not_mem_nil, or_false] at hz
    rcases hz with rfl | rfl | rfl
    · exact Clean.nil
    · rw [hP]; exact txt_clean N fun v hv => by rw [List.mem_singleton.mp hv]; exact hl
    · rw [hR]; exact txt_clean N fun v hv => by rw [List.mem_singleton.mp hv]; exact hr
  · rw [cpl_cat, cpl_cat, cpl_cat, cpl_dots]
    show _ = [] ++ D3l ++ (cpl P ++ D3l ++ cpl R)
    simp
end
end Mine
end
section
open PySem PySem.W PyProof.Rows
set_option linter.unusedVariables false
namespace Mine
/-! ticks, stretches, pieces -/
noncomputable def own : List D3 → Int → D3
  | [], _ => (0, 0, 0)
  | d :: r, t => if t < d.2.1 then d else own r (t - d.2.1)
theorem begins_cons (d : D3) (r : List D3) : beginsOf (d :: r) = 0 :: (beginsOf r).map (d.2.1 + ·) := by
  unfold beginsOf
  rw [List.length_cons, List.range_succ_eq_map, List.map_cons, List.map_map, List.map_map]
  rfl
theorem begins_nonneg : ∀ {dr : List D3}, (∀ d ∈ dr, 0 ≤ d.2.1) → ∀ b ∈ beginsOf dr, 0 ≤ b
  | [], _, b, hb => by simp [beginsOf] at hb
  | d :: r, h, b, hb => by
    rw [begins_cons] at hb
    rcases List.mem_cons.mp hb with rfl | hb
    · omega
    · obtain ⟨c, hc, rfl⟩ := List.mem_map.mp hb
      have := begins_nonneg (fun d hd => h d (.tail _ hd)) c hc
      have := h d (.head _)
      omega
theorem begins_sorted : ∀ {dr : List D3}, (∀ d ∈ dr, 0 ≤ d.2.1) → (beginsOf dr).Pairwise (· ≤ ·)
  | [], _ => by simp [beginsOf]
  | d :: r, h => by
    have hr := fun d hd => h d (List.Mem.tail _ hd)
    rw [begins_cons]
    refine List.pairwise_cons.mpr ⟨fun b hb => ?_, ?_⟩
    · obtain ⟨c, hc, rfl⟩ := List.mem_map.mp hb
      have := begins_nonneg hr c hc
      have := h d (.head _)
      omega
    · rw [List.pairwise_map]
      exact (begins_sorted hr).imp fun {a b} hab => by omega
theorem ticks_cons (d : D3) (r : List D3) : ticksOf (d :: r) = d.2.1 + ticksOf r := by simp [ticksOf]
theorem ticks_nonneg : ∀ {dr : List D3}, (∀ d ∈ dr, 0 ≤ d.2.1) → 0 ≤ ticksOf dr
  | [], _ => by simp [ticksOf]
  | d :: r, h => by
    rw [ticks_cons]
    have := ticks_nonneg fun d hd => h d (List.Mem.tail _ hd)
    have := h d (.head _)
    omega
theorem pick_own : ∀ {dr : List D3}, (∀ d ∈ dr, 0 ≤ d.2.1) → ∀ {t : Int}, 0 ≤ t → t < ticksOf dr → 1 ≤ (beginsOf dr).countP (fun v => decide (v ≤ t)) ∧ dr[(beginsOf dr).countP (fun v => decide (v ≤ t)) - 1]? = some (own dr t)
  | [], _, t, h0, h1 => by simp [ticksOf] at h1; omega
  | d :: r, h, t, h0, h1 => by
    have hr := fun d hd => h d (List.Mem.tail _ hd)
    have hd := h d (.head _)
    rw [begins_cons, List.countP_cons_of_pos (by simpa using h0), List.countP_map]
    have e : ((fun v => decide (v ≤ t)) ∘ fun x => d.2.1 + x) = fun v => decide (v ≤ t - d.2.1) := by
      funext v; simp only [Function.comp]; rw [decide_eq_decide]; omega
    rw [e]
    unfold own
    by_cases q : t < d.2.1
    · have : (beginsOf r).countP (fun v => decide (v ≤ t - d.2.1)) = 0 := by
        rw [List.countP_eq_zero]
        intro b hb
        have := begins_nonneg hr b hb
        simp; omega
      rw [this, if_pos q]
      exact ⟨by omega, rfl⟩
    · rw [if_neg q]
      rw [ticks_cons] at h1
      obtain ⟨g1, g2⟩ := pick_own hr (t := t - d.2.1) (by omega) (by omega)
      refine ⟨by omega, ?_⟩
      generalize (beginsOf r).countP (fun v => decide (v ≤ t - d.2.1)) = c at g1 g2
      obtain ⟨c', rfl⟩ : ∃ c', c = c' + 1 := ⟨c - 1, by omega⟩
      simpa using g2
theorem own_mem : ∀ {dr : List D3}, (∀ d ∈ dr, 0 ≤ d.2.1) → ∀ {t : Int}, 0 ≤ t → t < ticksOf dr → own dr t ∈ dr := by
  intro dr h t h0 h1
  exact List.mem_of_getElem? (pick_own h h0 h1).2
noncomputable def cutR (st sp : Int) : Int → List D3 → List Pc
  | _, [] => []
  | b, d :: r => (if max b st < min (b + d.2.1) sp then [(d.1, max b st, min (b + d.2.1) sp, d.2.2)] else []) ++ cutR st sp (b + d.2.1) r
theorem cut_fold (st sp : Int) : ∀ (dr : List D3) (acc : List Pc) (b : Int), (dr.foldl (cutStep st sp) (acc, b)).1 = acc ++ cutR st sp b dr
  | [], acc, b => by simp [cutR]
  | d :: r, acc, b => by
    rw [List.foldl_cons]
    show (r.foldl (cutStep st sp) (if max b st < min (b + d.2.1) sp then acc ++ [(d.1, max b st, min (b + d.2.1) sp, d.2.2)] else acc, b + d.2.1)).1 = _
    rw [cut_fold st sp r]
    show _ = acc ++ ((if max b st < min (b + d.2.1) sp then [(d.1, max b st, min (b + d.2.1) sp, d.2.2)] else []) ++ cutR st sp (b + d.2.1) r)
    split <;> simp
theorem cut_eq (dr : List D3) (st sp : Int) : cut dr st sp = cutR st sp 0 dr := by unfold cut; rw [cut_fold]; rfl
noncomputable abbrev Es := List (Int × Int × Int)
noncomputable def expP (p : Pc) : Es := (tickL p.2.1 p.2.2.1).map fun t => (p.1, p.2.2.2, t)
noncomputable def smpOf (dr : List D3) (st sp : Int) : Es := (tickL st sp).map fun t => ((own dr t).1, (own dr t).2.2, t)
theorem tickL_mem {a b t : Int} (h : t ∈ tickL a b) : a ≤ t ∧ t < b := by
  obtain ⟨i, hi, rfl⟩ := List.mem_map.mp h
  have := List.mem_range.mp hi
  omega
theorem tickL_nil {a b : Int} (h : b ≤ a) : tickL a b = [] := by
  unfold tickL
  rw [show (b - a).toNat = 0 by omega]; rfl
theorem tickL_split {a m b : Int} (h1 : a ≤ m) (h2 : m ≤ b) : tickL a b = tickL a m ++ tickL m b := by
  unfold tickL
  rw [show (b - a).toNat = (m - a).toNat + (b - m).toNat by omega, List.range_add, List.map_append, List.map_map]
  congr 1
  refine List.map_congr_left fun i _ => ?_
  simp only [Function.comp]
  omega
theorem exp_cut (st sp : Int) : ∀ {dr : List D3}, (∀ d ∈ dr, 0 ≤ d.2.1) → ∀ b : Int, (cutR st sp b dr).flatMap expP = (tickL (max b st) (min (b + ticksOf dr) sp)).map fun t => ((own dr (t - b)).1, (own dr (t - b)).2.2, t)
  | [], _, b => by
    have e : ticksOf [] = 0 := rfl
    rw [e, tickL_nil (by omega)]; rfl
  | d :: r, h, b => by
    have hr := fun d hd => h d (List.Mem.tail _ hd)
    have hd := h d (.head _)
    have hT := ticks_nonneg hr
    unfold cutR
    rw [List.flatMap_append, exp_cut st sp hr (b + d.2.1), ticks_cons]
    have e1 : (if max b st < min (b + d.2.1) sp then [(d.1, max b st, min (b + d.2.1) sp, d.2.2)] else []).flatMap expP = (tickL (max b st) (min (b + d.2.1) sp)).map fun t => (d.1, d.2.2, t) := by
      by_cases q : max b st < min (b + d.2.1) sp
      · rw [if_pos q]; simp [expP]
      · rw [if_neg q, tickL_nil (by omega)]; rfl
    rw [e1]
    have e2 : (tickL (max b st) (min (b + d.2.1) sp)).map (fun t => (d.1, d.2.2, t)) = (tickL (max b st) (min (b + d.2.1) sp)).map fun t => ((own (d :: r) (t - b)).1, (own (d :: r) (t - b)).2.2, t) := by
      refine List.map_congr_left fun t ht => ?_
      have := tickL_mem ht
      unfold own
      rw [if_pos (by omega)]
    have e3 : (tickL (max (b + d.2.1) st) (min (b + d.2.1 + ticksOf r) sp)).map (fun t => ((own r (t - (b + d.2.1))).1, (own r (t - (b + d.2.1))).2.2, t)) = (tickL (max (b + d.2.1) st) (min (b + d.2.1 + ticksOf r) sp)).map fun t => ((own (d :: r) (t - b)).1, (own (d :: r) (t - b)).2.2, t) := by
      refine List.map_congr_left fun t ht => ?_
      have := tickL_mem ht
      conv => rhs; unfold own
      rw [if_neg (by omega), show t - b - d.2.1 = t - (b + d.2.1) by omega]
    rw [e2, e3, ← List.map_append]
    congr 1
    by_cases q1 : b + d.2.1 ≤ st
    · rw [tickL_nil (a := max b st) (b := min (b + d.2.1) sp) (by omega), List.nil_append, show max (b + d.2.1) st = max b st by omega, show b + (d.2.1 + ticksOf r) = b + d.2.1 + ticksOf r by omega]
    · by_cases q2 : sp ≤ b + d.2.1
      · rw [tickL_nil (a := max (b + d.2.1) st) (by omega), List.append_nil, show min (b + (d.2.1 + ticksOf r)) sp = min (b + d.2.1) sp by omega]
      · rw [tickL_split (a := max b st) (m := b + d.2.1) (b := min (b + (d.2.1 + ticksOf r)) sp) (by omega) (by omega), show min (b + d.2.1) sp = b + d.2.1 by omega, show max (b + d.2.1) st = b + d.2.1 by omega, show b + (d.2.1 + ticksOf r) = b + d.2.1 + ticksOf r by omega]
theorem exp_pieces {dr : List D3} (h : ∀ d ∈ dr, 0 ≤ d.2.1) {st sp : Int} (h0 : 0 ≤ st) (h1 : sp ≤ ticksOf dr) : (cut dr st sp).flatMap expP = smpOf dr st sp := by
  rw [cut_eq, exp_cut st sp h 0, show max 0 st = st by omega, show min (0 + ticksOf dr) sp = sp by omega]
  unfold smpOf
  simp
theorem cut_prop (st sp : Int) : ∀ (dr : List D3) (b : Int), ∀ p ∈ cutR st sp b dr, p.2.1 < p.2.2.1 ∧ st ≤ p.2.1 ∧ p.2.2.1 ≤ sp ∧ ∃ d ∈ dr, p.1 = d.1
  | [], b, p, hp => nomatch hp
  | d :: r, b, p, hp => by
    unfold cutR at hp
    rcases List.mem_append.mp hp with hp | hp
    · split at hp
      · rw [List.mem_singleton.mp hp]
        refine ⟨by dsimp only; omega, by dsimp only; omega, by dsimp only; omega, d, .head _, rfl⟩
      · cases hp
    · obtain ⟨h1, h2, h3, e, he, h4⟩ := cut_prop st sp r _ p hp
      exact ⟨h1, h2, h3, e, .tail _ he, h4⟩
/-! joined -/
noncomputable def repP (p : Pc) : List Int := List.replicate (p.2.2.1 - p.2.1).toNat p.1
theorem exp_rep (p : Pc) : (expP p).map (·.1) = repP p := by
  unfold expP repP tickL
  rw [List.map_map, List.map_map]
  simp [Function.comp_def, List.map_const']
theorem proper_snoc : ∀ {acc : List Jn} {p : Option Int} {j : Jn}, Proper p acc → (acc.getLast?.map (·.1)).or p ≠ some j.1 → 1 ≤ j.2 → Proper p (acc ++ [j])
  | [], p, j, _, h1, h2 => ⟨by simpa using h1, h2, trivial⟩
  | a :: r, p, j, h, h1, h2 => by
    refine ⟨h.1, h.2.1, proper_snoc h.2.2 ?_ h2⟩
    cases r with
    | nil => simpa using h1
    | cons b t =>
      rw [List.getLast?_cons_cons] at h1
      cases hb : (b :: t).getLast? with
      | none => simp at hb
      | some c => rw [hb] at h1; simpa using h1
theorem proper_init : ∀ {acc : List Jn} {p : Option Int} {j : Jn}, Proper p (acc ++ [j]) → Proper p acc ∧ (acc.getLast?.map (·.1)).or p ≠ some j.1 ∧ 1 ≤ j.2
  | [], p, j, h => ⟨trivial, by simpa using h.1, h.2.1⟩
  | a :: r, p, j, h => by
    obtain ⟨h1, h2, h3⟩ := proper_init (acc := r) h.2.2
    refine ⟨⟨h.1, h.2.1, h1⟩, ?_, h3⟩
    cases r with
    | nil => simpa using h2
    | cons b t =>
      rw [List.getLast?_cons_cons]
      cases hb : (b :: t).getLast? with
      | none => simp at hb
      | some c => rw [hb] at h2; simpa using h2
theorem run_snoc (acc : List Jn) (j : Jn) : runOf (acc ++ [j]) = runOf acc ++ List.replicate j.2.toNat j.1 := by simp [runOf]
theorem join_step {acc : List Jn} {p : Pc} (h : Proper none acc) (hp : p.2.1 < p.2.2.1) : Proper none (joinStep acc p) ∧ runOf (joinStep acc p) = runOf acc ++ repP p := by
  unfold joinStep
  cases hl : acc.getLast? with
  | none =>
    have : acc = [] := List.getLast?_eq_none_iff.mp hl
    subst this
    refine ⟨⟨by simp, by show 1 ≤ p.2.2.1 - p.2.1; omega, trivial⟩, ?_⟩
    simp [runOf, repP]
  | some q =>
    have e := last_split hl
    rw [e] at h
    obtain ⟨g1, g2, g3⟩ := proper_init h
    dsimp only
    by_cases c : (q.1 == p.1) = true
    · rw [if_pos c]
      have c' : q.1 = p.1 := eq_of_beq c
      have es : acc.set (acc.length - 1) (p.1, q.2 + p.2.2.1 - p.2.1) = acc.dropLast ++ [(p.1, q.2 + p.2.2.1 - p.2.1)] := by
        conv => lhs; rw [e]
        rw [List.length_append, List.length_singleton, Nat.add_sub_cancel, List.set_append_right _ _ (Nat.le_refl _), Nat.sub_self]; rfl
      rw [es]
      refine ⟨proper_snoc g1 (by rw [← c']; exact g2) (by show 1 ≤ q.2 + p.2.2.1 - p.2.1; omega), ?_⟩
      rw [run_snoc]
      conv => rhs; rw [e, run_snoc]
      show runOf acc.dropLast ++ List.replicate (q.2 + p.2.2.1 - p.2.1).toNat p.1 = _
      unfold repP
      rw [c', List.append_assoc, List.replicate_append_replicate, show (q.2 + p.2.2.1 - p.2.1).toNat = q.2.toNat + (p.2.2.1 - p.2.1).toNat by omega]
    · rw [if_neg c]
      refine ⟨proper_snoc (by rw [e]; exact h) ?_ (by show 1 ≤ p.2.2.1 - p.2.1; omega), by rw [run_snoc]; rfl⟩
      rw [hl]
      simpa using c
theorem join_all : ∀ (ps : List Pc) (acc : List Jn), Proper none acc → (∀ p ∈ ps, p.2.1 < p.2.2.1) → Proper none (ps.foldl joinStep acc) ∧ runOf (ps.foldl joinStep acc) = runOf acc ++ ps.flatMap repP
  | [], acc, h, _ => ⟨h, by simp⟩
  | p :: r, acc, h, hp => by
    obtain ⟨h1, h2⟩ := join_step h (hp p (.head _))
    obtain ⟨g1, g2⟩ := join_all r (joinStep acc p) h1 fun q hq => hp q (.tail _ hq)
    refine ⟨g1, ?_⟩
    rw [List.foldl_cons, g2, h2, List.flatMap_cons, List.append_assoc]
end Mine
end
section
open PySem PySem.W PyProof.Rows
set_option linter.unusedVariables false
namespace Mine
/-! the samples' table -/
noncomputable def clf (nf : Int → Str) (b : List Int) : Cs := (uniq b).map fun k => (nf k, ((b.count k : Nat) : Int))
noncomputable def Inj (nf : Int → Str) : Prop := ∀ a b, 0 ≤ a → a < 4 → 0 ≤ b → b < 4 → nf a = nf b → a = b
variable {nf : Int → Str}
theorem fold_cput : ∀ (t acc : Cs), ((acc ++ t).map (·.1)).Nodup → t.foldl (fun l p => cput l p.1 p.2) acc = acc ++ t
  | [], acc, _ => by simp
  | p :: t, acc, h => by
    have hn : ¬ (acc.any fun q => decide (q.1 = p.1)) = true := by
      intro ha
      obtain ⟨q, hq, e⟩ := List.any_eq_true.mp ha
      rw [List.map_append, List.nodup_append] at h
      exact h.2.2 q.1 (List.mem_map_of_mem hq) p.1 (by simp) (of_decide_eq_true e)
    rw [List.foldl_cons]
    show t.foldl _ (cput acc p.1 p.2) = _
    have hcp : cput acc p.1 p.2 = acc ++ [(p.1, p.2)] := by unfold cput; rw [if_neg hn]
    rw [hcp, fold_cput t (acc ++ [(p.1, p.2)]) (by simpa using h)]
    simp
theorem clf_nodup (hi : Inj nf) {b : List Int} (hb : Tk b) : ((clf nf b).map (·.1)).Nodup := by
  unfold clf
  rw [List.map_map]
  have hu := uniq_nodup b
  have ht : ∀ x ∈ uniq b, 0 ≤ x ∧ x < 4 := fun x hx => hb x (mem_uniq.mp hx)
  unfold List.Nodup at hu ⊢
  rw [List.pairwise_map]
  refine hu.imp_of_mem fun {x y} hx hy hne e => hne ?_
  exact hi x y (ht x hx).1 (ht x hx).2 (ht y hy).1 (ht y hy).2 e
theorem addC_nil (hi : Inj nf) {b : List Int} (hb : Tk b) : addC (clf nf b) [] = clf nf b := by
  unfold addC
  rw [fold_cput _ [] (by simpa using clf_nodup hi hb)]; rfl
theorem clf_get (hi : Inj nf) {v : Int} (hv : 0 ≤ v ∧ v < 4) : ∀ {u : List Int} (g : Int → Int), Tk u → cget (u.map fun k => (nf k, g k)) (nf v) = if v ∈ u then some (g v) else none
  | [], g, _ => by simp [cget]
  | a :: u, g, h => by
    have ih := clf_get hi hv g h.tail
    unfold cget at ih ⊢
    rw [List.map_cons, List.find?_cons]
    by_cases q : nf a = nf v
    · have : a = v := hi a v h.head.1 h.head.2 hv.1 hv.2 q
      subst this
      simp
    · have hne : v ≠ a := fun e => q (by rw [e])
      simp only [q, decide_false, ih, List.mem_cons, hne, false_or]
theorem addC_one (hi : Inj nf) {b : List Int} (hb : Tk b) {v : Int} (hv : 0 ≤ v ∧ v < 4) : addC (clf nf b) [(nf v, 1)] = clf nf (b ++ [v]) := by
  unfold addC
  rw [fold_cput _ [] (by simpa using clf_nodup hi hb)]
  have hu : Tk (uniq b) := fun x hx => hb x (mem_uniq.mp hx)
  show cadd (clf nf b) (nf v, 1) = _
  unfold cadd
  have hg := clf_get hi hv (u := uniq b) (fun k => ((b.count k : Nat) : Int)) hu
  show cput (clf nf b) (nf v) ((cget (clf nf b) (nf v)).elim 1 (· + 1)) = _
  rw [show cget (clf nf b) (nf v) = _ from hg]
  have hany : ((clf nf b).any fun p => decide (p.1 = nf v)) = decide (v ∈ b) := by
    rw [Bool.eq_iff_iff, List.any_eq_true, decide_eq_true_eq]
    constructor
    · rintro ⟨p, hp, e⟩
      obtain ⟨k, hk, rfl⟩ := List.mem_map.mp hp
      have := hi k v (hu k hk).1 (hu k hk).2 hv.1 hv.2 (of_decide_eq_true e)
      exact this ▸ mem_uniq.mp hk
    · intro hm
      exact ⟨_, List.mem_map_of_mem (mem_uniq.mpr hm), by simp⟩
  unfold cput
  rw [hany]
  unfold clf
  rw [uniq_snoc]
  by_cases c : v ∈ b
  · rw [if_pos (mem_uniq.mpr c), if_pos (by simpa using c), if_pos c, List.map_map]
    refine List.map_congr_left fun k hk => ?_
    simp only [Function.comp, Option.elim]
    by_cases q : nf k = nf v
    · have : k = v := hi k v (hu k hk).1 (hu k hk).2 hv.1 hv.2 q
      subst this
      rw [if_pos rfl, List.count_append, List.count_singleton_self]
      simp
    · have hne : ¬ (v = k) := fun e => q (by rw [e])
      rw [if_neg q, List.count_append]
      simp [List.count_singleton, hne]
  · rw [if_neg (fun h => c (mem_uniq.mp h)), if_neg (by simpa using c), if_neg c, List.map_append]
    congr 1
    · refine List.map_congr_left fun k hk => ?_
      have hne : ¬ (v = k) := fun e => c (e ▸ mem_uniq.mp hk)
      rw [List.count_append]
      simp [List.count_singleton, hne]
    · simp [List.count_append, List.count_eq_zero_of_not_mem c]
noncomputable def eOf (nf : Int → Str) (es : Es) (w : Int) : En :=
  ⟨(((ch none (es.map (·.1))).map (·.2)).count w : Nat), ((es.map (·.1)).count w : Nat), ((es.filter fun e => e.1 == w).map (·.2.1)).sum, ((es.filter fun e => e.1 == w).map (·.2.2)).sum, clf nf (befO w (ch none (es.map (·.1))))⟩
theorem ch_mem {l : List Int} : ∀ {p : Option Int} {q : Option Int × Int}, q ∈ ch p l → q.2 ∈ l ∧ ∀ v, q.1 = some v → p = some v ∨ v ∈ l := by
  induction l with
  | nil => intro p q h; cases h
  | cons a r ih =>
    intro p q h
    unfold ch at h
    by_cases c : p = some a
    · rw [if_pos c] at h
      obtain ⟨h1, h2⟩ := ih h
      refine ⟨.tail _ h1, fun v hv => ?_⟩
      rcases h2 v hv with h3 | h3
      · cases h3; exact .inl c
      · exact .inr (.tail _ h3)
    · rw [if_neg c] at h
      rcases List.mem_cons.mp h with rfl | h
      · exact ⟨.head _, fun v hv => .inl hv⟩
      · obtain ⟨h1, h2⟩ := ih h
        refine ⟨.tail _ h1, fun v hv => ?_⟩
        rcases h2 v hv with h3 | h3
        · cases h3; exact .inr (.head _)
        · exact .inr (.tail _ h3)
theorem befO_tk {rs : List Int} (h : Tk rs) (w : Int) : Tk (befO w (ch none rs)) := fun v hv => by
  unfold befO at hv
  obtain ⟨q, hq, e⟩ := List.mem_filterMap.mp hv
  split at e
  · rcases (ch_mem hq).2 v e with h1 | h1
    · cases h1
    · exact h v h1
  · cases e
theorem eOf_zero {es : Es} {w : Int} (h : w ∉ es.map (·.1)) : eOf nf es w = En.zero := by
  have h1 : ((ch none (es.map (·.1))).map (·.2)).count w = 0 := List.count_eq_zero_of_not_mem fun hm => by
    obtain ⟨q, hq, rfl⟩ := List.mem_map.mp hm
    exact h (ch_mem hq).1
  have h2 : (es.map (·.1)).count w = 0 := List.count_eq_zero_of_not_mem h
  have h3 : es.filter (fun e => e.1 == w) = [] := List.filter_eq_nil_iff.mpr fun e he q => h (by rw [← eq_of_beq q]; exact List.mem_map_of_mem he)
  have h4 : befO w (ch none (es.map (·.1))) = [] := by
    unfold befO
    rw [List.filterMap_eq_nil_iff]
    intro q hq
    have hne : ¬ q.2 = w := fun e => h (e ▸ (ch_mem hq).1)
    rw [if_neg hne]
  unfold eOf
  rw [h1, h2, h3, h4]
  rfl
noncomputable def stepE (nf : Int → Str) (a : Sm) (e : Int × Int × Int) : Sm := sampStep (fun _ => (nf e.1, e.2.1)) a e.2.2
structure TInv (nf : Int → Str) (es : Es) (m : Sm) : Prop where
  strip : cpl m.strip = txt (fun w => cpl (nf w)) (es.map (·.1))
  last : m.last = (es.map (·.1)).getLast?.map nf
  keys : m.table.map (·.1) = (uniq (es.map (·.1))).map nf
  get : ∀ w, 0 ≤ w → w < 4 → tget m.table (nf w) = if w ∈ es.map (·.1) then some (eOf nf es w) else none
theorem tget_tput (t : List (Str × En)) (x y : Str) (e : En) : tget (tput t x e) y = if y = x then some e else tget t y := by
  unfold tget tput
  by_cases ha : (t.any fun p => decide (p.1 = x)) = true
  · rw [if_pos ha]
    by_cases q : y = x
    · subst q
      rw [if_pos rfl]
      obtain ⟨p, hp, hpe⟩ := List.any_eq_true.mp ha
      have : ∀ l : List (Str × En), (l.any fun p => decide (p.1 = y)) = true → ((l.map fun p => if p.1 = y then (p.1, e) else p).find? fun p => decide (p.1 = y)).map (·.2) = some e := by
        intro l
        induction l with
        | nil => intro h; cases h
        | cons a r ih =>
          intro h
          rw [List.map_cons, List.find?_cons]
          by_cases c : a.1 = y
          · simp [c]
          · simp only [c, if_false, decide_false]
            exact ih (by simpa [c] using h)
      exact this t ha
    · rw [if_neg q]
      have : ∀ l : List (Str × En), ((l.map fun p => if p.1 = x then (p.1, e) else p).find? fun p => decide (p.1 = y)).map (·.2) = (l.find? fun p => decide (p.1 = y)).map (·.2) := by
        intro l
        induction l with
        | nil => rfl
        | cons a r ih =>
          rw [List.map_cons, List.find?_cons, List.find?_cons]
          by_cases c : a.1 = x
          · have : ¬ x = y := fun h => q h.symm
            simp only [c, if_true, this, decide_false]
            exact ih
          · simp only [c, if_false]
            by_cases d : a.1 = y
            · simp [d]
            · simp only [d, decide_false]; exact ih
      exact this t
  · rw [if_neg ha]
    have hno : t.find? (fun p => decide (p.1 = x)) = none := by
      rw [List.find?_eq_none]
      intro p hp h
      exact ha (List.any_eq_true.mpr ⟨p, hp, h⟩)
    rw [List.find?_append]
    by_cases q : y = x
    · subst q
      rw [if_pos rfl, hno]
      simp
    · rw [if_neg q]
      have : ¬ x = y := fun h => q h.symm
      simp [this]
theorem tput_keys (t : List (Str × En)) (x : Str) (e : En) : (tput t x e).map (·.1) = if (t.any fun p => decide (p.1 = x)) = true then t.map (·.1) else t.map (·.1) ++ [x] := by
  unfold tput
  split
  · rw [List.map_map]
    refine List.map_congr_left fun p _ => ?_
    simp only [Function.comp]
    split <;> rfl
  · simp
theorem TInv.nil : TInv nf [] ⟨[], "", none⟩ := by
  refine ⟨?_, rfl, rfl, fun w _ _ => rfl⟩
  show cpl (Str.ofString "") = []
  decide +kernel
theorem TInv.step (hi : Inj nf) {es : Es} {m : Sm} (h : TInv nf es m) (ht : Tk (es.map (·.1))) {e : Int × Int × Int} (he : 0 ≤ e.1 ∧ e.1 < 4) : TInv nf (es ++ [e]) (stepE nf m e) := by
  have hmap : (es ++ [e]).map (·.1) = es.map (·.1) ++ [e.1] := by simp
  have hlast : (m.last = some (nf e.1)) ↔ (es.map (·.1)).getLast? = some e.1 := by
    rw [h.last]
    cases hl : (es.map (·.1)).getLast? with
    | none => simp
    | some v =>
      have hv := ht v (List.mem_of_getLast? hl)
      simp only [Option.map_some, Option.some.injEq]
      exact ⟨fun q => hi v e.1 hv.1 hv.2 he.1 he.2 q, fun q => by rw [q]⟩
  have hch := ch_snoc e.1 (es.map (·.1)) none
  rw [lastO_none] at hch
  have hent : (((tget m.table (nf e.1)).getD En.zero).add (entryOf m.last (nf e.1) e.2.1 e.2.2)) = eOf nf (es ++ [e]) e.1 := by
    have hold : (tget m.table (nf e.1)).getD En.zero = eOf nf es e.1 := by
      rw [h.get e.1 he.1 he.2]
      by_cases c : e.1 ∈ es.map (·.1)
      · rw [if_pos c]; rfl
      · rw [if_neg c, eOf_zero c]; rfl
    rw [hold]
    unfold eOf
    rw [hmap, hch]
    have f1 : (es ++ [e]).filter (fun a => a.1 == e.1) = es.filter (fun a => a.1 == e.1) ++ [e] := by simp
    have hbt := befO_tk ht e.1
    unfold En.add entryOf
    rw [f1]
    simp only [En.mk.injEq]
    refine ⟨?_, ?_, ?_, ?_, ?_⟩
    · by_cases c : (es.map (·.1)).getLast? = some e.1
      · rw [if_pos (hlast.mpr c), if_pos c]; simp
      · rw [if_neg (fun q => c (hlast.mp q)), if_neg c, List.map_append, List.count_append]; simp; omega
    · rw [List.count_append]; simp; omega
    · rw [List.map_append, List.sum_append]; simp; omega
    · rw [List.map_append, List.sum_append]; simp; omega
    · cases hl : (es.map (·.1)).getLast? with
      | none =>
        have hm : m.last = none := by rw [h.last, hl]; rfl
        rw [hm, if_neg (by simp)]
        unfold befO
        rw [List.filterMap_append]
        simp only [List.filterMap_cons, if_true, List.filterMap_nil, List.append_nil]
        exact addC_nil hi hbt
      | some v =>
        have hv := ht v (List.mem_of_getLast? hl)
        have hm : m.last = some (nf v) := by rw [h.last, hl]; rfl
        rw [hm]
        dsimp only
        by_cases c : v = e.1
        · subst c
          rw [if_pos rfl, if_pos rfl, List.append_nil]
          exact addC_nil hi hbt
        · rw [if_neg fun q => c (hi v e.1 hv.1 hv.2 he.1 he.2 q), if_neg fun q => c (by simpa using q)]
          have e2 : befO e.1 (ch none (es.map (·.1)) ++ [(some v, e.1)]) = befO e.1 (ch none (es.map (·.1))) ++ [v] := by
            unfold befO; rw [List.filterMap_append]; simp
          rw [e2]
          exact addC_one hi hbt hv
  have hkey : (m.table.any fun p => decide (p.1 = nf e.1)) = decide (e.1 ∈ es.map (·.1)) := by
    have : (m.table.any fun p => decide (p.1 = nf e.1)) = ((m.table.map (·.1)).any fun x => decide (x = nf e.1)) := by rw [List.any_map]; rfl
    rw [this, h.keys, Bool.eq_iff_iff, List.any_eq_true, decide_eq_true_eq]
    constructor
    · rintro ⟨x, hx, q⟩
      obtain ⟨k, hk, rfl⟩ := List.mem_map.mp hx
      have hk' := mem_uniq.mp hk
      have := hi k e.1 (ht k hk').1 (ht k hk').2 he.1 he.2 (of_decide_eq_true q)
      exact this ▸ hk'
    · intro hm
      exact ⟨_, List.mem_map_of_mem (mem_uniq.mpr hm), by simp⟩
  refine ⟨?_, ?_, ?_, fun w w0 w4 => ?_⟩
  · show cpl (m.strip ++ Str.ofString "\t" ++ nf e.1 ++ Str.ofString "\n") = _
    rw [cpl_cat, cpl_cat, cpl_cat, h.strip, hmap, txt_append, c_tab, c_nl]
    simp [txt, ln]
  · show some (nf e.1) = _
    rw [hmap]; simp
  · show (tput m.table (nf e.1) _).map (·.1) = _
    rw [tput_keys, hkey, hmap, uniq_snoc, h.keys]
    by_cases c : e.1 ∈ es.map (·.1)
    · rw [if_pos (decide_eq_true c), if_pos c]
    · rw [if_neg (by simpa using c), if_neg c, List.map_append]; rfl
  · show tget (tput m.table (nf e.1) _) (nf w) = _
    rw [tget_tput, hmap]
    by_cases q : w = e.1
    · subst q
      rw [if_pos rfl, if_pos (by simp)]
      exact congrArg some hent
    · rw [if_neg fun z => q (hi w e.1 w0 w4 he.1 he.2 z), h.get w w0 w4]
      by_cases c : w ∈ es.map (·.1)
      · rw [if_pos c, if_pos (List.mem_append_left _ c)]
        congr 1
        unfold eOf
        rw [hmap, hch]
        have f1 : (es ++ [e]).filter (fun a => a.1 == w) = es.filter (fun a => a.1 == w) := by
          rw [List.filter_append]
          have : (e.1 == w) = false := by simpa using (fun z : e.1 = w => q z.symm)
          simp [this]
        have q' : ¬ e.1 = w := fun z => q z.symm
        have f2 : ∀ o : Option Int, befO w (ch none (es.map (·.1)) ++ (if o = some e.1 then [] else [(o, e.1)])) = befO w (ch none (es.map (·.1))) := fun o => by
          unfold befO
          rw [List.filterMap_append]
          split <;> simp [q']
        have f3 : ∀ o : Option Int, ((ch none (es.map (·.1)) ++ (if o = some e.1 then [] else [(o, e.1)])).map (·.2)).count w = ((ch none (es.map (·.1))).map (·.2)).count w := fun o => by
          rw [List.map_append, List.count_append]
          split <;> simp [q']
        rw [f1, f2, f3, List.count_append]
        simp [q']
      · rw [if_neg c, if_neg (by simp only [List.mem_append, List.mem_singleton, not_or]; exact ⟨c, q⟩)]
theorem TInv.all (hi : Inj nf) : ∀ (l es : Es) (m : Sm), Tk ((es ++ l).map (·.1)) → TInv nf es m → TInv nf (es ++ l) (l.foldl (stepE nf) m)
  | [], es, m, _, h => by simpa using h
  | e :: l, es, m, ht, h => by
    have h1 := h.step hi (ht.sub fun x hx => by simp at hx ⊢; obtain ⟨a, b, hab⟩ := hx; exact .inl ⟨a, b, hab⟩) (e := e) (ht e.1 (by simp))
    have := TInv.all hi l (es ++ [e]) (stepE nf m e) (by simpa using ht) h1
    simpa using this
end Mine
end
section
open PySem PySem.W PyProof.Rows PySem.StrLaws
set_option linter.unusedVariables false
namespace Mine
/-! sums over pieces -/
theorem exp_sum (w : Int) (g : Int × Int × Int → Int) : ∀ ps : List Pc, (((ps.flatMap expP).filter fun e => e.1 == w).map g).sum = ((mineOf ps w).map fun p => ((expP p).map g).sum).sum
  | [] => rfl
  | p :: ps => by
    have ih := exp_sum w g ps
    unfold mineOf at ih ⊢
    rw [List.flatMap_cons, List.filter_append, List.map_append, List.sum_append, ih, List.filter_cons]
    by_cases q : p.1 = w
    · have : (expP p).filter (fun e => e.1 == w) = expP p := by
        rw [List.filter_eq_self]
        intro e he
        obtain ⟨t, _, rfl⟩ := List.mem_map.mp he
        simpa using q
      rw [this, if_pos (by simpa using q), List.map_cons, List.sum_cons]
    · have : (expP p).filter (fun e => e.1 == w) = [] := by
        rw [List.filter_eq_nil_iff]
        intro e he
        obtain ⟨t, _, rfl⟩ := List.mem_map.mp he
        simpa using q
      rw [this, if_neg (by simpa using q)]
      simp
theorem sum_const {α : Type} (c : Int) : ∀ l : List α, (l.map fun _ => c).sum = (l.length : Int) * c
  | [] => by simp
  | a :: l => by
    rw [List.map_cons, List.sum_cons, sum_const c l, List.length_cons]
    push_cast
    rw [Int.add_mul, Int.one_mul, Int.add_comm]
theorem tickL_len (a b : Int) : (tickL a b).length = (b - a).toNat := by simp [tickL]
theorem exp_x {p : Pc} (h : p.2.1 < p.2.2.1) : ((expP p).map (·.2.1)).sum = (p.2.2.1 - p.2.1) * p.2.2.2 := by
  unfold expP
  rw [List.map_map]
  show ((tickL p.2.1 p.2.2.1).map fun _ => p.2.2.2).sum = _
  rw [sum_const, tickL_len, Int.toNat_of_nonneg (by omega)]
theorem gauss (a : Int) : ∀ n : Nat, 2 * ((List.range n).map fun (i : Nat) => a + (i : Int)).sum = (n : Int) * (2 * a + n - 1)
  | 0 => by simp
  | n + 1 => by
    rw [List.range_succ, List.map_append, List.sum_append, Int.mul_add, gauss a n]
    simp only [List.map_cons, List.map_nil, List.sum_cons, List.sum_nil]
    push_cast
    generalize (n : Int) = m
    have e1 : m * (2 * a + m - 1) = 2 * (m * a) + m * m - m := by
      rw [Int.mul_sub, Int.mul_add, Int.mul_one, Int.mul_left_comm]
    have e2 : (m + 1) * (2 * a + (m + 1) - 1) = 2 * (m * a) + m * m + (2 * a + m) := by
      rw [show 2 * a + (m + 1) - 1 = 2 * a + m by omega, Int.add_mul, Int.mul_add, Int.mul_left_comm, Int.one_mul]
    rw [e1, e2]
    omega
theorem exp_t {p : Pc} (h : p.2.1 < p.2.2.1) : ((expP p).map (·.2.2)).sum = ((p.2.2.1 - p.2.1) * (p.2.1 + p.2.2.1 - 1)).fdiv 2 := by
  unfold expP
  rw [List.map_map]
  have e0 : ((fun x : Int × Int × Int => x.2.2) ∘ fun t => (p.1, p.2.2.2, t)) = id := rfl
  rw [e0, List.map_id]
  have := gauss p.2.1 (p.2.2.1 - p.2.1).toNat
  rw [Int.toNat_of_nonneg (by omega)] at this
  have e : (p.2.2.1 - p.2.1) * (p.2.1 + p.2.2.1 - 1) = 2 * (tickL p.2.1 p.2.2.1).sum := by
    unfold tickL
    rw [this]
    congr 1; omega
  rw [e, Int.fdiv_eq_ediv_of_nonneg _ (by omega)]
  omega
theorem exp_n {p : Pc} (h : p.2.1 < p.2.2.1) : ((expP p).map fun _ => (1 : Int)).sum = p.2.2.1 - p.2.1 := by
  rw [sum_const]
  unfold expP
  rw [List.length_map, tickL_len, Int.toNat_of_nonneg (by omega)]; omega
theorem count_sum (w : Int) (es : Es) : (((es.map (·.1)).count w : Nat) : Int) = ((es.filter fun e => e.1 == w).map fun _ => (1 : Int)).sum := by
  rw [sum_const, List.count_eq_countP, List.countP_map, List.countP_eq_length_filter]
  have e : ((fun x => x == w) ∘ fun x : Int × Int × Int => x.1) = fun e => e.1 == w := rfl
  rw [e]; omega
theorem map_cong_sum {ms : List Pc} {g h : Pc → Int} (e : ∀ p ∈ ms, g p = h p) : (ms.map g).sum = (ms.map h).sum := by
  rw [List.map_congr_left e]
theorem sum_count_uniq : ∀ b : List Int, ((uniq b).map fun k => ((b.count k : Nat) : Int)).sum = (b.length : Nat) := by
  have gen : ∀ (u b : List Int), u.Nodup → (∀ x ∈ b, x ∈ u) → (u.map fun k => ((b.count k : Nat) : Int)).sum = (b.length : Nat) := by
    intro u b
    induction b with
    | nil => intro _ _; simp [sum_const]
    | cons a b ih =>
      intro hn hm
      have ih' := ih hn fun x hx => hm x (.tail _ hx)
      have ha := hm a (.head _)
      have key : ∀ u : List Int, u.Nodup → (u.map fun k => (((a :: b).count k : Nat) : Int)).sum = (u.map fun k => ((b.count k : Nat) : Int)).sum + (if a ∈ u then 1 else 0) := by
        intro u
        induction u with
        | nil => intro _; simp
        | cons c u ihu =>
          intro hn
          rw [List.nodup_cons] at hn
          rw [List.map_cons, List.sum_cons, ihu hn.2, List.map_cons, List.sum_cons, List.count_cons]
          by_cases q : a = c
          · subst q
            simp [hn.1]; omega
          · have q' : ¬ c = a := fun z => q z.symm
            simp [q, List.mem_cons]
            omega
      rw [key u hn, ih', if_pos ha, List.length_cons]
      push_cast; rfl
  exact fun b => gen (uniq b) b (uniq_nodup b) fun x hx => mem_uniq.mpr hx
theorem ch_some_count (w : Int) : ∀ (l : List Int) (a : Int), ((ch (some a) l).map (·.2)).count w = (befO w (ch (some a) l)).length
  | [], a => rfl
  | b :: l, a => by
    have ih := ch_some_count w l b
    unfold ch
    by_cases c : some a = some b
    · rw [if_pos c]; exact ih
    · rw [if_neg c, List.map_cons, List.count_cons, ih]
      unfold befO
      rw [List.filterMap_cons]
      by_cases q : b = w
      · simp [q]
      · simp [q]
theorem head_sum (w : Int) (rs : List Int) (hne : rs ≠ []) : (((ch none rs).map (·.2)).count w : Int) = ((befO w (ch none rs)).length : Nat) + (if w = (uniq rs).headD 0 then 1 else 0) := by
  cases rs with
  | nil => exact absurd rfl hne
  | cons a l =>
    have e : ch none (a :: l) = (none, a) :: ch (some a) l := by rw [ch, if_neg (by simp)]
    have h1 := ch_some_count w l a
    have h2 : (uniq (a :: l)).headD 0 = a := rfl
    rw [e, h2, List.map_cons, List.count_cons, h1]
    unfold befO
    rw [List.filterMap_cons]
    by_cases q : a = w
    · subst q; simp
    · have q' : ¬ w = a := fun z => q z.symm
      simp [q, q']
theorem proper_mem {p : Option Int} : ∀ {js : List Jn}, Proper p js → ∀ j ∈ js, 1 ≤ j.2 ∧ j.1 ∈ runOf js ∧ j.2.toNat ≤ (runOf js).length
  | [], _, j, hj => nomatch hj
  | a :: r, h, j, hj => by
    rw [run_cons]
    rcases List.mem_cons.mp hj with rfl | hj
    · refine ⟨h.2.1, List.mem_append_left _ ?_, by simp⟩
      rw [List.mem_replicate]
      exact ⟨by have := h.2.1; omega, rfl⟩
    · obtain ⟨h1, h2, h3⟩ := proper_mem h.2.2 j hj
      exact ⟨h1, List.mem_append_right _ h2, by simp; omega⟩
theorem cpl_join : ∀ l : List Str, cpl (Txt.join "" l) = (l.map cpl).flatten := by
  have gen : ∀ l : List Str, cpl (Str.join "" l) = (l.map cpl).flatten := by
    intro l
    induction l with
    | nil => rfl
    | cons a r ih =>
      cases r with
      | nil => show cpl a = _; simp
      | cons b t =>
        show cpl (a ++ Str.ofString "" ++ Str.join "" (b :: t)) = _
        rw [cpl_cat, cpl_cat, ih, show cpl (Str.ofString "") = [] by decide +kernel]
        simp
  intro l
  show cpl (Builtin.Str.glued _ l) = _
  rw [glued_eq_join]
  exact gen l
theorem eqv_ints : ∀ a b : List Int, PyData.eqv (.list (a.map PyData.int)) (.list (b.map PyData.int)) = decide (a = b)
  | [], [] => rfl
  | [], _ :: _ => rfl
  | _ :: _, [] => rfl
  | x :: a, y :: b => by
    have ih := eqv_ints a b
    have e : PyData.eqv (.list ((x :: a).map PyData.int)) (.list ((y :: b).map PyData.int)) = ((x == y) && PyData.eqv (.list (a.map PyData.int)) (.list (b.map PyData.int))) := by
      simp only [List.map_cons, PyData.eqv, PyData.eqvAll]
    rw [e, ih, Bool.eq_iff_iff]
    simp
end Mine
end
section
open PySem PySem.W PyProof.Rows PySem.StrLaws
set_option linter.unusedVariables false
namespace Mine
/-! what was drawn -/
theorem drawn_mem {ns : List Int} {d : D3} (h : d ∈ drawnOf ns) : 0 ≤ d.1 ∧ d.1 < 4 ∧ 0 ≤ d.2.1 ∧ d.2.1 ≤ 3 := by
  obtain ⟨x, _, rfl⟩ := List.mem_map.mp h
  have h1 := Int.fmod_nonneg_of_pos x (show (0 : Int) < 4 by decide)
  have h2 := Int.fmod_lt_of_pos x (show (0 : Int) < 4 by decide)
  have h3 := Int.fmod_nonneg_of_pos (x.fdiv 4) (show (0 : Int) < 4 by decide)
  have h4 := Int.fmod_lt_of_pos (x.fdiv 4) (show (0 : Int) < 4 by decide)
  exact ⟨h1, h2, h3, by dsimp only; omega⟩
theorem drawn_len (ns : List Int) : (drawnOf ns).length ≤ 7 := by
  unfold drawnOf
  simp only [List.length_map, List.length_append, List.length_take, List.length_cons, List.length_nil]
  omega
theorem ticks_append (a b : List D3) : ticksOf (a ++ b) = ticksOf a + ticksOf b := by simp [ticksOf]
theorem ticks_le : ∀ {a : List D3}, (∀ d ∈ a, d.2.1 ≤ 3) → ticksOf a ≤ 3 * a.length
  | [], _ => by simp [ticksOf]
  | d :: r, h => by
    have := ticks_le fun d hd => h d (List.Mem.tail _ hd)
    have := h d (.head _)
    rw [ticks_cons, List.length_cons]
    push_cast
    omega
theorem ticks_range (ns : List Int) : 4 ≤ ticksOf (drawnOf ns) ∧ ticksOf (drawnOf ns) ≤ 13 := by
  have e : drawnOf ns = ((ns.take 3).map fun (x : Int) => (x.fmod 4, (x.fdiv 4).fmod 4, x)) ++ ([5, 9, 3, 6] : List Int).map fun (x : Int) => (x.fmod 4, (x.fdiv 4).fmod 4, x) := by
    unfold drawnOf; rw [List.map_append]
  have h4 : ticksOf ((([5, 9, 3, 6] : List Int)).map fun (x : Int) => (x.fmod 4, (x.fdiv 4).fmod 4, x)) = 4 := by decide +kernel
  have hm : ∀ d ∈ (ns.take 3).map fun (x : Int) => (x.fmod 4, (x.fdiv 4).fmod 4, x), 0 ≤ d.2.1 ∧ d.2.1 ≤ 3 := fun d hd => by
    have : d ∈ drawnOf ns := by rw [e]; exact List.mem_append_left _ hd
    have := drawn_mem this
    exact ⟨this.2.2.1, this.2.2.2⟩
  have h1 := ticks_nonneg fun d hd => (hm d hd).1
  have h2 := ticks_le fun d hd => (hm d hd).2
  rw [List.length_map, List.length_take] at h2
  rw [e, ticks_append, h4]
  omega
theorem start_range (ns : List Int) : 0 ≤ startOf ns ∧ startOf ns < ticksOf (drawnOf ns) := by
  have := ticks_range ns
  exact ⟨Int.fmod_nonneg_of_pos _ (by omega), Int.fmod_lt_of_pos _ (by omega)⟩
theorem stop_range (ns : List Int) : startOf ns < stopOf ns ∧ stopOf ns ≤ ticksOf (drawnOf ns) := by
  have := ticks_range ns
  have hs := start_range ns
  have h1 := Int.fmod_nonneg_of_pos ((tot ns).fdiv 2) (show 0 < ticksOf (drawnOf ns) - startOf ns by omega)
  have h2 := Int.fmod_lt_of_pos ((tot ns).fdiv 2) (show 0 < ticksOf (drawnOf ns) - startOf ns by omega)
  unfold stopOf
  omega
theorem m_range (ns : List Int) : 0 ≤ mOf ns ∧ mOf ns < 1000000000000 := ⟨Int.fmod_nonneg_of_pos _ (by decide), Int.fmod_lt_of_pos _ (by decide)⟩
noncomputable def fOf (ns : List Int) (t : Int) : Str × Int := (nmAt ns (own (drawnOf ns) t).1, (own (drawnOf ns) t).2.2)
noncomputable abbrev esL (ns : List Int) : Es := smpOf (drawnOf ns) (startOf ns) (stopOf ns)
theorem inj_nm (ns : List Int) : Inj (nmAt ns) := fun a b a0 a4 b0 b4 e => (nms (m_range ns).1).inj a b a0 a4 b0 b4 (congrArg cpl e)
theorem getD_lt {l : List Str} {i : Nat} (h : i < l.length) (d : Str) : l.getD i d = l[i] := by simp [List.getD, h]
theorem getD_ge {l : List Str} {i : Nat} (h : l.length ≤ i) (d : Str) : l.getD i d = d := by simp [List.getD, h]
theorem nm_len (ns : List Int) (i : Int) : (nmAt ns i).length ≤ 24 := by
  unfold nmAt
  by_cases h : i.toNat < (nmOf ns).length
  · rw [getD_lt h]
    exact names_len (m_range ns).1 (m_range ns).2 (List.getElem_mem h)
  · rw [getD_ge (by omega)]
    decide
section
variable (ns : List Int)
theorem tick_in {t : Int} (h : t ∈ tickL (startOf ns) (stopOf ns)) : 0 ≤ t ∧ t < ticksOf (drawnOf ns) := by
  have h1 := tickL_mem h
  have h2 := start_range ns
  have h3 := stop_range ns
  omega
theorem sizes : ∀ d ∈ drawnOf ns, 0 ≤ d.2.1 := fun d hd => (drawn_mem hd).2.2.1
theorem own_tk {t : Int} (h : t ∈ tickL (startOf ns) (stopOf ns)) : 0 ≤ (own (drawnOf ns) t).1 ∧ (own (drawnOf ns) t).1 < 4 := by
  have h1 := tick_in ns h
  have := drawn_mem (own_mem (sizes ns) h1.1 h1.2)
  exact ⟨this.1, this.2.1⟩
theorem es_tk : Tk ((esL ns).map (·.1)) := fun w hw => by
  obtain ⟨e, he, rfl⟩ := List.mem_map.mp hw
  obtain ⟨t, ht, rfl⟩ := List.mem_map.mp he
  exact own_tk ns ht
theorem ps_prop : ∀ p ∈ psOf ns, p.2.1 < p.2.2.1 ∧ startOf ns ≤ p.2.1 ∧ p.2.2.1 ≤ stopOf ns ∧ 0 ≤ p.1 ∧ p.1 < 4 := fun p hp => by
  have hp : p ∈ cut (drawnOf ns) (startOf ns) (stopOf ns) := hp
  rw [cut_eq] at hp
  obtain ⟨h1, h2, h3, d, hd, h4⟩ := cut_prop _ _ _ _ p hp
  have := drawn_mem hd
  exact ⟨h1, h2, h3, by omega, by omega⟩
theorem es_ps : (psOf ns).flatMap expP = esL ns := exp_pieces (sizes ns) (start_range ns).1 (stop_range ns).2
theorem js_prop : Proper none (jsOf ns) ∧ runOf (jsOf ns) = (esL ns).map (·.1) := by
  obtain ⟨h1, h2⟩ := join_all (psOf ns) [] trivial fun p hp => (ps_prop ns p hp).1
  refine ⟨h1, ?_⟩
  show runOf ((psOf ns).foldl joinStep []) = _
  rw [h2, ← es_ps, List.map_flatMap]
  show [] ++ _ = _
  rw [List.nil_append]
  congr 1
  funext p
  exact (exp_rep p).symm
theorem run_len : (runOf (jsOf ns)).length = nOf ns := by
  rw [(js_prop ns).2, List.length_map]
  unfold esL smpOf nOf
  rw [List.length_map, tickL_len]
theorem n_range : 1 ≤ nOf ns ∧ nOf ns ≤ 13 := by
  have h1 := ticks_range ns
  have h2 := start_range ns
  have h3 := stop_range ns
  unfold nOf
  omega
theorem ps_len : (psOf ns).length ≤ 7 := by
  have h1 := cut_len (startOf ns) (stopOf ns) (drawnOf ns) ([], 0)
  have h2 := drawn_len ns
  have : (psOf ns).length ≤ 0 + (drawnOf ns).length := h1
  omega
theorem js_len : (jsOf ns).length ≤ 7 := by
  have h1 := join_len (psOf ns) []
  have h2 := ps_len ns
  have : (jsOf ns).length ≤ 0 + (psOf ns).length := h1
  omega
theorem sm_eq : smOf ns (fOf ns) = (esL ns).foldl (stepE (nmAt ns)) ⟨[], "", none⟩ := by
  unfold smOf sampled esL smpOf
  rw [List.foldl_map]
  rfl
theorem tinv : TInv (nmAt ns) (esL ns) (smOf ns (fOf ns)) := by
  have := TInv.all (inj_nm ns) (esL ns) [] ⟨[], "", none⟩ (by simpa using es_tk ns) TInv.nil
  rw [sm_eq]
  simpa using this
theorem strip_txt : cpl (smOf ns (fOf ns)).strip = txt (nml (mOf ns)) (runOf (jsOf ns)) := by
  rw [(tinv ns).strip, (js_prop ns).2]; rfl
theorem run_tk : Tk (runOf (jsOf ns)) := by rw [(js_prop ns).2]; exact es_tk ns
theorem txt_len : ∀ {rs : List Int}, Tk rs → (txt (nml (mOf ns)) rs).length ≤ 26 * rs.length
  | [], _ => by simp [txt]
  | w :: rs, h => by
    have := txt_len h.tail
    have h2 := nml_len (m_range ns).1 (m_range ns).2 w h.head.1 h.head.2
    rw [txt_cons, List.length_append, ln_len, List.length_cons]; omega
theorem strip_len : (smOf ns (fOf ns)).strip.length ≤ 338 := by
  rw [← cpl_len, strip_txt]
  have h1 := txt_len ns (run_tk ns)
  rw [run_len] at h1
  have := n_range ns
  omega
theorem ch_js : ch none (runOf (jsOf ns)) = chJ none (jsOf ns) := ch_run (jsOf ns) none (js_prop ns).1
theorem came_run : cameOf (jsOf ns) = uniq (runOf (jsOf ns)) := by
  rw [came_uniq, ← chJ_snd (jsOf ns) none, ← ch_js, uniq_ch]
theorem lawA : LawA ns (fOf ns) ∨ ns.length > 63 := by
  by_cases hl : ns.length ≤ 63
  · left
    have hT := ticks_range ns
    have hs := start_range ns
    have hp := stop_range ns
    have hd := drawn_len ns
    refine ⟨hl, by omega, ⟨by omega, (m_range ns).1, (m_range ns).2, begins_sorted (sizes ns), ?_, ⟨by omega, by omega⟩, ⟨by omega, by omega⟩, fun t ht => ?_, fun t => Nat.le_trans (nm_len ns _) (by decide)⟩, by have := ps_len ns; omega, fun n hn => Nat.le_trans (names_len (m_range ns).1 (m_range ns).2 hn) (by decide)⟩
    · rw [tickL_len]; omega
    · have h1 := tick_in ns ht
      obtain ⟨g1, g2⟩ := pick_own (sizes ns) h1.1 h1.2
      obtain ⟨k0, k4⟩ := own_tk ns ht
      have hi : (own (drawnOf ns) t).1.toNat < 4 := by omega
      refine ⟨own (drawnOf ns) t, (own (drawnOf ns) t).1.toNat, (funcsM (mOf ns))[(own (drawnOf ns) t).1.toNat]'(by simpa [funcsM] using hi), g1, g2, by omega, List.getElem?_eq_getElem _, ?_, rfl⟩
      show (namesM (mOf ns))[_]? = some ((namesM (mOf ns)).getD _ "")
      rw [List.getElem?_eq_getElem (by simpa [namesM] using hi), getD_lt (by simpa [namesM] using hi)]
  · right; omega
theorem texts_flat : ((textsOf ns).map cpl).flatten = txt (nml (mOf ns)) (runOf (jsOf ns)) := by
  have gen : ∀ js : List Jn, (∀ j ∈ js, 0 ≤ j.1 ∧ j.1 < 4 ∧ 0 ≤ j.2) → ((js.map fun j => Txt.mul (lnAt ns j.1) j.2).map cpl).flatten = txt (nml (mOf ns)) (runOf js) := by
    intro js
    induction js with
    | nil => intro _; rfl
    | cons j r ih =>
      intro h
      obtain ⟨h0, h4, h2⟩ := h j (.head _)
      rw [List.map_cons, List.map_cons, List.flatten_cons, ih fun j hj => h j (.tail _ hj), run_cons, txt_append]
      congr 1
      have e : j.2 = ((j.2.toNat : Nat) : Int) := by omega
      conv => lhs; rw [e]
      rw [cpl_mul, cpl_lnAt ns h0 h4]
      generalize j.2.toNat = n
      induction n with
      | zero => rfl
      | succ n ih => rw [List.replicate_succ, List.flatten_cons, ih, List.replicate_succ, txt_cons]; simp [txt]
  refine gen (jsOf ns) fun j hj => ?_
  obtain ⟨h1, h2, _⟩ := proper_mem (js_prop ns).1 j hj
  have := run_tk ns j.1 h2
  exact ⟨this.1, this.2, by omega⟩
theorem js_b : ∀ j ∈ jsOf ns, 0 ≤ j.1 ∧ j.1 < 4 ∧ 0 ≤ j.2 ∧ j.2 ≤ 300 := fun j hj => by
  obtain ⟨h1, h2, h3⟩ := proper_mem (js_prop ns).1 j hj
  have := run_tk ns j.1 h2
  rw [run_len] at h3
  have := n_range ns
  exact ⟨by omega, by omega, by omega, by omega⟩
theorem strip_clean : Clean (cpl (smOf ns (fOf ns)).strip) := by
  rw [strip_txt]; exact txt_clean (nms (m_range ns).1) (run_tk ns)
theorem whole_eq : Txt.join "" (textsOf ns) = (smOf ns (fOf ns)).strip := by
  apply cpl_inj
  rw [cpl_join, texts_flat, strip_txt]
theorem lawB (hA : LawA ns (fOf ns)) : LawB ns (fOf ns) := by
  have hn := n_range ns
  refine { hA with jb := js_b ns, jl := by have := js_len ns; omega, jok := ?_, whole := ?_, wok := ?_, keys := ?_, tl := ?_, stk := fun n hn => names_ok (m_range ns).1 hn }
  · unfold JoinOk
    rw [Bool.not_eq_true', joinTotal]
    have h0 : (Str.ofString "").length = 0 := by decide +kernel
    have h1 : ((textsOf ns).map (·.length)).sum = (((textsOf ns).map cpl).flatten).length := by
      rw [List.length_flatten, List.map_map]
      exact congrArg List.sum (List.map_congr_left fun s _ => (cpl_len s).symm)
    show Builtin.Str.tooLong (((textsOf ns).map (·.length)).sum + (textsOf ns).length * (Str.ofString "").length) = false
    rw [h0, h1, texts_flat]
    have := txt_len ns (run_tk ns)
    rw [run_len] at this
    unfold Builtin.Str.tooLong
    rw [decide_eq_false_iff_not, sizeLine_eq]; omega
  · rw [whole_eq, ell_plain (strip_clean ns)]; simp
  · rw [whole_eq]
    exact ok_plain (strip_clean ns) (by have := strip_len ns; omega) (by have := strip_len ns; omega)
  · rw [(tinv ns).keys, came_run, (js_prop ns).2]
  · have : (smOf ns (fOf ns)).table.length = ((smOf ns (fOf ns)).table.map (·.1)).length := by rw [List.length_map]
    rw [this, (tinv ns).keys, List.length_map]
    have h1 := uniq_len ((esL ns).map (·.1))
    rw [← (js_prop ns).2, run_len] at h1
    rw [← (js_prop ns).2]; omega
theorem lawC (hB : LawB ns (fOf ns)) : LawC ns (fOf ns) := by
  have hn := n_range ns
  have hs := start_range ns
  have hp := stop_range ns
  have hT := ticks_range ns
  refine { hB with ent := ⟨by have := ps_len ns; omega, by have := js_len ns; omega, fun p hp => ?_, fun j hj => ⟨(js_b ns j hj).1, (js_b ns j hj).2.1⟩, rfl⟩, entry := fun w hw => ?_, rl := by rw [run_len]; omega }
  · have := ps_prop ns p hp
    omega
  · rw [came_run] at hw
    have hm := mem_uniq.mp hw
    obtain ⟨w0, w4⟩ := run_tk ns w hm
    have hg := (tinv ns).get w w0 w4
    rw [← (js_prop ns).2, if_pos hm] at hg
    have hrne : runOf (jsOf ns) ≠ [] := fun e => by have := run_len ns; rw [e] at this; simp at this; omega
    have hes : (esL ns).map (·.1) = runOf (jsOf ns) := (js_prop ns).2.symm
    have hcs : (eOf (nmAt ns) (esL ns) w).cs = callersOf (nmOf ns) (beforeOf (jsOf ns) w) := by
      unfold eOf
      rw [hes, before_chJ, ← ch_js]; rfl
    have hflat := es_ps ns
    refine ⟨_, hg, ?_, ?_, ?_, ?_, hcs, ?_⟩
    · show ((((ch none ((esL ns).map (·.1))).map (·.2)).count w : Nat) : Int) = _
      rw [hes, ch_js, chJ_snd, List.count_eq_countP, List.countP_map, List.countP_eq_length_filter]
      rfl
    · show ((((esL ns).map (·.1)).count w : Nat) : Int) = _
      rw [count_sum, ← hflat, exp_sum w (fun _ => 1)]
      unfold callsOf
      exact map_cong_sum fun p hp => exp_n (ps_prop ns p (List.mem_filter.mp hp).1).1
    · show (((esL ns).filter fun e => e.1 == w).map (·.2.1)).sum = _
      rw [← hflat, exp_sum w (·.2.1)]
      unfold timesOf
      exact map_cong_sum fun p hp => exp_x (ps_prop ns p (List.mem_filter.mp hp).1).1
    · show (((esL ns).filter fun e => e.1 == w).map (·.2.2)).sum = _
      rw [← hflat, exp_sum w (·.2.2)]
      unfold spotsOf
      exact map_cong_sum fun p hp => exp_t (ps_prop ns p (List.mem_filter.mp hp).1).1
    · show ((((ch none ((esL ns).map (·.1))).map (·.2)).count w : Nat) : Int) = ((clf (nmAt ns) (befO w (ch none ((esL ns).map (·.1))))).map (·.2)).sum + _
      rw [hes, came_run, head_sum w _ hrne]
      congr 1
      unfold clf
      rw [List.map_map]
      exact (sum_count_uniq _).symm
theorem most_ok {q : Int} {p : List Int} (hp : Tk (q :: p)) {P : Str} (hP : cpl P = txt (nml (mOf ns)) (q :: p)) (hlen : P.length ≤ 52) {m : List Int → Nat} (h0 : ∀ rs, tfind (q :: p) rs = none → m rs = 0) (h1 : ∀ rs i, tfind (q :: p) rs = some i → m rs = 1 + m (rs.drop (i + (q :: p).length))) (hm : m (runOf (jsOf ns)) ≤ nOf ns) :
    MostOk P (smOf ns (fOf ns)).strip (nOf ns) ∧ mostOf P (smOf ns (fOf ns)).strip (nOf ns) = (m (runOf (jsOf ns)) : Nat) := by
  have N := nms (m_range ns).1
  have hn := n_range ns
  have hsl := strip_len ns
  have hell : ∀ i, ell (wantK P i) (smOf ns (fOf ns)).strip = decide (i ≤ m (runOf (jsOf ns))) := fun i => by
    rw [ell_many N (run_tk ns) hp (strip_txt ns) hP i (parts_many N hp hP i), gm_le h0 h1]
  have hkey : ∀ i, keyK P (smOf ns (fOf ns)).strip i < 1 ↔ i ≤ m (runOf (jsOf ns)) := fun i => by
    unfold keyK
    rw [hell i]
    by_cases c : i ≤ m (runOf (jsOf ns))
    · simp [c]
    · simp [c]
  refine ⟨⟨by omega, by omega, fun i hi => ?_, fun i j hij hj hk => ?_⟩, ?_⟩
  · refine (parts_many N hp hP i).ok ?_ (by omega)
    unfold wantK
    rw [← cpl_len, cpl_cat, cpl_mul, cpl_cat, List.length_append, List.length_flatten, cpl_dots, List.map_replicate, List.sum_replicate_nat, List.length_append, cpl_len]
    simp only [List.length_cons, List.length_nil]
    have : i * (P.length + (0 + 1 + 1 + 1)) ≤ 14 * 55 := Nat.mul_le_mul (by omega) (by omega)
    omega
  · exact (hkey i).mpr (Nat.le_trans hij ((hkey j).mp hk))
  · unfold mostOf
    have e : (fun i => decide (keyK P (smOf ns (fOf ns)).strip i < 1)) = fun i => decide (i ≤ m (runOf (jsOf ns))) := by
      funext i; rw [decide_eq_decide]; exact hkey i
    rw [e, count_le (m (runOf (jsOf ns))) (nOf ns + 1) (by omega)]
    omega
theorem ln_le {w : Int} (h0 : 0 ≤ w) (h4 : w < 4) : (lnAt ns w).length ≤ 26 := by
  rw [← cpl_len, cpl_lnAt ns h0 h4]
  have h2 := nml_len (m_range ns).1 (m_range ns).2 w h0 h4
  simp [txt, ln_len]; omega
theorem lawD (hC : LawC ns (fOf ns)) : LawD ns (fOf ns) := by
  have N := nms (m_range ns).1
  have hn := n_range ns
  have hsl := strip_len ns
  have hp := stop_range ns
  have hrl := run_len ns
  have hrne : runOf (jsOf ns) ≠ [] := fun e => by rw [e] at hrl; simp at hrl; omega
  have one : ∀ w : Int, 0 ≤ w ∧ w < 4 → Tk [w] := fun w hw v hv => by rw [List.mem_singleton.mp hv]; exact hw
  refine { hC with hN := by unfold nOf; omega, rne := hrne, most1 := fun l l0 l4 => ?_, pair := fun l r l0 l4 r0 r4 => ?_ }
  · have := ln_le ns l0 l4
    exact most_ok ns (one l ⟨l0, l4⟩) (cpl_lnAt ns l0 l4) (by omega) (m := fun rs => rs.count l) (count_none l) (count_some l) (by rw [← hrl]; exact List.count_le_length)
  · have ll := ln_le ns l0 l4
    have lr := ln_le ns r0 r4
    have hlr : Tk [l, r] := fun v hv => by
      rcases List.mem_cons.mp hv with rfl | hv
      · exact ⟨l0, l4⟩
      · rw [List.mem_singleton.mp hv]; exact ⟨r0, r4⟩
    have hP : cpl (lnAt ns l ++ lnAt ns r) = txt (nml (mOf ns)) [l, r] := by
      rw [cpl_cat, cpl_lnAt ns l0 l4, cpl_lnAt ns r0 r4]; simp [txt]
    have hPl : (lnAt ns l ++ lnAt ns r).length ≤ 52 := by rw [str_len]; omega
    have hd3 : dots.length = 3 := by decide +kernel
    obtain ⟨m1, m2⟩ := most_ok ns hlr hP hPl (m := prs l r) (prs_none l r) (prs_some l r) (by rw [← hrl]; exact prs_le l r _)
    have hcl : Clean (cpl (lnAt ns l ++ lnAt ns r)) := by rw [hP]; exact txt_clean N hlr
    have p1 := parts_lr N ⟨l0, l4⟩ ⟨r0, r4⟩ (cpl_lnAt ns l0 l4) (cpl_lnAt ns r0 r4)
    have p2 := parts_dlr N ⟨l0, l4⟩ ⟨r0, r4⟩ (cpl_lnAt ns l0 l4) (cpl_lnAt ns r0 r4)
    refine ⟨m1, ?_, ok_plain hcl (by omega) (by omega), ?_, p1.ok (by rw [str_len, str_len, hd3]; omega) (by omega), ?_, p2.ok (by rw [str_len, str_len, str_len, hd3]; omega) (by omega), ?_⟩
    · rw [m2]
      unfold mostIs
      by_cases c : l = r
      · subst c
        rw [if_pos rfl]
        exact dbl_run l (jsOf ns) none (js_prop ns).1
      · rw [if_neg c, pair_runs c (jsOf ns) (js_prop ns).1, ← ch_js]
        have hg := (tinv ns).get r r0 r4
        have he : ((tget (smOf ns (fOf ns)).table (nmAt ns r)).getD En.zero) = eOf (nmAt ns) (esL ns) r := by
          rw [hg]
          by_cases d : r ∈ (esL ns).map (·.1)
          · rw [if_pos d]; rfl
          · rw [if_neg d, eOf_zero d]; rfl
        rw [he]
        show _ = (cget (clf (nmAt ns) (befO r (ch none ((esL ns).map (·.1))))) (nmAt ns l)).getD 0
        rw [← (js_prop ns).2]
        have hb := befO_tk (run_tk ns) r
        generalize befO r (ch none (runOf (jsOf ns))) = b at hb
        have := clf_get (inj_nm ns) (v := l) ⟨l0, l4⟩ (u := uniq b) (fun k => ((b.count k : Nat) : Int)) fun x hx => hb x (mem_uniq.mp hx)
        unfold clf
        rw [this]
        by_cases d : l ∈ b
        · rw [if_pos (mem_uniq.mpr d)]; rfl
        · rw [if_neg fun q => d (mem_uniq.mp q), List.count_eq_zero_of_not_mem d]; rfl
    · rw [ell_plain hcl]
      have := eqv_ints (runOf (jsOf ns)) [l, r]
      rw [show (PyData.list [.int l, .int r]) = .list (([l, r] : List Int).map PyData.int) from rfl, this, Bool.eq_iff_iff, beq_iff_eq, decide_eq_true_eq]
      constructor
      · intro e
        refine (txt_inj N hlr (run_tk ns) ?_).symm
        rw [← hP, ← strip_txt, e]
      · intro e
        apply cpl_inj
        rw [hP, strip_txt, e]
    · exact ell_lr N (run_tk ns) ⟨l0, l4⟩ ⟨r0, r4⟩ (strip_txt ns) (cpl_lnAt ns l0 l4) (cpl_lnAt ns r0 r4) p1 hrne
    · exact ell_dlr N (run_tk ns) ⟨l0, l4⟩ ⟨r0, r4⟩ (strip_txt ns) (cpl_lnAt ns l0 l4) (cpl_lnAt ns r0 r4) p2 hrne
theorem plainLaw (h : ns.length ≤ 63) : ∃ f, LawD ns f := by
  rcases lawA ns with hA | hA
  · exact ⟨fOf ns, lawD ns (lawC ns (lawB ns hA))⟩
  · omega
end
end Mine
end
section
open PySem PySem.W PyProof.Rows
set_option linter.unusedVariables false
set_option maxRecDepth 100000
set_option maxHeartbeats 8000000 in
theorem PySem.Challenge.cw_ph0125_01_holds : PySem.Challenge.rw_ph0125_01.Holds :=
  Mine.TopRun.hd (by
  k_go0
  rename_i w s0 s1 mg mb G Y fa o pm cd doc ho hcd hg X V T BT TE TW ns hs hlay0 hLay hr1 hl2 w8 w7 la vs w4 hL ra wl r0 hI hr0 hlen htr hD h1 tk1 oA oB oC oD dA dB dC dD X0 X' T' K' F' c98 N' l0
  obtain ⟨f, ok⟩ := Mine.plainLaw ns (by omega)
  have hpl : ∃ vs', s1.heap.get? la = some { cls := .type "list", data := .seq (List.toArray vs') } ∧ WellAll w.params s1.heap vs' (ns.map WData.int) := by
    have hmap : ∀ l : List Int, ofPys (l.map PyData.int) = l.map WData.int := fun l => by
      induction l with
      | nil => rfl
      | cons a r ih => simp only [List.map_cons, ofPys, ofPy, ih]
    have wl' : Well w.params s1.heap (.ref la) (.list (ns.map WData.int)) := by
      rw [← hmap]; exact wl
    cases wl' with | list e a => exact ⟨_, e, a⟩
  obtain ⟨vs', e1, e2⟩ := hpl
  refine wpAny_mono (Mine.lawJoin (f := f) (a := la) (vs := vs') (ns := ns) T' X' F' c98 codeHd N' dA dB dC dD ?hm ?hl (Mine.wellInts e2) ok) ?hq ?he
  case hm => rfl
  case hl =>
    obtain ⟨o2, q1, q2, _⟩ := lifted
    have q3 := of_hideAll _ q1
    rw [e1] at q3
    cases q3
    exact ⟨_, q1⟩
  case hq =>
    rintro fl s' ⟨rfl, hk, hg', ho', hG⟩
    refine ⟨⟨.inl ⟨.bool true, .bool true, [], rfl, fun cls => rfl, .bool true, ?hpost, fun _ => ⟨.nil, fun a ha => nomatch ha⟩⟩, hk, ho', hg'.trans hg⟩, hG⟩
    case hpost => wrow_post
  case he => exact fun _ _ h => h.elim)
end
