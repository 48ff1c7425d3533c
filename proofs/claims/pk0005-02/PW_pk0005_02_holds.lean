import PyProof.Rows.All
import Wide.All
import OpenK.AllK
import Wide.FinOn
import PySem.Challenge.RW_pk0005_02
open PySem PySem.W PySem.Calls PyProof.Rows
set_option Elab.async false
set_option maxRecDepth 100000
set_option linter.unusedVariables false

namespace Mine

/-- a pure value: deep and closed, but for `ref`, which names a mutable object of the frame's own store -/
inductive V where
  | none
  | bool (b : Bool)
  | int (i : Int)
  | bytes (l : List UInt8)
  | list (l : List V)
  | tup (l : List V)
  | arg (l : List Int)
  | rng (a b c : Int)
  | ref (n : Nat)

abbrev Led := List (Addr × Obj)
abbrev Loc := List (Str × V)

/-- a mutable object -/
inductive PO where
  | list (l : List V)
  | cell (v : Option V)

abbrev lobj (xs : List Value) (ep : Nat) : Obj := { cls := .type "list", data := .seq xs.toArray ep }
abbrev robj (a b c : Int) (t u v : Tok) : Obj := { cls := .type "range", dict := none, data := .fields #[.int a t, .int b u, .int c v], slots := #[] }
abbrev tobj (xs : List Value) (ep : Nat) : Obj := { cls := .type "tuple", data := .seq xs.toArray ep }

inductive Rep (B : Heap) (fr : Led) : Value → V → Prop where
  | none : Rep B fr .none .none
  | bool (b : Bool) : Rep B fr (.bool b) (.bool b)
  | int (i : Int) (t : Tok) : Rep B fr (.int i t) (.int i)
  | bytes (l : List UInt8) (t : Tok) : Rep B fr (.bytes l.toArray t) (.bytes l)
  | list (a : Addr) (xs : List Value) (ep : Nat) (vs : List V) : (a, lobj xs ep) ∈ fr → xs.length = vs.length →
      (∀ (i : Nat) (v : Value) (d : V), xs[i]? = some v → vs[i]? = some d → Rep B fr v d) → Rep B fr (.ref a) (.list vs)
  | tup (a : Addr) (xs : List Value) (ep : Nat) (vs : List V) : (a, tobj xs ep) ∈ fr → xs.length = vs.length →
      (∀ (i : Nat) (v : Value) (d : V), xs[i]? = some v → vs[i]? = some d → Rep B fr v d) → Rep B fr (.ref a) (.tup vs)
  | arg (a : Addr) (xs : List Value) (ns : List Int) : B.IsList a xs.toArray → IntsAre xs ns → Rep B fr (.ref a) (.arg ns)
  | rng (r : Addr) (a b c : Int) (t u v : Tok) : (r, robj a b c t u v) ∈ fr → Rep B fr (.ref r) (.rng a b c)

def RepL (B : Heap) (fr : Led) (xs : List Value) (vs : List V) : Prop :=
  xs.length = vs.length ∧ ∀ (i : Nat) (v : Value) (d : V), xs[i]? = some v → vs[i]? = some d → Rep B fr v d

theorem Rep.mono {B : Heap} {fr fr' : Led} (hf : ∀ p ∈ fr, p ∈ fr') {v : Value} {d : V} (r : Rep B fr v d) : Rep B fr' v d := by
  induction r with
  | none => exact .none
  | bool b => exact .bool b
  | int i t => exact .int i t
  | bytes l t => exact .bytes l t
  | list a xs ep vs hm hl _ ih => exact .list a xs ep vs (hf _ hm) hl ih
  | tup a xs ep vs hm hl _ ih => exact .tup a xs ep vs (hf _ hm) hl ih
  | arg a xs ns hl hi => exact .arg a xs ns hl hi
  | rng r a b c t u v hm => exact .rng r a b c t u v (hf _ hm)

theorem RepL.mono {B : Heap} {fr fr' : Led} (hf : ∀ p ∈ fr, p ∈ fr') {xs : List Value} {vs : List V} (r : RepL B fr xs vs) : RepL B fr' xs vs :=
  ⟨r.1, fun i v d h1 h2 => (r.2 i v d h1 h2).mono hf⟩

theorem RepL.nil {B : Heap} {fr : Led} : RepL B fr [] [] := ⟨rfl, fun i v d h => by simp at h⟩
theorem RepL.cons {B : Heap} {fr : Led} {x : Value} {v : V} {xs : List Value} {vs : List V} (h : Rep B fr x v) (r : RepL B fr xs vs) : RepL B fr (x :: xs) (v :: vs) :=
  ⟨by simp [r.1], fun i a d h1 h2 => by
    cases i with
    | zero => simp at h1 h2; subst h1; subst h2; exact h
    | succ i => simp at h1 h2; exact r.2 i a d h1 h2⟩
theorem RepL.inv_cons {B : Heap} {fr : Led} {ws : List Value} {v : V} {vs : List V} (r : RepL B fr ws (v :: vs)) : ∃ x xs, ws = x :: xs ∧ Rep B fr x v ∧ RepL B fr xs vs := by
  cases ws with
  | nil => exact absurd r.1 (by simp)
  | cons x xs =>
    refine ⟨x, xs, rfl, r.2 0 x v rfl rfl, by simpa using r.1, fun i a d h1 h2 => r.2 (i + 1) a d (by simpa using h1) (by simpa using h2)⟩
theorem RepL.inv_nil {B : Heap} {fr : Led} {ws : List Value} (r : RepL B fr ws []) : ws = [] := by
  cases ws with
  | nil => rfl
  | cons x xs => exact absurd r.1 (by simp)
theorem RepL.append {B : Heap} {fr : Led} : ∀ {xs : List Value} {vs : List V} {ys : List Value} {us : List V}, RepL B fr xs vs → RepL B fr ys us → RepL B fr (xs ++ ys) (vs ++ us)
  | [], [], _, _, _, h => h
  | [], _ :: _, _, _, h, _ => absurd h.1 (by simp)
  | _ :: _, [], _, _, h, _ => absurd h.1 (by simp)
  | x :: xs, v :: vs, _, _, h, h' => by
    obtain ⟨x', xs', e, h1, h2⟩ := h.inv_cons
    cases e
    exact .cons h1 (h2.append h')
theorem RepL.get {B : Heap} {fr : Led} {xs : List Value} {vs : List V} (r : RepL B fr xs vs) {i : Nat} {d : V} (h : vs[i]? = some d) : ∃ v, xs[i]? = some v ∧ Rep B fr v d := by
  have hlt : i < vs.length := by
    rcases Nat.lt_or_ge i vs.length with h' | h'
    · exact h'
    · rw [List.getElem?_eq_none h'] at h; cases h
  have hx : i < xs.length := r.1 ▸ hlt
  exact ⟨xs[i], List.getElem?_eq_getElem hx, r.2 i _ d (List.getElem?_eq_getElem hx) h⟩
theorem RepL.sub {B : Heap} {fr : Led} {xs ys : List Value} {vs us : List V} (r : RepL B fr xs vs) (hl : ys.length = us.length) (f : Nat → Nat)
    (h1 : ∀ i v, ys[i]? = some v → xs[f i]? = some v) (h2 : ∀ i d, us[i]? = some d → vs[f i]? = some d) : RepL B fr ys us :=
  ⟨hl, fun i v d a b => r.2 (f i) v d (h1 i v a) (h2 i d b)⟩
theorem RepL.take {B : Heap} {fr : Led} {xs : List Value} {vs : List V} (r : RepL B fr xs vs) (n : Nat) : RepL B fr (xs.take n) (vs.take n) :=
  r.sub (by simp [r.1]) id (fun i v h => by
    by_cases hi : i < n
    · simpa [List.getElem?_take_of_lt hi] using h
    · rw [List.getElem?_eq_none (by simp; omega)] at h; cases h) (fun i v h => by
    by_cases hi : i < n
    · simpa [List.getElem?_take_of_lt hi] using h
    · rw [List.getElem?_eq_none (by simp; omega)] at h; cases h)
theorem RepL.drop {B : Heap} {fr : Led} {xs : List Value} {vs : List V} (r : RepL B fr xs vs) (n : Nat) : RepL B fr (xs.drop n) (vs.drop n) :=
  r.sub (by simp [r.1]) (n + ·) (fun i v h => by simpa using h) (fun i v h => by simpa using h)
theorem RepL.set {B : Heap} {fr : Led} {xs : List Value} {vs : List V} (r : RepL B fr xs vs) (n : Nat) {x : Value} {v : V} (h : Rep B fr x v) : RepL B fr (xs.set n x) (vs.set n v) :=
  ⟨by simp [r.1], fun i a d h1 h2 => by
    rw [List.getElem?_set] at h1 h2
    by_cases e : n = i
    · subst e
      simp only [if_true] at h1 h2
      split at h1
      · split at h2
        · cases h1; cases h2; exact h
        · cases h2
      · cases h1
    · simp only [if_neg e] at h1 h2
      exact r.2 i a d h1 h2⟩
theorem RepL.ints {B : Heap} {fr : Led} : ∀ {xs : List Value} {ns : List Int}, RepL B fr xs (ns.map V.int) → IntsAre xs ns
  | [], [], _ => .nil
  | [], _ :: _, h => absurd h.1 (by simp)
  | _ :: _, [], h => absurd h.1 (by simp)
  | x :: xs, n :: ns, h => by
    obtain ⟨x', xs', e, h1, h2⟩ := RepL.inv_cons (by simpa using h)
    cases e
    cases h1 with
    | int i t => exact .cons n t (RepL.ints h2)
theorem RepL.ofInts {B : Heap} {fr : Led} : ∀ {xs : List Value} {ns : List Int}, IntsAre xs ns → RepL B fr xs (ns.map V.int)
  | _, _, .nil => .nil
  | _, _, .cons n t h => .cons (.int n t) (RepL.ofInts h)

def RepV (B : Heap) (as : List Addr) (fr : Led) (v' : Value) : V → Prop
  | .ref n => ∃ a, as[n]? = some a ∧ v' = .ref a
  | v => Rep B fr v' v
theorem Rep.toV {B : Heap} {as : List Addr} {fr : Led} {v' : Value} {v : V} (h : Rep B fr v' v) : RepV B as fr v' v := by
  cases h <;> (unfold RepV; constructor <;> assumption)

structure Ext (as as' : List Addr) (fr fr' : Led) : Prop where
  as : ∀ (n : Nat) (a : Addr), as[n]? = some a → as'[n]? = some a
  fr : ∀ p ∈ fr, p ∈ fr'
theorem Ext.refl (as : List Addr) (fr : Led) : Ext as as fr fr := ⟨fun _ _ h => h, fun _ h => h⟩
theorem Ext.trans {as as' as'' : List Addr} {fr fr' fr'' : Led} (x : Ext as as' fr fr') (y : Ext as' as'' fr' fr'') : Ext as as'' fr fr'' := ⟨fun n a h => y.as n a (x.as n a h), fun p h => y.fr p (x.fr p h)⟩
theorem RepV.ext {B : Heap} {as as' : List Addr} {fr fr' : Led} (x : Ext as as' fr fr') {v' : Value} : ∀ {v : V}, RepV B as fr v' v → RepV B as' fr' v' v
  | .ref n, ⟨a, h, e⟩ => ⟨a, x.as n a h, e⟩
  | .none, h | .bool _, h | .int _, h | .bytes _, h | .list _, h | .tup _, h | .arg _, h | .rng _ _ _, h => (Rep.mono x.fr (h : Rep B fr v' _)).toV

def RepO (B : Heap) (fr : Led) (ob : Option Obj) : PO → Prop
  | .list vs => ∃ xs ep, ob = some (lobj xs ep) ∧ RepL B fr xs vs
  | .cell v => ∃ o c, ob = some o ∧ o.data = .cell c ∧ ∀ d, v = some d → ∃ v', c = some v' ∧ Rep B fr v' d
theorem RepO.mono {B : Heap} {fr fr' : Led} (hf : ∀ p ∈ fr, p ∈ fr') {ob : Option Obj} : ∀ {o : PO}, RepO B fr ob o → RepO B fr' ob o
  | .list _, ⟨xs, ep, h1, h2⟩ => ⟨xs, ep, h1, h2.mono hf⟩
  | .cell _, ⟨o, c, h1, h2, h3⟩ => ⟨o, c, h1, h2, fun d e => let ⟨v', e1, e2⟩ := h3 d e; ⟨v', e1, e2.mono hf⟩⟩
theorem RepO.some {B : Heap} {fr : Led} {ob : Option Obj} : ∀ {o : PO}, RepO B fr ob o → ∃ x, ob = some x
  | .list _, ⟨xs, ep, h1, _⟩ => ⟨_, h1⟩
  | .cell _, ⟨o, c, h1, _⟩ => ⟨_, h1⟩

structure Good (B h₀ : Heap) (L : Addr) (h : Heap) (as : List Addr) (fr hid : Led) (ρ : Loc) (σ : List PO) : Prop where
  m : ∃ m, Fr h₀ L h m ∧ ∀ x v, ρ.lookup x = some v → ∃ v', m x = some v' ∧ RepV B as fr v' v
  news : News h₀ L h (fr ++ hid)
  sep : ∀ p ∈ fr, ∀ q ∈ hid, p.1 ≠ q.1
  len : as.length = σ.length
  nodup : as.Nodup
  off : ∀ a ∈ as, a ≠ L ∧ h₀.get? a = none ∧ ∀ p ∈ fr ++ hid, p.1 ≠ a
  muts : ∀ (n : Nat) (a : Addr) (o : PO), as[n]? = some a → σ[n]? = some o → RepO B fr (h.get? a) o

section
variable {B h₀ h h' : Heap} {L : Addr} {as : List Addr} {fr hid : Led} {ρ : Loc} {σ : List PO}
theorem Good.frame (G : Good B h₀ L h as fr hid ρ σ) : ∃ m, Fr h₀ L h m := let ⟨m, F, _⟩ := G.m; ⟨m, F⟩
theorem Good.old (G : Good B h₀ L h as fr hid ρ σ) : ∀ b o, h₀.get? b = some o → h.get? b = some o := let ⟨_, F, _⟩ := G.m; F.keep
theorem Good.mutAt (G : Good B h₀ L h as fr hid ρ σ) {a : Addr} (ha : a ∈ as) : ∃ o, h.get? a = some o := by
  obtain ⟨n, hn, e⟩ := List.getElem_of_mem ha
  have e' : as[n]? = some a := by rw [List.getElem?_eq_getElem hn, e]
  have hn' : n < σ.length := G.len ▸ hn
  obtain ⟨x, hx⟩ := (G.muts n a _ e' (List.getElem?_eq_getElem hn')).some
  exact ⟨x, hx⟩
theorem frKeep {m : Str → Option Value} (F : Fr h₀ L h m) (hk : ∀ b o, h.get? b = some o → h'.get? b = some o) : Fr h₀ L h' m :=
  ⟨F.ns.at' fun o e => hk _ o e, fun b o e => hk b o (F.keep b o e), F.above⟩
theorem Good.keep (G : Good B h₀ L h as fr hid ρ σ) (hk : ∀ b o, h.get? b = some o → h'.get? b = some o) : Good B h₀ L h' as fr hid ρ σ where
  m := let ⟨m, F, r⟩ := G.m; ⟨m, frKeep F hk, r⟩
  news := fun p hp => ⟨hk _ _ (G.news p hp).1, (G.news p hp).2⟩
  sep := G.sep
  len := G.len
  nodup := G.nodup
  off := G.off
  muts := fun n a o h1 h2 => by
    have r := G.muts n a o h1 h2
    obtain ⟨x, hx⟩ := r.some
    rw [hk a x hx]; rw [hx] at r; exact r
theorem Good.fresh (G : Good B h₀ L h as fr hid ρ σ) {a : Addr} (ha : h.get? a = none) : a ≠ L ∧ h₀.get? a = none ∧ (∀ p ∈ fr ++ hid, p.1 ≠ a) ∧ a ∉ as := by
  refine ⟨?_, ?_, ?_, ?_⟩
  · rintro rfl
    obtain ⟨m, F, _⟩ := G.m
    obtain ⟨o, _, _, ho, _⟩ := F.ns
    rw [ha] at ho; cases ho
  · cases e : h₀.get? a with
    | none => rfl
    | some o => rw [G.old a o e] at ha; cases ha
  · intro p hp e
    have := (G.news p hp).1
    rw [e, ha] at this; cases this
  · intro hm
    obtain ⟨o, ho⟩ := G.mutAt hm
    rw [ha] at ho; cases ho
/-- a new immutable object -/
theorem Good.new (G : Good B h₀ L h as fr hid ρ σ) (hk : ∀ b o, h.get? b = some o → h'.get? b = some o) {a : Addr} {o : Obj} (ha : h.get? a = none) (ho : h'.get? a = some o) :
    Good B h₀ L h' as ((a, o) :: fr) hid ρ σ := by
  obtain ⟨f1, f2, f3, f4⟩ := G.fresh ha
  have G' := G.keep hk
  refine ⟨?_, ?_, ?_, G'.len, G'.nodup, ?_, fun n a o h1 h2 => (G'.muts n a o h1 h2).mono fun p hp => List.mem_cons_of_mem _ hp⟩
  · obtain ⟨m, F, r⟩ := G'.m
    exact ⟨m, F, fun x v e => let ⟨v', e1, e2⟩ := r x v e; ⟨v', e1, e2.ext ⟨fun _ _ h => h, fun p hp => List.mem_cons_of_mem _ hp⟩⟩⟩
  · intro p hp
    rcases List.mem_cons.mp hp with rfl | hp
    · exact ⟨ho, f1, f2⟩
    · exact G'.news p hp
  · intro p hp q hq
    rcases List.mem_cons.mp hp with rfl | hp
    · exact fun e => f3 q (List.mem_append_right _ hq) e.symm
    · exact G.sep p hp q hq
  · intro b hb
    refine ⟨(G.off b hb).1, (G.off b hb).2.1, fun p hp => ?_⟩
    rcases List.mem_cons.mp hp with rfl | hp
    · rintro rfl; exact f4 hb
    · exact (G.off b hb).2.2 p hp
/-- a new mutable object -/
theorem Good.newMut (G : Good B h₀ L h as fr hid ρ σ) (hk : ∀ b o, h.get? b = some o → h'.get? b = some o) {a : Addr} {po : PO} (ha : h.get? a = none) (ho : RepO B fr (h'.get? a) po) :
    Good B h₀ L h' (as ++ [a]) fr hid ρ (σ ++ [po]) := by
  obtain ⟨f1, f2, f3, f4⟩ := G.fresh ha
  have G' := G.keep hk
  refine ⟨?_, G'.news, G'.sep, by simp [G'.len], ?_, ?_, ?_⟩
  · obtain ⟨m, F, r⟩ := G'.m
    exact ⟨m, F, fun x v e => let ⟨v', e1, e2⟩ := r x v e; ⟨v', e1, e2.ext ⟨fun n b h => by rw [List.getElem?_append_left (by rcases Nat.lt_or_ge n as.length with h' | h'; exact h'; rw [List.getElem?_eq_none h'] at h; cases h)]; exact h, fun p hp => hp⟩⟩⟩
  · refine List.nodup_append.mpr ⟨G'.nodup, by simp, fun b hb c hc => ?_⟩
    rw [List.mem_singleton.mp hc]; rintro rfl; exact f4 hb
  · intro b hb
    rcases List.mem_append.mp hb with hb | hb
    · exact G.off b hb
    · rw [List.mem_singleton.mp hb]; exact ⟨f1, f2, f3⟩
  · intro n b o h1 h2
    rcases Nat.lt_or_ge n as.length with hn | hn
    · rw [List.getElem?_append_left hn] at h1
      rw [List.getElem?_append_left (G.len ▸ hn)] at h2
      exact G'.muts n b o h1 h2
    · rw [List.getElem?_append_right hn] at h1
      rw [List.getElem?_append_right (G.len ▸ hn), ← G.len] at h2
      generalize n - as.length = k at h1 h2
      cases k with
      | zero => simp at h1 h2; subst h1; subst h2; exact ho
      | succ k => simp at h1
theorem extApp (as : List Addr) (a : Addr) (fr : Led) : Ext as (as ++ [a]) fr fr :=
  ⟨fun n b h => by rw [List.getElem?_append_left (by rcases Nat.lt_or_ge n as.length with h' | h'; exact h'; rw [List.getElem?_eq_none h'] at h; cases h)]; exact h, fun _ hp => hp⟩
theorem extCons (as : List Addr) (p : Addr × Obj) (fr : Led) : Ext as as fr (p :: fr) := ⟨fun _ _ h => h, fun _ hp => List.mem_cons_of_mem _ hp⟩
/-- the object at place n turned -/
theorem Good.turn (G : Good B h₀ L h as fr hid ρ σ) {n : Nat} {a : Addr} {po : PO} (ha : as[n]? = some a) (hs : Heap.SameBut a h h') (ho : RepO B fr (h'.get? a) po) : Good B h₀ L h' as fr hid ρ (σ.set n po) := by
  have hm : a ∈ as := List.mem_of_getElem? ha
  obtain ⟨o1, o2, o3⟩ := G.off a hm
  refine ⟨?_, ?_, G.sep, by simp [G.len], G.nodup, G.off, ?_⟩
  · obtain ⟨m, F, r⟩ := G.m
    refine ⟨m, ⟨F.ns.sameBut hs (Ne.symm o1), fun b o e => ?_, F.above⟩, r⟩
    have : b ≠ a := by rintro rfl; rw [o2] at e; cases e
    exact (hs.2 b this).trans (F.keep b o e)
  · intro p hp
    exact ⟨(hs.2 _ (o3 p hp)).trans (G.news p hp).1, (G.news p hp).2⟩
  · intro k b o h1 h2
    rw [List.getElem?_set] at h2
    by_cases e : n = k
    · subst e
      rw [ha] at h1; cases h1
      simp only [if_true] at h2
      split at h2
      · cases h2; exact ho
      · cases h2
    · rw [if_neg e] at h2
      have hb : b ≠ a := by
        rintro rfl
        have hn : n < as.length := by rcases Nat.lt_or_ge n as.length with h' | h'; exact h'; rw [List.getElem?_eq_none h'] at ha; cases ha
        exact e ((List.getElem?_inj hn G.nodup).mp (ha.trans h1.symm))
      rw [hs.2 b hb]
      exact G.muts k b o h1 h2
/-- a name stored -/
theorem Good.store (G : Good B h₀ L h as fr hid ρ σ) {x : Str} {v' : Value} {v : V} (hv : RepV B as fr v' v) {m : Str → Option Value} (hm : h.Ns L m) (hn : h'.Ns L (fun y => if y = x then some v' else m y)) (hs : Heap.SameBut L h h') :
    Good B h₀ L h' as fr hid ((x, v) :: ρ) σ := by
  obtain ⟨m₁, F, r⟩ := G.m
  have em : ∀ y, m y = m₁ y := fun y => by
    obtain ⟨o, es, ep, h1, h2, _, h4⟩ := hm
    obtain ⟨o', es', ep', h1', h2', _, h4'⟩ := F.ns
    rw [h1] at h1'; cases h1'
    rw [h2] at h2'; cases h2'
    rw [← h4, ← h4']
  refine ⟨⟨_, F.set hn hs, fun y u e => ?_⟩, G.news.set hs, G.sep, G.len, G.nodup, G.off, fun n a o h1 h2 => ?_⟩
  · rw [List.lookup_cons] at e
    by_cases q : y = x
    · subst q
      simp only [beq_self_eq_true] at e
      cases e
      exact ⟨v', by simp, hv⟩
    · have : (y == x) = false := beq_eq_false_iff_ne.mpr q
      simp only [this] at e
      obtain ⟨u', e1, e2⟩ := r y u e
      exact ⟨u', by simp [q, em, e1], e2⟩
  · have : a ≠ L := (G.off a (List.mem_of_getElem? h1)).1
    rw [hs.2 a this]; exact G.muts n a o h1 h2
/-- less known of the names -/
theorem Good.less (G : Good B h₀ L h as fr hid ρ σ) {ρ' : Loc} (hl : ∀ x v, ρ'.lookup x = some v → ρ.lookup x = some v) : Good B h₀ L h as fr hid ρ' σ :=
  ⟨let ⟨m, F, r⟩ := G.m; ⟨m, F, fun x v e => r x v (hl x v e)⟩, G.news, G.sep, G.len, G.nodup, G.off, G.muts⟩
end
end Mine

namespace Mine

structure Cx where
  B : Heap
  prog : Program
  w : World
  K : Frag
  p : Program
  loose : List Str
  mg : Str → Option Value
  mb : Str → Option Value

structure Pl where
  A : Around
  cn : Str
  cs : Scope
  L : Addr
  a : Addr
  ccd : Value
  cl : List (Str × Addr)
  h₀ : Heap
abbrev Pl.env (pl : Pl) : Env := envX pl.cn pl.cs pl.L pl.a pl.ccd pl.cl

structure Amb (c : Cx) (pl : Pl) (k : Nat) : Prop where
  below : ∃ A₀ base outer, Below A₀ base outer pl.h₀ ∧ pl.A.frames = some (pl.env :: outer)
  base : ∀ b o, c.B.get? b = some o → pl.h₀.get? b = some o
  inK : c.K.In pl.h₀
  top : TopRead c.p c.loose c.mg c.mb pl.h₀
  kind : pl.cs.kind = .function
  hand : pl.A.handled = none
  room : pl.A.depth + k < 900
  units : pl.A.units + 8 * k < 5000
theorem Amb.less {c : Cx} {pl : Pl} {k : Nat} (H : Amb c pl (k + 1)) : Amb c pl k := ⟨H.below, H.base, H.inK, H.top, H.kind, H.hand, by have := H.room; omega, by have := H.units; omega⟩

def Ev (c : Cx) (pl : Pl) (ρ : Loc) (σ : List PO) (e : Expr) (K : V → List PO → Prop) : Prop :=
  ∀ (s : Shared) (as : List Addr) (fr hid : Led) (Q : Value → Shared → Prop) (E : Value → Shared → Prop),
    Good c.B pl.h₀ pl.L s.heap as fr hid ρ σ →
    (∀ h' tk v' as' fr' v σ', K v σ' → Ext as as' fr fr' → Good c.B pl.h₀ pl.L h' as' fr' hid ρ σ' → RepV c.B as' fr' v' v → Q v' { s with heap := h', toks := tk }) →
    wpAny (model c.prog c.w) pl.A (eval e pl.env) Q E s

def ET (c : Cx) (pl : Pl) (ρ : Loc) (σ : List PO) (e : Expr) (K : Bool → List PO → Prop) : Prop :=
  ∀ (s : Shared) (as : List Addr) (fr hid : Led) (Q : Bool → Shared → Prop) (E : Value → Shared → Prop),
    Good c.B pl.h₀ pl.L s.heap as fr hid ρ σ →
    (∀ h' tk b as' fr' σ', K b σ' → Ext as as' fr fr' → Good c.B pl.h₀ pl.L h' as' fr' hid ρ σ' → Q b { s with heap := h', toks := tk }) →
    wpAny (model c.prog c.w) pl.A (isTrue e pl.env (eval e pl.env)) Q E s

def EB (c : Cx) (pl : Pl) (ρ : Loc) (σ : List PO) (op : BoolOp) (es : List Expr) (K : Bool → List PO → Prop) : Prop :=
  ∀ (whole : Sem Value) (pos : Pos) (s : Shared) (as : List Addr) (fr hid : Led) (Q : Bool → Shared → Prop) (E : Value → Shared → Prop),
    Good c.B pl.h₀ pl.L s.heap as fr hid ρ σ →
    (∀ h' tk b as' fr' σ', K b σ' → Ext as as' fr fr' → Good c.B pl.h₀ pl.L h' as' fr' hid ρ σ' → Q b { s with heap := h', toks := tk }) →
    wpAny (model c.prog c.w) pl.A (isTrue (.BoolOp op es pos) pl.env whole) Q E s

def Evs (c : Cx) (pl : Pl) (ρ : Loc) (σ : List PO) (es : List Expr) (K : List V → List PO → Prop) : Prop :=
  ∀ (pos : Pos) (s : Shared) (as : List Addr) (fr hid : Led) (Q : List Value → Shared → Prop) (E : Value → Shared → Prop),
    Good c.B pl.h₀ pl.L s.heap as fr hid ρ σ →
    (∀ h' tk vs' as' fr' vs σ', K vs σ' → Ext as as' fr fr' → Good c.B pl.h₀ pl.L h' as' fr' hid ρ σ' → vs'.length = vs.length → (∀ (i : Nat) v' v, vs'[i]? = some v' → vs[i]? = some v → RepV c.B as' fr' v' v) → Q vs' { s with heap := h', toks := tk }) →
    wpAny (model c.prog c.w) pl.A (spliced (backTo pos (starEach es pl.env))) Q E s

section
variable {c : Cx} {pl : Pl} {ρ : Loc} {σ : List PO} {K : V → List PO → Prop}

theorem Ev.mono {e : Expr} {K' : V → List PO → Prop} (h : Ev c pl ρ σ e K) (hk : ∀ v σ', K v σ' → K' v σ') : Ev c pl ρ σ e K' :=
  fun s as fr hid Q E G hQ => h s as fr hid Q E G fun h' tk v' as' fr' v σ' k => hQ h' tk v' as' fr' v σ' (hk v σ' k)
theorem ET.mono {e : Expr} {K K' : Bool → List PO → Prop} (h : ET c pl ρ σ e K) (hk : ∀ v σ', K v σ' → K' v σ') : ET c pl ρ σ e K' :=
  fun s as fr hid Q E G hQ => h s as fr hid Q E G fun h' tk as' fr' v σ' k => hQ h' tk as' fr' v σ' (hk _ _ k)

theorem RepV.int_inv {B : Heap} {as : List Addr} {fr : Led} {v' : Value} {i : Int} (h : RepV B as fr v' (.int i)) : ∃ t, v' = .int i t := by
  cases (h : Rep B fr v' (.int i)) with
  | int i t => exact ⟨t, rfl⟩
theorem RepV.bool_inv {B : Heap} {as : List Addr} {fr : Led} {v' : Value} {b : Bool} (h : RepV B as fr v' (.bool b)) : v' = .bool b := by
  cases (h : Rep B fr v' (.bool b)); rfl
theorem RepV.none_inv {B : Heap} {as : List Addr} {fr : Led} {v' : Value} (h : RepV B as fr v' .none) : v' = .none := by
  cases (h : Rep B fr v' .none); rfl
theorem RepV.bytes_inv {B : Heap} {as : List Addr} {fr : Led} {v' : Value} {l : List UInt8} (h : RepV B as fr v' (.bytes l)) : ∃ t, v' = .bytes l.toArray t := by
  cases (h : Rep B fr v' (.bytes l)) with
  | bytes l t => exact ⟨t, rfl⟩
theorem RepV.list_inv {B : Heap} {as : List Addr} {fr : Led} {v' : Value} {vs : List V} (h : RepV B as fr v' (.list vs)) : ∃ a xs ep, v' = .ref a ∧ (a, lobj xs ep) ∈ fr ∧ RepL B fr xs vs := by
  cases (h : Rep B fr v' (.list vs)) with
  | list a xs ep vs h1 h2 h3 => exact ⟨a, xs, ep, rfl, h1, h2, h3⟩
theorem RepV.tup_inv {B : Heap} {as : List Addr} {fr : Led} {v' : Value} {vs : List V} (h : RepV B as fr v' (.tup vs)) : ∃ a xs ep, v' = .ref a ∧ (a, tobj xs ep) ∈ fr ∧ RepL B fr xs vs := by
  cases (h : Rep B fr v' (.tup vs)) with
  | tup a xs ep vs h1 h2 h3 => exact ⟨a, xs, ep, rfl, h1, h2, h3⟩
theorem RepV.arg_inv {B : Heap} {as : List Addr} {fr : Led} {v' : Value} {ns : List Int} (h : RepV B as fr v' (.arg ns)) : ∃ a xs, v' = .ref a ∧ B.IsList a xs.toArray ∧ IntsAre xs ns := by
  cases (h : Rep B fr v' (.arg ns)) with
  | arg a xs ns h1 h2 => exact ⟨a, xs, rfl, h1, h2⟩

theorem RepV.rng_inv {B : Heap} {as : List Addr} {fr : Led} {v' : Value} {a b c : Int} (h : RepV B as fr v' (.rng a b c)) : ∃ r t u v, v' = .ref r ∧ (r, robj a b c t u v) ∈ fr := by
  cases (h : Rep B fr v' (.rng a b c)) with
  | rng r a b c t u v h1 => exact ⟨r, t, u, v, rfl, h1⟩
theorem ev_int {i : Int} {k : Nat} {pos : Pos} (h : K (.int i) σ) : Ev c pl ρ σ (.Constant (.int i) k pos) K :=
  fun s as fr hid Q E G hQ => wpAny_Constant_int (hQ _ _ _ _ _ _ _ h (.refl _ _) G (Rep.int _ _))
theorem ev_bool {b : Bool} {k : Nat} {pos : Pos} (h : K (.bool b) σ) : Ev c pl ρ σ (.Constant (.bool b) k pos) K :=
  fun s as fr hid Q E G hQ => wpAny_Constant_bool (hQ _ _ _ _ _ _ _ h (.refl _ _) G (Rep.bool _))
theorem ev_none {k : Nat} {pos : Pos} (h : K .none σ) : Ev c pl ρ σ (.Constant .none k pos) K :=
  fun s as fr hid Q E G hQ => wpAny_Constant_none (hQ _ _ _ _ _ _ _ h (.refl _ _) G Rep.none)
theorem ev_bytes {b : List UInt8} {k : Nat} {pos : Pos} (h : K (.bytes b) σ) : Ev c pl ρ σ (.Constant (.bytes b) k pos) K :=
  fun s as fr hid Q E G hQ => Constant_bytes (hQ _ _ _ _ _ _ _ h (.refl _ _) G (Rep.bytes _ _))
theorem ev_name {x : Str} {pos : Pos} {v : V} (hv : ρ.lookup x = some v) (h : K v σ) (hk : pl.cs.kind = .function := by rfl) (hx : pl.env.kindOf x = some .local := by rfl)
    (hd : (x == ("__debug__" : Str)) = false := by decide) : Ev c pl ρ σ (.Name x pos) K := fun s as fr hid Q E G hQ => by
  obtain ⟨m, F, r⟩ := G.m
  obtain ⟨v', e, r'⟩ := r x v hv
  exact nameX_L F e (hQ _ _ _ _ _ _ _ h (.refl _ _) G r') hk hx hd
theorem ev_gint {n : Nat} (H : Amb c pl n) {x : Str} {pos : Pos} {i : Int} {t : Tok} (hv : nsIn c.K mainGlobals x = some (some (.int i t))) (h : K (.int i) σ) (hx : pl.env.kindOf x = some .globalImplicit := by rfl)
    (hd : (x == ("__debug__" : Str)) = false := by decide) : Ev c pl ρ σ (.Name x pos) K := fun s as fr hid Q E G hQ => by
  obtain ⟨m, F⟩ := G.frame
  exact nameX_K F H.inK H.top hv (hQ _ _ _ _ _ _ _ h (.refl _ _) G (Rep.int _ _)) H.kind hx hd

inductive IntOp : Operator → Int → Int → Int → Prop where
  | add (a b : Int) : IntOp .Add a b (a + b)
  | sub (a b : Int) : IntOp .Sub a b (a - b)
  | mul (a b : Int) : IntMulOk a b → IntOp .Mult a b (a * b)
  | fdiv (a b : Int) : 0 < b → b.natAbs.log2 < 9000 → IntOp .FloorDiv a b (a / b)
  | mod (a b : Int) : 0 < b → IntOp .Mod a b (a % b)
  | pow (a b : Int) : 0 ≤ b → (Builtin.Int.intBits a : Int) * b ≤ 2 ^ 27 → IntOp .Pow a b (a ^ b.toNat)

theorem intOp_ok {prog : Program} {w : World} {A : Around} {E : Value → Shared → Prop} {s : Shared} {op : Operator} {a b r : Int} {t u : Tok} {Q : Value → Shared → Prop} (h : IntOp op a b r)
    (hQ : Q (.int r s.toks) { s with toks := s.toks + 1 }) : wpAny (model prog w) A (binaryOp op (.int a t) (.int b u)) Q E s := by
  cases h with
  | add => exact add_int hQ
  | sub => exact sub_int hQ
  | mul _ _ hm => exact mul_int hQ hm
  | fdiv _ _ hb hl => exact floordiv_int (by omega) (by rw [Int.fdiv_eq_ediv_of_nonneg _ (by omega)]; exact hQ) (.inl (PyProof.noPylong_of_log2 hl))
  | mod _ _ hb => exact mod_int' (by omega) (by rw [Int.fmod_eq_emod_of_nonneg _ (by omega)]; exact hQ)
  | pow _ _ h1 h2 => exact pow_int h1 h2 hQ

theorem ev_ibin {l r : Expr} {op : Operator} {pos : Pos} (h : Ev c pl ρ σ l fun va σ1 => ∃ a, va = .int a ∧ Ev c pl ρ σ1 r fun vb σ2 => ∃ b x, vb = .int b ∧ IntOp op a b x ∧ K (.int x) σ2) :
    Ev c pl ρ σ (.BinOp l op r pos) K := fun s as fr hid Q E G hQ => by
  refine wpAny_BinOp (h _ _ _ _ _ _ G ?_)
  rintro h1 tk1 v1 as1 fr1 va σ1 ⟨a, rfl, hr⟩ x1 G1 r1
  obtain ⟨t1, rfl⟩ := r1.int_inv
  refine hr _ _ _ _ _ _ G1 ?_
  rintro h2 tk2 v2 as2 fr2 vb σ2 ⟨b, x, rfl, ho, hk⟩ x2 G2 r2
  obtain ⟨t2, rfl⟩ := r2.int_inv
  exact intOp_ok ho (hQ _ _ _ _ _ _ _ hk (x1.trans x2) G2 (Rep.int _ _))
theorem ev_neg {e : Expr} {pos : Pos} (h : Ev c pl ρ σ e fun va σ1 => ∃ a, va = .int a ∧ K (.int (-a)) σ1) : Ev c pl ρ σ (.UnaryOp .USub e pos) K := fun s as fr hid Q E G hQ => by
  refine wpAny_UnaryOp (h _ _ _ _ _ _ G ?_)
  rintro h1 tk1 v1 as1 fr1 va σ1 ⟨a, rfl, hk⟩ x1 G1 r1
  obtain ⟨t1, rfl⟩ := r1.int_inv
  exact neg_int (hQ _ _ _ _ _ _ _ hk x1 G1 (Rep.int _ _))
theorem ev_ifexp {test b1 b2 : Expr} {pos : Pos} (h : ET c pl ρ σ test fun b σ1 => if b then Ev c pl ρ σ1 b1 K else Ev c pl ρ σ1 b2 K) : Ev c pl ρ σ (.IfExp test b1 b2 pos) K := fun s as fr hid Q E G hQ => by
  refine wpAny_IfExp (h _ _ _ _ _ _ G ?_)
  intro h1 tk1 b as1 fr1 σ1 hk x1 G1
  cases b with
  | true => exact hk _ _ _ _ _ _ G1 fun h' tk v' as' fr' v σ' k x G' r => hQ _ _ _ _ _ _ _ k (x1.trans x) G' r
  | false => exact hk _ _ _ _ _ _ G1 fun h' tk v' as' fr' v σ' k x G' r => hQ _ _ _ _ _ _ _ k (x1.trans x) G' r

/-- comparisons that look at no list -/
inductive Cmp : CmpOp → V → V → Bool → Prop where
  | lt (a b : Int) : Cmp .Lt (.int a) (.int b) (decide (a < b))
  | le (a b : Int) : Cmp .LtE (.int a) (.int b) (decide (a ≤ b))
  | gt (a b : Int) : Cmp .Gt (.int a) (.int b) (decide (b < a))
  | ge (a b : Int) : Cmp .GtE (.int a) (.int b) (decide (b ≤ a))
  | eq (a b : Int) : Cmp .Eq (.int a) (.int b) (a == b)
  | ne (a b : Int) : Cmp .NotEq (.int a) (.int b) (a != b)
  | eqB (a b : List UInt8) : Cmp .Eq (.bytes a) (.bytes b) (a == b)
  | neB (a b : List UInt8) : Cmp .NotEq (.bytes a) (.bytes b) (a != b)
  | is (a b : Bool) : Cmp .Is (.bool a) (.bool b) (a == b)
  | isNot (a b : Bool) : Cmp .IsNot (.bool a) (.bool b) (a != b)
  | isN (a : Bool) : Cmp .Is (.bool a) .none false
  | isNN : Cmp .Is .none .none true
  | isNotN (b : Bool) : Cmp .IsNot .none (.bool b) true
theorem cmp_ok {prog : Program} {w : World} {A : Around} {E : Value → Shared → Prop} {s : Shared} {op : CmpOp} {a b : V} {r : Bool} {a' b' : Value} {B : Heap} {as : List Addr} {fr : Led} {Q : Value → Shared → Prop} (h : Cmp op a b r)
    (ha : RepV B as fr a' a) (hb : RepV B as fr b' b) (hQ : Q (.bool r) s) : wpAny (model prog w) A (compareOp op a' b') Q E s := by
  cases h with
  | lt => obtain ⟨t, rfl⟩ := ha.int_inv; obtain ⟨u, rfl⟩ := hb.int_inv; exact lt_int hQ
  | le => obtain ⟨t, rfl⟩ := ha.int_inv; obtain ⟨u, rfl⟩ := hb.int_inv; exact le_int hQ
  | gt => obtain ⟨t, rfl⟩ := ha.int_inv; obtain ⟨u, rfl⟩ := hb.int_inv; exact gt_int hQ
  | ge => obtain ⟨t, rfl⟩ := ha.int_inv; obtain ⟨u, rfl⟩ := hb.int_inv; exact ge_int hQ
  | eq => obtain ⟨t, rfl⟩ := ha.int_inv; obtain ⟨u, rfl⟩ := hb.int_inv; exact eq_int hQ
  | ne => obtain ⟨t, rfl⟩ := ha.int_inv; obtain ⟨u, rfl⟩ := hb.int_inv; exact ne_int hQ
  | eqB => obtain ⟨t, rfl⟩ := ha.bytes_inv; obtain ⟨u, rfl⟩ := hb.bytes_inv; exact eq_bytes (by simpa using hQ)
  | neB => obtain ⟨t, rfl⟩ := ha.bytes_inv; obtain ⟨u, rfl⟩ := hb.bytes_inv; exact ne_bytes (by simpa using hQ)
  | is a b => cases ha.bool_inv; cases hb.bool_inv; exact wpAny_is_plain (by cases a <;> cases b <;> rfl) (by cases a <;> cases b <;> exact hQ)
  | isNot a b => cases ha.bool_inv; cases hb.bool_inv; exact wpAny_isNot_plain (by cases a <;> cases b <;> rfl) (by cases a <;> cases b <;> exact hQ)
  | isN a => cases ha.bool_inv; cases hb.none_inv; exact wpAny_is_plain (by cases a <;> rfl) (by cases a <;> exact hQ)
  | isNN => cases ha.none_inv; cases hb.none_inv; exact wpAny_is_plain rfl hQ
  | isNotN b => cases ha.none_inv; cases hb.bool_inv; exact wpAny_isNot_plain (by cases b <;> rfl) (by cases b <;> exact hQ)

theorem ev_cmp {l r : Expr} {op : CmpOp} {pos : Pos} (h : Ev c pl ρ σ l fun va σ1 => Ev c pl ρ σ1 r fun vb σ2 => ∃ x, Cmp op va vb x ∧ K (.bool x) σ2) (hm : behindInMarks op r = false := by with_unfolding_all rfl) :
    Ev c pl ρ σ (.Compare l [op] [r] pos) K := fun s as fr hid Q E G hQ => by
  refine wpAny_Compare1 (h _ _ _ _ _ _ G ?_) hm
  rintro h1 tk1 v1 as1 fr1 va σ1 hr x1 G1 r1
  refine hr _ _ _ _ _ _ G1 ?_
  rintro h2 tk2 v2 as2 fr2 vb σ2 ⟨x, hc, hk⟩ x2 G2 r2
  exact cmp_ok hc (r1.ext x2) r2 (hQ _ _ _ _ _ _ _ hk (x1.trans x2) G2 (Rep.bool _))
theorem et_cmp {K : Bool → List PO → Prop} {l r : Expr} {op : CmpOp} {pos : Pos} (h : Ev c pl ρ σ l fun va σ1 => Ev c pl ρ σ1 r fun vb σ2 => ∃ x, Cmp op va vb x ∧ K x σ2) (hm : behindInMarks op r = false := by with_unfolding_all rfl) :
    ET c pl ρ σ (.Compare l [op] [r] pos) K := fun s as fr hid Q E G hQ => by
  refine wpAny_isTrue_Compare1 (h _ _ _ _ _ _ G ?_) hm
  rintro h1 tk1 v1 as1 fr1 va σ1 hr x1 G1 r1
  refine hr _ _ _ _ _ _ G1 ?_
  rintro h2 tk2 v2 as2 fr2 vb σ2 ⟨x, hc, hk⟩ x2 G2 r2
  exact cmp_ok hc (r1.ext x2) r2 (wpAny_truthy_bool (hQ _ _ _ _ _ _ hk (x1.trans x2) G2))
theorem et_not {K : Bool → List PO → Prop} {e : Expr} {pos : Pos} (h : ET c pl ρ σ e fun b σ1 => K (!b) σ1) : ET c pl ρ σ (.UnaryOp .Not e pos) K := fun s as fr hid Q E G hQ =>
  isTrue_not (h _ _ _ _ _ _ G fun h' tk b as' fr' σ' k x G' => hQ _ _ _ _ _ _ k x G')
theorem et_bool {K : Bool → List PO → Prop} {op : BoolOp} {es : List Expr} {pos : Pos} (h : EB c pl ρ σ op es K) : ET c pl ρ σ (.BoolOp op es pos) K := fun s as fr hid Q E G hQ => h _ _ _ _ _ _ _ _ G hQ
theorem eb_and_nil {K : Bool → List PO → Prop} (h : K true σ) : EB c pl ρ σ .And [] K := fun whole pos s as fr hid Q E G hQ => isTrue_and_nil (hQ _ _ _ _ _ _ h (.refl _ _) G)
theorem eb_or_nil {K : Bool → List PO → Prop} (h : K false σ) : EB c pl ρ σ .Or [] K := fun whole pos s as fr hid Q E G hQ => isTrue_or_nil (hQ _ _ _ _ _ _ h (.refl _ _) G)
theorem eb_and {K : Bool → List PO → Prop} {e : Expr} {es : List Expr} (h : ET c pl ρ σ e fun b σ1 => if b then EB c pl ρ σ1 .And es K else K false σ1) : EB c pl ρ σ .And (e :: es) K := fun whole pos s as fr hid Q E G hQ => by
  refine isTrue_and (h _ _ _ _ _ _ G ?_)
  intro h1 tk1 b as1 fr1 σ1 hk x1 G1
  cases b with
  | true => exact hk _ _ _ _ _ _ _ _ G1 fun h' tk v' as' fr' σ' k x G' => hQ _ _ _ _ _ _ k (x1.trans x) G'
  | false => exact hQ _ _ _ _ _ _ hk x1 G1
theorem eb_or {K : Bool → List PO → Prop} {e : Expr} {es : List Expr} (h : ET c pl ρ σ e fun b σ1 => if b then K true σ1 else EB c pl ρ σ1 .Or es K) : EB c pl ρ σ .Or (e :: es) K := fun whole pos s as fr hid Q E G hQ => by
  refine isTrue_or (h _ _ _ _ _ _ G ?_)
  intro h1 tk1 b as1 fr1 σ1 hk x1 G1
  cases b with
  | false => exact hk _ _ _ _ _ _ _ _ G1 fun h' tk v' as' fr' σ' k x G' => hQ _ _ _ _ _ _ k (x1.trans x) G'
  | true => exact hQ _ _ _ _ _ _ hk x1 G1
/-- a test that is a value: bool or int -/
theorem et_val {K : Bool → List PO → Prop} {e : Expr} (h : Ev c pl ρ σ e fun v σ1 => (∃ b, v = .bool b ∧ K b σ1) ∨ (∃ i, v = .int i ∧ K (i != 0) σ1))
    (he : isTrue e pl.env (eval e pl.env) = (do let v ← eval e pl.env; standAt e.pos; holding [v] (truthy v)) := by rfl) : ET c pl ρ σ e K := fun s as fr hid Q E G hQ => by
  refine isTrue_plain (h _ _ _ _ _ _ G ?_) he
  rintro h1 tk1 v1 as1 fr1 v σ1 (⟨b, rfl, hk⟩ | ⟨i, rfl, hk⟩) x1 G1 r1
  · cases r1.bool_inv; exact wpAny_truthy_bool (hQ _ _ _ _ _ _ hk x1 G1)
  · obtain ⟨t, rfl⟩ := r1.int_inv; exact truthy_int (hQ _ _ _ _ _ _ hk x1 G1)
end

section
variable {c : Cx} {pl : Pl} {ρ : Loc} {σ : List PO}
theorem evs_nil {K : List V → List PO → Prop} (h : K [] σ) : Evs c pl ρ σ [] K := fun pos s as fr hid Q E G hQ => spliced_none (hQ _ _ _ _ _ _ _ h (.refl _ _) G rfl (fun i v' v h1 => by simp at h1))
theorem evs_cons {K : List V → List PO → Prop} {e : Expr} {es : List Expr} (h : Ev c pl ρ σ e fun v σ1 => Evs c pl ρ σ1 es fun vs σ2 => K (v :: vs) σ2)
    (he : starEach (e :: es) pl.env = (false, eval e pl.env) :: starEach es pl.env := by rfl) : Evs c pl ρ σ (e :: es) K := fun pos s as fr hid Q E G hQ => by
  refine spliced_more (h _ _ _ _ _ _ G ?_) he
  intro h1 tk1 v1 as1 fr1 v σ1 hk x1 G1 r1
  refine hk _ _ _ _ _ _ _ G1 ?_
  intro h2 tk2 vs2 as2 fr2 vs σ2 hk2 x2 G2 hl r2
  refine hQ _ _ _ _ _ _ _ hk2 (x1.trans x2) G2 (by simp [hl]) ?_
  intro i a d e1 e2
  cases i with
  | zero => simp at e1 e2; subst e1; subst e2; exact r1.ext x2
  | succ i => simp at e1 e2; exact r2 i a d e1 e2
end
end Mine

namespace Mine

def Ex1 (c : Cx) (pl : Pl) (ρ : Loc) (σ : List PO) (st : Stmt) (N : Loc → List PO → Prop) (R : V → List PO → Prop) : Prop :=
  ∀ (s : Shared) (as : List Addr) (fr hid : Led) (Q : Flow → Shared → Prop) (E : Value → Shared → Prop),
    Good c.B pl.h₀ pl.L s.heap as fr hid ρ σ →
    (∀ h' tk as' fr' ρ' σ', N ρ' σ' → Ext as as' fr fr' → Good c.B pl.h₀ pl.L h' as' fr' hid ρ' σ' → Q .next { s with heap := h', toks := tk }) →
    (∀ h' tk v' as' fr' ρ' v σ', R v σ' → Ext as as' fr fr' → Good c.B pl.h₀ pl.L h' as' fr' hid ρ' σ' → RepV c.B as' fr' v' v → Q (.ret v') { s with heap := h', toks := tk }) →
    wpAny (model c.prog c.w) pl.A (exec st pl.env) Q E s

def Ex (c : Cx) (pl : Pl) (ρ : Loc) (σ : List PO) (body : List Stmt) (N : Loc → List PO → Prop) (R : V → List PO → Prop) : Prop :=
  ∀ (s : Shared) (as : List Addr) (fr hid : Led) (Q : Flow → Shared → Prop) (E : Value → Shared → Prop),
    Good c.B pl.h₀ pl.L s.heap as fr hid ρ σ →
    (∀ h' tk as' fr' ρ' σ', N ρ' σ' → Ext as as' fr fr' → Good c.B pl.h₀ pl.L h' as' fr' hid ρ' σ' → Q .next { s with heap := h', toks := tk }) →
    (∀ h' tk v' as' fr' ρ' v σ', R v σ' → Ext as as' fr fr' → Good c.B pl.h₀ pl.L h' as' fr' hid ρ' σ' → RepV c.B as' fr' v' v → Q (.ret v') { s with heap := h', toks := tk }) →
    wpAny (model c.prog c.w) pl.A (execs body pl.env) Q E s

section
variable {c : Cx} {pl : Pl} {ρ : Loc} {σ : List PO} {N : Loc → List PO → Prop} {R : V → List PO → Prop}

theorem ex_nil (h : N ρ σ) : Ex c pl ρ σ [] N R := fun s as fr hid Q E G hN hR => wpAny_execs_nil (hN _ _ _ _ _ _ h (.refl _ _) G)
theorem ex_cons {st : Stmt} {rest : List Stmt} (h : Ex1 c pl ρ σ st (fun ρ' σ' => Ex c pl ρ' σ' rest N R) R) : Ex c pl ρ σ (st :: rest) N R := fun s as fr hid Q E G hN hR => by
  refine wpAny_execs_cons (h _ _ _ _ _ _ G ?_ ?_)
  · intro h' tk as' fr' ρ' σ' hk x G'
    exact hk _ _ _ _ _ _ G' (fun h'' tk as'' fr'' ρ'' σ'' n x' G'' => hN _ _ _ _ _ _ n (x.trans x') G'') (fun h'' tk v' as'' fr'' ρ'' v σ'' r x' G'' rv => hR _ _ _ _ _ _ _ _ r (x.trans x') G'' rv)
  · intro h' tk v' as' fr' ρ' v σ' r x G' rv
    exact hR _ _ _ _ _ _ _ _ r x G' rv
theorem Ex1.mono {st : Stmt} {N' : Loc → List PO → Prop} {R' : V → List PO → Prop} (h : Ex1 c pl ρ σ st N R) (hn : ∀ ρ' σ', N ρ' σ' → N' ρ' σ') (hr : ∀ v σ', R v σ' → R' v σ') : Ex1 c pl ρ σ st N' R' :=
  fun s as fr hid Q E G hN hR => h _ _ _ _ _ _ G (fun h' tk as' fr' ρ' σ' n => hN h' tk as' fr' ρ' σ' (hn _ _ n)) (fun h' tk v' as' fr' ρ' v σ' r => hR h' tk v' as' fr' ρ' v σ' (hr _ _ r))
theorem Ex.mono {body : List Stmt} {N' : Loc → List PO → Prop} {R' : V → List PO → Prop} (h : Ex c pl ρ σ body N R) (hn : ∀ ρ' σ', N ρ' σ' → N' ρ' σ') (hr : ∀ v σ', R v σ' → R' v σ') : Ex c pl ρ σ body N' R' :=
  fun s as fr hid Q E G hN hR => h _ _ _ _ _ _ G (fun h' tk as' fr' ρ' σ' n => hN h' tk as' fr' ρ' σ' (hn _ _ n)) (fun h' tk v' as' fr' ρ' v σ' r => hR h' tk v' as' fr' ρ' v σ' (hr _ _ r))
/-- forget names -/
theorem Ex.less {body : List Stmt} (ρ' : Loc) (h : Ex c pl ρ' σ body N R) (hl : ∀ x v, ρ'.lookup x = some v → ρ.lookup x = some v) : Ex c pl ρ σ body N R :=
  fun s as fr hid Q E G hN hR => h _ _ _ _ _ _ (G.less hl) hN hR

theorem st_ok {s : Shared} {as : List Addr} {fr hid : Led} {Q : Unit → Shared → Prop} {E : Value → Shared → Prop} {x : Str} {v' : Value} {v : V} (G : Good c.B pl.h₀ pl.L s.heap as fr hid ρ σ) (hv : RepV c.B as fr v' v)
    (hQ : ∀ h' tk, Good c.B pl.h₀ pl.L h' as fr hid ((x, v) :: ρ) σ → Q () { s with heap := h', toks := tk }) (hk : pl.cs.kind = .function) (hx : pl.env.kindOf x = some .local) :
    wpAny (model c.prog c.w) pl.A (storeName pl.env x v') Q E s := by
  obtain ⟨m, F, r⟩ := G.m
  exact wpAny_storeName_local hx F.ns (fun h' hn hs => hQ h' _ (G.store hv F.ns hn hs)) (by show (pl.cs.kind == .class || (pl.cs.kind == .module && pl.L != mainGlobals)) = false; rw [hk]; rfl)

theorem x_assign {x : Str} {pos' pos : Pos} {e : Expr} (h : Ev c pl ρ σ e fun v σ1 => N ((x, v) :: ρ) σ1) (hk : pl.cs.kind = .function := by rfl) (hx : pl.env.kindOf x = some .local := by rfl)
    (hs : swapsWith e (some (.Name x pos')) pos.line pl.env = pure false := by rfl) : Ex1 c pl ρ σ (.Assign [.Name x pos'] e pos) N R := fun s as fr hid Q E G hN hR => by
  refine wpAny_Assign_Name (h _ _ _ _ _ _ G ?_) hs
  intro h1 tk1 v1 as1 fr1 v σ1 hk1 x1 G1 r1
  exact st_ok G1 r1 (fun h' tk G' => hN _ _ _ _ _ _ hk1 x1 G') hk hx
theorem x_augInt {x : Str} {pos' pos : Pos} {op : Operator} {e : Expr} {a : Int} (hv : ρ.lookup x = some (.int a)) (hop : op = .Add)
    (h : Ev c pl ρ σ e fun v σ1 => ∃ b, v = .int b ∧ N ((x, .int (a + b)) :: ρ) σ1) (hk : pl.cs.kind = .function := by rfl) (hx : pl.env.kindOf x = some .local := by rfl) :
    Ex1 c pl ρ σ (.AugAssign (.Name x pos') op e pos) N R := fun s as fr hid Q E G hN hR => by
  subst hop
  obtain ⟨m, F, r⟩ := G.m
  obtain ⟨v', e', r'⟩ := r x _ hv
  obtain ⟨t, rfl⟩ := r'.int_inv
  refine wpAny_AugAssign_Name (wpAny_loadName_local (by exact hk) hx F.ns e' (h _ _ _ _ _ _ G ?_))
  rintro h1 tk1 v1 as1 fr1 v σ1 ⟨b, rfl, hk1⟩ x1 G1 r1
  obtain ⟨t1, rfl⟩ := r1.int_inv
  exact wpAny_iadd_int (st_ok (v := .int (a + b)) G1 (Rep.int _ _) (fun h' tk G' => hN _ _ _ _ _ _ hk1 x1 G') hk hx)
theorem x_if {test : Expr} {b1 b2 : List Stmt} {pos : Pos} (h : ET c pl ρ σ test fun b σ1 => if b then Ex c pl ρ σ1 b1 N R else Ex c pl ρ σ1 b2 N R) : Ex1 c pl ρ σ (.If test b1 b2 pos) N R := fun s as fr hid Q E G hN hR => by
  refine wpAny_If (h _ _ _ _ _ _ G ?_)
  intro h1 tk1 b as1 fr1 σ1 hk x1 G1
  cases b with
  | true => exact hk _ _ _ _ _ _ G1 (fun h'' tk as'' fr'' ρ'' σ'' n x' G'' => hN _ _ _ _ _ _ n (x1.trans x') G'') (fun h'' tk v' as'' fr'' ρ'' v σ'' r x' G'' rv => hR _ _ _ _ _ _ _ _ r (x1.trans x') G'' rv)
  | false => exact hk _ _ _ _ _ _ G1 (fun h'' tk as'' fr'' ρ'' σ'' n x' G'' => hN _ _ _ _ _ _ n (x1.trans x') G'') (fun h'' tk v' as'' fr'' ρ'' v σ'' r x' G'' rv => hR _ _ _ _ _ _ _ _ r (x1.trans x') G'' rv)
theorem x_ret {e : Expr} {pos : Pos} (h : Ev c pl ρ σ e R) : Ex1 c pl ρ σ (.Return (some e) pos) N R := fun s as fr hid Q E G hN hR =>
  wpAny_Return_some (h _ _ _ _ _ _ G fun h1 tk1 v1 as1 fr1 v σ1 hk x1 G1 r1 => hR _ _ _ _ _ _ _ _ hk x1 G1 r1)

theorem x_while {test : Expr} {body : List Stmt} {pos : Pos} (I : Nat → Loc → List PO → Prop)
    (turn : ∀ n ρ' σ', I n ρ' σ' → ET c pl ρ' σ' test fun b σ1 => if b then Ex c pl ρ' σ1 body (fun ρ2 σ2 => ∃ m, m < n ∧ I m ρ2 σ2) R else N ρ' σ1)
    (n : Nat) (h : I n ρ σ) : Ex1 c pl ρ σ (.While test body [] pos) N R := fun s as fr hid Q E G hN hR => by
  refine wpAny_While (codeAny_whileLoop (fun n s' => ∃ h' tk as' fr' ρ' σ', s' = { s with heap := h', toks := tk } ∧ I n ρ' σ' ∧ Ext as as' fr fr' ∧ Good c.B pl.h₀ pl.L h' as' fr' hid ρ' σ') ?_ n ⟨_, _, _, _, _, _, rfl, h, .refl _ _, G⟩)
  rintro n s' ⟨h', tk, as', fr', ρ', σ', rfl, hI, x, G'⟩
  refine turn n ρ' σ' hI _ _ _ _ _ _ G' ?_
  intro h1 tk1 b as1 fr1 σ1 hk x1 G1
  cases b with
  | true =>
    refine hk _ _ _ _ _ _ G1 ?_ ?_
    · rintro h2 tk2 as2 fr2 ρ2 σ2 ⟨m, hm, hI2⟩ x2 G2
      exact ⟨m, hm, h2, tk2, as2, fr2, ρ2, σ2, rfl, hI2, (x.trans x1).trans x2, G2⟩
    · intro h2 tk2 v2 as2 fr2 ρ2 v σ2 r x2 G2 rv
      exact hR _ _ _ _ _ _ _ _ r ((x.trans x1).trans x2) G2 rv
  | false => exact wpAny_execs_nil (hN _ _ _ _ _ _ hk (x.trans x1) G1)
end

section
variable {c : Cx} {pl : Pl} {ρ : Loc} {σ : List PO} {N : Loc → List PO → Prop} {R : V → List PO → Prop}

/-- the iterator goes to what is kept hidden -/
theorem Good.hide {B h₀ h h' : Heap} {L : Addr} {as : List Addr} {fr hid : Led} {ρ : Loc} {σ : List PO} (G : Good B h₀ L h as fr hid ρ σ) (hk : ∀ b o, h.get? b = some o → h'.get? b = some o) {a : Addr} {o : Obj} (ha : h.get? a = none) (ho : h'.get? a = some o) :
    Good B h₀ L h' as fr ((a, o) :: hid) ρ σ := by
  obtain ⟨f1, f2, f3, f4⟩ := G.fresh ha
  have G' := G.keep hk
  refine ⟨G'.m, ?_, ?_, G'.len, G'.nodup, ?_, G'.muts⟩
  · intro p hp
    rcases List.mem_append.mp hp with hp | hp
    · exact G'.news p (List.mem_append_left _ hp)
    · rcases List.mem_cons.mp hp with rfl | hp
      · exact ⟨ho, f1, f2⟩
      · exact G'.news p (List.mem_append_right _ hp)
  · intro p hp q hq
    rcases List.mem_cons.mp hq with rfl | hq
    · exact f3 p (List.mem_append_left _ hp)
    · exact G.sep p hp q hq
  · intro b hb
    refine ⟨(G.off b hb).1, (G.off b hb).2.1, fun p hp => ?_⟩
    rcases List.mem_append.mp hp with hp | hp
    · exact (G.off b hb).2.2 p (List.mem_append_left _ hp)
    · rcases List.mem_cons.mp hp with rfl | hp
      · rintro rfl; exact f4 hb
      · exact (G.off b hb).2.2 p (List.mem_append_right _ hp)
theorem Good.unhide {B h₀ h : Heap} {L : Addr} {as : List Addr} {fr hid : Led} {ρ : Loc} {σ : List PO} {p : Addr × Obj} (G : Good B h₀ L h as fr (p :: hid) ρ σ) : Good B h₀ L h as fr hid ρ σ :=
  ⟨G.m, fun q hq => G.news q ((List.mem_append.mp hq).elim (fun h => List.mem_append_left _ h) fun h => List.mem_append_right _ (List.mem_cons_of_mem _ h)), fun a ha b hb => G.sep a ha b (List.mem_cons_of_mem _ hb), G.len, G.nodup,
    fun a ha => ⟨(G.off a ha).1, (G.off a ha).2.1, fun q hq => (G.off a ha).2.2 q ((List.mem_append.mp hq).elim (fun h => List.mem_append_left _ h) fun h => List.mem_append_right _ (List.mem_cons_of_mem _ h))⟩, G.muts⟩
/-- a hidden object turned -/
theorem Good.turnHid {B h₀ h h' : Heap} {L : Addr} {as : List Addr} {fr hid : Led} {ρ : Loc} {σ : List PO} {I : Addr} {o o' : Obj} (G : Good B h₀ L h as fr ((I, o) :: hid) ρ σ) (hI : ∀ p ∈ hid, p.1 ≠ I)
    (hk : ∀ b o, b ≠ I → h.get? b = some o → h'.get? b = some o) (ho : h'.get? I = some o') : Good B h₀ L h' as fr ((I, o') :: hid) ρ σ := by
  have hL : I ≠ L ∧ h₀.get? I = none := (G.news (I, o) (List.mem_append_right _ (.head _))).2
  refine ⟨?_, ?_, ?_, G.len, G.nodup, ?_, ?_⟩
  · obtain ⟨m, F, r⟩ := G.m
    refine ⟨m, ⟨F.ns.at' fun o e => hk _ o (Ne.symm hL.1) e, fun b o e => hk b o ?_ (F.keep b o e), F.above⟩, r⟩
    rintro rfl; rw [hL.2] at e; cases e
  · intro p hp
    rcases List.mem_append.mp hp with hp | hp
    · exact ⟨hk _ _ (G.sep p hp _ (.head _)) (G.news p (List.mem_append_left _ hp)).1, (G.news p (List.mem_append_left _ hp)).2⟩
    · rcases List.mem_cons.mp hp with rfl | hp
      · exact ⟨ho, hL⟩
      · have := G.news p (List.mem_append_right _ (List.mem_cons_of_mem _ hp))
        exact ⟨hk _ _ (hI p hp) this.1, this.2⟩
  · intro p hp q hq
    rcases List.mem_cons.mp hq with rfl | hq
    · exact G.sep p hp (I, o) (.head _)
    · exact G.sep p hp q (List.mem_cons_of_mem _ hq)
  · intro a ha
    refine ⟨(G.off a ha).1, (G.off a ha).2.1, fun p hp => ?_⟩
    rcases List.mem_append.mp hp with hp | hp
    · exact (G.off a ha).2.2 p (List.mem_append_left _ hp)
    · rcases List.mem_cons.mp hp with rfl | hp
      · exact (G.off a ha).2.2 (I, o) (List.mem_append_right _ (.head _))
      · exact (G.off a ha).2.2 p (List.mem_append_right _ (List.mem_cons_of_mem _ hp))
  · intro n a po h1 h2
    have r := G.muts n a po h1 h2
    obtain ⟨x, hx⟩ := r.some
    have ha : a ≠ I := fun e => (G.off a (List.mem_of_getElem? h1)).2.2 (I, o) (List.mem_append_right _ (.head _)) e.symm
    rw [hk a x ha hx]; rw [hx] at r; exact r

/-- the loop over whatever walks, its iterator the one object that it writes -/
theorem for_walk {x : Str} {px : Pos} {body : List Stmt} {I : Addr} {n : Nat} {P : Nat → Value → Prop} {St : Nat → Heap → Prop} {fp : List Addr} {s : Shared} {as : List Addr} {fr hid : Led} {Res : Result → Shared → Prop} {itm : Nat → V}
    (W : Walks c.prog c.w pl.A I fp [I] n P St) (hst : St 0 s.heap) (hget : ∀ i h, St i h → ∃ o, h.get? I = some o) (hid0 : ∀ p ∈ hid, p.1 ≠ I)
    (hfp : ∀ b ∈ fp, b = I ∨ (∃ o, (b, o) ∈ fr) ∨ (∃ o, pl.h₀.get? b = some o))
    {o₀ : Obj} (G : Good c.B pl.h₀ pl.L s.heap as fr ((I, o₀) :: hid) ρ σ)
    (J : Nat → Loc → List PO → Prop) (h0 : J 0 ρ σ) (hitm : ∀ i v, i < n → P i v → Rep c.B fr v (itm i))
    (turn : ∀ i ρ' σ', i < n → J i ρ' σ' → Ex c pl ((x, itm i) :: ρ') σ' body (J (i + 1)) R)
    (hN : ∀ h' tk as' fr' ρ' σ', J n ρ' σ' → Ext as as' fr fr' → Good c.B pl.h₀ pl.L h' as' fr' hid ρ' σ' → Res (.ok .next) { s with heap := h', toks := tk })
    (hR : ∀ h' tk v' as' fr' ρ' v σ', R v σ' → Ext as as' fr fr' → Good c.B pl.h₀ pl.L h' as' fr' hid ρ' σ' → RepV c.B as' fr' v' v → Res (.ok (.ret v')) { s with heap := h', toks := tk })
    (hk : pl.cs.kind = .function) (hx : pl.env.kindOf x = some .local) :
    codeAny (model c.prog c.w) pl.A (.forLoop (.Name x px) (.ref I) body [] pl.env) Res s := by
  refine codeAny_forLoop (fun k s' => ∃ h' tk as' fr' ρ' σ' i o, s' = { s with heap := h', toks := tk } ∧ St i h' ∧ J i ρ' σ' ∧ Ext as as' fr fr' ∧ Good c.B pl.h₀ pl.L h' as' fr' ((I, o) :: hid) ρ' σ' ∧ i ≤ n ∧ k = n + 1 - i) ?_ (n + 1)
    ⟨_, _, _, _, _, _, 0, o₀, rfl, hst, h0, .refl _ _, G, Nat.zero_le _, rfl⟩
  rintro k s' ⟨h', tk, as', fr', ρ', σ', i, o, rfl, hst', hJ, x', G', hi, rfl⟩
  by_cases hlt : i < n
  · refine W.item i _ _ _ hlt hst' fun v h₁ tk₁ hP hst₁ hk₁ => ?_
    obtain ⟨o₁, ho₁⟩ := hget _ _ hst₁
    have G₁ := G'.turnHid hid0 (fun b o hb e => hk₁ b o (by simpa using hb) e) ho₁
    refine wpAny_assign_Name (st_ok G₁ ((hitm i v hlt hP).mono x'.fr).toV (fun h₂ tk₂ G₂ => ?_) hk hx)
    refine turn i ρ' σ' hlt hJ _ _ _ _ _ _ G₂ ?_ ?_
    · intro h₃ tk₃ as₃ fr₃ ρ₃ σ₃ hJ₃ x₃ G₃
      refine ⟨n + 1 - (i + 1), by omega, h₃, tk₃, as₃, fr₃, ρ₃, σ₃, i + 1, o₁, rfl, ?_, hJ₃, x'.trans x₃, G₃, hlt, rfl⟩
      refine W.frame _ _ _ hst₁ fun b hb o' e => ?_
      rcases hfp b hb with rfl | ⟨oo, hb'⟩ | ⟨oo, hb'⟩
      · rw [ho₁] at e; cases e
        exact (G₃.news _ (List.mem_append_right _ (.head _))).1
      · have e1 := (G₁.news (b, oo) (List.mem_append_left _ (x'.fr _ hb'))).1
        rw [e] at e1; cases e1
        exact (G₃.news (b, oo) (List.mem_append_left _ ((x'.trans x₃).fr _ hb'))).1
      · have e1 := G₁.old b oo hb'
        rw [e] at e1; cases e1
        exact G₃.old b _ hb'
    · intro h₃ tk₃ v₃ as₃ fr₃ ρ₃ v σ₃ r x₃ G₃ rv
      exact hR _ _ _ _ _ _ _ _ r (x'.trans x₃) G₃.unhide rv
  · have hin : i = n := by omega
    subst hin
    refine W.done _ _ _ hst' fun h₁ tk₁ hk₁ => wpAny_execs_nil ?_
    have G₁ : Good c.B pl.h₀ pl.L h₁ as' fr' hid ρ' σ' := by
      have hL : I ≠ pl.L ∧ pl.h₀.get? I = none := (G'.news (I, o) (List.mem_append_right _ (.head _))).2
      have hkk : ∀ b o, b ≠ I → h'.get? b = some o → h₁.get? b = some o := fun b o hb e => hk₁ b o (by simpa using hb) e
      refine ⟨?_, ?_, G'.unhide.sep, G'.len, G'.nodup, G'.unhide.off, ?_⟩
      · obtain ⟨m, F, r⟩ := G'.m
        refine ⟨m, ⟨F.ns.at' fun o e => hkk _ o (Ne.symm hL.1) e, fun b o e => hkk b o ?_ (F.keep b o e), F.above⟩, r⟩
        rintro rfl; rw [hL.2] at e; cases e
      · intro p hp
        have q := G'.unhide.news p hp
        refine ⟨hkk _ _ ?_ q.1, q.2⟩
        rcases List.mem_append.mp hp with hp | hp
        · exact G'.sep p hp _ (.head _)
        · exact hid0 p hp
      · intro k a po h1 h2
        have r := G'.muts k a po h1 h2
        obtain ⟨x, hx⟩ := r.some
        have ha : a ≠ I := fun e => (G'.off a (List.mem_of_getElem? h1)).2.2 (I, o) (List.mem_append_right _ (.head _)) e.symm
        rw [hkk a x ha hx]; rw [hx] at r; exact r
    exact hN _ _ _ _ _ _ hJ x' G₁

theorem push_keep (h : Heap) (o : Obj) : ∀ b o', h.get? b = some o' → (h.push o).get? b = some o' := fun b o' e => Heap.get?_push_of_some _ e
theorem push_none (h : Heap) : h.get? h.objs.size = none := Heap.get?_none_of_le (Nat.le_refl _)

theorem x_forList {n : Nat} (H : Amb c pl n) {x : Str} {px pos : Pos} {iter : Expr} {body : List Stmt} (J : Nat → Loc → List PO → Prop)
    (h : Ev c pl ρ σ iter fun v σ1 => ∃ vs, v = .list vs ∧ J 0 ρ σ1 ∧ (∀ i d ρ' σ', vs[i]? = some d → J i ρ' σ' → Ex c pl ((x, d) :: ρ') σ' body (J (i + 1)) R) ∧ ∀ ρ' σ', J vs.length ρ' σ' → N ρ' σ')
    (hx : pl.env.kindOf x = some .local := by rfl) (hs : ∀ x, foldedSetIterable iter pl.env x = pure x := by intro _; rfl) : Ex1 c pl ρ σ (.For (.Name x px) iter body [] pos) N R := fun s as fr hid Q E G hN hR => by
  refine wpAny_For (h _ _ _ _ _ _ G ?_) hs
  rintro h1 tk1 v1 as1 fr1 v σ1 ⟨vs, rfl, hj, turn, hd⟩ x1 G1 r1
  obtain ⟨l, xs, ep, rfl, hm, rl⟩ := r1.list_inv
  have hl : h1.IsList l xs.toArray := ⟨_, (G1.news _ (List.mem_append_left _ hm)).1, rfl, ep, rfl⟩
  refine wpAny_pyIter_list hl ?_
  have hne : l ≠ h1.objs.size := by rintro rfl; obtain ⟨o, ho, _⟩ := hl; rw [push_none] at ho; cases ho
  have W := Walks.list (prog := c.prog) (w := c.w) H.hand h1.objs.size l hne xs.toArray
  have G2 := G1.hide (push_keep h1 _) (push_none h1) (Heap.get?_push_size h1 (o := { cls := .type "list_iterator", data := .fields #[.ref l, .int 0 0] }) rfl)
  have hsz : xs.toArray.size = vs.length := by simp [rl.1]
  rw [hsz] at W
  refine for_walk (R := R) (itm := fun i => (vs[i]?).getD .none) W ⟨⟨_, Heap.get?_push_size _ rfl, rfl, rfl⟩, hl.push _⟩ (fun i h st => let ⟨o, ho, _⟩ := st.1; ⟨o, ho⟩) ?_ ?_ G2 J hj ?_ ?_ ?_ ?_ H.kind hx
  · intro p hp e
    have := (G1.news p (List.mem_append_right _ hp)).1
    rw [e, push_none] at this; cases this
  · intro b hb
    rcases List.mem_cons.mp hb with rfl | hb
    · exact .inl rfl
    · rw [List.mem_singleton.mp hb]; exact .inr (.inl ⟨_, hm⟩)
  · intro i v hi hP
    have e : vs[i]? = some vs[i] := List.getElem?_eq_getElem hi
    rw [e]
    exact rl.2 i v _ (by simpa using hP) e
  · intro i ρ' σ' hi hJ
    have e : vs[i]? = some vs[i] := List.getElem?_eq_getElem hi
    rw [e]
    exact turn i _ ρ' σ' e hJ
  · intro h' tk as' fr' ρ' σ' hJ x' G'
    exact hN _ _ _ _ _ _ (hd ρ' σ' hJ) (x1.trans x') G'
  · intro h' tk v' as' fr' ρ' v σ' r x' G' rv
    exact hR _ _ _ _ _ _ _ _ r (x1.trans x') G' rv

theorem x_forRange {n : Nat} (H : Amb c pl n) {x : Str} {px pos : Pos} {iter : Expr} {body : List Stmt} (J : Nat → Loc → List PO → Prop)
    (h : Ev c pl ρ σ iter fun v σ1 => ∃ a b st k, v = .rng a b st ∧ Builtin.Range.small a b st = true ∧ Builtin.Range.rangeSize a b st = ((k : Nat) : Int) ∧ J 0 ρ σ1 ∧
      (∀ i ρ' σ', i < k → J i ρ' σ' → Ex c pl ((x, .int (a + i * st)) :: ρ') σ' body (J (i + 1)) R) ∧ ∀ ρ' σ', J k ρ' σ' → N ρ' σ')
    (hx : pl.env.kindOf x = some .local := by rfl) (hs : ∀ x, foldedSetIterable iter pl.env x = pure x := by intro _; rfl) : Ex1 c pl ρ σ (.For (.Name x px) iter body [] pos) N R := fun s as fr hid Q E G hN hR => by
  refine wpAny_For (h _ _ _ _ _ _ G ?_) hs
  rintro h1 tk1 v1 as1 fr1 v σ1 ⟨a, b, st, k, rfl, hsm, hk, hj, turn, hd⟩ x1 G1 r1
  obtain ⟨r, t, u, w, rfl, hm⟩ := r1.rng_inv
  refine wpAny_pyIter_range (G1.news _ (List.mem_append_left _ hm)).1 hsm ?_
  rw [hk]
  have W := Walks.range (prog := c.prog) (w := c.w) H.hand h1.objs.size a st k
  have G2 := G1.hide (push_keep h1 _) (push_none h1) (Heap.get?_push_size h1 (o := { cls := .type "range_iterator", data := .fields #[rawInt a, rawInt k, rawInt st] }) rfl)
  refine for_walk (R := R) (itm := fun i => .int (a + i * st)) W ?_ (fun i h st => ⟨_, st⟩) ?_ ?_ G2 J hj ?_ ?_ ?_ ?_ H.kind hx
  · show (h1.push _).get? _ = _
    rw [Heap.get?_push_size _ rfl]; simp
  · intro p hp e
    have := (G1.news p (List.mem_append_right _ hp)).1
    rw [e, push_none] at this; cases this
  · intro b hb
    exact .inl (List.mem_singleton.mp hb)
  · rintro i v hi ⟨t, rfl⟩
    exact .int _ _
  · exact turn
  · intro h' tk as' fr' ρ' σ' hJ x' G'
    exact hN _ _ _ _ _ _ (hd ρ' σ' hJ) (x1.trans x') G'
  · intro h' tk v' as' fr' ρ' v σ' r x' G' rv
    exact hR _ _ _ _ _ _ _ _ r (x1.trans x') G' rv
end
end Mine

namespace Mine

/-- what a call of f with these arguments gives back; nothing that stood is changed -/
def Fn (c : Cx) (k : Nat) (f : Addr) (args : List V) (P : V → Prop) : Prop :=
  ∀ (pl : Pl) (ρ : Loc) (σ : List PO), Amb c pl k → ∀ (s : Shared) (as : List Addr) (fr hid : Led) (Q : Value → Shared → Prop) (E : Value → Shared → Prop) (args' : List Value),
    Good c.B pl.h₀ pl.L s.heap as fr hid ρ σ → RepL c.B fr args' args →
    (∀ h' tk v' fr' v, P v → (∀ p ∈ fr, p ∈ fr') → Good c.B pl.h₀ pl.L h' as fr' hid ρ σ → Rep c.B fr' v' v → Q v' { s with heap := h', toks := tk }) →
    wpAny (model c.prog c.w) pl.A (call (.ref f) args') Q E s

theorem Fn.mono {c : Cx} {k : Nat} {f : Addr} {args : List V} {P P' : V → Prop} (h : Fn c k f args P) (hp : ∀ v, P v → P' v) : Fn c k f args P' :=
  fun pl ρ σ H s as fr hid Q E args' G r hQ => h pl ρ σ H s as fr hid Q E args' G r fun h' tk v' fr' v p => hQ h' tk v' fr' v (hp v p)

def mutLed (h : Heap) (as : List Addr) : Led := as.filterMap fun a => (h.get? a).map fun o => (a, o)
theorem mem_mutLed {h : Heap} {as : List Addr} {p : Addr × Obj} : p ∈ mutLed h as ↔ p.1 ∈ as ∧ h.get? p.1 = some p.2 := by
  unfold mutLed
  rw [List.mem_filterMap]
  constructor
  · rintro ⟨a, ha, e⟩
    cases q : h.get? a with
    | none => rw [q] at e; cases e
    | some o => rw [q] at e; cases e; exact ⟨ha, q⟩
  · rintro ⟨ha, e⟩
    exact ⟨p.1, ha, by rw [e]; rfl⟩

/-- the answer, where a mutable list of the callee's own is handed on -/
def RetOk (P : V → Prop) (v : V) (σ : List PO) : Prop :=
  match v with
  | .ref n => ∃ vs, σ[n]? = some (.list vs) ∧ P (.list vs)
  | v => P v

section
variable {c : Cx} {k : Nat} {f : Addr} {args : List V} {P : V → Prop}

theorem fn_intro {name qual : Str} {params : Arguments} {body : List Stmt} {scope : Scope} {dV kV doc pm cdv ct oc : Value} {an od : Option Addr} {osl : Array (Option Value)} {ρ₀ : Loc} (bs : List Value → List (Str × Value))
    (ho : c.K.lookup f = some ⟨oc, od, .func (fnX name qual params body scope [] dV kV doc pm an cdv ct), osl⟩) (hcd : codeIn c.K cdv qual = true)
    (hbind : ∀ s (xs : List Value), xs.length = args.length → BindsTo s (fnX name qual params body scope [] dV kV doc pm an cdv ct) ⟨xs, []⟩ (bs xs))
    (hloc : ∀ xs : List Value, xs.length = args.length → ∀ y ∈ bs xs, scope.names.lookup y.1 = some .local)
    (hrep : ∀ (fr : Led) (xs : List Value), RepL c.B fr xs args → ∀ x v, ρ₀.lookup x = some v → ∃ v', (bs xs).reverse.lookup x = some v' ∧ RepV c.B [] fr v' v)
    (hbody : ∀ A L g, Amb c ⟨A, qual, scope, L, f, cdv, [], g⟩ k → Ex c ⟨A, qual, scope, L, f, cdv, [], g⟩ ρ₀ [] body (fun _ _ => False) (RetOk P))
    (hcell : ∀ x ∈ scope.names, x.2 ≠ .cell) (hco : scope.isCoroutine = false := by rfl) (hgen : scope.isGenerator = false := by rfl) (hk : scope.kind = .function := by rfl) : Fn c (k + 1) f args P := by
  intro pl ρ σ H s as fr hid Q E args' G ra hQ
  obtain ⟨m, F, rm⟩ := G.m
  obtain ⟨A₀, base, outer, B, hA⟩ := H.below
  have hN : News pl.h₀ pl.L s.heap (fr ++ (mutLed s.heap as ++ hid)) := by
    intro p hp
    rcases List.mem_append.mp hp with hp | hp
    · exact G.news p (List.mem_append_left _ hp)
    · rcases List.mem_append.mp hp with hp | hp
      · obtain ⟨h1, h2⟩ := mem_mutLed.mp hp
        exact ⟨h2, (G.off _ h1).1, (G.off _ h1).2.1⟩
      · exact G.news p (List.mem_append_right _ hp)
  have XK : c.K.In s.heap := H.inK.keeps F.keep
  refine wpAny_call (callX_plain (cl := []) B F hN H.top.nolimit hA rfl H.kind (XK _ _ ho) rfl (codeRec_of XK hcd) (by have := H.room; simp only [recursionLimit]; omega) (hbind s args' ra.1) (hloc args' ra.1) ?_ hcell hco hgen hk)
  intro g L' h₁ Fg F' N' B' st _
  have H' : Amb c ⟨pl.A.deeper (envX qual scope L' f cdv []), qual, scope, L', f, cdv, [], g⟩ k :=
    ⟨⟨_, _, _, B', Around.frames_deeper hA⟩, fun b o e => st b o (H.base b o e), H.inK.keeps st, H.top.keeps st, hk, H.hand, by have := H.room; simp only [Around.deeper]; omega, by have := H.units; simp only [Around.deeper]; omega⟩
  have G' : Good c.B g L' h₁ [] fr (mutLed s.heap as ++ hid) ρ₀ [] := by
    refine ⟨⟨_, F', fun x v e => hrep fr args' ra x v e⟩, N', ?_, rfl, List.nodup_nil, (fun a ha => by cases ha), (fun n a o h1 => by simp at h1)⟩
    intro p hp q hq
    rcases List.mem_append.mp hq with hq | hq
    · exact (G.off _ (mem_mutLed.mp hq).1).2.2 p (List.mem_append_left _ hp)
    · exact G.sep p hp q hq
  refine hbody _ L' g H' _ _ _ _ _ _ G' (fun _ _ _ _ _ _ hf => hf.elim) ?_
  intro h' tk v' as' fr' ρ' v σ' hr x' G2 rv
  obtain ⟨m2, F2, _⟩ := G2.m
  -- what the callee leaves
  have done : ∀ (fr2 : Led) (u : V), P u → (∀ p ∈ fr', p ∈ fr2) → Rep c.B fr2 v' u → (∀ p ∈ fr2, p ∈ fr' ∨ p ∈ mutLed h' as') → LeaveK pl.h₀ pl.L m g (fun r s' => match r with | .ok (.ret v) => Q v s' | .ok _ => False | .error e => E e s') v' { s with heap := h', toks := tk } := by
    intro fr2 u hP hsub hRep hin
    refine ⟨L', m2, (fr' ++ (mutLed s.heap as ++ hid)) ++ mutLed h' as', F2, ?_, fun Fc Nc => ?_⟩
    · intro p hp
      rcases List.mem_append.mp hp with hp | hp
      · exact G2.news p hp
      · obtain ⟨h1, h2⟩ := mem_mutLed.mp hp
        exact ⟨h2, (G2.off _ h1).1, (G2.off _ h1).2.1⟩
    · have hfr : ∀ p ∈ fr, p ∈ fr2 := fun p hp => hsub p (x'.fr p hp)
      have offMut : ∀ a ∈ as, ∀ p ∈ fr2, p.1 ≠ a := by
        intro a ha p hp e
        obtain ⟨o, ho⟩ := G.mutAt ha
        have hm : (a, o) ∈ mutLed s.heap as := mem_mutLed.mpr ⟨ha, ho⟩
        rcases hin p hp with hp | hp
        · exact G2.sep p hp (a, o) (List.mem_append_left _ hm) e
        · exact (G2.off _ (mem_mutLed.mp hp).1).2.2 (a, o) (List.mem_append_right _ (List.mem_append_left _ hm)) e.symm
      refine hQ h' tk v' fr2 u hP hfr ⟨⟨m, Fc, fun x v e => ?_⟩, ?_, ?_, G.len, G.nodup, ?_, ?_⟩ hRep
      · obtain ⟨w', e1, e2⟩ := rm x v e
        exact ⟨w', e1, e2.ext ⟨fun _ _ h => h, hfr⟩⟩
      · intro p hp
        rcases List.mem_append.mp hp with hp | hp
        · rcases hin p hp with hp | hp
          · exact Nc p (List.mem_append_left _ (List.mem_append_left _ hp))
          · exact Nc p (List.mem_append_right _ hp)
        · exact Nc p (List.mem_append_left _ (List.mem_append_right _ (List.mem_append_right _ hp)))
      · intro p hp q hq
        rcases hin p hp with hp | hp
        · exact G2.sep p hp q (List.mem_append_right _ hq)
        · exact fun e => (G2.off _ (mem_mutLed.mp hp).1).2.2 q (List.mem_append_right _ (List.mem_append_right _ hq)) e.symm
      · intro a ha
        refine ⟨(G.off a ha).1, (G.off a ha).2.1, fun p hp => ?_⟩
        rcases List.mem_append.mp hp with hp | hp
        · exact offMut a ha p hp
        · exact (G.off a ha).2.2 p (List.mem_append_right _ hp)
      · intro n a o h1 h2
        have r := G.muts n a o h1 h2
        obtain ⟨x, hx⟩ := r.some
        have hm : (a, x) ∈ mutLed s.heap as := mem_mutLed.mpr ⟨List.mem_of_getElem? h1, hx⟩
        have e : h'.get? a = some x := (Nc (a, x) (List.mem_append_left _ (List.mem_append_right _ (List.mem_append_left _ hm)))).1
        rw [e]; rw [hx] at r; exact r.mono hfr
  cases v with
  | ref n =>
    obtain ⟨vs, hσ, hP⟩ := hr
    obtain ⟨a, ha, rfl⟩ := rv
    obtain ⟨xs, ep, hx, rl⟩ := G2.muts n a _ ha hσ
    have hm : (a, lobj xs ep) ∈ mutLed h' as' := mem_mutLed.mpr ⟨List.mem_of_getElem? ha, hx⟩
    refine done ((a, lobj xs ep) :: fr') (.list vs) hP (fun p hp => List.mem_cons_of_mem _ hp) (.list a xs ep vs (.head _) rl.1 fun i v d h1 h2 => (rl.2 i v d h1 h2).mono fun p hp => List.mem_cons_of_mem _ hp) ?_
    intro p hp
    rcases List.mem_cons.mp hp with rfl | hp
    · exact .inr hm
    · exact .inl hp
  | none => exact done fr' _ hr (fun p hp => hp) rv fun p hp => .inl hp
  | bool => exact done fr' _ hr (fun p hp => hp) rv fun p hp => .inl hp
  | int => exact done fr' _ hr (fun p hp => hp) rv fun p hp => .inl hp
  | bytes => exact done fr' _ hr (fun p hp => hp) rv fun p hp => .inl hp
  | list => exact done fr' _ hr (fun p hp => hp) rv fun p hp => .inl hp
  | tup => exact done fr' _ hr (fun p hp => hp) rv fun p hp => .inl hp
  | arg => exact done fr' _ hr (fun p hp => hp) rv fun p hp => .inl hp
  | rng => exact done fr' _ hr (fun p hp => hp) rv fun p hp => .inl hp

/-- one parameter -/
theorem fn_one {x : Str} {v : V} {name qual : Str} {params : Arguments} {body : List Stmt} {scope : Scope} {dV kV doc pm cdv ct oc : Value} {an od : Option Addr} {osl : Array (Option Value)}
    (ho : c.K.lookup f = some ⟨oc, od, .func (fnX name qual params body scope [] dV kV doc pm an cdv ct), osl⟩) (hcd : codeIn c.K cdv qual = true)
    (hbind : ∀ y : Value, bindArgs (fnX name qual params body scope [] dV kV doc pm an cdv ct) ⟨[y], []⟩ = pure [(x, y)])
    (hloc : scope.names.lookup x = some .local)
    (hbody : ∀ A L g, Amb c ⟨A, qual, scope, L, f, cdv, [], g⟩ k → Ex c ⟨A, qual, scope, L, f, cdv, [], g⟩ [(x, v)] [] body (fun _ _ => False) (RetOk P))
    (hv : ∀ n, v ≠ .ref n)
    (hcell : (scope.names.all fun x => x.2 != .cell) = true) (hco : scope.isCoroutine = false := by rfl) (hgen : scope.isGenerator = false := by rfl) (hk : scope.kind = .function := by rfl) : Fn c (k + 1) f [v] P := by
  refine fn_intro (fun xs => match xs with | [y] => [(x, y)] | _ => []) ho hcd ?_ ?_ ?_ hbody ?_ hco hgen hk
  · intro s xs hl
    match xs, hl with
    | [y], _ => exact BindsTo.of_eq (hbind y)
  · intro xs hl y hy
    match xs, hl with
    | [z], _ => rw [List.mem_singleton.mp hy]; exact hloc
  · intro fr xs r y w e
    obtain ⟨z, zs, rfl, r1, r2⟩ := r.inv_cons
    cases r2.inv_nil
    rw [List.lookup_cons] at e
    by_cases q : (y == x) = true
    · rw [q] at e
      cases e
      exact ⟨z, by show List.lookup y [(x, z)] = _; rw [List.lookup_cons, q], r1.toV⟩
    · rw [Bool.not_eq_true] at q
      rw [q] at e; cases e
  · intro y hy e
    have := List.all_eq_true.mp hcell y hy
    rw [e] at this; exact absurd this (by decide)
/-- two parameters -/
theorem fn_two {x₁ x₂ : Str} {v₁ v₂ : V} {name qual : Str} {params : Arguments} {body : List Stmt} {scope : Scope} {dV kV doc pm cdv ct oc : Value} {an od : Option Addr} {osl : Array (Option Value)}
    (ho : c.K.lookup f = some ⟨oc, od, .func (fnX name qual params body scope [] dV kV doc pm an cdv ct), osl⟩) (hcd : codeIn c.K cdv qual = true)
    (hbind : ∀ y z : Value, bindArgs (fnX name qual params body scope [] dV kV doc pm an cdv ct) ⟨[y, z], []⟩ = pure [(x₁, y), (x₂, z)])
    (hloc : scope.names.lookup x₁ = some .local ∧ scope.names.lookup x₂ = some .local)
    (hbody : ∀ A L g, Amb c ⟨A, qual, scope, L, f, cdv, [], g⟩ k → Ex c ⟨A, qual, scope, L, f, cdv, [], g⟩ [(x₂, v₂), (x₁, v₁)] [] body (fun _ _ => False) (RetOk P))
    (hcell : (scope.names.all fun x => x.2 != .cell) = true) (hco : scope.isCoroutine = false := by rfl) (hgen : scope.isGenerator = false := by rfl) (hk : scope.kind = .function := by rfl) : Fn c (k + 1) f [v₁, v₂] P := by
  refine fn_intro (fun xs => match xs with | [y, z] => [(x₁, y), (x₂, z)] | _ => []) ho hcd ?_ ?_ ?_ hbody ?_ hco hgen hk
  · intro s xs hl
    match xs, hl with
    | [y, z], _ => exact BindsTo.of_eq (hbind y z)
  · intro xs hl y hy
    match xs, hl with
    | [z, w], _ =>
      rcases List.mem_cons.mp hy with rfl | hy
      · exact hloc.1
      · rw [List.mem_singleton.mp hy]; exact hloc.2
  · intro fr xs r y w e
    obtain ⟨z, zs, rfl, r1, r2⟩ := r.inv_cons
    obtain ⟨z', zs', rfl, r1', r2'⟩ := r2.inv_cons
    cases r2'.inv_nil
    show ∃ v', List.lookup y [(x₂, z'), (x₁, z)] = some v' ∧ _
    rw [List.lookup_cons] at e ⊢
    by_cases q : (y == x₂) = true
    · rw [q] at e ⊢
      cases e
      exact ⟨z', rfl, r1'.toV⟩
    · rw [Bool.not_eq_true] at q
      rw [q] at e ⊢
      dsimp only at e ⊢
      rw [List.lookup_cons] at e ⊢
      by_cases q' : (y == x₁) = true
      · rw [q'] at e ⊢
        cases e
        exact ⟨z, rfl, r1.toV⟩
      · rw [Bool.not_eq_true] at q'
        rw [q'] at e; cases e
  · intro y hy e
    have := List.all_eq_true.mp hcell y hy
    rw [e] at this; exact absurd this (by decide)
end

section
variable {c : Cx} {pl : Pl} {ρ : Loc} {σ : List PO} {K : V → List PO → Prop}
def V.isRef : V → Bool
  | .ref _ => true
  | _ => false
/-- a call of the text's own def by its name -/
theorem ev_call {k : Nat} (H : Amb c pl k) {x : Str} {px pos : Pos} {e : Expr} {es : List Expr} {f : Addr} (hf : nsIn c.K mainGlobals x = some (some (.ref f))) (hkeep : keepIn c.K (.ref f) = true)
    (h : Evs c pl ρ σ (e :: es) fun vs σ1 => (∀ v ∈ vs, V.isRef v = false) ∧ Fn c k f vs fun v => K v σ1)
    (hx : pl.env.kindOf x = some .globalImplicit := by rfl) (hd : (x == ("__debug__" : Str)) = false := by decide)
    (he : eval (.Call (.Name x px) (e :: es) [] pos) pl.env = (do callWith pos (← eval (.Name x px) pl.env) [] (backTo pos (starEach (e :: es) pl.env)) (backToKw pos (keywordEach [] pl.env))) := by rfl)
    (he' : starEach (e :: es) pl.env = (false, eval e pl.env) :: starEach es pl.env := by rfl) (hplain : (backTo pos (starEach es pl.env)).any (·.1) = false := by rfl) :
    Ev c pl ρ σ (.Call (.Name x px) (e :: es) [] pos) K := fun s as fr hid Q E G hQ => by
  obtain ⟨m, F⟩ := G.frame
  refine Call_ (nameX_K F H.inK H.top hf ?_ H.kind hx hd) he
  refine callWith_K H.inK hkeep (h _ _ _ _ _ _ _ G ?_) he' hplain
  rintro h1 tk1 vs' as1 fr1 vs σ1 ⟨hnr, hfn⟩ x1 G1 hl r1
  obtain ⟨m1, F1⟩ := G1.frame
  refine ⟨H.inK.keeps F1.keep, ?_⟩
  refine hfn pl ρ σ1 H _ _ _ _ _ _ _ G1 ⟨by simpa using hl, fun i v d e1 e2 => ?_⟩ ?_
  · have := r1 i v d (by simpa using e1) e2
    have hr := hnr d (List.mem_of_getElem? e2)
    cases d with
    | ref => cases hr
    | _ => exact this
  · intro h' tk v' fr' v hk hsub G' r'
    exact hQ _ _ _ _ _ _ _ hk (x1.trans ⟨fun _ _ h => h, hsub⟩) G' r'.toV
end
end Mine

namespace Mine

section
variable {B h₀ h h' : Heap} {L : Addr} {as : List Addr} {fr hid : Led} {ρ : Loc} {σ : List PO}
theorem Good.allNews (G : Good B h₀ L h as fr hid ρ σ) : News h₀ L h ((fr ++ hid) ++ mutLed h as) := by
  intro p hp
  rcases List.mem_append.mp hp with hp | hp
  · exact G.news p hp
  · obtain ⟨h1, h2⟩ := mem_mutLed.mp hp
    exact ⟨h2, (G.off _ h1).1, (G.off _ h1).2.1⟩
theorem Good.ofNews (G : Good B h₀ L h as fr hid ρ σ) {m : Str → Option Value} (r : ∀ x v, ρ.lookup x = some v → ∃ v', m x = some v' ∧ RepV B as fr v' v) (F' : Fr h₀ L h' m) (N' : News h₀ L h' ((fr ++ hid) ++ mutLed h as)) :
    Good B h₀ L h' as fr hid ρ σ := by
  refine ⟨⟨m, F', r⟩, fun p hp => N' p (List.mem_append_left _ hp), G.sep, G.len, G.nodup, G.off, fun n a o h1 h2 => ?_⟩
  have rr := G.muts n a o h1 h2
  obtain ⟨x, hx⟩ := rr.some
  have e := (N' (a, x) (List.mem_append_right _ (mem_mutLed.mpr ⟨List.mem_of_getElem? h1, hx⟩))).1
  rw [e]; rw [hx] at rr; exact rr
theorem Good.frGet (G : Good B h₀ L h as fr hid ρ σ) {p : Addr × Obj} (hp : p ∈ fr) : h.get? p.1 = some p.2 := (G.news p (List.mem_append_left _ hp)).1
/-- an immutable object pushed -/
theorem Good.push (G : Good B h₀ L h as fr hid ρ σ) (o : Obj) (ho : o.isFreed = false := by rfl) : Good B h₀ L (h.push o) as ((h.objs.size, o) :: fr) hid ρ σ :=
  G.new (push_keep h o) (push_none h) (Heap.get?_push_size h ho)
theorem Good.keepPush (G : Good B h₀ L h as fr hid ρ σ) (o : Obj) : Good B h₀ L (h.push o) as fr hid ρ σ := G.keep (push_keep h o)
end

section
variable {c : Cx} {pl : Pl} {ρ : Loc} {σ : List PO} {K : V → List PO → Prop}

def CallOk (c : Cx) (pl : Pl) (ρ : Loc) (σ : List PO) (fv : Value) (vs : List V) (K : V → List PO → Prop) : Prop :=
  ∀ (s : Shared) (as : List Addr) (fr hid : Led) (Q : Value → Shared → Prop) (E : Value → Shared → Prop) (vs' : List Value),
    Good c.B pl.h₀ pl.L s.heap as fr hid ρ σ → vs'.length = vs.length → (∀ (i : Nat) v' v, vs'[i]? = some v' → vs[i]? = some v → RepV c.B as fr v' v) →
    (∀ h' tk v' as' fr' v σ', K v σ' → Ext as as' fr fr' → Good c.B pl.h₀ pl.L h' as' fr' hid ρ σ' → RepV c.B as' fr' v' v → Q v' { s with heap := h', toks := tk }) →
    wpAny (model c.prog c.w) pl.A (call fv vs') Q E s

theorem args1 {vs' : List Value} {a : V} {P : Value → V → Prop} (hl : vs'.length = [a].length) (h : ∀ (i : Nat) v' v, vs'[i]? = some v' → [a][i]? = some v → P v' v) : ∃ a', vs' = [a'] ∧ P a' a := by
  match vs', hl with
  | [x], _ => exact ⟨x, rfl, h 0 x a rfl rfl⟩
theorem args2 {vs' : List Value} {a b : V} {P : Value → V → Prop} (hl : vs'.length = [a, b].length) (h : ∀ (i : Nat) v' v, vs'[i]? = some v' → [a, b][i]? = some v → P v' v) : ∃ a' b', vs' = [a', b'] ∧ P a' a ∧ P b' b := by
  match vs', hl with
  | [x, y], _ => exact ⟨x, y, rfl, h 0 x a rfl rfl, h 1 y b rfl rfl⟩
theorem args3 {vs' : List Value} {a b d : V} {P : Value → V → Prop} (hl : vs'.length = [a, b, d].length) (h : ∀ (i : Nat) v' v, vs'[i]? = some v' → [a, b, d][i]? = some v → P v' v) : ∃ a' b' d', vs' = [a', b', d'] ∧ P a' a ∧ P b' b ∧ P d' d := by
  match vs', hl with
  | [x, y, z], _ => exact ⟨x, y, z, rfl, h 0 x a rfl rfl, h 1 y b rfl rfl, h 2 z d rfl rfl⟩

theorem ev_bcall {k : Nat} (H : Amb c pl k) {x : Str} {px pos : Pos} {e : Expr} {es : List Expr} {id : String} (hn : nsIn c.K mainGlobals x = some none) (hv : bootBuiltins x = some (.builtin id)) (hx0 : x ≠ "__name__")
    (h : Evs c pl ρ σ (e :: es) fun vs σ1 => CallOk c pl ρ σ1 (.builtin id) vs K)
    (hx : pl.env.kindOf x = some .globalImplicit := by rfl) (hd : (x == ("__debug__" : Str)) = false := by decide)
    (he : eval (.Call (.Name x px) (e :: es) [] pos) pl.env = (do callWith pos (← eval (.Name x px) pl.env) [] (backTo pos (starEach (e :: es) pl.env)) (backToKw pos (keywordEach [] pl.env))) := by rfl)
    (he' : starEach (e :: es) pl.env = (false, eval e pl.env) :: starEach es pl.env := by rfl) (hplain : (backTo pos (starEach es pl.env)).any (·.1) = false := by rfl) :
    Ev c pl ρ σ (.Call (.Name x px) (e :: es) [] pos) K := fun s as fr hid Q E G hQ => by
  obtain ⟨m, F⟩ := G.frame
  refine Call_ (nameX_B F H.inK H.top hn hv hx0 ?_ H.kind hx hd) he
  refine PyProof.Rows.callWith_builtin1 (h _ _ _ _ _ _ _ G ?_) he' hplain
  intro h1 tk1 vs' as1 fr1 vs σ1 hc x1 G1 hl r1
  exact hc _ _ _ _ _ _ _ G1 hl r1 fun h' tk v' as' fr' v σ' k x2 G2 r2 => hQ _ _ _ _ _ _ _ k (x1.trans x2) G2 r2
theorem ev_tcall {k : Nat} (H : Amb c pl k) {x : Str} {px pos : Pos} {e : Expr} {es : List Expr} {T : String} (hn : nsIn c.K mainGlobals x = some none) (hv : bootBuiltins x = some (.type T)) (hx0 : x ≠ "__name__")
    (h : Evs c pl ρ σ (e :: es) fun vs σ1 => CallOk c pl ρ σ1 (.type T) vs K)
    (hx : pl.env.kindOf x = some .globalImplicit := by rfl) (hd : (x == ("__debug__" : Str)) = false := by decide)
    (he : eval (.Call (.Name x px) (e :: es) [] pos) pl.env = (do callWith pos (← eval (.Name x px) pl.env) [] (backTo pos (starEach (e :: es) pl.env)) (backToKw pos (keywordEach [] pl.env))) := by rfl)
    (he' : starEach (e :: es) pl.env = (false, eval e pl.env) :: starEach es pl.env := by rfl) (hplain : (backTo pos (starEach es pl.env)).any (·.1) = false := by rfl) :
    Ev c pl ρ σ (.Call (.Name x px) (e :: es) [] pos) K := fun s as fr hid Q E G hQ => by
  obtain ⟨m, F⟩ := G.frame
  refine Call_ (nameX_B F H.inK H.top hn hv hx0 ?_ H.kind hx hd) he
  refine PyProof.Rows.callWith_type1 (h _ _ _ _ _ _ _ G ?_) he' hplain
  intro h1 tk1 vs' as1 fr1 vs σ1 hc x1 G1 hl r1
  exact hc _ _ _ _ _ _ _ G1 hl r1 fun h' tk v' as' fr' v σ' k x2 G2 r2 => hQ _ _ _ _ _ _ _ k (x1.trans x2) G2 r2

theorem co_lenB {l : List UInt8} (hl : l.length ≤ 1099511627776) (h : K (.int l.length) σ) : CallOk c pl ρ σ (.builtin "len") [.bytes l] K := fun s as fr hid Q E vs' G hv r hQ => by
  obtain ⟨a, rfl, ra⟩ := args1 hv r
  obtain ⟨t, rfl⟩ := ra.bytes_inv
  exact len_bytes (by simpa using hl) (by simpa using hQ _ _ _ _ _ _ _ h (.refl _ _) G (Rep.int _ _))
theorem co_lenL {l : List V} (hl : (l.length : Int) < 2 ^ 63) (h : K (.int l.length) σ) : CallOk c pl ρ σ (.builtin "len") [.list l] K := fun s as fr hid Q E vs' G hv r hQ => by
  obtain ⟨a, rfl, ra⟩ := args1 hv r
  obtain ⟨a, xs, ep, rfl, hm, rl⟩ := ra.list_inv
  have hI : s.heap.IsList a xs.toArray := ⟨_, G.frGet hm, rfl, ep, rfl⟩
  have := hQ _ (s.toks + 1 + 1) (.int xs.length (s.toks + 1)) _ _ _ _ h (.refl _ _) G (by rw [rl.1]; exact Rep.int _ _)
  exact Calls.call_len_list hI (by simpa [rl.1] using hl) (by simpa using this)
theorem co_lenR {n : Nat} {l : List V} (hn : σ[n]? = some (.list l)) (hl : (l.length : Int) < 2 ^ 63) (h : K (.int l.length) σ) : CallOk c pl ρ σ (.builtin "len") [.ref n] K := fun s as fr hid Q E vs' G hv r hQ => by
  obtain ⟨a, rfl, a, ha, rfl⟩ := args1 hv r
  obtain ⟨xs, ep, hx, rl⟩ := G.muts n a _ ha hn
  have hI : s.heap.IsList a xs.toArray := ⟨_, hx, rfl, ep, rfl⟩
  have := hQ _ (s.toks + 1 + 1) (.int xs.length (s.toks + 1)) _ _ _ _ h (.refl _ _) G (by rw [rl.1]; exact Rep.int _ _)
  exact Calls.call_len_list hI (by simpa [rl.1] using hl) (by simpa using this)
theorem co_abs {i : Int} (h : K (.int i.natAbs) σ) : CallOk c pl ρ σ (.builtin "abs") [.int i] K := fun s as fr hid Q E vs' G hv r hQ => by
  obtain ⟨a, rfl, ra⟩ := args1 hv r
  obtain ⟨t, rfl⟩ := ra.int_inv
  refine call_abs_int fun u tk => ?_
  have e : (if i < 0 then -i else i) = (i.natAbs : Int) := by omega
  rw [e]
  exact hQ _ _ _ _ _ _ _ h (.refl _ _) G (Rep.int _ _)
theorem co_int {i : Int} (h : K (.int i) σ) : CallOk c pl ρ σ (.type "int") [.int i] K := fun s as fr hid Q E vs' G hv r hQ => by
  obtain ⟨a, rfl, ra⟩ := args1 hv r
  obtain ⟨t, rfl⟩ := ra.int_inv
  exact call_int_int (hQ _ _ _ _ _ _ _ h (.refl _ _) G (Rep.int _ _))
theorem co_divmod {a b : Int} (hb : 0 < b) (hb' : b.natAbs.log2 < 9000) (h : K (.tup [.int (a / b), .int (a % b)]) σ) : CallOk c pl ρ σ (.builtin "divmod") [.int a, .int b] K := fun s as fr hid Q E vs' G hv r hQ => by
  obtain ⟨a', b', rfl, ra, rb⟩ := args2 hv r
  obtain ⟨t, rfl⟩ := ra.int_inv
  obtain ⟨u, rfl⟩ := rb.int_inv
  refine divmod_int (by omega) ?_ (.inl (PyProof.noPylong_of_log2 hb'))
  rw [Int.fdiv_eq_ediv_of_nonneg _ (by omega), Int.fmod_eq_emod_of_nonneg _ (by omega)]
  exact hQ _ _ _ _ _ _ _ h (extCons _ _ _) (G.push _) (Rep.tup _ [.int (a / b) s.toks, .int (a % b) (s.toks + 1)] 0 _ (.head _) rfl (RepL.cons (.int _ _) (RepL.cons (.int _ _) .nil)).2)
theorem co_range1 {n : Int} (h : K (.rng 0 n 1) σ) : CallOk c pl ρ σ (.type "range") [.int n] K := fun s as fr hid Q E vs' G hv r hQ => by
  obtain ⟨a', rfl, ra⟩ := args1 hv r
  obtain ⟨t, rfl⟩ := ra.int_inv
  exact call_range_1 (hQ _ _ _ _ _ _ _ h (extCons _ _ _) (G.push _) (Rep.rng _ _ _ _ _ _ _ (.head _)))
theorem co_range2 {a b : Int} (h : K (.rng a b 1) σ) : CallOk c pl ρ σ (.type "range") [.int a, .int b] K := fun s as fr hid Q E vs' G hv r hQ => by
  obtain ⟨a', b', rfl, ra, rb⟩ := args2 hv r
  obtain ⟨t, rfl⟩ := ra.int_inv
  obtain ⟨u, rfl⟩ := rb.int_inv
  exact call_range_2 (hQ _ _ _ _ _ _ _ h (extCons _ _ _) (G.push _) (Rep.rng _ _ _ _ _ _ _ (.head _)))
theorem co_range3 {a b d : Int} (hd : d ≠ 0) (hd' : d.natAbs.log2 < 9000) (h : K (.rng a b d) σ) : CallOk c pl ρ σ (.type "range") [.int a, .int b, .int d] K := fun s as fr hid Q E vs' G hv r hQ => by
  obtain ⟨a', b', d', rfl, ra, rb, rd⟩ := args3 hv r
  obtain ⟨t, rfl⟩ := ra.int_inv
  obtain ⟨u, rfl⟩ := rb.int_inv
  obtain ⟨v, rfl⟩ := rd.int_inv
  exact call_range_3 hd (hQ _ _ _ _ _ _ _ h (extCons _ _ _) (G.push _) (Rep.rng _ _ _ _ _ _ _ (.head _))) (.inl (PyProof.noPylong_of_log2 hd'))
theorem co_min {k : Nat} (H : Amb c pl k) {n : Nat} {ns : List Int} (hn : σ[n]? = some (.list (ns.map V.int))) (hne : 0 < ns.length) (h : ∀ M, M ∈ ns → (∀ a ∈ ns, M ≤ a) → K (.int M) σ) : CallOk c pl ρ σ (.builtin "min") [.ref n] K := fun s as fr hid Q E vs' G hv r hQ => by
  obtain ⟨a, rfl, a, ha, rfl⟩ := args1 hv r
  obtain ⟨xs, ep, hx, rl⟩ := G.muts n a _ ha hn
  have hI : s.heap.IsList a xs.toArray := ⟨_, hx, rfl, ep, rfl⟩
  obtain ⟨m, F, rm⟩ := G.m
  refine min_list_N H.hand F G.allNews hI rl.ints hne fun h' M t tk F' N' hM hall => ?_
  exact hQ _ _ _ _ _ _ _ (h M hM hall) (.refl _ _) (G.ofNews rm F' N') (Rep.int _ _)
theorem co_bytes {k : Nat} (H : Amb c pl k) {ns : List Int} (hr : ∀ n ∈ ns, 0 ≤ n ∧ n < 256) (hz : ns.length ≤ 1000) (h : K (.bytes (byteArr ns).toList) σ) : CallOk c pl ρ σ (.type "bytes") [.list (ns.map V.int)] K := fun s as fr hid Q E vs' G hv r hQ => by
  obtain ⟨a, rfl, ra⟩ := args1 hv r
  obtain ⟨a, xs, ep, rfl, hm, rl⟩ := ra.list_inv
  have hI : s.heap.IsList a xs.toArray := ⟨_, G.frGet hm, rfl, ep, rfl⟩
  refine call_bytes_ints hI rl.ints hr (by have := rl.1; simp at this; rw [this, sizeLine_eq]; omega) H.hand fun h' t k hk => ?_
  exact hQ _ _ _ _ _ _ _ h (.refl _ _) (G.keep hk) (show Rep c.B fr _ _ from by simpa using Rep.bytes (B := c.B) (fr := fr) (byteArr ns).toList t)
/-- isinstance(e, bytes) of bytes -/
theorem ev_isBytes {k : Nat} (H : Amb c pl k) {p1 p2 pos : Pos} {e : Expr} (hn : nsIn c.K mainGlobals (Str.ofString "isinstance") = some none) (hn2 : nsIn c.K mainGlobals (Str.ofString "bytes") = some none)
    (hv : bootBuiltins (Str.ofString "isinstance") = some (.builtin "isinstance")) (hv2 : bootBuiltins (Str.ofString "bytes") = some (.type "bytes"))
    (h : Ev c pl ρ σ e fun v σ1 => ∃ l, v = .bytes l ∧ K (.bool true) σ1)
    (hx : pl.env.kindOf (Str.ofString "isinstance") = some .globalImplicit := by rfl) (hx2 : pl.env.kindOf (Str.ofString "bytes") = some .globalImplicit := by rfl)
    (he : eval (.Call (.Name (Str.ofString "isinstance") p1) [e, .Name (Str.ofString "bytes") p2] [] pos) pl.env = (do callWith pos (← eval (.Name (Str.ofString "isinstance") p1) pl.env) [] (backTo pos (starEach [e, .Name (Str.ofString "bytes") p2] pl.env)) (backToKw pos (keywordEach [] pl.env))) := by rfl)
    (he' : starEach [e, .Name (Str.ofString "bytes") p2] pl.env = (false, eval e pl.env) :: starEach [.Name (Str.ofString "bytes") p2] pl.env := by rfl) :
    Ev c pl ρ σ (.Call (.Name (Str.ofString "isinstance") p1) [e, .Name (Str.ofString "bytes") p2] [] pos) K := fun s as fr hid Q E G hQ => by
  obtain ⟨m, F⟩ := G.frame
  refine Call_ (nameX_B F H.inK H.top hn hv (by decide) ?_ H.kind hx (by decide)) he
  refine PyProof.Rows.callWith_builtin1 (spliced_more (h _ _ _ _ _ _ G ?_) he') he' rfl
  rintro h1 tk1 v1 as1 fr1 va σ1 ⟨l, rfl, hk⟩ x1 G1 r1
  obtain ⟨t1, rfl⟩ := r1.bytes_inv
  obtain ⟨m1, F1⟩ := G1.frame
  refine spliced_more (nameX_B F1 H.inK H.top hn2 hv2 (by decide) (spliced_none ?_) H.kind hx2 (by decide)) rfl
  exact call_isinstance (isinstance_true (Tx := "bytes") PySem.F.isi_meta_bytes PySem.F.sub_bytes_bytes) ⟨rfl, hQ _ _ _ _ _ _ _ hk x1 G1 (Rep.bool _)⟩
end
end Mine

namespace Mine

section
variable {B h₀ h h' : Heap} {L : Addr} {as : List Addr} {fr hid : Led} {ρ : Loc} {σ : List PO}
theorem Good.ofNewsCons (G : Good B h₀ L h as fr hid ρ σ) {m : Str → Option Value} (r : ∀ x v, ρ.lookup x = some v → ∃ v', m x = some v' ∧ RepV B as fr v' v) (F' : Fr h₀ L h' m) {a : Addr} {o : Obj}
    (N' : News h₀ L h' ((a, o) :: ((fr ++ hid) ++ mutLed h as))) (ha : h.get? a = none) : Good B h₀ L h' as ((a, o) :: fr) hid ρ σ := by
  obtain ⟨f1, f2, f3, f4⟩ := G.fresh ha
  have G' := G.ofNews r F' (fun p hp => N' p (List.mem_cons_of_mem _ hp))
  refine ⟨⟨m, F', fun x v e => let ⟨v', e1, e2⟩ := r x v e; ⟨v', e1, e2.ext (extCons _ _ _)⟩⟩, ?_, ?_, G.len, G.nodup, ?_, fun n a o h1 h2 => (G'.muts n a o h1 h2).mono fun p hp => List.mem_cons_of_mem _ hp⟩
  · intro p hp
    rcases List.mem_cons.mp hp with rfl | hp
    · exact N' _ (.head _)
    · exact G'.news p hp
  · intro p hp q hq
    rcases List.mem_cons.mp hp with rfl | hp
    · exact fun e => f3 q (List.mem_append_right _ hq) e.symm
    · exact G.sep p hp q hq
  · intro b hb
    refine ⟨(G.off b hb).1, (G.off b hb).2.1, fun p hp => ?_⟩
    rcases List.mem_cons.mp hp with rfl | hp
    · rintro rfl; exact f4 hb
    · exact (G.off b hb).2.2 p hp
end

theorem repL_of {B : Heap} {as : List Addr} {fr : Led} {vs' : List Value} {vs : List V} (hl : vs'.length = vs.length) (r : ∀ (i : Nat) v' v, vs'[i]? = some v' → vs[i]? = some v → RepV B as fr v' v) (hn : ∀ v ∈ vs, V.isRef v = false) : RepL B fr vs' vs :=
  ⟨hl, fun i v d e1 e2 => by
    have := r i v d e1 e2
    have hr := hn d (List.mem_of_getElem? e2)
    cases d with
    | ref => cases hr
    | _ => exact this⟩
theorem repL_cons' {B : Heap} {fr : Led} {p : Addr × Obj} {vs' : List Value} {vs : List V} (r : RepL B fr vs' vs) : RepL B (p :: fr) vs' vs := r.mono fun q hq => List.mem_cons_of_mem _ hq
theorem RepL.flat {B : Heap} {fr : Led} {xs : List Value} {vs : List V} (r : RepL B fr xs vs) : ∀ n, RepL B fr (List.replicate n xs).flatten (List.replicate n vs).flatten
  | 0 => .nil
  | n + 1 => by rw [List.replicate_succ, List.replicate_succ, List.flatten_cons, List.flatten_cons]; exact r.append (r.flat n)

/-- Python's slice of a list -/
def sl {α : Type} (l : List α) (lo hi : Option Int) : List α := (l.drop (lo.elim 0 (clipAt l.length))).take (hi.elim l.length (clipAt l.length) - lo.elim 0 (clipAt l.length))
theorem sl_upto {α : Type} (l : List α) (k : Nat) : sl l none (some (k : Int)) = l.take k := by
  simp only [sl, Option.elim, clipAt_nat, List.drop_zero, Nat.sub_zero]
  rw [List.take_eq_take_iff]; omega
theorem sl_from {α : Type} (l : List α) (k : Nat) : sl l (some (k : Int)) none = l.drop k := by
  simp only [sl, Option.elim, clipAt_nat]
  rw [List.take_of_length_le (by simp)]
  by_cases h : k ≤ l.length
  · rw [Nat.min_eq_left h]
  · rw [Nat.min_eq_right (by omega), List.drop_of_length_le (Nat.le_refl _), List.drop_of_length_le (by omega)]
theorem sl_mid {α : Type} (l : List α) (a b : Nat) : sl l (some (a : Int)) (some (b : Int)) = (l.drop a).take (b - a) := by
  simp only [sl, Option.elim, clipAt_nat]
  by_cases h : a ≤ l.length
  · rw [Nat.min_eq_left h, List.take_eq_take_iff, List.length_drop]; omega
  · rw [Nat.min_eq_right (by omega : l.length ≤ a), List.drop_of_length_le (Nat.le_refl _), List.drop_of_length_le (by omega)]; simp

def EvP (c : Cx) (pl : Pl) (ρ : Loc) (σ : List PO) (o : Option Expr) (K : Option Int → List PO → Prop) : Prop :=
  match o with
  | none => K none σ
  | some e => Ev c pl ρ σ e fun v σ1 => ∃ i, v = .int i ∧ K (some i) σ1

section
variable {c : Cx} {pl : Pl} {ρ : Loc} {σ : List PO} {K : V → List PO → Prop}

theorem ev_listI {es : List Expr} {pos : Pos} (h : Evs c pl ρ σ es fun vs σ1 => (∀ v ∈ vs, V.isRef v = false) ∧ vs.length ≤ 1000 ∧ K (.list vs) σ1) : Ev c pl ρ σ (.List es pos) K := fun s as fr hid Q E G hQ => by
  refine List_ (h _ _ _ _ _ _ _ G ?_)
  rintro h1 tk1 vs' as1 fr1 vs σ1 ⟨hn, hz, hk⟩ x1 G1 hl r1
  have rl := repL_of hl r1 hn
  exact wpAny_newObj_type (hQ _ _ _ _ _ _ _ hk (x1.trans (extCons _ _ _)) (G1.push _) (Rep.list _ vs' 0 _ (.head _) rl.1 (repL_cons' rl).2)) (by show vs'.toArray.size ≤ sizeLine; rw [List.size_toArray, hl, sizeLine_eq]; omega)
theorem ev_listM {es : List Expr} {pos : Pos} (h : Evs c pl ρ σ es fun vs σ1 => (∀ v ∈ vs, V.isRef v = false) ∧ vs.length ≤ 1000 ∧ K (.ref σ1.length) (σ1 ++ [.list vs])) : Ev c pl ρ σ (.List es pos) K := fun s as fr hid Q E G hQ => by
  refine List_ (h _ _ _ _ _ _ _ G ?_)
  rintro h1 tk1 vs' as1 fr1 vs σ1 ⟨hn, hz, hk⟩ x1 G1 hl r1
  have rl := repL_of hl r1 hn
  refine wpAny_newObj_type (hQ _ _ _ _ _ _ _ hk (x1.trans (extApp _ _ _)) (G1.newMut (push_keep h1 _) (push_none h1) ⟨vs', 0, Heap.get?_push_size h1 rfl, rl⟩) ?_) (by show vs'.toArray.size ≤ sizeLine; rw [List.size_toArray, hl, sizeLine_eq]; omega)
  exact ⟨_, by rw [← G1.len]; simp, rfl⟩
theorem ev_tuple {es : List Expr} {k : Nat} {pos : Pos} (h : Evs c pl ρ σ es fun vs σ1 => (∀ v ∈ vs, V.isRef v = false) ∧ vs.length ≤ 1000 ∧ K (.tup vs) σ1) : Ev c pl ρ σ (.Tuple es k pos) K := fun s as fr hid Q E G hQ => by
  refine Tuple_ (h _ _ _ _ _ _ _ G ?_)
  rintro h1 tk1 vs' as1 fr1 vs σ1 ⟨hn, hz, hk⟩ x1 G1 hl r1
  have rl := repL_of hl r1 hn
  exact wpAny_newObj_type (hQ _ _ _ _ _ _ _ hk (x1.trans (extCons _ _ _)) (G1.push _) (Rep.tup _ vs' 0 _ (.head _) rl.1 (repL_cons' rl).2)) (by show vs'.toArray.size ≤ sizeLine; rw [List.size_toArray, hl, sizeLine_eq]; omega)

theorem ev_addL {l r : Expr} {pos : Pos} (h : Ev c pl ρ σ l fun va σ1 => ∃ a, va = .list a ∧ Ev c pl ρ σ1 r fun vb σ2 => ∃ b, vb = .list b ∧ a.length + b.length ≤ 100000 ∧ K (.list (a ++ b)) σ2) :
    Ev c pl ρ σ (.BinOp l .Add r pos) K := fun s as fr hid Q E G hQ => by
  refine wpAny_BinOp (h _ _ _ _ _ _ G ?_)
  rintro h1 tk1 v1 as1 fr1 va σ1 ⟨a, rfl, hr⟩ x1 G1 r1
  refine hr _ _ _ _ _ _ G1 ?_
  rintro h2 tk2 v2 as2 fr2 vb σ2 ⟨b, rfl, hz, hk⟩ x2 G2 r2
  obtain ⟨a1, xs, ep, rfl, hm, rl⟩ := (r1.ext x2).list_inv
  obtain ⟨a2, ys, ep2, rfl, hm2, rl2⟩ := r2.list_inv
  refine P.add_list (G2.frGet hm) (G2.frGet hm2) ?_ (by have := rl.1; have := rl2.1; simp only [List.size_toArray]; rw [sizeLine_eq]; omega)
  rw [List.append_toArray]
  have rr := rl.append rl2
  exact hQ _ _ _ _ _ _ _ hk ((x1.trans x2).trans (extCons _ _ _)) (G2.push _) (Rep.list _ (xs ++ ys) 0 _ (.head _) rr.1 (repL_cons' rr).2)
theorem foldl_app (xs : List Value) : ∀ (n : Nat) (acc : Array Value), (List.foldl (fun x1 x2 => x1 ++ x2) acc (List.replicate n xs.toArray)) = acc ++ ((List.replicate n xs).flatten).toArray
  | 0, acc => by simp
  | n + 1, acc => by
    rw [List.replicate_succ, List.foldl_cons, foldl_app xs n, List.replicate_succ, List.flatten_cons]
    apply Array.toList_inj.mp; simp
theorem mulL_ok {s : Shared} {as : List Addr} {fr hid : Led} {Q : Value → Shared → Prop} {E : Value → Shared → Prop} {v1 v2 : Value} {a : List V} {n : Int} (G : Good c.B pl.h₀ pl.L s.heap as fr hid ρ σ)
    (r1 : RepV c.B as fr v1 (.list a)) (r2 : RepV c.B as fr v2 (.int n)) (ha : a ≠ []) (hlo : -1000 ≤ n) (hz : a.length * n.toNat ≤ 100000) (hn : n ≤ 100000)
    (hQ : ∀ h' m xs, Fr pl.h₀ pl.L h' m → (∀ x v, ρ.lookup x = some v → ∃ v', m x = some v' ∧ RepV c.B as fr v' v) → News pl.h₀ pl.L h' ((s.heap.objs.size, lobj xs 0) :: ((fr ++ hid) ++ mutLed s.heap as)) → RepL c.B fr xs (List.replicate n.toNat a).flatten → Q (.ref s.heap.objs.size) { s with heap := h' }) :
    wpAny (model c.prog c.w) pl.A (binaryOp .Mult v1 v2) Q E s := by
  obtain ⟨a1, xs, ep, rfl, hm, rl⟩ := r1.list_inv
  obtain ⟨t, rfl⟩ := r2.int_inv
  obtain ⟨m, F, rm⟩ := G.m
  refine mul_list F G.allNews (G.frGet hm) (by omega) (by omega) (by simp only [List.size_toArray]; rw [rl.1]; omega) fun h' F' N' => ?_
  have hne : xs.toArray.isEmpty = false := by
    cases xs with
    | nil => exact absurd (List.length_eq_zero_iff.mp rl.1.symm) ha
    | cons => rfl
  rw [hne] at N'
  simp only [Bool.false_eq_true, if_false] at N'
  rw [foldl_app] at N'
  simp only [Array.empty_append] at N'
  exact hQ h' m _ F' rm N' (rl.flat _)
theorem ev_mulL {l r : Expr} {pos : Pos} (h : Ev c pl ρ σ l fun va σ1 => ∃ a, va = .list a ∧ a ≠ [] ∧ Ev c pl ρ σ1 r fun vb σ2 => ∃ n, vb = .int n ∧ -1000 ≤ n ∧ a.length * n.toNat ≤ 100000 ∧ n ≤ 100000 ∧ K (.list (List.replicate n.toNat a).flatten) σ2) :
    Ev c pl ρ σ (.BinOp l .Mult r pos) K := fun s as fr hid Q E G hQ => by
  refine wpAny_BinOp (h _ _ _ _ _ _ G ?_)
  rintro h1 tk1 v1 as1 fr1 va σ1 ⟨a, rfl, ha, hr⟩ x1 G1 r1
  refine hr _ _ _ _ _ _ G1 ?_
  rintro h2 tk2 v2 as2 fr2 vb σ2 ⟨n, rfl, hlo, hz, hn, hk⟩ x2 G2 r2
  refine mulL_ok G2 (r1.ext x2) r2 ha hlo hz hn fun h' m xs F' rm N' rr => ?_
  exact hQ _ _ _ _ _ _ _ hk ((x1.trans x2).trans (extCons _ _ _)) (G2.ofNewsCons rm F' N' (push_none _)) (Rep.list _ xs 0 _ (.head _) rr.1 (repL_cons' rr).2)
/-- the same, the new list a mutable one -/
theorem ev_mulM {l r : Expr} {pos : Pos} (h : Ev c pl ρ σ l fun va σ1 => ∃ a, va = .list a ∧ a ≠ [] ∧ Ev c pl ρ σ1 r fun vb σ2 => ∃ n, vb = .int n ∧ -1000 ≤ n ∧ a.length * n.toNat ≤ 100000 ∧ n ≤ 100000 ∧ K (.ref σ2.length) (σ2 ++ [.list (List.replicate n.toNat a).flatten])) :
    Ev c pl ρ σ (.BinOp l .Mult r pos) K := fun s as fr hid Q E G hQ => by
  refine wpAny_BinOp (h _ _ _ _ _ _ G ?_)
  rintro h1 tk1 v1 as1 fr1 va σ1 ⟨a, rfl, ha, hr⟩ x1 G1 r1
  refine hr _ _ _ _ _ _ G1 ?_
  rintro h2 tk2 v2 as2 fr2 vb σ2 ⟨n, rfl, hlo, hz, hn, hk⟩ x2 G2 r2
  refine mulL_ok G2 (r1.ext x2) r2 ha hlo hz hn fun h' m xs F' rm N' rr => ?_
  have G3 := G2.ofNews rm F' (fun p hp => N' p (List.mem_cons_of_mem _ hp))
  obtain ⟨f1, f2, f3, f4⟩ := G2.fresh (push_none h2)
  have G4 : Good c.B pl.h₀ pl.L h' (as2 ++ [h2.objs.size]) fr2 hid ρ (σ2 ++ [.list (List.replicate n.toNat a).flatten]) := by
    refine ⟨⟨m, F', fun x v e => let ⟨v', e1, e2⟩ := rm x v e; ⟨v', e1, e2.ext (extApp _ _ _)⟩⟩, G3.news, G3.sep, by simp [G3.len], ?_, ?_, ?_⟩
    · refine List.nodup_append.mpr ⟨G3.nodup, by simp, fun b hb c hc => ?_⟩
      rw [List.mem_singleton.mp hc]; rintro rfl; exact f4 hb
    · intro b hb
      rcases List.mem_append.mp hb with hb | hb
      · exact G3.off b hb
      · rw [List.mem_singleton.mp hb]; exact ⟨f1, f2, f3⟩
    · intro k b o h1 h2'
      rcases Nat.lt_or_ge k as2.length with hn | hn
      · rw [List.getElem?_append_left hn] at h1
        rw [List.getElem?_append_left (G3.len ▸ hn)] at h2'
        exact G3.muts k b o h1 h2'
      · rw [List.getElem?_append_right hn] at h1
        rw [List.getElem?_append_right (G3.len ▸ hn), ← G3.len] at h2'
        generalize k - as2.length = j at h1 h2'
        cases j with
        | zero => simp at h1 h2'; subst h1; subst h2'; exact ⟨xs, 0, (N' _ (.head _)).1, rr⟩
        | succ j => simp at h1
  exact hQ _ _ _ _ _ _ _ hk ((x1.trans x2).trans (extApp _ _ _)) G4 ⟨_, by rw [← G2.len]; simp, rfl⟩
theorem ev_addB {l r : Expr} {pos : Pos} (h : Ev c pl ρ σ l fun va σ1 => ∃ a, va = .bytes a ∧ Ev c pl ρ σ1 r fun vb σ2 => ∃ b, vb = .bytes b ∧ a.length + b.length ≤ 100000 ∧ K (.bytes (a ++ b)) σ2) :
    Ev c pl ρ σ (.BinOp l .Add r pos) K := fun s as fr hid Q E G hQ => by
  refine wpAny_BinOp (h _ _ _ _ _ _ G ?_)
  rintro h1 tk1 v1 as1 fr1 va σ1 ⟨a, rfl, hr⟩ x1 G1 r1
  obtain ⟨t1, rfl⟩ := r1.bytes_inv
  refine hr _ _ _ _ _ _ G1 ?_
  rintro h2 tk2 v2 as2 fr2 vb σ2 ⟨b, rfl, hz, hk⟩ x2 G2 r2
  obtain ⟨t2, rfl⟩ := r2.bytes_inv
  refine KBy.add_bytes (by simp only [List.size_toArray]; omega) fun t' k => ?_
  rw [List.append_toArray]
  exact hQ _ _ _ _ _ _ _ hk (x1.trans x2) G2 (Rep.bytes _ _)
theorem ev_mulB {l r : Expr} {pos : Pos} (h : Ev c pl ρ σ l fun va σ1 => ∃ a, va = .bytes a ∧ a ≠ [] ∧ a.length ≤ 16 ∧ Ev c pl ρ σ1 r fun vb σ2 => ∃ n, vb = .int n ∧ -1000000 ≤ n ∧ n ≤ 1000000 ∧ K (.bytes (List.replicate n.toNat a).flatten) σ2) :
    Ev c pl ρ σ (.BinOp l .Mult r pos) K := fun s as fr hid Q E G hQ => by
  refine wpAny_BinOp (h _ _ _ _ _ _ G ?_)
  rintro h1 tk1 v1 as1 fr1 va σ1 ⟨a, rfl, ha, hz, hr⟩ x1 G1 r1
  obtain ⟨t1, rfl⟩ := r1.bytes_inv
  refine hr _ _ _ _ _ _ G1 ?_
  rintro h2 tk2 v2 as2 fr2 vb σ2 ⟨n, rfl, hlo, hhi, hk⟩ x2 G2 r2
  obtain ⟨t2, rfl⟩ := r2.int_inv
  exact bytes_mul_any ha (by omega) (by omega) hz fun t' k => hQ _ _ _ _ _ _ _ hk (x1.trans x2) G2 (Rep.bytes _ _)

theorem ev_itemB {value slice : Expr} {pos : Pos} (h : Ev c pl ρ σ value fun va σ1 => ∃ l, va = .bytes l ∧ Ev c pl ρ σ1 slice fun vi σ2 => ∃ i : Int, vi = .int i ∧ 0 ≤ i ∧ i < l.length ∧ l.length ≤ 1000000 ∧ K (.int (l.getD i.toNat 0).toNat) σ2)
    (hs : ∀ b t i u, subscripted slice false (.bytes b t) (.int i u) = operate [.bytes b t, .int i u] (getItem (.bytes b t) (.int i u)) := by intros; with_unfolding_all rfl) : Ev c pl ρ σ (.Subscript value slice pos) K := fun s as fr hid Q E G hQ => by
  refine Subscript_ (h _ _ _ _ _ _ G ?_)
  rintro h1 tk1 v1 as1 fr1 va σ1 ⟨l, rfl, hr⟩ x1 G1 r1
  obtain ⟨t1, rfl⟩ := r1.bytes_inv
  refine hr _ _ _ _ _ _ G1 ?_
  rintro h2 tk2 v2 as2 fr2 vb σ2 ⟨i, rfl, h0, hi, hz, hk⟩ x2 G2 r2
  obtain ⟨t2, rfl⟩ := r2.int_inv
  exact tail_any (typeIs_bytes _ _ _) FB.slot_bytes_getitem.lookup (getItem_bytes (by omega) h0 hi (hQ _ _ _ _ _ _ _ hk (x1.trans x2) G2 (Rep.int _ _))) (hs _ _ _ _)
theorem ev_itemL {value slice : Expr} {pos : Pos} (h : Ev c pl ρ σ value fun va σ1 => ∃ l, va = .list l ∧ Ev c pl ρ σ1 slice fun vi σ2 => ∃ (i : Int) (v : V), vi = .int i ∧ 0 ≤ i ∧ i < 2 ^ 63 ∧ l[i.toNat]? = some v ∧ K v σ2)
    (hs : ∀ a i u, subscripted slice false (.ref a) (.int i u) = operate [.ref a, .int i u] (getItem (.ref a) (.int i u)) := by intros; with_unfolding_all rfl)
    (hg : ∀ a r, letTemporaryGo value (.ref a) r = pure () := by intros; with_unfolding_all rfl) : Ev c pl ρ σ (.Subscript value slice pos) K := fun s as fr hid Q E G hQ => by
  refine Subscript_ (h _ _ _ _ _ _ G ?_)
  rintro h1 tk1 v1 as1 fr1 va σ1 ⟨l, rfl, hr⟩ x1 G1 r1
  refine hr _ _ _ _ _ _ G1 ?_
  rintro h2 tk2 v2 as2 fr2 vb σ2 ⟨i, v, rfl, h0, hi, hv, hk⟩ x2 G2 r2
  obtain ⟨t2, rfl⟩ := r2.int_inv
  obtain ⟨a, xs, ep, rfl, hm, rl⟩ := (r1.ext x2).list_inv
  obtain ⟨v', e', r'⟩ := rl.get hv
  exact item_listL ⟨_, G2.frGet hm, rfl, ep, rfl⟩ h0 hi e' (hQ _ _ _ _ _ _ _ hk (x1.trans x2) G2 r'.toV) (hs _ _ _) (hg _)
theorem ev_itemM {value slice : Expr} {pos : Pos} (h : Ev c pl ρ σ value fun va σ1 => ∃ n, va = .ref n ∧ Ev c pl ρ σ1 slice fun vi σ2 => ∃ (i : Int) (l : List V) (v : V), vi = .int i ∧ σ2[n]? = some (.list l) ∧ 0 ≤ i ∧ i < 2 ^ 63 ∧ l[i.toNat]? = some v ∧ K v σ2)
    (hs : ∀ a i u, subscripted slice false (.ref a) (.int i u) = operate [.ref a, .int i u] (getItem (.ref a) (.int i u)) := by intros; with_unfolding_all rfl)
    (hg : ∀ a r, letTemporaryGo value (.ref a) r = pure () := by intros; with_unfolding_all rfl) : Ev c pl ρ σ (.Subscript value slice pos) K := fun s as fr hid Q E G hQ => by
  refine Subscript_ (h _ _ _ _ _ _ G ?_)
  rintro h1 tk1 v1 as1 fr1 va σ1 ⟨n, rfl, hr⟩ x1 G1 r1
  refine hr _ _ _ _ _ _ G1 ?_
  rintro h2 tk2 v2 as2 fr2 vb σ2 ⟨i, l, v, rfl, hn, h0, hi, hv, hk⟩ x2 G2 r2
  obtain ⟨t2, rfl⟩ := r2.int_inv
  obtain ⟨a, ha, rfl⟩ := r1.ext x2
  obtain ⟨xs, ep, hx, rl⟩ := G2.muts n a _ ha hn
  obtain ⟨v', e', r'⟩ := rl.get hv
  exact item_listL ⟨_, hx, rfl, ep, rfl⟩ h0 hi e' (hQ _ _ _ _ _ _ _ hk (x1.trans x2) G2 r'.toV) (hs _ _ _) (hg _)

theorem evp_ok {o : Option Expr} {K : Option Int → List PO → Prop} (h : EvP c pl ρ σ o K) {s : Shared} {as : List Addr} {fr hid : Led} {Q : Value → Shared → Prop} {E : Value → Shared → Prop} (G : Good c.B pl.h₀ pl.L s.heap as fr hid ρ σ)
    (hQ : ∀ h' tk v' as' fr' i σ', K i σ' → IsPart v' i → Ext as as' fr fr' → Good c.B pl.h₀ pl.L h' as' fr' hid ρ σ' → Q v' { s with heap := h', toks := tk }) : wpAny (model c.prog c.w) pl.A (evalPart o pl.env) Q E s := by
  cases o with
  | none => exact wpAny_evalPart_none (hQ _ _ _ _ _ _ _ h .none (.refl _ _) G)
  | some e =>
    refine wpAny_evalPart_some ((h : Ev c pl ρ σ e _) _ _ _ _ _ _ G ?_)
    rintro h1 tk1 v1 as1 fr1 va σ1 ⟨i, rfl, hk⟩ x1 G1 r1
    obtain ⟨t, rfl⟩ := r1.int_inv
    exact hQ _ _ _ _ _ _ _ hk (.int _ _) x1 G1
theorem ev_sliceL {value : Expr} {lo hi : Option Expr} {p pos : Pos} (h : Ev c pl ρ σ value fun va σ1 => ∃ l, va = .list l ∧ l.length ≤ 100000 ∧ EvP c pl ρ σ1 lo fun i σ2 => EvP c pl ρ σ2 hi fun j σ3 => K (.list (sl l i j)) σ3)
    (ht : ∀ o r, letTemporaryGo value o r = pure () := by intro _ _; rfl) : Ev c pl ρ σ (.Subscript value (.Slice lo hi none p) pos) K := fun s as fr hid Q E G hQ => by
  refine wpAny_Subscript_list_slice (h _ _ _ _ _ _ G ?_) ht
  rintro h1 tk1 v1 as1 fr1 va σ1 ⟨l, rfl, hz, hr⟩ x1 G1 r1
  refine evp_ok hr G1 ?_
  intro h2 tk2 v2 as2 fr2 i σ2 hr2 p2 x2 G2
  refine evp_ok hr2 G2 ?_
  intro h3 tk3 v3 as3 fr3 j σ3 hk p3 x3 G3
  obtain ⟨a, xs, ep, rfl, hm, rl⟩ := (r1.ext (x2.trans x3)).list_inv
  refine ⟨a, xs.toArray, i, j, rfl, ⟨_, G3.frGet hm, rfl, ep, rfl⟩, by rw [List.size_toArray, rl.1, sizeLine_eq]; omega, p2, p3, ?_⟩
  rw [slicePick_plain]
  simp only [List.size_toArray]
  have rr : RepL c.B fr3 (sl xs i j) (sl l i j) := by unfold sl; rw [rl.1]; exact (rl.drop _).take _
  have G4 := (G3.keepPush { cls := .type "slice", data := .fields #[v2, v3, .none] }).push { cls := .type "list", data := .seq (sl xs i j).toArray }
  exact hQ _ _ _ _ _ _ _ hk (((x1.trans x2).trans x3).trans (extCons _ _ _)) G4 (Rep.list _ (sl xs i j) 0 _ (by rw [Heap.size_push]; exact .head _) rr.1 (repL_cons' rr).2)
theorem ev_sliceA {k : Nat} (H : Amb c pl k) {value : Expr} {lo hi : Option Expr} {p pos : Pos} (h : Ev c pl ρ σ value fun va σ1 => ∃ l, va = .arg l ∧ l.length ≤ 100000 ∧ EvP c pl ρ σ1 lo fun i σ2 => EvP c pl ρ σ2 hi fun j σ3 => K (.list ((sl l i j).map V.int)) σ3)
    (ht : ∀ o r, letTemporaryGo value o r = pure () := by intro _ _; rfl) : Ev c pl ρ σ (.Subscript value (.Slice lo hi none p) pos) K := fun s as fr hid Q E G hQ => by
  refine wpAny_Subscript_list_slice (h _ _ _ _ _ _ G ?_) ht
  rintro h1 tk1 v1 as1 fr1 va σ1 ⟨l, rfl, hz, hr⟩ x1 G1 r1
  refine evp_ok hr G1 ?_
  intro h2 tk2 v2 as2 fr2 i σ2 hr2 p2 x2 G2
  refine evp_ok hr2 G2 ?_
  intro h3 tk3 v3 as3 fr3 j σ3 hk p3 x3 G3
  obtain ⟨a, xs, rfl, hm, hi⟩ := r1.arg_inv
  have rl : RepL c.B fr3 xs (l.map V.int) := RepL.ofInts hi
  have hl : h3.IsList a xs.toArray := hm.at fun o e => G3.old a o (H.base a o e)
  refine ⟨a, xs.toArray, i, j, rfl, hl, by have := rl.1; rw [List.length_map] at this; rw [List.size_toArray, this, sizeLine_eq]; omega, p2, p3, ?_⟩
  rw [slicePick_plain]
  simp only [List.size_toArray]
  have rr : RepL c.B fr3 (sl xs i j) ((sl l i j).map V.int) := by
    have := rl.1; rw [List.length_map] at this
    unfold sl; rw [this, List.map_take, List.map_drop]; exact (rl.drop _).take _
  have G4 := (G3.keepPush { cls := .type "slice", data := .fields #[v2, v3, .none] }).push { cls := .type "list", data := .seq (sl xs i j).toArray }
  exact hQ _ _ _ _ _ _ _ hk (((x1.trans x2).trans x3).trans (extCons _ _ _)) G4 (Rep.list _ (sl xs i j) 0 _ (by rw [Heap.size_push]; exact .head _) rr.1 (repL_cons' rr).2)
theorem ev_sliceB {value : Expr} {lo hi : Option Expr} {p pos : Pos} (h : Ev c pl ρ σ value fun va σ1 => ∃ l, va = .bytes l ∧ l.length ≤ 1000000 ∧ EvP c pl ρ σ1 lo fun i σ2 => EvP c pl ρ σ2 hi fun j σ3 => K (.bytes (sl l i j)) σ3)
    (hs : ∀ b t a, subscripted (.Slice lo hi none p) false (.bytes b t) (.ref a) = operate [.ref a, .bytes b t] (getItem (.bytes b t) (.ref a)) := by intros; with_unfolding_all rfl)
    (ht : ∀ b t r, letTemporaryGo value (.bytes b t) r = pure () := by intros; with_unfolding_all rfl) : Ev c pl ρ σ (.Subscript value (.Slice lo hi none p) pos) K := fun s as fr hid Q E G hQ => by
  refine Subscript_ (h _ _ _ _ _ _ G ?_)
  rintro h1 tk1 v1 as1 fr1 va σ1 ⟨l, rfl, hz, hr⟩ x1 G1 r1
  obtain ⟨t1, rfl⟩ := r1.bytes_inv
  refine wpAny_Slice (evp_ok hr G1 ?_)
  intro h2 tk2 v2 as2 fr2 i σ2 hr2 p2 x2 G2
  refine evp_ok hr2 G2 ?_
  intro h3 tk3 v3 as3 fr3 j σ3 hk p3 x3 G3
  refine wpAny_evalPart_none ?_
  obtain ⟨m, F, rm⟩ := G3.m
  refine KBc.slice_K (s := { s with heap := h3, toks := tk3 }) F G3.allNews rfl p2 p3 (by rw [KBw.ints_length, List.size_toArray]; omega) ?_ (hs _ _ _) (ht _ _)
  intro h' t' k' F' N' _
  have e : KBy.picked l.toArray i j = (sl l i j).toArray := by rw [KBc.picked_eq]; simp only [List.size_toArray]; rfl
  rw [e]
  exact hQ _ _ _ _ _ _ _ hk ((x1.trans x2).trans x3) (G3.ofNews rm F' N') (Rep.bytes _ _)
end
end Mine

namespace Mine

section
variable {c : Cx} {pl : Pl} {ρ : Loc} {σ : List PO} {K : V → List PO → Prop} {N : Loc → List PO → Prop} {R : V → List PO → Prop}

/-- xs.append(e) -/
theorem ev_append {o e : Expr} {apos pos : Pos}
    (h : Ev c pl ρ σ o fun va σ1 => ∃ n l₁, va = .ref n ∧ σ1[n]? = some (.list l₁) ∧ Ev c pl ρ σ1 e fun v σ2 => ∃ l, V.isRef v = false ∧ σ2[n]? = some (.list l) ∧ l.length ≤ 100000 ∧ K .none (σ2.set n (.list (l ++ [v]))))
    (hbase : attributeBase o (Str.ofString "append") pl.env (eval o pl.env) = eval o pl.env := by rfl)
    (hfew : ((backTo pos (starEach [e] pl.env)).all (fun x => !x.1) && (backToKw pos (keywordEach [] pl.env)).all (fun x => x.1.isSome)
      && decide ([e].length + ([] : List Keyword).length + (if ([] : List Keyword).isEmpty then 0 else 1) < 30)) = true := by rfl)
    (hline : (apos.endLine == pos.line) = true := by rfl)
    (he' : starEach [e] pl.env = (false, eval e pl.env) :: starEach [] pl.env := by rfl) :
    Ev c pl ρ σ (.Call (.Attribute o (Str.ofString "append") apos) [e] [] pos) K := fun s as fr hid Q E G hQ => by
  refine wpAny_Call_method (T := "list") (id := "list.append") hbase hfew hline PySem.F.plainAttrs_list PySem.F.slot_list_append PySem.F.type_list_append (h _ _ _ _ _ _ G ?_)
  rintro h1 tk1 v1 as1 fr1 va σ1 ⟨n, l₁, rfl, hn1, hr⟩ x1 G1 ⟨a, ha, rfl⟩
  obtain ⟨xs1, ep1, hx1, rl1⟩ := G1.muts n a _ ha hn1
  refine ⟨⟨_, hx1, rfl⟩, fun b eb => by cases eb; exact ⟨_, hx1, rfl⟩, ?_⟩
  refine callWith_method1 (spliced_more (hr _ _ _ _ _ _ G1 ?_) he') he' rfl
  rintro h2 tk2 v2 as2 fr2 v σ2 ⟨l, hv, hn, hz, hk⟩ x2 G2 r2
  refine spliced_none ?_
  have ha2 := x2.as n a ha
  obtain ⟨xs, ep, hx, rl⟩ := G2.muts n a _ ha2 hn
  have r2' : Rep c.B fr2 v2 v := by
    cases v with
    | ref => cases hv
    | _ => exact r2
  refine append_at hx (fun h' hs ho => ?_) (by rw [List.size_toArray, rl.1, sizeLine_eq]; omega)
  have e1 : (xs.toArray.push v2) = (xs ++ [v2]).toArray := by simp
  rw [e1] at ho
  exact hQ _ _ _ _ _ _ _ hk (x1.trans x2) (G2.turn ha2 hs ⟨xs ++ [v2], ep + 1, ho, rl.append (.cons r2' .nil)⟩) Rep.none
/-- xs.pop() -/
theorem ev_pop {o : Expr} {apos pos : Pos} (h : Ev c pl ρ σ o fun va σ1 => ∃ n l v, va = .ref n ∧ σ1[n]? = some (.list (l ++ [v])) ∧ l.length ≤ 100000 ∧ K v (σ1.set n (.list l)))
    (hbase : attributeBase o (Str.ofString "pop") pl.env (eval o pl.env) = eval o pl.env := by rfl)
    (hline : (apos.endLine == pos.line) = true := by rfl) :
    Ev c pl ρ σ (.Call (.Attribute o (Str.ofString "pop") apos) [] [] pos) K := fun s as fr hid Q E G hQ => by
  refine wpAny_Call_method (T := "list") (id := "list.pop") hbase rfl hline PySem.F.plainAttrs_list PySem.F.slot_list_pop PySem.F.type_list_pop (h _ _ _ _ _ _ G ?_)
  rintro h1 tk1 v1 as1 fr1 va σ1 ⟨n, l, v, rfl, hn, hz, hk⟩ x1 G1 ⟨a, ha, rfl⟩
  obtain ⟨xs, ep, hx, rl⟩ := G1.muts n a _ ha hn
  refine ⟨⟨_, hx, rfl⟩, fun b eb => by cases eb; exact ⟨_, hx, rfl⟩, ?_⟩
  refine callWith_method0 ?_
  have hlen : xs.length = l.length + 1 := by have := rl.1; simpa using this
  obtain ⟨v', e', r'⟩ := rl.get (i := l.length) (d := v) (by simp)
  have hlast : xs = xs.take l.length ++ [v'] := by
    have h2 : xs.drop l.length = [v'] := by
      rw [List.drop_eq_getElem_cons (by omega)]
      rw [List.getElem?_eq_getElem (by omega)] at e'
      rw [Option.some.inj e', List.drop_of_length_le (by omega)]
    rw [← h2, List.take_append_drop]
  have rt : RepL c.B fr1 (xs.take l.length) l := by have := rl.take l.length; simpa using this
  refine Copied.pop_at hx (by rw [List.size_toArray, hlen, Nat.add_sub_cancel, List.getElem?_toArray]; exact e') (fun h' hs ho => ?_) (by rw [List.size_toArray, hlen, sizeLine_eq]; omega)
  have e1 : xs.toArray.pop = (xs.take l.length).toArray := by
    apply Array.toList_inj.mp
    rw [Array.toList_pop]
    simp only [List.dropLast_eq_take]
    rw [hlen, Nat.add_sub_cancel]
  rw [e1] at ho
  exact hQ _ _ _ _ _ _ _ hk x1 (G1.turn ha hs ⟨_, _, ho, rt⟩) r'.toV
/-- xs.index(e), ints -/
theorem ev_index {o e : Expr} {apos pos : Pos}
    (h : Ev c pl ρ σ o fun va σ1 => ∃ n l₁, va = .ref n ∧ σ1[n]? = some (.list l₁) ∧ Ev c pl ρ σ1 e fun v σ2 => ∃ (ns : List Int) (k : Int), v = .int k ∧ σ2[n]? = some (.list (ns.map V.int)) ∧ k ∈ ns ∧ ns.length ≤ 100000 ∧ K (.int (ns.idxOf k : Nat)) σ2)
    (hbase : attributeBase o (Str.ofString "index") pl.env (eval o pl.env) = eval o pl.env := by rfl)
    (hfew : ((backTo pos (starEach [e] pl.env)).all (fun x => !x.1) && (backToKw pos (keywordEach [] pl.env)).all (fun x => x.1.isSome)
      && decide ([e].length + ([] : List Keyword).length + (if ([] : List Keyword).isEmpty then 0 else 1) < 30)) = true := by rfl)
    (hline : (apos.endLine == pos.line) = true := by rfl)
    (he' : backTo pos (starEach [e] pl.env) = [(false, eval e pl.env)] := by rfl) :
    Ev c pl ρ σ (.Call (.Attribute o (Str.ofString "index") apos) [e] [] pos) K := fun s as fr hid Q E G hQ => by
  refine wpAny_Call_method (T := "list") (id := "list.index") hbase hfew hline PySem.F.plainAttrs_list PySem.F.slot_list_index PySem.F.type_list_index (h _ _ _ _ _ _ G ?_)
  rintro h1 tk1 v1 as1 fr1 va σ1 ⟨n, l₁, rfl, hn1, hr⟩ x1 G1 ⟨a, ha, rfl⟩
  obtain ⟨xs1, ep1, hx1, rl1⟩ := G1.muts n a _ ha hn1
  refine ⟨⟨_, hx1, rfl⟩, fun b eb => by cases eb; exact ⟨_, hx1, rfl⟩, ?_⟩
  rw [he']
  refine P.index_list (hr _ _ _ _ _ _ G1 ?_)
  rintro h2 tk2 v2 as2 fr2 v σ2 ⟨ns, k, rfl, hn, hmem, hz, hk⟩ x2 G2 r2
  obtain ⟨t2, rfl⟩ := r2.int_inv
  have ha2 := x2.as n a ha
  obtain ⟨xs, ep, hx, rl⟩ := G2.muts n a _ ha2 hn
  have hlen : xs.length = ns.length := by have := rl.1; simpa using this
  have hj : ns.idxOf k < ns.length := List.idxOf_lt_length_iff.mpr hmem
  have at' : ∀ (i : Nat) (hi : i < xs.toArray.size), ∃ t, xs.toArray[i] = .int (ns[i]'(by simp at hi; omega)) t := by
    intro i hi
    have hi' : i < ns.length := by simp at hi; omega
    have r := rl.2 i (xs[i]'(by omega)) (.int ns[i]) (List.getElem?_eq_getElem (by omega)) (by simp [hi'])
    cases hq : xs[i]'(by omega) with
    | int z t => rw [hq] at r; cases r; exact ⟨t, by simpa using hq⟩
    | _ => rw [hq] at r; cases r
  refine ⟨xs.toArray, ep, fun y => match y with | .int z _ => z == k | _ => false, ns.idxOf k, by simp; omega, hx, ?_, by omega, ?_, ?_, ?_⟩
  · intro y hy
    obtain ⟨i, hi, e⟩ := Array.getElem_of_mem hy
    obtain ⟨t, e2⟩ := at' i hi
    rw [← e, e2]
    exact PySem.MeetsSeq.EqGives.int _ _ _ _
  · obtain ⟨t, e2⟩ := at' (ns.idxOf k) (by simp; omega)
    rw [e2]
    simp
  · intro m hm hlt
    obtain ⟨t, e2⟩ := at' m hm
    rw [e2]
    have := List.not_of_lt_findIdx (p := fun x => x == k) (xs := ns) (i := m) (by simpa [List.idxOf] using hlt)
    simpa using this
  · exact hQ _ _ _ _ _ _ _ hk (x1.trans x2) G2 (Rep.int _ _)

/-- an expression as a statement (its value none, bool or int) -/
theorem x_expr {e : Expr} {pos : Pos} (h : Ev c pl ρ σ e fun v σ1 => v = .none ∧ N ρ σ1) (hi : interactive pl.env = false := by rfl) (hs : swapsWith e none pos.line pl.env = pure false := by rfl) :
    Ex1 c pl ρ σ (.Expr e pos) N R := fun s as fr hid Q E G hN hR => by
  refine wpAny_Expr (h _ _ _ _ _ _ G ?_) hi hs
  rintro h1 tk1 v1 as1 fr1 v σ1 ⟨rfl, hk⟩ x1 G1 r1
  cases r1.none_inv
  exact hN _ _ _ _ _ _ hk x1 G1
/-- xs[i] = e -/
theorem x_setitem {o i e : Expr} {pos' pos : Pos}
    (h : Ev c pl ρ σ e fun v σ1 => V.isRef v = false ∧ Ev c pl ρ σ1 o fun va σ2 => ∃ n, va = .ref n ∧ Ev c pl ρ σ2 i fun vi σ3 => ∃ (k : Int) (l : List V), vi = .int k ∧ σ3[n]? = some (.list l) ∧ 0 ≤ k ∧ k < l.length ∧ l.length ≤ 100000 ∧ N ρ (σ3.set n (.list (l.set k.toNat v))))
    (hs : swapsWith e (some (.Subscript o i pos')) pos.line pl.env = pure false := by rfl) : Ex1 c pl ρ σ (.Assign [.Subscript o i pos'] e pos) N R := fun s as fr hid Q E G hN hR => by
  refine wpAny_Assign_Subscript (h _ _ _ _ _ _ G ?_) hs
  rintro h1 tk1 v1 as1 fr1 v σ1 ⟨hv, hr⟩ x1 G1 r1
  refine hr _ _ _ _ _ _ G1 ?_
  rintro h2 tk2 v2 as2 fr2 va σ2 ⟨n, rfl, hr2⟩ x2 G2 ⟨a, ha, rfl⟩
  refine hr2 _ _ _ _ _ _ G2 ?_
  rintro h3 tk3 v3 as3 fr3 vi σ3 ⟨k, l, rfl, hn, h0, hk, hz, hk1⟩ x3 G3 r3
  obtain ⟨t, rfl⟩ := r3.int_inv
  have ha3 := x3.as n a ha
  obtain ⟨xs, ep, hx, rl⟩ := G3.muts n a _ ha3 hn
  have r1' : Rep c.B fr3 v1 v := by
    have := r1.ext (x2.trans x3)
    cases v with
    | ref => cases hv
    | _ => exact this
  refine ki_setAt hx h0 (by omega) (by simp only [List.size_toArray]; rw [rl.1]; exact hk) ?_
  have ho : (h3.update a (Obj.mapSeq (·.setIfInBounds k.toNat v1))).get? a = some (lobj (xs.set k.toNat v1) ep) := by
    rw [Heap.get?_update_self _ hx rfl]
    show some ({ cls := .type "list", data := .seq (xs.toArray.setIfInBounds k.toNat v1) (if (xs.toArray.setIfInBounds k.toNat v1).size == xs.toArray.size then ep else ep + 1) } : Obj) = _
    have e1 : xs.toArray.setIfInBounds k.toNat v1 = (xs.set k.toNat v1).toArray := by apply Array.toList_inj.mp; simp
    rw [e1]; simp
  exact hN _ _ _ _ _ _ hk1 ((x1.trans x2).trans x3) (G3.turn ha3 (Heap.SameBut.update ..) ⟨_, _, ho, rl.set _ r1'⟩)

theorem assign2_ok {H : pl.cs.kind = .function} {s : Shared} {as : List Addr} {fr hid : Led} {Q : Unit → Shared → Prop} {E : Value → Shared → Prop} {x y : Str} {v w : V} {v' w' : Value} {tx ty : Value → Sem Unit}
    (G : Good c.B pl.h₀ pl.L s.heap as fr hid ρ σ) (rv : Rep c.B fr v' v) (rw' : Rep c.B fr w' w)
    (hx : ∀ {s : Shared} {u : Value} {Q : Unit → Shared → Prop}, wpAny (model c.prog c.w) pl.A (storeName pl.env x u) Q E s → wpAny (model c.prog c.w) pl.A (tx u) Q E s)
    (hy : ∀ {s : Shared} {u : Value} {Q : Unit → Shared → Prop}, wpAny (model c.prog c.w) pl.A (storeName pl.env y u) Q E s → wpAny (model c.prog c.w) pl.A (ty u) Q E s)
    (kx : pl.env.kindOf x = some .local) (ky : pl.env.kindOf y = some .local)
    (hQ : ∀ h' tk, Good c.B pl.h₀ pl.L h' as fr hid ((y, w) :: (x, v) :: ρ) σ → Q () { s with heap := h', toks := tk }) :
    wpAny (model c.prog c.w) pl.A (assignInOrder [tx, ty] [v', w']) Q E s := by
  refine wpAny_assignInOrder_more (hx (st_ok G rv.toV (fun h1 tk1 G1 => ?_) H kx))
  refine wpAny_assignInOrder_more (hy (st_ok G1 rw'.toV (fun h2 tk2 G2 => ?_) H ky))
  exact wpAny_assignInOrder_none (hQ _ _ G2)
/-- x, y = e where e gives a pair -/
theorem x_pair {k : Nat} (H : Amb c pl k) {x y : Str} {p1 p2 tp pos : Pos} {kd : Nat} {e : Expr} (h : Ev c pl ρ σ e fun v σ1 => ∃ a b, v = .tup [a, b] ∧ N ((y, b) :: (x, a) :: ρ) σ1)
    (hx : pl.env.kindOf x = some .local := by rfl) (hy : pl.env.kindOf y = some .local := by rfl)
    (hs : swapsWithSole [.Tuple [.Name x p1, .Name y p2] kd tp] e pos.line pl.env = pure false := by rfl)
    (hw : swappedStores [.Tuple [.Name x p1, .Name y p2] kd tp] e pl.env = pure none := by rfl) :
    Ex1 c pl ρ σ (.Assign [.Tuple [.Name x p1, .Name y p2] kd tp] e pos) N R := fun s as fr hid Q E G hN hR => by
  refine Assign_Tuple (h _ _ _ _ _ _ G ?_) hs hw
  rintro h1 tk1 v1 as1 fr1 v σ1 ⟨a, b, rfl, hk⟩ x1 G1 r1
  obtain ⟨t, xs, ep, rfl, hm, rl⟩ := r1.tup_inv
  obtain ⟨u, us, rfl, ru, rus⟩ := rl.inv_cons
  obtain ⟨w, ws, rfl, rw', rws⟩ := rus.inv_cons
  cases rws.inv_nil
  refine assign_Tuple_tuple (items := [u, w].toArray) H.hand ⟨_, G1.frGet hm, rfl, ep, rfl⟩ rfl rfl fun h' he => ?_
  have G2 := G1.keep (h' := h') fun b o e => he b o (by rintro rfl; rw [push_none] at e; cases e) e
  exact assign2_ok (H := H.kind) (v := a) (w := b) G2 ru rw' (fun h => wpAny_assign_Name h) (fun h => wpAny_assign_Name h) hx hy fun h2 tk2 G3 => hN _ _ _ _ _ _ hk x1 G3
/-- x, y = (e, e'): the stores swapped -/
theorem x_pairS {k : Nat} (H : Amb c pl k) {x y : Str} {p1 p2 tp pos : Pos} {kd : Nat} {e : Expr} (h : Ev c pl ρ σ e fun v σ1 => ∃ a b, v = .tup [a, b] ∧ N ((x, a) :: (y, b) :: ρ) σ1)
    (hx : pl.env.kindOf x = some .local := by rfl) (hy : pl.env.kindOf y = some .local := by rfl)
    (hs : swapsWithSole [.Tuple [.Name x p1, .Name y p2] kd tp] e pos.line pl.env = pure false := by rfl)
    (hw : swappedStores [.Tuple [.Name x p1, .Name y p2] kd tp] e pl.env = pure (some [x, y]) := by rfl) :
    Ex1 c pl ρ σ (.Assign [.Tuple [.Name x p1, .Name y p2] kd tp] e pos) N R := fun s as fr hid Q E G hN hR => by
  refine Assign_Tuple_swapped (names := [x, y]) (h _ _ _ _ _ _ G ?_) hs hw
  rintro h1 tk1 v1 as1 fr1 v σ1 ⟨a, b, rfl, hk⟩ x1 G1 r1
  obtain ⟨t, xs, ep, rfl, hm, rl⟩ := r1.tup_inv
  obtain ⟨u, us, rfl, ru, rus⟩ := rl.inv_cons
  obtain ⟨w, ws, rfl, rw', rws⟩ := rus.inv_cons
  cases rws.inv_nil
  refine unpackItems_tuple (items := [u, w].toArray) H.hand ⟨_, G1.frGet hm, rfl, ep, rfl⟩ fun h' he => ?_
  have G2 := G1.keep (h' := h') fun b o e => he b o (by rintro rfl; rw [push_none] at e; cases e) e
  exact assign2_ok (H := H.kind) (v := b) (w := a) G2 rw' ru (fun h => wpAny_bindName h) (fun h => wpAny_bindName h) hy hx fun h2 tk2 G3 => hN _ _ _ _ _ _ hk x1 G3
/-- x, y, z = (e, e', e'') -/
theorem x_tripleS {k : Nat} (H : Amb c pl k) {x y z : Str} {p1 p2 p3 tp pos : Pos} {kd : Nat} {e : Expr} (h : Ev c pl ρ σ e fun v σ1 => ∃ a b d, v = .tup [a, b, d] ∧ N ((x, a) :: (y, b) :: (z, d) :: ρ) σ1)
    (hx : pl.env.kindOf x = some .local := by rfl) (hy : pl.env.kindOf y = some .local := by rfl) (hz : pl.env.kindOf z = some .local := by rfl)
    (hs : swapsWithSole [.Tuple [.Name x p1, .Name y p2, .Name z p3] kd tp] e pos.line pl.env = pure false := by rfl)
    (hw : swappedStores [.Tuple [.Name x p1, .Name y p2, .Name z p3] kd tp] e pl.env = pure (some [x, y, z]) := by rfl) :
    Ex1 c pl ρ σ (.Assign [.Tuple [.Name x p1, .Name y p2, .Name z p3] kd tp] e pos) N R := fun s as fr hid Q E G hN hR => by
  refine Assign_Tuple_swapped (names := [x, y, z]) (h _ _ _ _ _ _ G ?_) hs hw
  rintro h1 tk1 v1 as1 fr1 v σ1 ⟨a, b, d, rfl, hk⟩ x1 G1 r1
  obtain ⟨t, xs, ep, rfl, hm, rl⟩ := r1.tup_inv
  obtain ⟨u, us, rfl, ru, rus⟩ := rl.inv_cons
  obtain ⟨w, ws, rfl, rw', rws⟩ := rus.inv_cons
  obtain ⟨q, qs, rfl, rq, rqs⟩ := rws.inv_cons
  cases rqs.inv_nil
  refine unpackItems_tuple (items := [u, w, q].toArray) H.hand ⟨_, G1.frGet hm, rfl, ep, rfl⟩ fun h' he => ?_
  have G2 := G1.keep (h' := h') fun b o e => he b o (by rintro rfl; rw [push_none] at e; cases e) e
  refine wpAny_assignInOrder_more (wpAny_bindName (st_ok (v := d) G2 rq.toV (fun h3 tk3 G3 => ?_) H.kind hz))
  exact assign2_ok (H := H.kind) (v := b) (w := a) G3 rw' ru (fun h => wpAny_bindName h) (fun h => wpAny_bindName h) hy hx fun h2 tk2 G4 => hN _ _ _ _ _ _ hk x1 G4

theorem noI_bytes_add : typeLookup (.type "bytes") (dunderI "add") = pure none := by rw [typeLookup_type, builtinLookup_eq_fast]; kernel_rfl
theorem iadd_bytes_ok {prog : Program} {w : World} {A : Around} {E : Value → Shared → Prop} {s : Shared} {a b : List UInt8} {t u : Tok} {Q : Value → Shared → Prop} (hz : a.length + b.length ≤ 100000) (h : ∀ t' k, Q (.bytes (a ++ b).toArray t') { s with toks := k }) :
    wpAny (model prog w) A (inplaceOp .Add (.bytes a.toArray t) (.bytes b.toArray u)) Q E s := by
  refine iconcat_gives (typeIs_bytes s _ t) (typeIs_bytes s _ u) noI_bytes_add KBy.noFill_bytes_add KBy.seq_bytes_add FB.slot_bytes_add FB.entry_bytes_add (FB.args_bytes_add_2 _ _) (KBy.gives_bytes_add (KBy.tooLong_not (by simp only [List.size_toArray]; omega))) ?_
  by_cases hb : a.toArray.isEmpty = true
  · rw [if_pos hb]
    have e : a = [] := by cases a with | nil => rfl | cons => cases hb
    subst e
    exact h u s.toks
  · rw [if_neg hb]
    by_cases hc : b.toArray.isEmpty = true
    · rw [if_pos hc]
      have e : b = [] := by cases b with | nil => rfl | cons => cases hc
      subst e
      have := h t s.toks
      rw [List.append_nil] at this
      exact this
    · rw [if_neg hc, List.append_toArray]
      exact ⟨by rw [List.size_toArray, List.length_append, sizeLine_eq]; omega, h s.toks (s.toks + 1)⟩
theorem x_augB {x : Str} {pos' pos : Pos} {e : Expr} {a : List UInt8} (hv : ρ.lookup x = some (.bytes a))
    (h : Ev c pl ρ σ e fun v σ1 => ∃ b, v = .bytes b ∧ a.length + b.length ≤ 100000 ∧ N ((x, .bytes (a ++ b)) :: ρ) σ1) (hk : pl.cs.kind = .function := by rfl) (hx : pl.env.kindOf x = some .local := by rfl) :
    Ex1 c pl ρ σ (.AugAssign (.Name x pos') .Add e pos) N R := fun s as fr hid Q E G hN hR => by
  obtain ⟨m, F, r⟩ := G.m
  obtain ⟨v', e', r'⟩ := r x _ hv
  obtain ⟨t, rfl⟩ := r'.bytes_inv
  refine wpAny_AugAssign_Name (wpAny_loadName_local (by exact hk) hx F.ns e' (h _ _ _ _ _ _ G ?_))
  rintro h1 tk1 v1 as1 fr1 v σ1 ⟨b, rfl, hz, hk1⟩ x1 G1 r1
  obtain ⟨t1, rfl⟩ := r1.bytes_inv
  exact iadd_bytes_ok hz fun t' k => st_ok (v := .bytes (a ++ b)) G1 (Rep.bytes _ _) (fun h' tk G' => hN _ _ _ _ _ _ hk1 x1 G') hk hx

/-- == and != of two int lists -/
theorem et_cmpL {k : Nat} (H : Amb c pl k) {K : Bool → List PO → Prop} {l r : Expr} {op : CmpOp} {pos : Pos} (hop : op = .Eq ∨ op = .NotEq)
    (h : Ev c pl ρ σ l fun va σ1 => ∃ a : List Int, va = .list (a.map V.int) ∧ Ev c pl ρ σ1 r fun vb σ2 => ∃ b : List Int, vb = .list (b.map V.int) ∧ K (if op = .Eq then decide (a = b) else !decide (a = b)) σ2)
    (hm : behindInMarks op r = false := by with_unfolding_all rfl) : ET c pl ρ σ (.Compare l [op] [r] pos) K := fun s as fr hid Q E G hQ => by
  refine wpAny_isTrue_Compare1 (h _ _ _ _ _ _ G ?_) hm
  rintro h1 tk1 v1 as1 fr1 va σ1 ⟨a, rfl, hr⟩ x1 G1 r1
  refine hr _ _ _ _ _ _ G1 ?_
  rintro h2 tk2 v2 as2 fr2 vb σ2 ⟨b, rfl, hk⟩ x2 G2 r2
  obtain ⟨a1, xs, ep, rfl, hm1, rl⟩ := (r1.ext x2).list_inv
  obtain ⟨a2, ys, ep2, rfl, hm2, rl2⟩ := r2.list_inv
  have hu : pl.A.units + 64 < cLine := by have := H.units; simp only [cLine]; omega
  rcases hop with rfl | rfl
  · exact eq_intsK ⟨_, G2.frGet hm1, rfl, ep, rfl⟩ rl.ints ⟨_, G2.frGet hm2, rfl, ep2, rfl⟩ rl2.ints hu (wpAny_truthy_bool (hQ _ _ _ _ _ _ (by simpa using hk) (x1.trans x2) G2))
  · exact ne_intsK ⟨_, G2.frGet hm1, rfl, ep, rfl⟩ rl.ints ⟨_, G2.frGet hm2, rfl, ep2, rfl⟩ rl2.ints hu (wpAny_truthy_bool (hQ _ _ _ _ _ _ (by simpa using hk) (x1.trans x2) G2))

theorem paired_length {α β : Type} {F : α → β → Prop} : ∀ {l : List α} {m : List β}, Paired F l m → l.length = m.length
  | _, _, .nil => rfl
  | _, _, .cons _ h => by simp [paired_length h]
theorem paired_get {α β : Type} {F : α → β → Prop} : ∀ {l : List α} {m : List β}, Paired F l m → ∀ (i : Nat) a b, l[i]? = some a → m[i]? = some b → F a b
  | _, _, .nil, i, a, b, h, _ => by simp at h
  | _, _, .cons h r, 0, a, b, h1, h2 => by simp at h1 h2; subst h1; subst h2; exact h
  | _, _, .cons h r, i + 1, a, b, h1, h2 => paired_get r i a b (by simpa using h1) (by simpa using h2)
/-- [x % m for x in e] -/
theorem ev_compMod {k : Nat} (H : Amb c pl k) {x : Str} {p1 p2 p3 px pos : Pos} {kd : Nat} {iter : Expr} {scope : Scope} {m : Int} (hm : 0 < m)
    (h : Ev c pl ρ σ iter fun v σ1 => ∃ ns : List Int, v = .list (ns.map V.int) ∧ ns.length ≤ 100000 ∧ K (.list ((ns.map (· % m)).map V.int)) σ1)
    (hfree : (scope.names.all fun y => y.2 != .free) = true := by decide) (hcell : (scope.names.all fun y => y.2 != .cell) = true := by decide) (hkind : scope.kind = .function := by rfl)
    (hnames : ∀ y ∈ scope.names, y.2 = .local → scope.names.lookup y.1 = some .local := by decide) (hx : scope.names.lookup x = some .local := by rfl) (hd : (x == ("__debug__" : Str)) = false := by decide)
    (hs : ∀ x, foldedSetIterable iter pl.env x = pure x := by intro _; rfl) :
    Ev c pl ρ σ (.ListComp (.BinOp (.Name x p1) .Mod (.Constant (.int m) kd p2) p3) [⟨.Name x px, iter, [], 0⟩] scope pos) K := fun s as fr hid Q E G hQ => by
  refine wpAny_ListComp_walk (fun _ => true) (fun v y => ∃ i t u, v = .int i t ∧ y = .int (i % m) u)
    (fun y hy e => by have := List.all_eq_true.mp hfree y hy; rw [e] at this; exact absurd this (by decide)) (fun y hy e => by have := List.all_eq_true.mp hcell y hy; rw [e] at this; exact absurd this (by decide)) hkind hnames hx (h _ _ _ _ _ _ G ?_) hs
  rintro h1 tk1 v1 as1 fr1 v σ1 ⟨ns, rfl, hz, hk⟩ x1 G1 r1
  obtain ⟨l, xs, ep, rfl, hml, rl⟩ := r1.list_inv
  have hl : h1.IsList l xs.toArray := ⟨_, G1.frGet hml, rfl, ep, rfl⟩
  have hlen : xs.length = ns.length := by have := rl.1; simpa using this
  refine wpAny_pyIter_list hl ?_
  have hne : l ≠ h1.objs.size := by rintro rfl; obtain ⟨o, ho, _⟩ := hl; rw [push_none] at ho; cases ho
  have W := Walks.list (prog := c.prog) (w := c.w) H.hand h1.objs.size l hne xs.toArray
  refine ⟨h1.objs.size, _, _, xs.toArray.size, _, _, rfl, W, by rw [List.size_toArray, hlen, sizeLine_eq]; omega, ⟨⟨_, Heap.get?_push_size _ rfl, rfl, rfl⟩, hl.push _⟩, ?_, ⟨?_, ?_⟩, ?_⟩
  · intro b hb
    show b < (h1.push _).objs.size
    rw [Heap.size_push]
    rcases List.mem_cons.mp hb with rfl | hb
    · exact Nat.lt_succ_self _
    · rw [List.mem_singleton.mp hb]
      exact Nat.lt_succ_of_lt (Heap.lt_size (G1.frGet hml))
  · intro C i v s₃ m₃ E' hP hn hv hkp htk
    exact wpAny_pure ⟨rfl, s₃.heap, s₃.toks, rfl, fun _ _ e => e⟩
  · intro C i v s₃ m₃ E' hP _ hn hv hkp htk
    have hi : i < xs.length := by
      rcases Nat.lt_or_ge i xs.length with h' | h'
      · exact h'
      · have hP' : xs.toArray[i]? = some v := hP
        rw [Array.getElem?_eq_none (by simpa using h')] at hP'; cases hP'
    have hPv : xs[i]? = some v := by simpa using hP
    have r := rl.2 i v (.int (ns[i]'(by omega))) hPv (by simp [hlen ▸ hi])
    cases v with
    | int z t =>
      refine wpAny_BinOp (wpAny_Name (wpAny_loadName_local (by exact hkind) (by exact hx) hn hv ?_) hd)
      refine wpAny_Constant_int ?_
      refine mod_int' (by omega) ?_
      rw [Int.fmod_eq_emod_of_nonneg _ (by omega)]
      exact ⟨⟨_, _, _, rfl, rfl⟩, s₃.heap, _, rfl, fun _ _ e => e⟩
    | _ => cases r
  · intro D h' tk ys vs hD hI hpl hvl hvP hF hkp
    obtain ⟨ep', hD'⟩ := hpl
    have hfil : vs.filter (fun _ => true) = vs := List.filter_eq_self.mpr fun _ _ => rfl
    rw [hfil] at hF
    have hD0 : h1.get? D = none := by
      cases q : h1.get? D with
      | none => rfl
      | some o => have := push_keep h1 { cls := .type "list_iterator", data := .fields #[.ref l, .int 0 0] } D o q; rw [this] at hD; cases hD
    have hDI : D ≠ h1.objs.size := by rintro rfl; rw [Heap.get?_push_size _ rfl] at hD; cases hD
    have G2 := G1.new (h' := h') (a := D) (o := lobj ys.toList ep') (fun b o e => hkp b o (by simp; rintro rfl; rw [push_none] at e; cases e) (push_keep h1 _ b o e)) hD0 (by simpa using hD')
    have hyl : ys.toList.length = ns.length := by rw [← paired_length hF, hvl, List.size_toArray, hlen]
    refine hQ _ _ _ _ _ _ _ hk (x1.trans (extCons _ _ _)) G2 (Rep.list D ys.toList ep' _ (.head _) (by simpa using hyl) ?_)
    intro i y d e1 e2
    simp only [List.getElem?_map, Option.map_map, Option.map_eq_some_iff] at e2
    obtain ⟨n, en, rfl⟩ := e2
    have hi : i < ns.length := by
      rcases Nat.lt_or_ge i ns.length with h' | h'
      · exact h'
      · rw [List.getElem?_eq_none h'] at en; cases en
    have hvi : vs[i]? = some (vs[i]'(by rw [hvl, List.size_toArray]; omega)) := List.getElem?_eq_getElem _
    obtain ⟨z, t, u, ez, ey⟩ := paired_get hF i _ _ hvi e1
    have hP := hvP i _ hvi
    have r := rl.2 i _ (.int n) (by simpa using hP) (by simp [en])
    rw [ez] at r
    cases r
    subst ey
    exact .int _ _
end
end Mine

namespace Mine

/-- the letters of a number to the base 16, A to P -/
def apWord (n : Nat) : List UInt8 := if n = 0 then [] else apWord (n / 16) ++ [(65 + n % 16).toUInt8]
termination_by n
decreasing_by omega
theorem apWord_zero : apWord 0 = [] := by unfold apWord; rfl
theorem apWord_pos {n : Nat} (h : n ≠ 0) : apWord n = apWord (n / 16) ++ [(65 + n % 16).toUInt8] := by rw [apWord]; simp [h]

abbrev AP16 : List UInt8 := [65, 66, 67, 68, 69, 70, 71, 72, 73, 74, 75, 76, 77, 78, 79, 80]
theorem ap_slice (d : Nat) (hd : d < 16) : sl AP16 (some (d : Int)) (some ((d : Int) + 1)) = [(65 + d).toUInt8] := by
  have e : ((d : Int) + 1) = ((d + 1 : Nat) : Int) := by omega
  rw [e, sl_mid]
  have : d + 1 - d = 1 := by omega
  rw [this]
  have h : d = 0 ∨ d = 1 ∨ d = 2 ∨ d = 3 ∨ d = 4 ∨ d = 5 ∨ d = 6 ∨ d = 7 ∨ d = 8 ∨ d = 9 ∨ d = 10 ∨ d = 11 ∨ d = 12 ∨ d = 13 ∨ d = 14 ∨ d = 15 := by omega
  rcases h with rfl | rfl | rfl | rfl | rfl | rfl | rfl | rfl | rfl | rfl | rfl | rfl | rfl | rfl | rfl | rfl <;> rfl

/-- just k letters -/
def padW : Nat → Nat → List UInt8
  | 0, _ => []
  | k + 1, n => padW k (n / 16) ++ [(65 + n % 16).toUInt8]
theorem padW_length : ∀ k n, (padW k n).length = k
  | 0, _ => rfl
  | k + 1, n => by rw [padW, List.length_append, padW_length k]; rfl
theorem padW_zero : ∀ k, padW k 0 = List.replicate k 65
  | 0 => rfl
  | k + 1 => by rw [padW, show 0 / 16 = 0 from rfl, padW_zero k, List.replicate_succ']; rfl
theorem apWord_le : ∀ (k n : Nat), n < 16 ^ k → (apWord n).length ≤ k
  | 0, n, h => by rw [show n = 0 from by simpa using h, apWord_zero]; simp
  | k + 1, n, h => by
    by_cases h0 : n = 0
    · subst h0; rw [apWord_zero]; simp
    · rw [apWord_pos h0, List.length_append]
      have := apWord_le k (n / 16) (by rw [Nat.pow_succ] at h; omega)
      simp only [List.length_singleton]; omega
/-- filled up with A's ahead -/
theorem pad_word : ∀ (k n : Nat), n < 16 ^ k → List.replicate (k - (apWord n).length) 65 ++ apWord n = padW k n
  | 0, n, h => by rw [show n = 0 from by simpa using h, apWord_zero]; rfl
  | k + 1, n, h => by
    by_cases h0 : n = 0
    · subst h0; rw [apWord_zero, padW_zero]; simp
    · have ih := pad_word k (n / 16) (by rw [Nat.pow_succ] at h; omega)
      rw [apWord_pos h0, padW, ← ih, List.length_append, List.length_singleton, Nat.add_sub_add_right, List.append_assoc]
theorem digit_ne (d : Nat) (h : d ≠ 0) (h2 : d < 16) : (65 + d).toUInt8 ≠ 65 := by
  intro e
  have : (65 + d).toUInt8.toNat = (65 : UInt8).toNat := by rw [e]
  simp at this
  omega
/-- no A ahead -/
theorem apWord_head (n : Nat) : (apWord n).take 1 ≠ [65] := by
  induction n using Nat.strongRecOn with
  | ind n ih =>
    by_cases h0 : n = 0
    · subst h0; rw [apWord_zero]; simp
    · rw [apWord_pos h0]
      by_cases h1 : n / 16 = 0
      · rw [h1, apWord_zero, List.nil_append]
        intro e
        have := List.cons.inj (by simpa using e : [(65 + n % 16).toUInt8] = [65])
        exact digit_ne (n % 16) (by omega) (Nat.mod_lt _ (by decide)) this.1
      · have hp : 1 ≤ (apWord (n / 16)).length := by rw [apWord_pos h1, List.length_append]; simp
        rw [List.take_append_of_le_length hp]
        exact ih _ (by omega)

/-- three letters for a symbol below 4096 -/
def enc3 (s : Int) : List UInt8 := (byteArr [65 + s / 256, 65 + s / 16 % 16, 65 + s % 16]).toList
theorem enc3_nat (s : Nat) : enc3 (s : Int) = [(65 + s / 256).toUInt8, (65 + s / 16 % 16).toUInt8, (65 + s % 16).toUInt8] := by
  have e1 : (65 + (s : Int) / 256).toNat = 65 + s / 256 := by omega
  have e2 : (65 + (s : Int) / 16 % 16).toNat = 65 + s / 16 % 16 := by omega
  have e3 : (65 + (s : Int) % 16).toNat = 65 + s % 16 := by omega
  simp only [enc3, byteArr, List.map_cons, List.map_nil, e1, e2, e3]
theorem padW_sym (k n s : Nat) (hs : s < 4096) : padW (k + 3) (4096 * n + s) = padW k n ++ enc3 s := by
  have e1 : (4096 * n + s) % 16 = s % 16 := by omega
  have e2 : (4096 * n + s) / 16 % 16 = s / 16 % 16 := by omega
  have e3 : (4096 * n + s) / 16 / 16 % 16 = s / 256 := by omega
  have e4 : (4096 * n + s) / 16 / 16 / 16 = n := by omega
  rw [enc3_nat]
  show ((padW k ((4096 * n + s) / 16 / 16 / 16) ++ [_]) ++ [_]) ++ [_] = _
  rw [e1, e2, e3, e4]
  simp
/-- a row of symbols as one number -/
def numOf (b : Nat) (l : List Nat) : Nat := l.foldl (fun a s => b * a + s) 0
def numFrom (b : Nat) (a : Nat) (l : List Nat) : Nat := l.foldl (fun a s => b * a + s) a
theorem numFrom_eq (b : Nat) : ∀ (l : List Nat) (a : Nat), numFrom b a l = a * b ^ l.length + numFrom b 0 l
  | [], a => by simp [numFrom]
  | s :: r, a => by
    have h1 := numFrom_eq b r (b * a + s)
    have h2 := numFrom_eq b r (b * 0 + s)
    unfold numFrom at h1 h2 ⊢
    rw [List.foldl_cons, List.foldl_cons, h1, h2, List.length_cons, Nat.pow_succ, Nat.add_mul, Nat.mul_zero, Nat.zero_add, Nat.add_assoc]
    congr 1
    rw [Nat.mul_comm b a, Nat.mul_assoc, Nat.mul_comm b]
theorem numFrom_cons (b s : Nat) (r : List Nat) : numFrom b 0 (s :: r) = s * b ^ r.length + numFrom b 0 r := by
  have := numFrom_eq b r s
  show numFrom b (b * 0 + s) r = _
  rw [Nat.mul_zero, Nat.zero_add, this]
theorem numFrom_snoc (b : Nat) (l : List Nat) (s : Nat) : numFrom b 0 (l ++ [s]) = b * numFrom b 0 l + s := by
  simp [numFrom]
theorem numFrom_lt (b : Nat) (hb : 0 < b) : ∀ l : List Nat, (∀ s ∈ l, s < b) → numFrom b 0 l < b ^ l.length
  | [], _ => by simp [numFrom]
  | s :: r, h => by
    rw [numFrom_cons, List.length_cons, Nat.pow_succ]
    have h1 := numFrom_lt b hb r fun x hx => h x (List.mem_cons_of_mem _ hx)
    have h2 := h s (List.mem_cons_self ..)
    calc s * b ^ r.length + numFrom b 0 r < s * b ^ r.length + b ^ r.length := Nat.add_lt_add_left h1 _
      _ = (s + 1) * b ^ r.length := by rw [Nat.add_mul, Nat.one_mul]
      _ ≤ b * b ^ r.length := Nat.mul_le_mul_right _ h2
      _ = b ^ r.length * b := Nat.mul_comm _ _
/-- the word, filled up, is the letters -/
theorem word_letters : ∀ (l : List Nat) (k a : Nat), (∀ s ∈ l, s < 4096) → padW (k + 3 * l.length) (numFrom 4096 a l) = padW k a ++ l.flatMap fun (s : Nat) => enc3 (s : Int)
  | [], k, a, _ => by simp [numFrom]
  | s :: r, k, a, h => by
    have ih := word_letters r (k + 3) (4096 * a + s) fun x hx => h x (List.mem_cons_of_mem _ hx)
    have e : k + 3 * (s :: r).length = k + 3 + 3 * r.length := by simp only [List.length_cons]; omega
    rw [e]
    show padW (k + 3 + 3 * r.length) (numFrom 4096 (4096 * a + s) r) = _
    rw [ih, padW_sym _ _ _ (h s (List.mem_cons_self ..)), List.flatMap_cons, List.append_assoc]
theorem pow16 (n : Nat) : 4096 ^ n = 16 ^ (3 * n) := by rw [Nat.pow_mul]
theorem filled_letters (l : List Nat) (h : ∀ s ∈ l, s < 4096) :
    List.replicate (3 * l.length - (apWord (numFrom 4096 0 l)).length) 65 ++ apWord (numFrom 4096 0 l) = l.flatMap fun (s : Nat) => enc3 (s : Int) := by
  rw [pad_word _ _ (by rw [← pow16]; exact numFrom_lt 4096 (by decide) l h)]
  have := word_letters l 0 0 h
  rw [Nat.zero_add] at this
  rw [this]; rfl
/-- turned by one symbol -/
theorem turn_one (b s : Nat) (r : List Nat) (hb : 2 ≤ b) (h : ∀ x ∈ s :: r, x < b) (hne : ∃ x ∈ s :: r, x ≠ b - 1) :
    (b * numFrom b 0 (s :: r)) % (b ^ (s :: r).length - 1) = numFrom b 0 (r ++ [s]) := by
  have hlt := numFrom_lt b (by omega) (r ++ [s]) (fun x hx => h x (by simpa [or_comm] using hx))
  have hlen : (r ++ [s]).length = (s :: r).length := by simp
  rw [hlen] at hlt
  have hmax : numFrom b 0 (r ++ [s]) ≠ b ^ (s :: r).length - 1 := by
    have all : ∀ l : List Nat, (∀ x ∈ l, x < b) → numFrom b 0 l = b ^ l.length - 1 → ∀ x ∈ l, x = b - 1 := by
      intro l
      induction l with
      | nil => intro _ _ x hx; simp at hx
      | cons y l ih =>
        intro hl he x hx
        have h1 := numFrom_lt b (by omega) l fun z hz => hl z (List.mem_cons_of_mem _ hz)
        have h2 := hl y (List.mem_cons_self ..)
        rw [numFrom_cons, List.length_cons, Nat.pow_succ] at he
        have hp : 0 < b ^ l.length := Nat.pow_pos (by omega)
        have h3 : y = b - 1 := by
          rcases Nat.lt_or_ge y (b - 1) with hy | hy
          · exfalso
            have : (y + 1) * b ^ l.length ≤ (b - 1) * b ^ l.length := Nat.mul_le_mul_right _ (by omega)
            rw [Nat.add_mul, Nat.one_mul] at this
            have e : (b - 1) * b ^ l.length + b ^ l.length = b ^ l.length * b := by
              rw [Nat.mul_comm (b ^ l.length) b]
              conv => rhs; rw [show b = (b - 1) + 1 from by omega]
              rw [Nat.add_mul, Nat.one_mul, show b - 1 + 1 = b from by omega]
            omega
          · omega
        subst h3
        have e : (b - 1) * b ^ l.length + b ^ l.length = b ^ l.length * b := by
          rw [Nat.mul_comm (b ^ l.length) b]
          conv => rhs; rw [show b = (b - 1) + 1 from by omega]
          rw [Nat.add_mul, Nat.one_mul, show b - 1 + 1 = b from by omega]
        rcases List.mem_cons.mp hx with rfl | hx
        · rfl
        · exact ih (fun z hz => hl z (List.mem_cons_of_mem _ hz)) (by omega) x hx
    intro he
    obtain ⟨x, hx, hxne⟩ := hne
    exact hxne (all (r ++ [s]) (fun x hx => h x (by simpa [or_comm] using hx)) (by rw [hlen]; exact he) x (by simpa [or_comm] using hx))
  have e : b * numFrom b 0 (s :: r) = numFrom b 0 (r ++ [s]) + s * (b ^ (s :: r).length - 1) := by
    rw [numFrom_snoc, numFrom_cons, List.length_cons, Nat.pow_succ, Nat.mul_sub, Nat.mul_one, Nat.mul_add]
    have hp : 0 < b ^ r.length * b := Nat.mul_pos (Nat.pow_pos (by omega)) (by omega)
    have : s ≤ s * (b ^ r.length * b) := Nat.le_mul_of_pos_right _ hp
    have e2 : b * (s * b ^ r.length) = s * (b ^ r.length * b) := by rw [Nat.mul_comm b, Nat.mul_assoc]
    omega
  rw [e, Nat.add_mul_mod_self_right, Nat.mod_eq_of_lt (by omega)]
end Mine

namespace Mine

/-! rows of codes and what they say -/
structure DS where
  rows : List (List Int)
  oct : List Int
  last : List Int
def saidBy (d : DS) (c : Int) : List Int :=
  if c < 256 then [c] else if c - 256 < d.rows.length then (d.rows[(c - 256).toNat]?).getD [] else d.last ++ d.last.take 1
def dstep (d : DS) (c : Int) : DS :=
  ⟨if d.last = [] then d.rows else d.rows ++ [d.last ++ (saidBy d c).take 1], d.oct ++ saidBy d c, saidBy d c⟩
def dec (codes : List Int) : DS := codes.foldl dstep ⟨[], [], []⟩
def octetsOf (codes : List Int) : List Int := (dec codes).oct
theorem dec_snoc (l : List Int) (c : Int) : dec (l ++ [c]) = dstep (dec l) c := by simp [dec]
theorem dec_take (l : List Int) (i : Nat) (h : i < l.length) : dec (l.take (i + 1)) = dstep (dec (l.take i)) l[i] := by
  rw [List.take_add_one, List.getElem?_eq_getElem h]
  exact dec_snoc _ _

def CodeOk (i : Nat) (c : Int) : Prop := (1 ≤ c ∧ c < 256) ∨ (256 ≤ c ∧ c < 256 + (i : Int))
def Valid (codes : List Int) : Prop := ∀ (i : Nat) (h : i < codes.length), CodeOk i codes[i]
def Oct (l : List Int) : Prop := ∀ o ∈ l, 1 ≤ o ∧ o < 256

structure DOk (m : Nat) (d : DS) : Prop where
  len : d.rows.length = m - 1
  first : m = 0 → d.last = [] ∧ d.oct = [] ∧ d.rows = []
  last : m ≠ 0 → d.last ≠ []
  rowsOk : ∀ r ∈ d.rows, r ≠ [] ∧ Oct r ∧ r.length ≤ d.oct.length
  lastOk : Oct d.last ∧ d.last.length ≤ d.oct.length
  octOk : Oct d.oct
theorem Oct.append {a b : List Int} (h1 : Oct a) (h2 : Oct b) : Oct (a ++ b) := fun o ho => (List.mem_append.mp ho).elim (h1 o) (h2 o)
theorem Oct.take {a : List Int} (h : Oct a) (n : Nat) : Oct (a.take n) := fun o ho => h o (List.mem_of_mem_take ho)
theorem said_row {d : DS} {c : Int} (h1 : 256 ≤ c) (h2 : c - 256 < d.rows.length) : ∃ h : (c - 256).toNat < d.rows.length, saidBy d c = d.rows[(c - 256).toNat] := by
  have h : (c - 256).toNat < d.rows.length := by omega
  refine ⟨h, ?_⟩
  unfold saidBy
  rw [if_neg (by omega), if_pos h2, List.getElem?_eq_getElem h]
  rfl
theorem said_ok {m : Nat} {d : DS} {c : Int} (h : DOk m d) (hc : CodeOk m c) : saidBy d c ≠ [] ∧ Oct (saidBy d c) := by
  rcases hc with ⟨h1, h2⟩ | ⟨h1, h2⟩
  · unfold saidBy
    rw [if_pos h2]
    exact ⟨by simp, fun o ho => by rw [List.mem_singleton.mp ho]; exact ⟨h1, h2⟩⟩
  · by_cases h3 : c - 256 < d.rows.length
    · obtain ⟨hi, e⟩ := said_row h1 h3
      rw [e]
      have := h.rowsOk _ (List.getElem_mem hi)
      exact ⟨this.1, this.2.1⟩
    · unfold saidBy
      rw [if_neg (by omega), if_neg h3]
      have hl := h.last (by omega)
      exact ⟨by simp [hl], h.lastOk.1.append (h.lastOk.1.take 1)⟩
theorem dok_zero : DOk 0 ⟨[], [], []⟩ := ⟨rfl, fun _ => ⟨rfl, rfl, rfl⟩, fun h => absurd rfl h, fun r hr => (by cases hr), ⟨fun o ho => (by cases ho), Nat.le_refl _⟩, fun o ho => (by cases ho)⟩
theorem dok_step {m : Nat} {d : DS} {c : Int} (h : DOk m d) (hc : CodeOk m c) : DOk (m + 1) (dstep d c) := by
  obtain ⟨s1, s2⟩ := said_ok h hc
  have sl : 1 ≤ (saidBy d c).length := List.length_pos_iff.mpr s1
  refine ⟨?_, by intro e; omega, fun _ => s1, ?_, ⟨s2, ?_⟩, h.octOk.append s2⟩
  · unfold dstep
    by_cases e : d.last = []
    · have hm : m = 0 := by
        rcases Nat.eq_zero_or_pos m with h' | h'
        · exact h'
        · exact absurd e (h.last (by omega))
      subst hm
      rw [if_pos e]
      have := (h.first rfl).2.2
      rw [this]; rfl
    · have hm : m ≠ 0 := fun hm => e (h.first hm).1
      rw [if_neg e, List.length_append, h.len, List.length_singleton]
      omega
  · intro r hr
    have key : ∀ r ∈ d.rows, r ≠ [] ∧ Oct r ∧ r.length ≤ (d.oct ++ saidBy d c).length := fun r hr => by
      have := h.rowsOk r hr
      exact ⟨this.1, this.2.1, by rw [List.length_append]; omega⟩
    unfold dstep at hr ⊢
    by_cases e : d.last = []
    · rw [if_pos e] at hr
      exact key r hr
    · rw [if_neg e] at hr
      rcases List.mem_append.mp hr with hr | hr
      · exact key r hr
      · rw [List.mem_singleton.mp hr]
        refine ⟨by simp [e], h.lastOk.1.append (s2.take 1), ?_⟩
        have := h.lastOk.2
        simp only [List.length_append, List.length_take]
        omega
  · show (saidBy d c).length ≤ (d.oct ++ saidBy d c).length
    rw [List.length_append]; omega
theorem dok_take {codes : List Int} (hv : Valid codes) : ∀ i, i ≤ codes.length → DOk i (dec (codes.take i))
  | 0, _ => dok_zero
  | i + 1, h => by rw [dec_take codes i (by omega)]; exact dok_step (dok_take hv i (by omega)) (hv i (by omega))
theorem oct_take_le {codes : List Int} : ∀ i, i ≤ codes.length → (dec (codes.take i)).oct.length ≤ (octetsOf codes).length := by
  have step : ∀ i, i < codes.length → (dec (codes.take i)).oct.length ≤ (dec (codes.take (i + 1))).oct.length := by
    intro i h
    rw [dec_take codes i h]
    show _ ≤ ((dec (codes.take i)).oct ++ _).length
    rw [List.length_append]; omega
  have all : ∀ k i, i + k = codes.length → (dec (codes.take i)).oct.length ≤ (octetsOf codes).length := by
    intro k
    induction k with
    | zero => intro i h; rw [show i = codes.length from by omega, List.take_length]; exact Nat.le_refl _
    | succ k ih => intro i h; exact Nat.le_trans (step i (by omega)) (ih (i + 1) (by omega))
  intro i h
  exact all (codes.length - i) i (by omega)

/-! numbers to the base 256 -/
def nI (l : List Int) : Nat := numFrom 256 0 (l.map Int.toNat)
theorem nI_nil : nI [] = 0 := rfl
theorem nI_append (a b : List Int) : nI (a ++ b) = nI a * 256 ^ b.length + nI b := by
  unfold nI
  rw [List.map_append]
  have h : numFrom 256 0 (a.map Int.toNat ++ b.map Int.toNat) = numFrom 256 (numFrom 256 0 (a.map Int.toNat)) (b.map Int.toNat) := by simp [numFrom]
  rw [h, numFrom_eq, List.length_map]
theorem nI_one (c : Int) : nI [c] = c.toNat := by simp [nI, numFrom]
theorem oct_lt {l : List Int} (h : Oct l) : ∀ x ∈ l.map Int.toNat, x < 256 := by
  intro x hx
  obtain ⟨o, ho, rfl⟩ := List.mem_map.mp hx
  have := h o ho
  omega
theorem nI_lt {l : List Int} (h : Oct l) : nI l < 256 ^ l.length := by
  have := numFrom_lt 256 (by decide) (l.map Int.toNat) (oct_lt h)
  rwa [List.length_map] at this
/-- the first octet of a row, told by its number and its size -/
theorem first_octet {l : List Int} (h : Oct l) (hne : l ≠ []) : (nI l : Int) / ((256 : Int) ^ l.length / 256) = nI (l.take 1) ∧ (256 : Int) ^ l.length / 256 = ((256 ^ (l.length - 1) : Nat) : Int) := by
  cases l with
  | nil => exact absurd rfl hne
  | cons a t =>
    have e : (256 : Int) ^ (a :: t).length / 256 = ((256 ^ t.length : Nat) : Int) := by
      rw [List.length_cons, Int.pow_succ, Int.mul_ediv_cancel _ (by decide)]
      push_cast; rfl
    refine ⟨?_, by rw [e]; rfl⟩
    rw [e]
    have ht := nI_lt (l := t) fun o ho => h o (List.mem_cons_of_mem _ ho)
    have e2 : nI (a :: t) = nI [a] * 256 ^ t.length + nI t := nI_append [a] t
    have hp : 0 < 256 ^ t.length := Nat.pow_pos (by decide)
    have e3 : nI (a :: t) / 256 ^ t.length = nI [a] := by
      rw [e2, Nat.mul_comm, Nat.mul_add_div hp, Nat.div_eq_of_lt ht, Nat.add_zero]
    show ((nI (a :: t) : Nat) : Int) / _ = ((nI ((a :: t).take 1) : Nat) : Int)
    rw [← Int.natCast_ediv, e3]
    rfl
/-- what the reader of codes does with numbers alone -/
theorem num_said {m : Nat} {d : DS} {c : Int} (h : DOk m d) (hc : CodeOk m c) (h1 : ¬ c < 256) (h2 : ¬ c - 256 < d.rows.length) :
    (nI (saidBy d c) : Int) = 256 * (nI d.last : Int) + (nI d.last : Int) / ((256 : Int) ^ d.last.length / 256) ∧ (256 : Int) ^ (saidBy d c).length = 256 * (256 : Int) ^ d.last.length := by
  have hm : m ≠ 0 := by rcases hc with hc | hc <;> omega
  have hl := h.last hm
  have e : saidBy d c = d.last ++ d.last.take 1 := by unfold saidBy; rw [if_neg h1, if_neg h2]
  have l1 : (d.last.take 1).length = 1 := by rw [List.length_take]; have := List.length_pos_iff.mpr hl; omega
  obtain ⟨f1, f2⟩ := first_octet h.lastOk.1 hl
  rw [e, f1, nI_append, l1, List.length_append, l1, Int.pow_succ]
  push_cast
  constructor <;> omega
theorem num_row {m : Nat} {d : DS} {c : Int} (h : DOk m d) (hc : CodeOk m c) (hl : d.last ≠ []) :
    (nI (d.last ++ (saidBy d c).take 1) : Int) = 256 * (nI d.last : Int) + (nI (saidBy d c) : Int) / ((256 : Int) ^ (saidBy d c).length / 256) ∧ (256 : Int) ^ (d.last ++ (saidBy d c).take 1).length = 256 * (256 : Int) ^ d.last.length := by
  obtain ⟨s1, s2⟩ := said_ok h hc
  have l1 : ((saidBy d c).take 1).length = 1 := by rw [List.length_take]; have := List.length_pos_iff.mpr s1; omega
  obtain ⟨f1, f2⟩ := first_octet s2 s1
  rw [f1, nI_append, l1, List.length_append, l1, Int.pow_succ]
  push_cast
  constructor <;> omega
theorem num_oct (d : DS) (c : Int) : (nI (dstep d c).oct : Int) = (nI d.oct : Int) * (256 : Int) ^ (saidBy d c).length + nI (saidBy d c) := by
  show (nI (d.oct ++ saidBy d c) : Int) = _
  rw [nI_append]; push_cast; rfl

/-! the greedy writer -/
/-- what the writer has made so far -/
structure GOk (o : List Int) (rows : List (List Int)) (codes : List Int) (place : Nat) : Prop where
  le : place ≤ o.length
  valid : Valid codes
  oct : (dec codes).oct = o.take place
  first : codes = [] → rows = [] ∧ place = 0
  more : codes ≠ [] → rows = (dec codes).rows ++ [(dec codes).last ++ (o.drop place).take 1]
  room : codes.length ≤ place
theorem gok_zero (o : List Int) : GOk o [] [] 0 := ⟨Nat.zero_le _, fun i h => by simp at h, rfl, fun _ => ⟨rfl, rfl⟩, fun h => absurd rfl h, Nat.le_refl _⟩
/-- a pick -/
def Pick (o : List Int) (rows : List (List Int)) (place : Nat) (k : Nat) (code : Int) (size : Nat) : Prop :=
  (∃ h : place < o.length, code = o[place] ∧ size = 1) ∨ (∃ j, ∃ h : j < rows.length, j < k ∧ code = 256 + (j : Int) ∧ size = rows[j].length ∧ 1 < size ∧ (o.drop place).take size = rows[j])
theorem valid_len {codes : List Int} (hv : Valid codes) (hne : codes ≠ []) : (dec codes).rows.length = codes.length - 1 ∧ (dec codes).last ≠ [] := by
  have h := dok_take hv codes.length (Nat.le_refl _)
  rw [List.take_length] at h
  exact ⟨h.len, h.last (by have := List.length_pos_iff.mpr hne; omega)⟩
theorem gok_rows {o : List Int} {rows : List (List Int)} {codes : List Int} {place : Nat} (g : GOk o rows codes place) : rows.length = codes.length := by
  by_cases h : codes = []
  · rw [(g.first h).1, h]; rfl
  · obtain ⟨h1, _⟩ := valid_len g.valid h
    have := List.length_pos_iff.mpr h
    rw [g.more h, List.length_append, h1, List.length_singleton]; omega
theorem gok_step {o : List Int} {rows : List (List Int)} {codes : List Int} {place size : Nat} {code : Int} (ho : Oct o) (g : GOk o rows codes place) (hp : place < o.length) (p : Pick o rows place rows.length code size) :
    GOk o (rows ++ [(o.drop place).take (size + 1)]) (codes ++ [code]) (place + size) ∧ 1 ≤ size := by
  have hrl := gok_rows g
  -- what the code says
  have key : CodeOk codes.length code ∧ saidBy (dec codes) code = (o.drop place).take size ∧ place + size ≤ o.length ∧ 1 ≤ size := by
    rcases p with ⟨h, rfl, rfl⟩ | ⟨j, hj, _, rfl, hs, h1, he⟩
    · have hb := ho _ (List.getElem_mem h)
      refine ⟨.inl hb, ?_, by omega, Nat.le_refl _⟩
      unfold saidBy
      rw [if_pos hb.2, List.drop_eq_getElem_cons h]
      rfl
    · have hle : place + size ≤ o.length := by
        have := congrArg List.length he
        rw [List.length_take, List.length_drop, ← hs] at this
        omega
      refine ⟨.inr ⟨by omega, by omega⟩, ?_, hle, by omega⟩
      have hne : codes ≠ [] := by rintro rfl; simp at hrl; rw [hrl] at hj; simp at hj
      obtain ⟨l1, l2⟩ := valid_len g.valid hne
      have hm := g.more hne
      by_cases hlast : j < (dec codes).rows.length
      · obtain ⟨hi, e⟩ := said_row (d := dec codes) (c := 256 + (j : Int)) (by omega) (by omega)
        rw [e, he]
        have e2 : rows[j] = ((dec codes).rows ++ [(dec codes).last ++ (o.drop place).take 1])[j]'(by rw [← hm]; exact hj) := by simp only [hm]
        rw [e2, List.getElem_append_left hlast]
        congr 1
        omega
      · have hjl : j = (dec codes).rows.length := by
          have := List.length_pos_iff.mpr hne
          omega
        have e2 : rows[j] = (dec codes).last ++ (o.drop place).take 1 := by
          have e3 : rows[j] = ((dec codes).rows ++ [(dec codes).last ++ (o.drop place).take 1])[j]'(by rw [← hm]; exact hj) := by simp only [hm]
          rw [e3, List.getElem_append_right (by omega)]
          simp [hjl]
        unfold saidBy
        rw [if_neg (by omega), if_neg (by omega), he, e2]
        congr 1
        -- the next octet is the row's first
        have h4 : ((o.drop place).take size).take 1 = ((dec codes).last ++ (o.drop place).take 1).take 1 := by rw [he, e2]
        rw [List.take_take, Nat.min_eq_left (by omega), List.take_append_of_le_length (by have := List.length_pos_iff.mpr l2; omega)] at h4
        exact h4.symm
  obtain ⟨hc, hsaid, hle, h1⟩ := key
  refine ⟨⟨hle, ?_, ?_, by simp, ?_, by rw [List.length_append, List.length_singleton]; have := g.room; omega⟩, h1⟩
  · intro i hi
    by_cases h : i < codes.length
    · rw [List.getElem_append_left h]; exact g.valid i h
    · have : i = codes.length := by simp at hi; omega
      subst this
      rw [List.getElem_append_right (Nat.le_refl _)]
      simpa using hc
  · rw [dec_snoc]
    show (dec codes).oct ++ saidBy (dec codes) code = _
    rw [g.oct, hsaid, List.take_add]
  · intro _
    rw [dec_snoc]
    have hlast : (dstep (dec codes) code).last = (o.drop place).take size := hsaid
    have hnext : (o.drop place).take (size + 1) = (o.drop place).take size ++ (o.drop (place + size)).take 1 := by rw [List.take_add, List.drop_drop]
    rw [hlast, ← hnext]
    congr 1
    show rows = if (dec codes).last = [] then (dec codes).rows else (dec codes).rows ++ [(dec codes).last ++ (saidBy (dec codes) code).take 1]
    by_cases hne : codes = []
    · subst hne
      rw [if_pos (show (dec []).last = [] from rfl), (g.first rfl).1]; rfl
    · obtain ⟨l1, l2⟩ := valid_len g.valid hne
      rw [if_neg l2, g.more hne, hsaid, List.take_take, Nat.min_eq_left (by omega)]

/-! the codes of the script -/
def codeFor (x : Int) (n : Nat) : Int := if x % 2 = 0 then 1 + x % 510 / 2 else 256 + x % 510 / 2 % (n : Int)
def codesFrom (l : List Int) : List Int → List Int
  | [] => l
  | x :: r => codesFrom (l ++ [codeFor x l.length]) r
abbrev codes0 : List Int := [1, 1, 256, 255, 258]
def codesOf (ns : List Int) : List Int := codesFrom codes0 (ns.take 5)
theorem codesFrom_length : ∀ (r l : List Int), (codesFrom l r).length = l.length + r.length
  | [], l => by simp [codesFrom]
  | x :: r, l => by rw [codesFrom, codesFrom_length r]; simp; omega
theorem valid_snoc {l : List Int} {c : Int} (h : Valid l) (hc : CodeOk l.length c) : Valid (l ++ [c]) := by
  intro i hi
  by_cases h' : i < l.length
  · rw [List.getElem_append_left h']; exact h i h'
  · have : i = l.length := by simp at hi; omega
    subst this
    rw [List.getElem_append_right (Nat.le_refl _)]
    simpa using hc
theorem codeFor_ok (x : Int) (n : Nat) (hn : 0 < n) : CodeOk n (codeFor x n) := by
  unfold codeFor CodeOk
  split
  · left; omega
  · right
    have h1 := Int.emod_nonneg (x % 510 / 2) (show (n : Int) ≠ 0 by omega)
    have h2 := Int.emod_lt_of_pos (x % 510 / 2) (show (0 : Int) < n by omega)
    omega
theorem valid_from : ∀ (r l : List Int), Valid l → 0 < l.length → Valid (codesFrom l r)
  | [], l, h, _ => h
  | x :: r, l, h, h0 => by
    rw [codesFrom]
    exact valid_from r _ (valid_snoc h (codeFor_ok x _ h0)) (by simp)
theorem valid0 : Valid codes0 := by
  intro i hi
  have : i = 0 ∨ i = 1 ∨ i = 2 ∨ i = 3 ∨ i = 4 := by simp at hi; omega
  rcases this with rfl | rfl | rfl | rfl | rfl
  · exact .inl (show (1 : Int) ≤ 1 ∧ (1 : Int) < 256 by decide)
  · exact .inl (show (1 : Int) ≤ 1 ∧ (1 : Int) < 256 by decide)
  · exact .inr (show (256 : Int) ≤ 256 ∧ (256 : Int) < 256 + ((2 : Nat) : Int) by decide)
  · exact .inl (show (1 : Int) ≤ 255 ∧ (255 : Int) < 256 by decide)
  · exact .inr (show (256 : Int) ≤ 258 ∧ (258 : Int) < 256 + ((4 : Nat) : Int) by decide)
theorem codesOf_valid (ns : List Int) : Valid (codesOf ns) := valid_from _ _ valid0 (by decide)
theorem codesOf_length (ns : List Int) : 5 ≤ (codesOf ns).length ∧ (codesOf ns).length ≤ 10 := by
  unfold codesOf
  rw [codesFrom_length, List.length_take]
  show 5 ≤ 5 + _ ∧ 5 + _ ≤ 10
  omega
/-- how long a row may be: one more than the codes ahead -/
theorem said_short {codes : List Int} (hv : Valid codes) : ∀ i, i ≤ codes.length → ((dec (codes.take i)).last.length ≤ i ∧ (∀ r ∈ (dec (codes.take i)).rows, r.length ≤ i) ∧ (dec (codes.take i)).oct.length ≤ i * i)
  | 0, _ => ⟨Nat.le_refl _, fun r hr => (by cases hr), Nat.le_refl _⟩
  | i + 1, h => by
    obtain ⟨h1, h2, h3⟩ := said_short hv i (by omega)
    have hd := dok_take hv i (by omega)
    have hc := hv i (by omega)
    rw [dec_take codes i (by omega)]
    generalize dec (codes.take i) = d at *
    generalize codes[i]'(by omega) = c at *
    have hs : (saidBy d c).length ≤ i + 1 := by
      unfold saidBy
      split
      · simp
      · split
        · rename_i h4
          by_cases h5 : 256 ≤ c
          · obtain ⟨hi, e⟩ := said_row h5 h4
            rw [List.getElem?_eq_getElem hi]
            exact Nat.le_succ_of_le (h2 _ (List.getElem_mem hi))
          · omega
        · simp only [List.length_append, List.length_take]; omega
    refine ⟨hs, ?_, ?_⟩
    · intro r hr
      unfold dstep at hr
      by_cases e : d.last = []
      · rw [if_pos e] at hr
        exact Nat.le_succ_of_le (h2 r hr)
      · rw [if_neg e] at hr
        rcases List.mem_append.mp hr with hr | hr
        · exact Nat.le_succ_of_le (h2 r hr)
        · rw [List.mem_singleton.mp hr, List.length_append, List.length_take]; omega
    · show (d.oct ++ saidBy d c).length ≤ _
      rw [List.length_append]
      have : (i + 1) * (i + 1) = i * i + 2 * i + 1 := by rw [Nat.add_mul, Nat.mul_add]; omega
      omega
theorem octets_short (ns : List Int) : (octetsOf (codesOf ns)).length ≤ 100 := by
  have h := (said_short (codesOf_valid ns) (codesOf ns).length (Nat.le_refl _)).2.2
  rw [List.take_length] at h
  have h2 := (codesOf_length ns).2
  exact Nat.le_trans h (Nat.mul_le_mul h2 h2)
end Mine

namespace Mine
def fillW (n : Nat) (sz : Int) : List UInt8 := List.replicate (sz - (apWord n).length).toNat 65 ++ apWord n
theorem flat1 (n : Nat) (x : UInt8) : (List.replicate n [x]).flatten = List.replicate n x := by
  induction n with
  | zero => rfl
  | succ n ih => rw [List.replicate_succ, List.flatten_cons, ih, List.replicate_succ]; rfl
theorem head_ne (n : Nat) : (sl (apWord n) none (some 1) == [65]) = false := by
  have e : sl (apWord n) none (some 1) = (apWord n).take 1 := sl_upto (apWord n) 1
  rw [e]
  exact beq_eq_false_iff_ne.mpr (apWord_head n)
theorem rng_small {a b c : Int} (ha : -1000000 ≤ a) (ha' : a ≤ 1000000) (hb : -1000000 ≤ b) (hb' : b ≤ 1000000) (hc : 1 ≤ c) (hc' : c ≤ 1000) : Builtin.Range.small a b c = true := by
  have h1 : 0 ≤ Builtin.Range.rangeSize a b c ∧ Builtin.Range.rangeSize a b c ≤ 3000000 := by
    unfold Builtin.Range.rangeSize
    rw [if_pos (by omega)]
    split
    · have h0 : 0 ≤ (b - a - 1) / c := Int.ediv_nonneg (by omega) (by omega)
      have h1 : (b - a - 1) / c ≤ b - a - 1 := Int.ediv_le_self _ (by omega)
      omega
    · omega
  have fit : ∀ x : Int, -5000000 ≤ x → x ≤ 5000000 → Builtin.Range.rangeFitsLong x = true := fun x h h' => by
    unfold Builtin.Range.rangeFitsLong
    simp only [Bool.and_eq_true, decide_eq_true_eq]
    omega
  unfold Builtin.Range.small
  rw [fit a (by omega) (by omega), fit b (by omega) (by omega), fit c (by omega) (by omega), fit _ (by omega) (by omega), if_pos (by omega), fit _ (by omega) (by omega)]
  simp
theorem rng_by {c : Int} (hc : 1 ≤ c) (n : Nat) : Builtin.Range.rangeSize 0 (c * n) c = (n : Int) := by
  unfold Builtin.Range.rangeSize
  rw [if_pos (by omega)]
  by_cases h : n = 0
  · subst h; rw [if_neg (by simp)]; rfl
  · have hp : 0 < c * (n : Int) := Int.mul_pos (by omega) (by omega)
    rw [if_pos hp]
    have e : c * (n : Int) - 0 - 1 = (c - 1) + c * ((n : Int) - 1) := by rw [Int.mul_sub]; omega
    rw [e, Int.add_mul_ediv_left _ _ (by omega), Int.ediv_eq_zero_of_lt (by omega) (by omega)]
    omega
theorem rng_one (a b : Int) : Builtin.Range.rangeSize a b 1 = ((b - a).toNat : Int) := rangeSize_nat a b

theorem enc3_length (s : Int) : (enc3 s).length = 3 := by simp [enc3, byteArr]
theorem flat_drop : ∀ (S : List Int) (i : Nat) (h : i < S.length), (S.flatMap enc3).drop (3 * i) = enc3 S[i] ++ (S.drop (i + 1)).flatMap enc3
  | s :: r, 0, h => by simp [List.flatMap_cons]
  | s :: r, i + 1, h => by
    have ih := flat_drop r i (by simpa using h)
    rw [List.flatMap_cons, show 3 * (i + 1) = 3 + 3 * i from by omega, ← List.drop_drop, List.drop_append_of_le_length (by rw [enc3_length]; exact Nat.le_refl _), show (enc3 s).drop 3 = [] from List.drop_of_length_le (by rw [enc3_length]; exact Nat.le_refl _), List.nil_append, ih]
    simp
theorem flat_length (S : List Int) : (S.flatMap enc3).length = 3 * S.length := by
  induction S with
  | nil => rfl
  | cons s r ih => rw [List.flatMap_cons, List.length_append, ih, enc3_length, List.length_cons]; omega
theorem flat_get (S : List Int) (i j : Nat) (h : i < S.length) (hj : j < 3) : (S.flatMap enc3).getD (3 * i + j) 0 = (enc3 S[i]).getD j 0 := by
  have e := flat_drop S i h
  have : ((S.flatMap enc3).drop (3 * i)).getD j 0 = (S.flatMap enc3).getD (3 * i + j) 0 := by simp [List.getD_eq_getElem?_getD]
  rw [← this, e, List.getD_eq_getElem?_getD, List.getElem?_append_left (by rw [enc3_length]; exact hj), ← List.getD_eq_getElem?_getD]
theorem u8 (n : Nat) (h : n < 256) : n.toUInt8.toNat = n := by simp; omega
theorem enc3_val (s : Int) (h0 : 0 ≤ s) (h1 : s < 4096) : (((enc3 s).getD 0 0).toNat : Int) = 65 + s / 256 ∧ (((enc3 s).getD 1 0).toNat : Int) = 65 + s / 16 % 16 ∧ (((enc3 s).getD 2 0).toNat : Int) = 65 + s % 16 := by
  refine ⟨?_, ?_, ?_⟩
  · show (((65 + s / 256).toNat.toUInt8.toNat : Nat) : Int) = _
    rw [u8 _ (by omega)]; omega
  · show (((65 + s / 16 % 16).toNat.toUInt8.toNat : Nat) : Int) = _
    rw [u8 _ (by omega)]; omega
  · show (((65 + s % 16).toNat.toUInt8.toNat : Nat) : Int) = _
    rw [u8 _ (by omega)]; omega
theorem fill3 (s : Int) (h0 : 0 ≤ s) (h1 : s < 4096) : fillW s.natAbs 3 = enc3 s := by
  have e : fillW s.natAbs 3 = padW 3 s.natAbs := by
    unfold fillW
    rw [← pad_word 3 s.natAbs (by simp; omega)]
    congr 2
    omega
  have e2 := padW_sym 0 0 s.natAbs (by omega)
  rw [Nat.mul_zero, Nat.zero_add, Nat.zero_add] at e2
  rw [e, e2]
  show [] ++ enc3 ((s.natAbs : Nat) : Int) = _
  rw [List.nil_append, show ((s.natAbs : Nat) : Int) = s from by omega]
theorem apWord_small (s : Int) (h1 : s.natAbs < 4096) : (apWord s.natAbs).length ≤ 3 := apWord_le 3 _ (by simpa using h1)
theorem flat_cut (S : List Int) (i : Nat) (h : i < S.length) : sl (S.flatMap enc3) (some ((3 * i : Nat) : Int)) (some ((3 * i + 3 : Nat) : Int)) = enc3 S[i] := by
  rw [sl_mid, flat_drop S i h, Nat.add_sub_cancel_left, List.take_append_of_le_length (by rw [enc3_length]; exact Nat.le_refl _), List.take_of_length_le (by rw [enc3_length]; exact Nat.le_refl _)]

theorem flatV {α : Type} (n : Nat) (x : α) : (List.replicate n [x]).flatten = List.replicate n x := by
  induction n with
  | zero => rfl
  | succ n ih => rw [List.replicate_succ, List.flatten_cons, ih, List.replicate_succ]; rfl

def bodyAt (K : Frag) (f : Addr) : List Stmt := match K.lookup f with
  | some ⟨_, _, .func fd, _⟩ => (match fd.body with | .stmts b => b | _ => [])
  | _ => []

/-- the row's number -/
def numI (S : List Int) : Nat := numFrom 4096 0 (S.map Int.toNat)
theorem numI_snoc (S : List Int) (s : Int) : numI (S ++ [s]) = 4096 * numI S + s.toNat := by
  unfold numI; rw [List.map_append]; exact numFrom_snoc _ _ _
theorem toNat_lt {S : List Int} (hS : ∀ s ∈ S, 0 ≤ s ∧ s < 4096) : ∀ x ∈ S.map Int.toNat, x < 4096 := by
  intro x hx
  obtain ⟨s, hs, rfl⟩ := List.mem_map.mp hx
  have := hS s hs
  omega
theorem flat_nat : ∀ (S : List Int), (∀ s ∈ S, 0 ≤ s ∧ s < 4096) → (S.map Int.toNat).flatMap (fun (s : Nat) => enc3 (s : Int)) = S.flatMap enc3
  | [], _ => rfl
  | s :: r, h => by
    have hs := h s (List.mem_cons_self ..)
    rw [List.map_cons, List.flatMap_cons, List.flatMap_cons, flat_nat r fun x hx => h x (List.mem_cons_of_mem _ hx), show ((s.toNat : Nat) : Int) = s from by omega]
theorem numI_lt {S : List Int} (hS : ∀ s ∈ S, 0 ≤ s ∧ s < 4096) : numI S < 16 ^ (3 * S.length) := by
  have := numFrom_lt 4096 (by decide) (S.map Int.toNat) (toNat_lt hS)
  rw [List.length_map, pow16] at this
  exact this
theorem fill_ring {S : List Int} (hS : ∀ s ∈ S, 0 ≤ s ∧ s < 4096) : fillW (numI S) ((3 * S.length : Nat) : Int) = S.flatMap enc3 := by
  have h := filled_letters (S.map Int.toNat) (toNat_lt hS)
  rw [flat_nat S hS, List.length_map] at h
  rw [← h]
  unfold fillW numI
  congr 2
  omega
theorem numI_ge : ∀ (S : List Int) (s : Int), s ∈ S → s.toNat ≤ numI S
  | x :: r, s, h => by
    unfold numI
    rw [List.map_cons, numFrom_cons]
    rcases List.mem_cons.mp h with rfl | h
    · exact Nat.le_trans (Nat.le_mul_of_pos_right _ (Nat.pow_pos (by decide))) (Nat.le_add_right _ _)
    · exact Nat.le_trans (numI_ge r s h) (Nat.le_add_left _ _)
end Mine

namespace Mine
set_option maxHeartbeats 8000000 in
open_top hd02 for PySem.Challenge.rw_pk0005_02
end Mine

namespace Mine

noncomputable abbrev C2 (B : Heap) (w : World) (mg mb : Str → Option Value) : Cx := { B, prog := PySem.Challenge.rw_pk0005_02.row.prog, w, K := hd02.heap_39 w.params, p := hd02.view_39, loose := looseW hd02.view_39 [], mg, mb }
section
variable {B : Heap} {w : World} {mg mb : Str → Option Value} {k : Nat}
theorem fn_term (x : Int) : Fn (C2 B w mg mb) (k + 1) 21 [.int x] (fun v => v = .bool (decide (x < 256))) := by
  refine fn_one (by rfl) (by rfl) (fun y => rfl) rfl (fun A L g H => ?_) (by intro n h; cases h) rfl
  refine ex_cons (x_ret (ev_cmp (ev_name rfl (ev_gint H (i := 256) (by rfl) ⟨_, .lt _ _, ?_⟩))))
  rfl
theorem fn_nonterm (x : Int) : Fn (C2 B w mg mb) (k + 1) 28 [.int x] (fun v => v = .bool (decide (256 ≤ x))) := by
  refine fn_one (by rfl) (by rfl) (fun y => rfl) rfl (fun A L g H => ?_) (by intro n h; cases h) rfl
  refine ex_cons (x_ret (ev_cmp (ev_name rfl (ev_gint H (i := 256) (by rfl) ⟨_, .ge _ _, ?_⟩))))
  rfl
theorem fn_eof (x : Int) : Fn (C2 B w mg mb) (k + 1) 35 [.int x] (fun v => v = .bool (x == 0)) := by
  refine fn_one (by rfl) (by rfl) (fun y => rfl) rfl (fun A L g H => ?_) (by intro n h; cases h) rfl
  refine ex_cons (x_ret (ev_cmp (ev_name rfl (ev_gint H (i := 0) (by rfl) ⟨_, .eq _ _, ?_⟩))))
  rfl

theorem fn_ap (n : Int) (hz : (apWord n.natAbs).length ≤ 50000) : Fn (C2 B w mg mb) (k + 1) 42 [.int n] (fun v => v = .bytes (apWord n.natAbs)) := by
  refine fn_one (by rfl) (by rfl) (fun y => rfl) rfl (fun A L g H => ?_) (by intro n h; cases h) rfl
  refine ex_cons (x_assign (ev_bytes ?_))
  refine ex_cons (x_assign (ev_bytes ?_))
  refine ex_cons (x_assign (ev_tcall H (T := "int") (by rfl) (by boot_by_name) (by decide) (evs_cons (ev_bcall H (id := "abs") (by rfl) (by boot_by_name) (by decide) (evs_cons (ev_name rfl (evs_nil (co_abs (evs_nil (co_int ?_)))))))))) 
  refine ex_cons (x_while (fun m ρ σ => σ = [] ∧ ∃ l, ρ.lookup (Str.ofString "num") = some (.int m) ∧ ρ.lookup (Str.ofString "val") = some (.bytes l) ∧ ρ.lookup (Str.ofString "AP") = some (.bytes AP16) ∧ apWord m ++ l = apWord n.natAbs) ?_ n.natAbs ⟨rfl, [], rfl, rfl, rfl, by simp⟩)
  rintro m ρ σ ⟨rfl, l, h1, h2, h3, h4⟩
  refine et_val (ev_name h1 (.inr ⟨_, rfl, ?_⟩))
  have hlen : (apWord m).length + l.length ≤ 50000 := by rw [← List.length_append, h4]; exact hz
  by_cases hm : m = 0
  · subst hm
    show Ex _ _ _ _ _ _ _
    rw [apWord_zero] at h4
    exact ex_cons (x_ret (ev_name h2 (by show V.bytes l = _; rw [← h4]; rfl)))
  · have hb : ((m : Int) != 0) = true := by simp; omega
    rw [hb]
    show Ex _ _ _ _ _ _ _
    refine ex_cons (x_pair H (ev_bcall H (id := "divmod") (by rfl) (by boot_by_name) (by decide) (evs_cons (ev_name h1 (evs_cons (ev_int (evs_nil (co_divmod (by decide) (by decide) ⟨_, _, rfl, ?_⟩))))))))
    refine ex_cons (x_assign (ev_addB (ev_sliceB (ev_name h3 ⟨_, rfl, by decide, ev_name rfl ⟨_, rfl, ev_ibin (ev_name rfl ⟨_, rfl, ev_int ⟨_, _, rfl, .add _ _, _, rfl, _, rfl, ev_name h2 ⟨_, rfl, ?_, ?_⟩⟩⟩)⟩⟩))))
    · have e : ((m : Int) % 16) = ((m % 16 : Nat) : Int) := by omega
      rw [e, ap_slice _ (Nat.mod_lt _ (by decide))]
      simp only [List.length_singleton]; omega
    · refine ex_nil ⟨m / 16, by omega, rfl, _, ?_, rfl, ?_, ?_⟩
      · show some (V.int ((m : Int) / 16)) = _
        congr 2; 
      · exact h3
      · have e : ((m : Int) % 16) = ((m % 16 : Nat) : Int) := by omega
        rw [e, ap_slice _ (Nat.mod_lt _ (by decide)), ← h4, apWord_pos hm, List.append_assoc]
theorem fn_filled (n sz : Int) (hz : (apWord n.natAbs).length ≤ 50000) (h1 : -1000 ≤ sz) (h2 : sz ≤ 50000) : Fn (C2 B w mg mb) (k + 2) 70 [.int n, .int sz] (fun v => v = .bytes (fillW n.natAbs sz)) := by
  refine fn_two (by rfl) (by rfl) (fun y z => rfl) ⟨rfl, rfl⟩ (fun A L g H => ?_) rfl
  refine ex_cons (x_assign (ev_call H (f := 42) (by rfl) (by rfl) (evs_cons (ev_name rfl (evs_nil ⟨by simp [V.isRef], (fn_ap n hz).mono ?_⟩)))))
  rintro _ rfl
  refine ex_cons (x_if (et_bool (eb_or (et_not (et_val (ev_isBytes H (by rfl) (by rfl) (by boot_by_name) (by boot_by_name) (ev_name rfl ⟨_, rfl, .inl ⟨_, rfl, ?_⟩⟩)))))))
  refine eb_or (et_cmp (ev_sliceB (ev_name rfl ⟨_, rfl, by omega, ev_int ⟨_, rfl, ev_bytes ⟨_, .eqB _ _, ?_⟩⟩⟩)))
  rw [head_ne]
  refine eb_or_nil (ex_nil ?_)
  refine ex_cons (x_ret (ev_addB (ev_mulB (ev_bytes ⟨_, rfl, by simp, by decide, ev_ibin (ev_name rfl ⟨_, rfl, ev_bcall H (id := "len") (by rfl) (by boot_by_name) (by decide) (evs_cons (ev_name rfl (evs_nil (co_lenB (by omega) ⟨_, _, rfl, .sub _ _, _, rfl, ?_, ?_, _, rfl, ev_name rfl ⟨_, rfl, ?_, ?_⟩⟩))))⟩)⟩))))
  · omega
  · omega
  · rw [flat1, List.length_replicate]; omega
  · show V.bytes _ = V.bytes _
    rw [flat1]; rfl
end
end Mine

namespace Mine

theorem ifNe (b : Bool) : (if CmpOp.NotEq = CmpOp.Eq then b else !b) = !b := if_neg (by decide)
theorem ifEq (b : Bool) : (if CmpOp.Eq = CmpOp.Eq then b else !b) = b := if_pos rfl
def kindI (x : Int) : Int := if x = 0 then 0 else if x < 256 then 1 else 2
section
variable {B : Heap} {w : World} {mg mb : Str → Option Value} {k : Nat}

theorem fn_kind (x : Int) : Fn (C2 B w mg mb) (k + 2) 77 [.int x] (fun v => v = .int (kindI x)) := by
  refine fn_one (by rfl) (by rfl) (fun y => rfl) rfl (fun A L g H => ?_) (by intro n h; cases h) rfl
  refine ex_cons (x_tripleS H (ev_tuple (evs_cons (ev_call H (f := 35) (by rfl) (by rfl) (evs_cons (ev_name rfl (evs_nil ⟨by simp [V.isRef], (fn_eof x).mono ?_⟩)))))))
  rintro _ rfl
  refine evs_cons (ev_call H (f := 21) (by rfl) (by rfl) (evs_cons (ev_name rfl (evs_nil ⟨by simp [V.isRef], (fn_term x).mono ?_⟩))))
  rintro _ rfl
  refine evs_cons (ev_call H (f := 28) (by rfl) (by rfl) (evs_cons (ev_name rfl (evs_nil ⟨by simp [V.isRef], (fn_nonterm x).mono ?_⟩))))
  rintro _ rfl
  refine evs_nil ⟨by simp [V.isRef], by simp, _, _, _, rfl, ?_⟩
  unfold kindI
  by_cases h0 : x = 0
  · subst h0
    refine ex_cons (x_if (et_bool (eb_and (et_cmp (ev_name rfl (ev_bool ⟨_, .is _ _, eb_and (et_cmp (ev_name rfl (ev_bool ⟨_, .is _ _, eb_and (et_cmp (ev_name rfl (ev_bool ⟨_, .is _ _, eb_and_nil ?_⟩)))⟩)))⟩))))))
    exact ex_cons (x_ret (ev_int rfl))
  · rw [beq_eq_false_iff_ne.mpr h0, if_neg h0]
    refine ex_cons (x_if (et_bool (eb_and (et_cmp (ev_name rfl (ev_bool ⟨_, .is _ _, ex_nil ?_⟩))))))
    by_cases h1 : x < 256
    · rw [decide_eq_true h1, decide_eq_false (show ¬ 256 ≤ x by omega), if_pos h1]
      refine ex_cons (x_if (et_bool (eb_and (et_cmp (ev_name rfl (ev_bool ⟨_, .is _ _, eb_and (et_cmp (ev_name rfl (ev_bool ⟨_, .is _ _, eb_and (et_cmp (ev_name rfl (ev_bool ⟨_, .is _ _, eb_and_nil ?_⟩)))⟩)))⟩))))))
      exact ex_cons (x_ret (ev_int rfl))
    · rw [decide_eq_false h1, decide_eq_true (show 256 ≤ x by omega), if_neg h1]
      refine ex_cons (x_if (et_bool (eb_and (et_cmp (ev_name rfl (ev_bool ⟨_, .is _ _, eb_and (et_cmp (ev_name rfl (ev_bool ⟨_, .is _ _, ex_nil ?_⟩)))⟩))))))
      refine ex_cons (x_if (et_bool (eb_and (et_cmp (ev_name rfl (ev_bool ⟨_, .is _ _, eb_and (et_cmp (ev_name rfl (ev_bool ⟨_, .is _ _, eb_and (et_cmp (ev_name rfl (ev_bool ⟨_, .is _ _, eb_and_nil ?_⟩)))⟩)))⟩))))))
      exact ex_cons (x_ret (ev_int rfl))

theorem codesFrom_take (l r : List Int) (i : Nat) (x : Int) (h : r[i]? = some x) : codesFrom l (r.take (i + 1)) = codesFrom l (r.take i) ++ [codeFor x (codesFrom l (r.take i)).length] := by
  rw [List.take_add_one, h]
  generalize r.take i = s
  show codesFrom l (s ++ [x]) = _
  induction s generalizing l with
  | nil => rfl
  | cons y s ih => exact ih _
theorem fn_codes (ns : List Int) (hns : ns.length ≤ 1000) : Fn (C2 B w mg mb) (k + 1) 49 [.arg ns] (fun v => v = .list ((codesOf ns).map V.int)) := by
  refine fn_one (by rfl) (by rfl) (fun y => rfl) rfl (fun A L g H => ?_) (by intro n h; cases h) rfl
  refine ex_cons (x_assign (ev_listM (evs_cons (ev_int (evs_cons (ev_int (evs_cons (ev_int (evs_cons (ev_int (evs_cons (ev_int (evs_nil ⟨by simp [V.isRef], by simp, ?_⟩)))))))))))))
  have e5 : sl ns none (some 5) = ns.take 5 := sl_upto ns 5
  refine ex_cons (x_forList H (fun i ρ σ => σ = [.list ((codesFrom codes0 ((ns.take 5).take i)).map V.int)] ∧ ρ.lookup (Str.ofString "codes") = some (.ref 0)) (ev_sliceA H (ev_name rfl ⟨_, rfl, by omega, ev_int ⟨_, rfl, _, rfl, ⟨rfl, rfl⟩, ?_, ?_⟩⟩)))
  · rintro i d ρ σ hd ⟨rfl, h1⟩
    rw [e5] at hd
    simp only [List.getElem?_map, Option.map_eq_some_iff] at hd
    obtain ⟨x, hx, rfl⟩ := hd
    have hst := codesFrom_take codes0 (ns.take 5) i x hx
    have hlen : (codesFrom codes0 ((ns.take 5).take i)).length = 5 + ((ns.take 5).take i).length := codesFrom_length _ _
    have hl2 : ((ns.take 5).take i).length ≤ 5 := by rw [List.length_take, List.length_take]; omega
    rw [hst]
    generalize codesFrom codes0 ((ns.take 5).take i) = cs at *
    refine ex_cons (x_assign (ev_ibin (ev_ibin (ev_name rfl ⟨_, rfl, ev_int ⟨_, _, rfl, .mod _ _ (by decide), _, rfl, ev_int ⟨_, _, rfl, .fdiv _ _ (by decide) (by decide), ?_⟩⟩⟩))))
    refine ex_cons (x_if (et_cmp (ev_ibin (ev_name rfl ⟨_, rfl, ev_int ⟨_, _, rfl, .mod _ _ (by decide), ev_int ⟨_, .eq _ _, ?_⟩⟩⟩))))
    unfold codeFor
    by_cases h2 : x % 2 = 0
    · rw [h2, if_pos rfl]
      refine ex_cons (x_expr (ev_append (ev_name h1 ⟨0, _, rfl, rfl, ev_ibin (ev_int ⟨_, rfl, ev_name rfl ⟨_, _, rfl, .add _ _, _, rfl, rfl, ?_, rfl, ex_nil (ex_nil ⟨?_, h1⟩)⟩⟩)⟩)))
      · rw [List.length_map]; omega
      · rw [List.map_append]; rfl
    · rw [beq_eq_false_iff_ne.mpr h2, if_neg h2]
      refine ex_cons (x_expr (ev_append (ev_name h1 ⟨0, _, rfl, rfl, ev_ibin (ev_int ⟨_, rfl, ev_ibin (ev_name rfl ⟨_, rfl, ev_bcall H (id := "len") (by rfl) (by boot_by_name) (by decide) (evs_cons (ev_name h1 (evs_nil (co_lenR rfl (by rw [List.length_map]; omega) ⟨_, _, rfl, .mod _ _ (by rw [List.length_map]; omega), _, _, rfl, .add _ _, _, rfl, rfl, ?_, rfl, ex_nil (ex_nil ⟨?_, h1⟩)⟩))))⟩)⟩)⟩)))
      · rw [List.length_map]; omega
      · rw [List.map_append, List.length_map]; rfl
  · rintro ρ σ ⟨rfl, h1⟩
    refine ex_cons (x_ret (ev_name h1 ⟨_, rfl, ?_⟩))
    rw [e5, List.length_map, List.take_length]; rfl

theorem sl1 (l : List Int) : sl (l.map V.int) none (some 1) = (l.take 1).map V.int := by
  have e : sl (l.map V.int) none (some 1) = (l.map V.int).take 1 := sl_upto _ 1
  rw [e, List.map_take]
abbrev rowsV (rows : List (List Int)) : List V := rows.map fun r => .list (r.map V.int)
theorem fn_octets (codes : List Int) (hv : Valid codes) (hz : codes.length ≤ 1000) (ho : (octetsOf codes).length ≤ 10000) : Fn (C2 B w mg mb) (k + 1) 56 [.list (codes.map V.int)] (fun v => v = .list ((octetsOf codes).map V.int)) := by
  refine fn_one (by rfl) (by rfl) (fun y => rfl) rfl (fun A L g H => ?_) (by intro n h; cases h) rfl
  refine ex_cons (x_assign (ev_listM (evs_nil ⟨by simp, by simp, ?_⟩)))
  refine ex_cons (x_assign (ev_listI (evs_nil ⟨by simp, by simp, ?_⟩)))
  refine ex_cons (x_assign (ev_listI (evs_nil ⟨by simp, by simp, ?_⟩)))
  refine ex_cons (x_forList H (fun i ρ σ => i ≤ codes.length ∧ σ = [.list (rowsV (dec (codes.take i)).rows)] ∧ ρ.lookup (Str.ofString "rows") = some (.ref 0) ∧ ρ.lookup (Str.ofString "octets") = some (.list ((dec (codes.take i)).oct.map V.int)) ∧
      ρ.lookup (Str.ofString "last") = some (.list ((dec (codes.take i)).last.map V.int))) (ev_name rfl ⟨_, rfl, ⟨Nat.zero_le _, rfl, rfl, rfl, rfl⟩, ?_, ?_⟩))
  · rintro i d ρ σ hd ⟨hi0, rfl, h1, h2, h3⟩
    simp only [List.getElem?_map, Option.map_eq_some_iff] at hd
    obtain ⟨c, hc, rfl⟩ := hd
    have hi : i < codes.length := by
      rcases Nat.lt_or_ge i codes.length with h' | h'
      · exact h'
      · rw [List.getElem?_eq_none h'] at hc; cases hc
    have ec : codes[i] = c := by rw [List.getElem?_eq_getElem hi] at hc; exact Option.some.inj hc
    have hok := dok_take hv i hi0
    have hco := hv i hi
    have hstep := dec_take codes i hi
    have hle := oct_take_le (codes := codes) (i + 1) (by omega)
    rw [ec] at hco hstep
    rw [hstep] at hle ⊢
    have hrl := hok.len
    have hll := hok.lastOk.2
    generalize dec (codes.take i) = d at *
    have hlen : d.oct.length + (saidBy d c).length ≤ 10000 := by
      have : (dstep d c).oct.length = d.oct.length + (saidBy d c).length := by show (d.oct ++ saidBy d c).length = _; rw [List.length_append]
      omega
    -- said
    refine ex_cons (Ex1.mono (N := fun ρ' σ' => σ' = [.list (rowsV d.rows)] ∧ ρ'.lookup (Str.ofString "rows") = some (.ref 0) ∧ ρ'.lookup (Str.ofString "octets") = some (.list (d.oct.map V.int)) ∧ ρ'.lookup (Str.ofString "last") = some (.list (d.last.map V.int)) ∧ ρ'.lookup (Str.ofString "said") = some (.list ((saidBy d c).map V.int))) ?_ ?_ (fun _ _ h => h))
    · refine x_if (et_cmp (ev_name rfl (ev_int ⟨_, .lt _ _, ?_⟩)))
      by_cases hb : c < 256
      · rw [decide_eq_true hb]
        refine ex_cons (x_assign (ev_listI (evs_cons (ev_name rfl (evs_nil ⟨by simp [V.isRef], by simp, ex_nil ⟨rfl, h1, h2, h3, ?_⟩⟩)))))
        unfold saidBy; rw [if_pos hb]; rfl
      · rw [decide_eq_false hb]
        refine ex_cons (x_if (et_cmp (ev_ibin (ev_name rfl ⟨_, rfl, ev_int ⟨_, _, rfl, .sub _ _, ev_bcall H (id := "len") (by rfl) (by boot_by_name) (by decide) (evs_cons (ev_name h1 (evs_nil (co_lenR rfl (by rw [List.length_map]; omega) ⟨_, .lt _ _, ?_⟩))))⟩⟩))))
        rw [List.length_map]
        by_cases hr : c - 256 < d.rows.length
        · rw [decide_eq_true hr]
          obtain ⟨hj, e⟩ := said_row (by omega) hr
          refine ex_cons (x_assign (ev_itemM (ev_name h1 ⟨0, rfl, ev_ibin (ev_name rfl ⟨_, rfl, ev_int ⟨_, _, rfl, .sub _ _, _, _, .list ((saidBy d c).map V.int), rfl, rfl, by omega, by omega, ?_, ex_nil (ex_nil ⟨rfl, h1, h2, h3, rfl⟩)⟩⟩)⟩)))
          rw [List.getElem?_map, List.getElem?_eq_getElem hj, e]; rfl
        · rw [decide_eq_false hr]
          refine ex_cons (x_assign (ev_addL (ev_name h3 ⟨_, rfl, ev_sliceL (ev_name h3 ⟨_, rfl, by rw [List.length_map]; omega, ev_int ⟨_, rfl, _, rfl, ?_, ex_nil (ex_nil ⟨rfl, h1, h2, h3, ?_⟩)⟩⟩)⟩)))
          · rw [sl1, List.length_map, List.length_map, List.length_take]; omega
          · rw [sl1, ← List.map_append]
            unfold saidBy; rw [if_neg hb, if_neg hr]; rfl
    · rintro ρ' σ' ⟨rfl, q1, q2, q3, q4⟩
      -- the row
      refine ex_cons (Ex1.mono (N := fun ρ'' σ'' => σ'' = [.list (rowsV (dstep d c).rows)] ∧ ρ''.lookup (Str.ofString "rows") = some (.ref 0) ∧ ρ''.lookup (Str.ofString "octets") = some (.list (d.oct.map V.int)) ∧ ρ''.lookup (Str.ofString "said") = some (.list ((saidBy d c).map V.int))) ?_ ?_ (fun _ _ h => h))
      · refine x_if (et_cmpL H (.inr rfl) (ev_name q3 ⟨d.last, rfl, ev_listI (evs_nil ⟨by simp, by simp, [], rfl, ?_⟩)⟩))
        rw [ifNe]
        unfold dstep
        by_cases hl : d.last = []
        · rw [decide_eq_true hl]
          refine ex_nil ⟨?_, q1, q2, q4⟩
          dsimp only
          rw [if_pos hl]
        · rw [decide_eq_false hl]
          refine ex_cons (x_expr (ev_append (ev_name q1 ⟨0, _, rfl, rfl, ev_addL (ev_name q3 ⟨_, rfl, ev_sliceL (ev_name q4 ⟨_, rfl, by rw [List.length_map]; omega, ev_int ⟨_, rfl, _, rfl, ?_, _, rfl, rfl, ?_, rfl, ex_nil ⟨?_, q1, q2, q4⟩⟩⟩)⟩)⟩)))
          · rw [sl1, List.length_map, List.length_map, List.length_take]; omega
          · rw [List.length_map]; omega
          · dsimp only
            rw [if_neg hl, sl1]
            show [PO.list (rowsV d.rows ++ [V.list (d.last.map V.int ++ ((saidBy d c).take 1).map V.int)])] = _
            simp only [rowsV, List.map_append, List.map_cons, List.map_nil]
      · rintro ρ'' σ'' ⟨rfl, r1, r2, r4⟩
        refine ex_cons (x_assign (ev_addL (ev_name r2 ⟨_, rfl, ev_name r4 ⟨_, rfl, ?_, ?_⟩⟩)))
        · rw [List.length_map, List.length_map]; omega
        refine ex_cons (x_assign (ev_name r4 (ex_nil ⟨by omega, rfl, r1, ?_, rfl⟩)))
        rw [← List.map_append]; rfl
  · rintro ρ σ ⟨_, rfl, h1, h2, h3⟩
    rw [List.length_map, List.take_length] at h2
    exact ex_cons (x_ret (ev_name h2 rfl))
end
end Mine

namespace Mine

theorem slm (l : List Int) (a n : Nat) : sl (l.map V.int) (some (a : Int)) (some ((a : Int) + (n : Int))) = ((l.drop a).take n).map V.int := by
  rw [show (a : Int) + (n : Int) = ((a + n : Nat) : Int) from by omega, sl_mid, Nat.add_sub_cancel_left, List.map_take, List.map_drop]
theorem gok_rowlen {o : List Int} {rows : List (List Int)} {codes : List Int} {place : Nat} (g : GOk o rows codes place) : ∀ r ∈ rows, r.length ≤ o.length + 1 := by
  intro r hr
  by_cases h : codes = []
  · rw [(g.first h).1] at hr; cases hr
  · have hd := dok_take g.valid codes.length (Nat.le_refl _)
    rw [List.take_length] at hd
    have ho : (dec codes).oct.length ≤ o.length := by rw [g.oct, List.length_take]; omega
    rw [g.more h] at hr
    rcases List.mem_append.mp hr with hr | hr
    · have := (hd.rowsOk r hr).2.2; omega
    · rw [List.mem_singleton.mp hr, List.length_append, List.length_take]
      have := hd.lastOk.2; omega

section
variable {B : Heap} {w : World} {mg mb : Str → Option Value} {k : Nat}
theorem fn_greedy (o : List Int) (ho : Oct o) (hz : o.length ≤ 1000) : Fn (C2 B w mg mb) (k + 1) 63 [.list (o.map V.int)] (fun v => ∃ G : List Int, v = .list (G.map V.int) ∧ Valid G ∧ octetsOf G = o ∧ G.length ≤ o.length) := by
  refine fn_one (by rfl) (by rfl) (fun y => rfl) rfl (fun A L g H => ?_) (by intro n h; cases h) rfl
  refine ex_cons (x_assign (ev_listM (evs_nil ⟨by simp, by simp, ?_⟩)))
  refine ex_cons (x_assign (ev_listM (evs_nil ⟨by simp, by simp, ?_⟩)))
  refine ex_cons (x_assign (ev_int ?_))
  refine ex_cons (x_while (fun n ρ σ => ∃ rows codes place, σ = [.list (rowsV rows), .list (codes.map V.int)] ∧ GOk o rows codes place ∧ n = o.length - place ∧ ρ.lookup (Str.ofString "octets") = some (.list (o.map V.int)) ∧
      ρ.lookup (Str.ofString "rows") = some (.ref 0) ∧ ρ.lookup (Str.ofString "codes") = some (.ref 1) ∧ ρ.lookup (Str.ofString "place") = some (.int (place : Nat))) ?_ o.length ⟨[], [], 0, rfl, gok_zero o, rfl, rfl, rfl, rfl, rfl⟩)
  rintro n ρ σ ⟨rows, codes, place, rfl, g, rfl, h1, h2, h3, h4⟩
  refine et_cmp (ev_name h4 (ev_bcall H (id := "len") (by rfl) (by boot_by_name) (by decide) (evs_cons (ev_name h1 (evs_nil (co_lenL (by rw [List.length_map]; omega) ⟨_, .lt _ _, ?_⟩))))))
  rw [List.length_map]
  have hrl := gok_rows g
  have hroom := g.room
  have hple := g.le
  by_cases hp : (place : Int) < (o.length : Int)
  · rw [decide_eq_true hp]
    have hp' : place < o.length := by omega
    refine ex_cons (x_assign (ev_itemL (ev_name h1 ⟨_, rfl, ev_name h4 ⟨_, .int o[place], rfl, by omega, by omega, ?_, ?_⟩⟩)))
    · rw [Int.toNat_natCast, List.getElem?_map, List.getElem?_eq_getElem hp']; rfl
    refine ex_cons (x_assign (ev_int ?_))
    refine ex_cons (x_forRange H (fun i ρ σ => σ = [.list (rowsV rows), .list (codes.map V.int)] ∧ ρ.lookup (Str.ofString "octets") = some (.list (o.map V.int)) ∧
        ρ.lookup (Str.ofString "rows") = some (.ref 0) ∧ ρ.lookup (Str.ofString "codes") = some (.ref 1) ∧ ρ.lookup (Str.ofString "place") = some (.int (place : Nat)) ∧
        ∃ (code : Int) (size : Nat), ρ.lookup (Str.ofString "code") = some (.int code) ∧ ρ.lookup (Str.ofString "size") = some (.int (size : Nat)) ∧ Pick o rows place i code size ∧ size ≤ o.length + 1)
      (ev_tcall H (T := "range") (by rfl) (by boot_by_name) (by decide) (evs_cons (ev_bcall H (id := "len") (by rfl) (by boot_by_name) (by decide) (evs_cons (ev_name h2 (evs_nil (co_lenR rfl (by rw [List.length_map]; omega) (evs_nil (co_range1 ⟨_, _, _, rows.length, rfl, ?_, ?_, ⟨rfl, h1, h2, h3, h4, _, 1, rfl, rfl, .inl ⟨hp', rfl, rfl⟩, by omega⟩, ?_, ?_⟩))))))))))
    · rw [List.length_map]; exact rng_small (by decide) (by decide) (by omega) (by omega) (by decide) (by decide)
    · rw [rng_one, List.length_map]; omega
    · rintro i ρ' σ' hi ⟨rfl, q1, q2, q3, q4, code, size, q5, q6, pk, hsz⟩
      rw [show (0 : Int) + (i : Int) * 1 = (i : Int) from by omega]
      have hget : (rowsV rows)[((i : Nat) : Int).toNat]? = some (.list (rows[i].map V.int)) := by
        rw [Int.toNat_natCast, List.getElem?_map, List.getElem?_eq_getElem hi]; rfl
      have hlr := gok_rowlen g rows[i] (List.getElem_mem hi)
      have pk' : Pick o rows place (i + 1) code size := by
        rcases pk with h | ⟨j, hj, hjk, r⟩
        · exact .inl h
        · exact .inr ⟨j, hj, by omega, r⟩
      refine ex_cons (x_if (et_bool (eb_and (et_cmp (ev_bcall H (id := "len") (by rfl) (by boot_by_name) (by decide) (evs_cons (ev_itemM (ev_name q2 ⟨0, rfl, ev_name rfl ⟨_, _, _, rfl, rfl, by omega, by omega, hget, evs_nil (co_lenL (by rw [List.length_map]; omega) (ev_name q6 ⟨_, .gt _ _, ?_⟩))⟩⟩))))))))
      rw [List.length_map]
      by_cases hb : (size : Int) < (rows[i].length : Int)
      · rw [decide_eq_true hb]
        refine eb_and (et_cmpL H (.inl rfl) (ev_sliceL (ev_name q1 ⟨_, rfl, by rw [List.length_map]; omega, ev_name q4 ⟨_, rfl, ev_ibin (ev_name q4 ⟨_, rfl, ev_bcall H (id := "len") (by rfl) (by boot_by_name) (by decide) (evs_cons (ev_itemM (ev_name q2 ⟨0, rfl, ev_name rfl ⟨_, _, _, rfl, rfl, by omega, by omega, hget, evs_nil (co_lenL (by rw [List.length_map]; omega) ⟨_, _, rfl, .add _ _, _, rfl, (o.drop place).take rows[i].length, ?_, ?_⟩)⟩⟩)))⟩)⟩⟩)))
        · rw [List.length_map, slm]
        refine ev_itemM (ev_name q2 ⟨0, rfl, ev_name rfl ⟨_, _, _, rfl, rfl, by omega, by omega, hget, rows[i], rfl, ?_⟩⟩)
        rw [ifEq]
        by_cases he : (o.drop place).take rows[i].length = rows[i]
        · rw [decide_eq_true he]
          refine eb_and_nil ?_
          refine ex_cons (x_assign (ev_ibin (ev_int ⟨_, rfl, ev_name rfl ⟨_, _, rfl, .add _ _, ?_⟩⟩)))
          refine ex_cons (x_assign (ev_bcall H (id := "len") (by rfl) (by boot_by_name) (by decide) (evs_cons (ev_itemM (ev_name q2 ⟨0, rfl, ev_name rfl ⟨_, _, _, rfl, rfl, by omega, by omega, hget, evs_nil (co_lenL (by rw [List.length_map]; omega) ?_)⟩⟩)))))
          rw [List.length_map]
          have hs1 : 1 ≤ size := by
            rcases pk with ⟨_, _, e⟩ | ⟨_, _, _, _, _, e, _⟩ <;> omega
          exact ex_nil (ex_nil ⟨rfl, q1, q2, q3, q4, _, rows[i].length, rfl, rfl, .inr ⟨i, hi, by omega, rfl, rfl, by omega, he⟩, hlr⟩)
        · rw [decide_eq_false he]
          exact ex_nil (ex_nil ⟨rfl, q1, q2, q3, q4, code, size, q5, q6, pk', hsz⟩)
      · rw [decide_eq_false hb]
        exact ex_nil (ex_nil ⟨rfl, q1, q2, q3, q4, code, size, q5, q6, pk', hsz⟩)
    · rintro ρ' σ' ⟨rfl, q1, q2, q3, q4, code, size, q5, q6, pk, hsz⟩
      obtain ⟨g', hs1⟩ := gok_step ho g hp' pk
      refine ex_cons (x_expr (ev_append (ev_name q3 ⟨1, _, rfl, rfl, ev_name q5 ⟨_, rfl, rfl, by rw [List.length_map]; omega, rfl, ?_⟩⟩)))
      refine ex_cons (x_expr (ev_append (ev_name q2 ⟨0, _, rfl, rfl, ev_sliceL (ev_name q1 ⟨_, rfl, by rw [List.length_map]; omega, ev_name q4 ⟨_, rfl, ev_ibin (ev_ibin (ev_name q4 ⟨_, rfl, ev_name q6 ⟨_, _, rfl, .add _ _, _, rfl, ev_int ⟨_, _, rfl, .add _ _, _, rfl, _, rfl, rfl, ?_, rfl, ?_⟩⟩⟩))⟩⟩)⟩)))
      · rw [List.length_map]; omega
      refine ex_cons (x_augInt q4 rfl (ev_name q6 ⟨_, rfl, ex_nil ⟨o.length - (place + size), by omega, rows ++ [(o.drop place).take (size + 1)], codes ++ [code], place + size, ?_, g', rfl, q1, q2, q3, ?_⟩⟩))
      · rw [show (place : Int) + (size : Int) + 1 = (place : Int) + ((size + 1 : Nat) : Int) from by omega, slm]
        show [PO.list (rowsV rows ++ [V.list (((o.drop place).take (size + 1)).map V.int)]), PO.list (codes.map V.int ++ [V.int code])] = _
        simp only [rowsV, List.map_append, List.map_cons, List.map_nil]
      · show some (V.int ((place : Int) + (size : Int))) = _
        rw [show (place : Int) + (size : Int) = ((place + size : Nat) : Int) from by omega]
  · rw [decide_eq_false hp]
    refine ex_cons (x_ret (ev_name h3 ⟨_, rfl, codes, rfl, g.valid, ?_, by omega⟩))
    show (dec codes).oct = o
    rw [g.oct, List.take_of_length_le (by omega)]
end
end Mine

namespace Mine

theorem bits_of {x : Int} (n : Nat) (h : x.natAbs < 2 ^ n) : Builtin.Int.intBits x ≤ n := by
  unfold Builtin.Int.intBits
  by_cases h0 : x = 0
  · subst h0; simp
  · rw [if_neg (by simpa using h0)]
    exact (Nat.log2_lt (by omega)).mpr h
theorem pow256 (n : Nat) : 256 ^ n = 2 ^ (8 * n) := by rw [Nat.pow_mul]
theorem bits_nI {l : List Int} (h : Oct l) (hz : l.length ≤ 1000) : Builtin.Int.intBits (nI l : Int) ≤ 2 ^ 20 := by
  refine Nat.le_trans (bits_of (8 * l.length) ?_) (by omega)
  rw [Int.natAbs_natCast, ← pow256]
  exact nI_lt h
theorem bits_pow (n : Nat) (hz : n ≤ 1000) : Builtin.Int.intBits ((256 : Int) ^ n) ≤ 2 ^ 20 := by
  have e : (256 : Int) ^ n = ((256 ^ n : Nat) : Int) := by push_cast; rfl
  refine Nat.le_trans (bits_of (8 * n + 1) ?_) (by omega)
  rw [e, Int.natAbs_natCast, pow256]
  exact Nat.pow_lt_pow_right (by decide) (by omega)
theorem log_pow (n : Nat) (hz : n ≤ 1000) : ((256 ^ n : Nat) : Int).natAbs.log2 < 9000 := by
  rw [Int.natAbs_natCast]
  refine (Nat.log2_lt (Nat.ne_of_gt (Nat.pow_pos (by decide)))).mpr ?_
  rw [pow256]
  exact Nat.pow_lt_pow_right (by decide) (by omega)
theorem pow_gt (n : Nat) (h : n ≠ 0) : (1 : Int) < 256 ^ n := by
  have : 1 < 256 ^ n := Nat.one_lt_pow h (by decide)
  have h' : ((1 : Nat) : Int) < ((256 ^ n : Nat) : Int) := Int.ofNat_lt.mpr this
  push_cast at h'
  exact h'
theorem pow_pos' (n : Nat) : (0 : Int) < ((256 ^ n : Nat) : Int) := Int.ofNat_lt.mpr (Nat.pow_pos (by decide))

abbrev rowsN (rows : List (List Int)) : List V := rows.map fun r => .tup [.int (nI r : Nat), .int ((256 : Int) ^ r.length)]
theorem valid_range {codes : List Int} (hv : Valid codes) (hz : codes.length ≤ 1000) : ∀ s ∈ codes ++ [0], 0 ≤ s ∧ s < 4096 := by
  intro s hs
  rcases List.mem_append.mp hs with hs | hs
  · obtain ⟨i, hi, rfl⟩ := List.getElem_of_mem hs
    rcases hv i hi with h | h <;> omega
  · rw [List.mem_singleton.mp hs]; decide

section
variable {B : Heap} {w : World} {mg mb : Str → Option Value} {k : Nat}

theorem fn_number (codes : List Int) (hv : Valid codes) (hz : codes.length ≤ 1000) (ho : (octetsOf codes).length ≤ 1000) :
    Fn (C2 B w mg mb) (k + 3) 84 [.bytes ((codes ++ [0]).flatMap enc3)] (fun v => v = .int (nI (octetsOf codes) : Nat)) := by
  refine fn_one (by rfl) (by rfl) (fun y => rfl) rfl (fun A L g H => ?_) (by intro n h; cases h) rfl
  have hS := valid_range hv hz
  have hSl : (codes ++ [0]).length = codes.length + 1 := by simp
  have hSi : ∀ (i : Nat) (hi : i < (codes ++ [0]).length), (codes ++ [0])[i] = if h : i < codes.length then codes[i] else 0 := by
    intro i hi
    split
    · rename_i h; rw [List.getElem_append_left h]
    · rename_i h
      rw [List.getElem_append_right (by omega)]
      simp
  generalize hSe : codes ++ [0] = S at *
  have hW := flat_length S
  refine ex_cons (x_assign (ev_listM (evs_nil ⟨by simp, by simp, ?_⟩)))
  refine ex_cons (x_assign (ev_int ?_))
  refine ex_cons (x_pair H (ev_tuple (evs_cons (ev_int (evs_cons (ev_int (evs_nil ⟨by simp [V.isRef], by simp, _, _, rfl, ?_⟩)))))))
  refine ex_cons (x_forRange H (fun i ρ σ => i ≤ codes.length ∧ σ = [.list (rowsN (dec (codes.take i)).rows)] ∧ ρ.lookup (Str.ofString "word") = some (.bytes (S.flatMap enc3)) ∧ ρ.lookup (Str.ofString "rows") = some (.ref 0) ∧
      ρ.lookup (Str.ofString "told") = some (.int (nI (dec (codes.take i)).oct : Nat)) ∧ ρ.lookup (Str.ofString "last") = some (.int (nI (dec (codes.take i)).last : Nat)) ∧ ρ.lookup (Str.ofString "much") = some (.int ((256 : Int) ^ (dec (codes.take i)).last.length)))
    (ev_tcall H (T := "range") (by rfl) (by boot_by_name) (by decide) (evs_cons (ev_int (evs_cons (ev_bcall H (id := "len") (by rfl) (by boot_by_name) (by decide) (evs_cons (ev_name rfl (evs_nil (co_lenB (by omega) (evs_cons (ev_int (evs_nil (co_range3 (by decide) (by decide) ⟨_, _, _, S.length, rfl, ?_, ?_, ⟨Nat.zero_le _, rfl, rfl, rfl, rfl, rfl, rfl⟩, ?_, ?_⟩))))))))))))))
  · rw [hW]; exact rng_small (by decide) (by decide) (by omega) (by omega) (by decide) (by decide)
  · rw [hW]; have := rng_by (c := 3) (by decide) S.length; push_cast; exact this
  · rintro i ρ σ hi ⟨hi0, rfl, h1, h2, h3, h4, h5⟩
    have e0 : (0 : Int) + (i : Int) * 3 = ((3 * i : Nat) : Int) := by omega
    rw [e0]
    have hs := hS S[i] (List.getElem_mem hi)
    obtain ⟨d0, d1, d2⟩ := enc3_val S[i] hs.1 hs.2
    have g0 := flat_get S i 0 hi (by decide)
    have g1 := flat_get S i 1 hi (by decide)
    have g2 := flat_get S i 2 hi (by decide)
    refine ex_cons (x_assign (ev_ibin (ev_ibin (ev_ibin (ev_ibin (ev_int ?_))))))
    refine ⟨_, rfl, ev_itemB (ev_name h1 ⟨_, rfl, ev_name rfl ?_⟩)⟩
    refine ⟨_, rfl, by omega, by omega, by omega, _, _, rfl, .mul _ _ (.of_left (by decide)), ?_⟩
    refine ⟨_, rfl, ev_ibin (ev_int ⟨_, rfl, ev_itemB (ev_name h1 ⟨_, rfl, ev_ibin (ev_name rfl ⟨_, rfl, ev_int ?_⟩)⟩)⟩)⟩
    refine ⟨_, _, rfl, .add _ _, _, rfl, by omega, by omega, by omega, _, _, rfl, .mul _ _ (.of_left (by decide)), _, _, rfl, .add _ _, ?_⟩
    refine ⟨_, rfl, ev_itemB (ev_name h1 ⟨_, rfl, ev_ibin (ev_name rfl ⟨_, rfl, ev_int ?_⟩)⟩)⟩
    refine ⟨_, _, rfl, .add _ _, _, rfl, by omega, by omega, by omega, _, _, rfl, .add _ _, _, rfl, ev_int ⟨_, _, rfl, .sub _ _, ?_⟩⟩
    have es : 256 * ((((S.flatMap enc3).getD ((3 * i : Nat) : Int).toNat 0).toNat : Nat) : Int) + 16 * ((((S.flatMap enc3).getD (((3 * i : Nat) : Int) + 1).toNat 0).toNat : Nat) : Int) + ((((S.flatMap enc3).getD (((3 * i : Nat) : Int) + 2).toNat 0).toNat : Nat) : Int) - 17745 = S[i] := by
      rw [show (((3 * i : Nat) : Int)).toNat = 3 * i + 0 from by omega, show (((3 * i : Nat) : Int) + 1).toNat = 3 * i + 1 from by omega, show (((3 * i : Nat) : Int) + 2).toNat = 3 * i + 2 from by omega, g0, g1, g2, d0, d1, d2]
      omega
    rw [es]
    have hci := hSi i hi
    clear es d0 d1 d2 g0 g1 g2 hs
    generalize S[i] = c at *
    refine ex_cons (x_assign (ev_call H (f := 77) (by rfl) (by rfl) (evs_cons (ev_name rfl (evs_nil ⟨by simp [V.isRef], (fn_kind c).mono ?_⟩)))))
    rintro _ rfl
    by_cases hend : i < codes.length
    · rw [dif_pos hend] at hci
      have hok := dok_take hv i hi0
      have hco := hv i hend
      have hstep := dec_take codes i hend
      have hle := oct_take_le (codes := codes) (i + 1) (by omega)
      rw [← hci] at hco hstep
      rw [hstep] at hle ⊢
      have hrl := hok.len
      have hll := hok.lastOk
      have hoo := hok.octOk
      generalize dec (codes.take i) = d at *
      obtain ⟨sd1, sd2⟩ := said_ok hok hco
      have hlen : d.oct.length + (saidBy d c).length ≤ 1000 := by
        have : (dstep d c).oct.length = d.oct.length + (saidBy d c).length := by show (d.oct ++ saidBy d c).length = _; rw [List.length_append]
        omega
      have hc0 : c ≠ 0 := by rcases hco with h | h <;> omega
      have hk0 : (kindI c == 0) = false := by
        unfold kindI
        rw [if_neg hc0]
        split <;> rfl
      refine ex_cons (x_if (et_bool (eb_and (et_cmp (ev_name rfl (ev_int ⟨_, .eq _ _, ?_⟩))))))
      rw [hk0]
      refine ex_nil ?_
      -- said, size
      refine ex_cons (Ex1.mono (N := fun ρ' σ' => σ' = [.list (rowsN d.rows)] ∧ ρ'.lookup (Str.ofString "word") = some (.bytes (S.flatMap enc3)) ∧ ρ'.lookup (Str.ofString "rows") = some (.ref 0) ∧ ρ'.lookup (Str.ofString "told") = some (.int (nI d.oct : Nat)) ∧
        ρ'.lookup (Str.ofString "last") = some (.int (nI d.last : Nat)) ∧ ρ'.lookup (Str.ofString "much") = some (.int ((256 : Int) ^ d.last.length)) ∧ ρ'.lookup (Str.ofString "said") = some (.int (nI (saidBy d c) : Nat)) ∧ ρ'.lookup (Str.ofString "size") = some (.int ((256 : Int) ^ (saidBy d c).length))) ?_ ?_ (fun _ _ h => h))
      · refine x_if (et_cmp (ev_name rfl (ev_int ⟨_, .eq _ _, ?_⟩)))
        by_cases hb : c < 256
        · have hk1 : kindI c = 1 := by unfold kindI; rw [if_neg hc0, if_pos hb]
          rw [hk1]
          have hsb : saidBy d c = [c] := by unfold saidBy; rw [if_pos hb]
          refine ex_cons (x_pairS H (ev_tuple (evs_cons (ev_name rfl (evs_cons (ev_int (evs_nil ⟨by simp [V.isRef], by simp, _, _, rfl, ex_nil ⟨rfl, h1, h2, h3, h4, h5, ?_, ?_⟩⟩)))))))
          · rw [hsb, nI_one]
            show some (V.int c) = some (V.int ((c.toNat : Nat) : Int))
            congr 2
            rcases hco with h | h <;> omega
          · rw [hsb]; rfl
        · have hk2 : kindI c = 2 := by unfold kindI; rw [if_neg hc0, if_neg hb]
          rw [hk2]
          refine ex_cons (x_if (et_cmp (ev_name rfl (ev_int ⟨_, .ne _ _, ?_⟩))))
          refine ex_cons (x_if (et_cmp (ev_ibin (ev_name rfl ⟨_, rfl, ev_int ⟨_, _, rfl, .sub _ _, ev_bcall H (id := "len") (by rfl) (by boot_by_name) (by decide) (evs_cons (ev_name h2 (evs_nil (co_lenR rfl (by rw [List.length_map]; omega) ⟨_, .lt _ _, ?_⟩))))⟩⟩))))
          rw [List.length_map]
          by_cases hr : c - 256 < d.rows.length
          · rw [decide_eq_true hr]
            obtain ⟨hj, e⟩ := said_row (by omega) hr
            refine ex_cons (x_pair H (ev_itemM (ev_name h2 ⟨0, rfl, ev_ibin (ev_name rfl ⟨_, rfl, ev_int ⟨_, _, rfl, .sub _ _, _, _, .tup [.int (nI (saidBy d c) : Nat), .int ((256 : Int) ^ (saidBy d c).length)], rfl, rfl, by omega, by omega, ?_, _, _, rfl, ex_nil (ex_nil (ex_nil ⟨rfl, h1, h2, h3, h4, h5, rfl, rfl⟩))⟩⟩)⟩)))
            rw [List.getElem?_map, List.getElem?_eq_getElem hj, e]; rfl
          · rw [decide_eq_false hr]
            obtain ⟨n1, n2⟩ := num_said hok hco hb hr
            have hlne : d.last ≠ [] := hok.last (by rcases hco with h | h <;> omega)
            obtain ⟨f1, f2⟩ := first_octet hll.1 hlne
            refine ex_cons (x_pairS H (ev_tuple (evs_cons (ev_ibin (ev_ibin (ev_int ⟨_, rfl, ev_name h4 ⟨_, _, rfl, .mul _ _ (.of_left (by decide)), ?_⟩⟩))))))
            refine ⟨_, rfl, ev_ibin (ev_name h4 ⟨_, rfl, ev_ibin (ev_name h5 ⟨_, rfl, ev_int ⟨_, _, rfl, .fdiv _ _ (by decide) (by decide), _, _, rfl, .fdiv _ _ (by rw [f2]; exact pow_pos' _) (by rw [f2]; exact log_pow _ (by omega)), _, _, rfl, .add _ _, ?_⟩⟩)⟩)⟩
            refine evs_cons (ev_ibin (ev_int ⟨_, rfl, ev_name h5 ⟨_, _, rfl, .mul _ _ (.of_left (by decide)), evs_nil ⟨by simp [V.isRef], by simp, _, _, rfl, ex_nil (ex_nil (ex_nil ⟨rfl, h1, h2, h3, h4, h5, ?_, ?_⟩))⟩⟩⟩))
            · rw [n1]; rfl
            · rw [n2]; rfl
      · rintro ρ' σ' ⟨rfl, q1, q2, q3, q4, q5, q6, q7⟩
        obtain ⟨f1, f2⟩ := first_octet sd2 sd1
        refine ex_cons (Ex1.mono (N := fun ρ' σ' => σ' = [.list (rowsN (dstep d c).rows)] ∧ ρ'.lookup (Str.ofString "word") = some (.bytes (S.flatMap enc3)) ∧ ρ'.lookup (Str.ofString "rows") = some (.ref 0) ∧ ρ'.lookup (Str.ofString "told") = some (.int (nI d.oct : Nat)) ∧
          ρ'.lookup (Str.ofString "said") = some (.int (nI (saidBy d c) : Nat)) ∧ ρ'.lookup (Str.ofString "size") = some (.int ((256 : Int) ^ (saidBy d c).length))) ?_ ?_ (fun _ _ h => h))
        · refine x_if (et_cmp (ev_name q5 (ev_int ⟨_, .gt _ _, ?_⟩)))
          by_cases hl : d.last = []
          · have : (1 < (256 : Int) ^ d.last.length) = False := by rw [hl]; simp
            rw [decide_eq_false (by rw [this]; exact id)]
            refine ex_nil ⟨?_, q1, q2, q3, q6, q7⟩
            unfold dstep
            dsimp only
            rw [if_pos hl]
          · rw [decide_eq_true (pow_gt _ (by have := List.length_pos_iff.mpr hl; omega))]
            obtain ⟨n1, n2⟩ := num_row hok hco hl
            refine ex_cons (x_expr (ev_append (ev_name q2 ⟨0, _, rfl, rfl, ev_tuple (evs_cons (ev_ibin (ev_ibin (ev_int ⟨_, rfl, ev_name q4 ⟨_, _, rfl, .mul _ _ (.of_left (by decide)), ?_⟩⟩))))⟩)))
            refine ⟨_, rfl, ev_ibin (ev_name q6 ⟨_, rfl, ev_ibin (ev_name q7 ⟨_, rfl, ev_int ⟨_, _, rfl, .fdiv _ _ (by decide) (by decide), _, _, rfl, .fdiv _ _ (by rw [f2]; exact pow_pos' _) (by rw [f2]; exact log_pow _ (by omega)), _, _, rfl, .add _ _, ?_⟩⟩)⟩)⟩
            refine evs_cons (ev_ibin (ev_int ⟨_, rfl, ev_name q5 ⟨_, _, rfl, .mul _ _ (.of_left (by decide)), evs_nil ⟨by simp [V.isRef], by simp, _, rfl, rfl, ?_, rfl, ex_nil ⟨?_, q1, q2, q3, q6, q7⟩⟩⟩⟩))
            · rw [List.length_map]; omega
            · unfold dstep
              dsimp only
              rw [if_neg hl, ← n1, ← n2]
              show [PO.list (rowsN d.rows ++ [_])] = _
              simp only [rowsN, List.map_append, List.map_cons, List.map_nil]
        · rintro ρ'' σ'' ⟨rfl, r1, r2, r3, r6, r7⟩
          refine ex_cons (x_assign (ev_ibin (ev_ibin (ev_name r3 ⟨_, rfl, ev_name r7 ⟨_, _, rfl, .mul _ _ (.of_bits (bits_nI hoo (by omega)) (bits_pow _ (by omega))), _, rfl, ev_name r6 ⟨_, _, rfl, .add _ _, ?_⟩⟩⟩))))
          refine ex_cons (x_pairS H (ev_tuple (evs_cons (ev_name r6 (evs_cons (ev_name r7 (evs_nil ⟨by simp [V.isRef], by simp, _, _, rfl, ex_nil ⟨by omega, rfl, r1, r2, ?_, rfl, rfl⟩⟩)))))))
          rw [num_oct]; rfl
    · -- the end
      rw [dif_neg hend] at hci
      subst hci
      have hie : i = codes.length := by omega
      subst hie
      rw [List.take_length] at h3
      refine ex_cons (x_if (et_bool (eb_and (et_cmp (ev_name rfl (ev_int ⟨_, .eq _ _, ?_⟩))))))
      rw [show kindI 0 = 0 from rfl]
      refine eb_and (et_cmp (ev_call H (f := 42) (by rfl) (by rfl) (evs_cons (ev_name rfl (evs_nil ⟨by simp [V.isRef], (fn_ap 0 (by rw [Int.natAbs_zero, apWord_zero]; simp)).mono ?_⟩)))))
      rintro _ rfl
      refine ev_bytes ⟨_, .eqB _ _, ?_⟩
      rw [Int.natAbs_zero, apWord_zero]
      exact eb_and_nil (ex_cons (x_ret (ev_name h3 rfl)))
  · rintro ρ σ ⟨hi0, _⟩
    omega
end
end Mine

namespace Mine

def enc2 (s : Int) : List UInt8 := [(65 + s / 16).toNat.toUInt8, (65 + s % 16).toNat.toUInt8]
theorem padW_oct (k n s : Nat) (hs : s < 256) : padW (k + 2) (256 * n + s) = padW k n ++ enc2 s := by
  have e1 : (256 * n + s) % 16 = s % 16 := by omega
  have e2 : (256 * n + s) / 16 % 16 = s / 16 := by omega
  have e4 : (256 * n + s) / 16 / 16 = n := by omega
  have e5 : (65 + (s : Int) / 16).toNat = 65 + s / 16 := by omega
  have e6 : (65 + (s : Int) % 16).toNat = 65 + s % 16 := by omega
  unfold enc2
  rw [e5, e6]
  show ((padW k ((256 * n + s) / 16 / 16) ++ [_]) ++ [_]) = _
  rw [e1, e2, e4]
  simp
theorem word_octets : ∀ (l : List Nat) (k a : Nat), (∀ s ∈ l, s < 256) → padW (k + 2 * l.length) (numFrom 256 a l) = padW k a ++ l.flatMap fun (s : Nat) => enc2 (s : Int)
  | [], k, a, _ => by simp [numFrom]
  | s :: r, k, a, h => by
    have ih := word_octets r (k + 2) (256 * a + s) fun x hx => h x (List.mem_cons_of_mem _ hx)
    have e : k + 2 * (s :: r).length = k + 2 + 2 * r.length := by simp only [List.length_cons]; omega
    rw [e]
    show padW (k + 2 + 2 * r.length) (numFrom 256 (256 * a + s) r) = _
    rw [ih, padW_oct _ _ _ (h s (List.mem_cons_self ..)), List.flatMap_cons, List.append_assoc]
theorem pow16' (n : Nat) : 256 ^ n = 16 ^ (2 * n) := by rw [Nat.pow_mul]
theorem nI_lt16 {o : List Int} (h : Oct o) : nI o < 16 ^ (2 * o.length) := by rw [← pow16']; exact nI_lt h
theorem flat_nat2 : ∀ (S : List Int), Oct S → (S.map Int.toNat).flatMap (fun (s : Nat) => enc2 (s : Int)) = S.flatMap enc2
  | [], _ => rfl
  | s :: r, h => by
    have hs := h s (List.mem_cons_self ..)
    rw [List.map_cons, List.flatMap_cons, List.flatMap_cons, flat_nat2 r fun x hx => h x (List.mem_cons_of_mem _ hx), show ((s.toNat : Nat) : Int) = s from by omega]
theorem fill_oct {o : List Int} (h : Oct o) : fillW (nI o) ((2 * o.length : Nat) : Int) = o.flatMap enc2 := by
  have e : fillW (nI o) ((2 * o.length : Nat) : Int) = padW (2 * o.length) (nI o) := by
    unfold fillW
    rw [← pad_word _ _ (nI_lt16 h)]
    congr 2
    omega
  have e2 := word_octets (o.map Int.toNat) 0 0 (oct_lt h)
  rw [Nat.zero_add, List.length_map, flat_nat2 o h] at e2
  rw [e]
  exact e2
theorem enc2_length (s : Int) : (enc2 s).length = 2 := rfl
theorem flat2_length (S : List Int) : (S.flatMap enc2).length = 2 * S.length := by
  induction S with
  | nil => rfl
  | cons s r ih => rw [List.flatMap_cons, List.length_append, ih, enc2_length, List.length_cons]; omega
theorem flat2_get : ∀ (S : List Int) (i j : Nat) (h : i < S.length), j < 2 → (S.flatMap enc2).getD (2 * i + j) 0 = (enc2 S[i]).getD j 0
  | s :: r, 0, j, h, hj => by
    rw [List.flatMap_cons, List.getD_eq_getElem?_getD, List.getElem?_append_left (by rw [enc2_length]; omega), ← List.getD_eq_getElem?_getD]
    simp
  | s :: r, i + 1, j, h, hj => by
    have ih := flat2_get r i j (by simpa using h) hj
    rw [List.flatMap_cons, List.getD_eq_getElem?_getD, List.getElem?_append_right (by rw [enc2_length]; omega), enc2_length, show 2 * (i + 1) + j - 2 = 2 * i + j from by omega, ← List.getD_eq_getElem?_getD, ih]
    simp
theorem enc2_val (s : Int) (h0 : 0 ≤ s) (h1 : s < 256) : 16 * (((enc2 s).getD 0 0).toNat : Int) + (((enc2 s).getD 1 0).toNat : Int) - 1105 = s := by
  have a0 : (((enc2 s).getD 0 0).toNat : Int) = 65 + s / 16 := by
    show (((65 + s / 16).toNat.toUInt8.toNat : Nat) : Int) = _
    rw [u8 _ (by omega)]; omega
  have a1 : (((enc2 s).getD 1 0).toNat : Int) = 65 + s % 16 := by
    show (((65 + s % 16).toNat.toUInt8.toNat : Nat) : Int) = _
    rw [u8 _ (by omega)]; omega
  rw [a0, a1]; omega

section
variable {c : Cx} {pl : Pl} {ρ : Loc} {σ : List PO} {N : Loc → List PO → Prop} {R : V → List PO → Prop}
theorem wp_cons {st : Stmt} {rest : List Stmt} {s : Shared} {as : List Addr} {fr hid : Led} {Q : Flow → Shared → Prop} {E : Value → Shared → Prop} (h : Ex1 c pl ρ σ st N R) (G : Good c.B pl.h₀ pl.L s.heap as fr hid ρ σ)
    (hN : ∀ h' tk as' fr' ρ' σ', N ρ' σ' → Ext as as' fr fr' → Good c.B pl.h₀ pl.L h' as' fr' hid ρ' σ' → wpAny (model c.prog c.w) pl.A (execs rest pl.env) Q E { s with heap := h', toks := tk })
    (hR : ∀ h' tk v' as' fr' ρ' v σ', R v σ' → Ext as as' fr fr' → Good c.B pl.h₀ pl.L h' as' fr' hid ρ' σ' → RepV c.B as' fr' v' v → Q (.ret v') { s with heap := h', toks := tk }) :
    wpAny (model c.prog c.w) pl.A (execs (st :: rest) pl.env) Q E s :=
  wpAny_execs_cons (h _ _ _ _ _ _ G (fun h' tk as' fr' ρ' σ' n x G' => hN h' tk as' fr' ρ' σ' n x G') (fun h' tk v' as' fr' ρ' v σ' r x G' rv => hR h' tk v' as' fr' ρ' v σ' r x G' rv))
/-- a cell stored -/
theorem cell_store {s : Shared} {as : List Addr} {fr hid : Led} {Q : Unit → Shared → Prop} {E : Value → Shared → Prop} {x : Str} {v' : Value} {cc : Addr} {ob : Obj} {v₀ : Option Value}
    (G : Good c.B pl.h₀ pl.L s.heap as fr ((cc, ob) :: hid) ρ σ) (hob : ob.data = .cell v₀) (h0 : ∀ p ∈ hid, p.1 ≠ cc) (hk : pl.cs.kind = .function) (hx : pl.env.kindOf x = some .cell) (hcl : pl.cl.lookup x = some cc)
    (hQ : ∀ h' ob', ob'.data = .cell (some v') → Good c.B pl.h₀ pl.L h' as fr ((cc, ob') :: hid) ρ σ → Q () { s with heap := h' }) : wpAny (model c.prog c.w) pl.A (storeName pl.env x v') Q E s := by
  have hg := (G.news (cc, ob) (List.mem_append_right _ (.head _))).1
  refine wpAny_storeName_cell hk hx hcl ⟨ob, hg, hob⟩ fun h' hc hs => ?_
  obtain ⟨ob', ho', hd'⟩ := hc
  exact hQ h' ob' hd' (G.turnHid h0 (fun b o hb e => (hs.2 b hb).trans e) ho')

/-- a new list stored under a name -/
theorem Good.newStore {B h₀ h h' : Heap} {L : Addr} {as : List Addr} {fr hid : Led} {ρ : Loc} {σ : List PO} (G : Good B h₀ L h as fr hid ρ σ) {m : Str → Option Value} (hm : h.Ns L m) {y : Str} {D : Addr} {o : Obj} {v : V}
    (hn : h'.Ns L (fun z => if z = y then some (.ref D) else m z)) (hk : ∀ b o, b ≠ L → h.get? b = some o → h'.get? b = some o) (hD : h.get? D = none) (ho : h'.get? D = some o) (hv : RepV B as ((D, o) :: fr) (.ref D) v) :
    Good B h₀ L h' as ((D, o) :: fr) hid ((y, v) :: ρ) σ := by
  obtain ⟨f1, f2, f3, f4⟩ := G.fresh hD
  obtain ⟨m₁, F, r⟩ := G.m
  have em : ∀ y, m y = m₁ y := fun y => by
    obtain ⟨o, es, ep, h1, h2, _, h4⟩ := hm
    obtain ⟨o', es', ep', h1', h2', _, h4'⟩ := F.ns
    rw [h1] at h1'; cases h1'
    rw [h2] at h2'; cases h2'
    rw [← h4, ← h4']
  have hL₀ : ∀ b o, h₀.get? b = some o → b ≠ L := fun b o e => Nat.ne_of_lt (Nat.lt_of_lt_of_le (Heap.lt_size e) F.above)
  refine ⟨⟨_, ⟨hn, fun b o e => hk b o (hL₀ b o e) (F.keep b o e), F.above⟩, fun z u e => ?_⟩, ?_, ?_, G.len, G.nodup, ?_, fun n a o h1 h2 => ?_⟩
  · rw [List.lookup_cons] at e
    by_cases q : z = y
    · subst q
      simp only [beq_self_eq_true] at e
      cases e
      exact ⟨.ref D, by simp, hv⟩
    · have : (z == y) = false := beq_eq_false_iff_ne.mpr q
      simp only [this] at e
      obtain ⟨u', e1, e2⟩ := r z u e
      exact ⟨u', by simp [q, em, e1], e2.ext (extCons _ _ _)⟩
  · intro p hp
    rcases List.mem_cons.mp hp with rfl | hp
    · exact ⟨ho, f1, f2⟩
    · have := G.news p hp
      exact ⟨hk _ _ this.2.1 this.1, this.2⟩
  · intro p hp q hq
    rcases List.mem_cons.mp hp with rfl | hp
    · exact fun e => f3 q (List.mem_append_right _ hq) e.symm
    · exact G.sep p hp q hq
  · intro b hb
    refine ⟨(G.off b hb).1, (G.off b hb).2.1, fun p hp => ?_⟩
    rcases List.mem_cons.mp hp with rfl | hp
    · rintro rfl; exact f4 hb
    · exact (G.off b hb).2.2 p hp
  · have rr := G.muts n a o h1 h2
    obtain ⟨x, hx⟩ := rr.some
    rw [hk a x (G.off a (List.mem_of_getElem? h1)).1 hx]; rw [hx] at rr
    exact rr.mono fun p hp => List.mem_cons_of_mem _ hp

/-- y = [16 * W[k] + W[k + 1] - 1105 for k in range(0, len(W), 2)], W a cell -/
theorem pairs_ok {n : Nat} (H : Amb c pl n) {s : Shared} {as : List Addr} {fr hid : Led} {Q : Flow → Shared → Prop} {E : Value → Shared → Prop} {x y wd : Str} {cc : Addr} {ob : Obj} {t : Tok} {o : List Int} {scope : Scope}
    {p0 p1 p2 p3 p4 p5 p6 p7 p8 p9 q0 q1 q2 q3 q4 q5 q6 q7 q8 px py pos cpos spos : Pos} {k0 k1 k2 k3 k4 : Nat}
    (G : Good c.B pl.h₀ pl.L s.heap as fr ((cc, ob) :: hid) ρ σ) (hob : ob.data = .cell (some (.bytes (o.flatMap enc2).toArray t))) (ho : Oct o) (hz : o.length ≤ 1000)
    (hn1 : nsIn c.K mainGlobals (Str.ofString "range") = some none) (hn2 : nsIn c.K mainGlobals (Str.ofString "len") = some none)
    (hv1 : bootBuiltins (Str.ofString "range") = some (.type "range")) (hv2 : bootBuiltins (Str.ofString "len") = some (.builtin "len"))
    (kx1 : pl.env.kindOf (Str.ofString "range") = some .globalImplicit) (kx2 : pl.env.kindOf (Str.ofString "len") = some .globalImplicit) (kw : pl.env.kindOf wd = some .cell) (kc : pl.cl.lookup wd = some cc)
    (dw : (wd == ("__debug__" : Str)) = false) (dx : (x == ("__debug__" : Str)) = false)
    (ky : pl.env.kindOf y = some .local)
    (hclos : closureFor scope pl.env = pure [(wd, cc)]) (hcell : (scope.names.all fun y => y.2 != .cell) = true) (hkind : scope.kind = .function)
    (hnames : ∀ y ∈ scope.names, y.2 = .local → scope.names.lookup y.1 = some .local) (hx : scope.names.lookup x = some .local)
    (hxC : (relabel scope pl.env).names.lookup x = some .local) (hwC : (relabel scope pl.env).names.lookup wd = some .cell)
    (hsw : swapsWith (.ListComp (.BinOp (.BinOp (.BinOp (.Constant (.int 16) k0 p0) .Mult (.Subscript (.Name wd p1) (.Name x p2) p3) p4) .Add (.Subscript (.Name wd p5) (.BinOp (.Name x p6) .Add (.Constant (.int 1) k1 p7) p8) p9) q0) .Sub (.Constant (.int 1105) k2 q1) q2)
      [⟨.Name x px, .Call (.Name (Str.ofString "range") q3) [.Constant (.int 0) k3 q4, .Call (.Name (Str.ofString "len") q5) [.Name wd q6] [] q7, .Constant (.int 2) k4 q8] [] pos, [], 0⟩] scope cpos) (some (.Name y py)) spos.line pl.env = pure true)
    (hQ : ∀ h' tk fr', (∀ p ∈ fr, p ∈ fr') → Good c.B pl.h₀ pl.L h' as fr' ((cc, ob) :: hid) ((y, .list (o.map V.int)) :: ρ) σ → Q .next { s with heap := h', toks := tk }) :
    wpAny (model c.prog c.w) pl.A (exec (.Assign [.Name y py] (.ListComp (.BinOp (.BinOp (.BinOp (.Constant (.int 16) k0 p0) .Mult (.Subscript (.Name wd p1) (.Name x p2) p3) p4) .Add (.Subscript (.Name wd p5) (.BinOp (.Name x p6) .Add (.Constant (.int 1) k1 p7) p8) p9) q0) .Sub (.Constant (.int 1105) k2 q1) q2)
      [⟨.Name x px, .Call (.Name (Str.ofString "range") q3) [.Constant (.int 0) k3 q4, .Call (.Name (Str.ofString "len") q5) [.Name wd q6] [] q7, .Constant (.int 2) k4 q8] [] pos, [], 0⟩] scope cpos) spos) pl.env) Q E s := by
  obtain ⟨m, F, rm⟩ := G.m
  have hcn := G.news (cc, ob) (List.mem_append_right _ (.head _))
  have hWl := flat2_length o
  have hp : (pl.env.scope.kind == .class || (pl.env.scope.kind == .module && pl.env.locals != pl.env.globals)) = false := by
    show (pl.cs.kind == .class || (pl.cs.kind == .module && pl.L != mainGlobals)) = false
    rw [H.kind]; rfl
  refine wpAny_Assign_ListComp_free (cl := [(wd, cc)]) (fun _ => true) (fun v z => ∃ (i : Nat) (t u : Tok) (h : i < o.length), v = .int ((2 * i : Nat) : Int) t ∧ z = .int o[i] u) hsw hclos
    (fun z hz e => by have := List.all_eq_true.mp hcell z hz; rw [e] at this; exact absurd this (by decide)) hkind hnames hx ky hp ?_ (by intro _; rfl)
  -- the source
  refine Call_ (nameX_B F H.inK H.top hn1 hv1 (by decide) ?_ H.kind kx1 (by decide)) rfl
  refine PyProof.Rows.callWith_type1 (spliced_more (wpAny_Constant_int ?_) rfl) rfl rfl
  refine spliced_more (Call_ (nameX_B F H.inK H.top hn2 hv2 (by decide) ?_ H.kind kx2 (by decide)) rfl) rfl
  refine PyProof.Rows.callWith_builtin1 (spliced_more (nameX_C (news := fr ++ ((cc, ob) :: hid)) G.news kc (List.mem_append_right _ (.head _)) hob ?_ H.kind kw dw) rfl) rfl rfl
  refine spliced_none (len_bytes (by simp only [List.size_toArray]; omega) ?_)
  refine spliced_more (wpAny_Constant_int (spliced_none ?_)) rfl
  refine call_range_3 (by decide) ?_ (.inl (PyProof.noPylong_of_log2 (by decide)))
  -- the iterator
  have hsz : Builtin.Range.rangeSize 0 (((o.flatMap enc2).toArray.size : Nat) : Int) 2 = (o.length : Int) := by
    rw [List.size_toArray, hWl]
    have := rng_by (c := 2) (by decide) o.length
    push_cast
    exact this
  refine wpAny_pyIter_range (a := 0) (b := (((o.flatMap enc2).toArray.size : Nat) : Int)) (c := 2) (Heap.get?_push_size s.heap rfl) (by rw [List.size_toArray, hWl]; exact rng_small (by decide) (by decide) (by omega) (by omega) (by decide) (by decide)) ?_
  rw [hsz]
  generalize hR : ({ cls := .type "range", data := .fields #[.int 0 _, .int _ _, .int 2 _] } : Obj) = robj
  have hkR : ∀ b o', s.heap.get? b = some o' → (s.heap.push robj).get? b = some o' := push_keep s.heap robj
  generalize hHe : s.heap.push robj = h1 at *
  have hI0 : h1.get? h1.objs.size = none := push_none h1
  have W₀ := Walks.range (prog := c.prog) (w := c.w) H.hand h1.objs.size 0 2 o.length
  have W : Walks c.prog c.w pl.A h1.objs.size [h1.objs.size] [h1.objs.size] o.length (fun i v => i < o.length ∧ ∃ t, v = Value.int (0 + (i : Int) * 2) t) (fun i h => IsRangeIter h h1.objs.size (0 + (i : Nat) * 2) ((o.length : Int) - (i : Nat)) 2) :=
    ⟨W₀.sub, W₀.frame, fun i s Q E hi st hQ => W₀.item i s Q E hi st fun v h' tk p => hQ v h' tk ⟨hi, p⟩, W₀.done, W₀.self⟩
  have hkI : ∀ b o', s.heap.get? b = some o' → b ≠ h1.objs.size ∧ (h1.push { cls := .type "range_iterator", data := .fields #[rawInt 0, rawInt (o.length : Int), rawInt 2] }).get? b = some o' := by
    intro b o' e
    have e1 := hkR b o' e
    refine ⟨?_, push_keep h1 _ b o' e1⟩
    rintro rfl; rw [hI0] at e1; cases e1
  have hns : (h1.push { cls := .type "range_iterator", data := .fields #[rawInt 0, rawInt (o.length : Int), rawInt 2] }).Ns pl.L m := F.ns.at' fun o' e => (hkI _ o' e).2
  have hLI : pl.L ≠ h1.objs.size := by
    obtain ⟨oL, _, _, hL, _⟩ := F.ns
    exact (hkI _ _ hL).1
  refine ⟨h1.objs.size, _, _, o.length, _, _, m, rfl, W, by rw [sizeLine_eq]; omega, ?_, ?_, ?_, hns, ⟨?_, ?_⟩, ?_⟩
  · show (h1.push _).get? _ = _
    rw [Heap.get?_push_size _ rfl]; simp
  · intro b hb
    rw [List.mem_singleton.mp hb]
    show h1.objs.size < (h1.push _).objs.size
    rw [Heap.size_push]; exact Nat.lt_succ_self _
  · intro h; exact hLI (List.mem_singleton.mp h)
  · intro C i v s₃ m₃ E' hC hP hn hv hkp htk
    exact wpAny_pure ⟨rfl, s₃.heap, s₃.toks, rfl, fun _ _ e => e⟩
  · rintro C i v s₃ m₃ E' hC ⟨hi, tv, rfl⟩ _ hn hv hkp htk
    rw [show (0 : Int) + (i : Int) * 2 = ((2 * i : Nat) : Int) from by omega] at hv ⊢
    have hcI := hkI cc ob hcn.1
    have hc3 : s₃.heap.IsCell cc (some (.bytes (o.flatMap enc2).toArray t)) := ⟨ob, hkp cc ob (by simp [hcI.1]) hcI.2, hob⟩
    have hr := ho o[i] (List.getElem_mem hi)
    have hval := enc2_val o[i] (by omega) hr.2
    rw [← flat2_get o i 0 hi (by decide), ← flat2_get o i 1 hi (by decide)] at hval
    have hval' : 16 * ((((o.flatMap enc2).getD ((2 * i : Nat) : Int).toNat 0).toNat : Nat) : Int) + ((((o.flatMap enc2).getD (((2 * i : Nat) : Int) + 1).toNat 0).toNat : Nat) : Int) - 1105 = o[i] := by
      rw [show ((2 * i : Nat) : Int).toNat = 2 * i + 0 from by omega, show (((2 * i : Nat) : Int) + 1).toNat = 2 * i + 1 from by omega]
      exact hval
    refine wpAny_BinOp (wpAny_BinOp (wpAny_BinOp (wpAny_Constant_int ?_)))
    refine Subscript_ (wpAny_Name (wpAny_loadName_cell (by exact hkind) (by exact hwC) (by show List.lookup wd [(wd, cc)] = _; rw [List.lookup_cons, beq_self_eq_true]) hc3 ?_) dw)
    refine wpAny_Name (wpAny_loadName_local (by exact hkind) (by exact hxC) hn hv ?_) dx
    refine tail_any (typeIs_bytes _ _ _) FB.slot_bytes_getitem.lookup (getItem_bytes (by omega) (by omega) (by omega) ?_) (by with_unfolding_all rfl)
    refine mul_int ?_ (.of_left (by decide))
    refine Subscript_ (wpAny_Name (wpAny_loadName_cell (by exact hkind) (by exact hwC) (by show List.lookup wd [(wd, cc)] = _; rw [List.lookup_cons, beq_self_eq_true]) hc3 ?_) dw)
    refine wpAny_BinOp (wpAny_Name (wpAny_loadName_local (by exact hkind) (by exact hxC) hn hv ?_) dx)
    refine wpAny_Constant_int (add_int ?_)
    refine tail_any (typeIs_bytes _ _ _) FB.slot_bytes_getitem.lookup (getItem_bytes (by omega) (by omega) (by omega) ?_) (by with_unfolding_all rfl)
    refine add_int (wpAny_Constant_int (sub_int ?_))
    exact ⟨⟨i, tv, _, hi, rfl, congrArg (fun z => Value.int z _) hval'⟩, s₃.heap, _, rfl, fun _ _ e => e⟩
  · intro D h' tk ys vs hD hI hpl hvl hvP hF hnL hkp
    obtain ⟨ep', hD'⟩ := hpl
    have hfil : vs.filter (fun _ => true) = vs := List.filter_eq_self.mpr fun _ _ => rfl
    rw [hfil] at hF
    have hD0 : s.heap.get? D = none := by
      cases q : s.heap.get? D with
      | none => rfl
      | some o' => rw [(hkI D o' q).2] at hD; cases hD
    have hyl : ys.toList.length = o.length := by rw [← paired_length hF, hvl]
    have rr : RepL c.B ((D, lobj ys.toList ep') :: fr) ys.toList (o.map V.int) := by
      refine ⟨by rw [hyl, List.length_map], ?_⟩
      intro i z d e1 e2
      simp only [List.getElem?_map, Option.map_eq_some_iff] at e2
      obtain ⟨a, ea, rfl⟩ := e2
      have hi : i < o.length := by
        rcases Nat.lt_or_ge i o.length with h' | h'
        · exact h'
        · rw [List.getElem?_eq_none h'] at ea; cases ea
      have hvi : vs[i]? = some (vs[i]'(by rw [hvl]; exact hi)) := List.getElem?_eq_getElem _
      obtain ⟨j, t1, u1, hj, ez, ey⟩ := paired_get hF i _ _ hvi e1
      obtain ⟨_, t2, ev⟩ := hvP i _ hvi
      rw [ez] at ev
      have : j = i := by
        have := (Value.int.inj ev).1
        omega
      subst this
      rw [List.getElem?_eq_getElem hi] at ea
      cases ea
      subst ey
      exact .int _ _
    refine hQ h' tk _ (fun p hp => List.mem_cons_of_mem _ hp) (G.newStore (o := lobj ys.toList ep') F.ns hnL (fun b o' hb e => hkp b o' hb (by simp [(hkI b o' e).1]) (hkI b o' e).2) hD0 (by simpa using hD') (Rep.list D ys.toList ep' _ (.head _) rr.1 rr.2))
end
end Mine

namespace Mine

theorem octets_ne {codes : List Int} (hv : Valid codes) (hne : codes ≠ []) : octetsOf codes ≠ [] := by
  have h := dok_take hv codes.length (Nat.le_refl _)
  rw [List.take_length] at h
  have h1 := h.last (by have := List.length_pos_iff.mpr hne; omega)
  have h2 := h.lastOk.2
  intro e
  rw [show (dec codes).oct = [] from e] at h2
  exact h1 (List.length_eq_zero_iff.mp (by simpa using h2))
theorem octets_oct {codes : List Int} (hv : Valid codes) : Oct (octetsOf codes) := by
  have h := dok_take hv codes.length (Nat.le_refl _)
  rw [List.take_length] at h
  exact h.octOk
theorem nI_take (o : List Int) (i : Nat) (s : Int) (h : o[i]? = some s) : nI (o.take (i + 1)) = 256 * nI (o.take i) + s.toNat := by
  rw [List.take_add_one, h]
  show nI (o.take i ++ [s]) = _
  rw [nI_append, nI_one]
  simp only [List.length_singleton, Nat.pow_one]
  omega
theorem numI_take (o : List Int) (i : Nat) (s : Int) (h : o[i]? = some s) : numI (o.take (i + 1)) = 4096 * numI (o.take i) + s.toNat := by
  rw [List.take_add_one, h]
  exact numI_snoc _ _

theorem ex_use {c : Cx} {pl : Pl} {ρ : Loc} {σ : List PO} {body : List Stmt} {N : Loc → List PO → Prop} {R : V → List PO → Prop} {s : Shared} {as : List Addr} {fr hid : Led} {Q : Flow → Shared → Prop} {E : Value → Shared → Prop} (h : Ex c pl ρ σ body N R) (G : Good c.B pl.h₀ pl.L s.heap as fr hid ρ σ)
    (hN : ∀ h' tk as' fr' ρ' σ', N ρ' σ' → Ext as as' fr fr' → Good c.B pl.h₀ pl.L h' as' fr' hid ρ' σ' → Q .next { s with heap := h', toks := tk })
    (hR : ∀ h' tk v' as' fr' ρ' v σ', R v σ' → Ext as as' fr fr' → Good c.B pl.h₀ pl.L h' as' fr' hid ρ' σ' → RepV c.B as' fr' v' v → Q (.ret v') { s with heap := h', toks := tk }) : wpAny (model c.prog c.w) pl.A (execs body pl.env) Q E s := h _ _ _ _ _ _ G hN hR
theorem ev_use {c : Cx} {pl : Pl} {ρ : Loc} {σ : List PO} {e : Expr} {K : V → List PO → Prop} {s : Shared} {as : List Addr} {fr hid : Led} {Q : Value → Shared → Prop} {E : Value → Shared → Prop} (h : Ev c pl ρ σ e K) (G : Good c.B pl.h₀ pl.L s.heap as fr hid ρ σ)
    (hQ : ∀ h' tk v' as' fr' v σ', K v σ' → Ext as as' fr fr' → Good c.B pl.h₀ pl.L h' as' fr' hid ρ σ' → RepV c.B as' fr' v' v → Q v' { s with heap := h', toks := tk }) : wpAny (model c.prog c.w) pl.A (eval e pl.env) Q E s := h _ _ _ _ _ _ G hQ

section
variable {B : Heap} {w : World} {mg mb : Str → Option Value} {k : Nat}
/-- what is asked of a row of codes -/
structure RowOk (O C : List Int) : Prop where
  valid : Valid C
  oct : octetsOf C = O
  len : C.length ≤ 1000
theorem row_pos {O C : List Int} (h : RowOk O C) (hO : O ≠ []) : 1 ≤ numI C := by
  cases C with
  | nil => exact absurd h.oct.symm hO
  | cons c r =>
    have := h.valid 0 (by simp)
    have h1 := numI_ge (c :: r) c (List.mem_cons_self ..)
    rcases this with ⟨h2, _⟩ | ⟨h2, h3⟩
    · have h2' : 1 ≤ c := h2
      omega
    · have h2' : 256 ≤ c := h2
      omega


theorem law2_top {m : Str → Option Value} {mean : ExcName → Option Value} {h : Heap} {s : Shared} {cn : Str} {cs : Scope} {L a la cc : Addr} {ccd : Value} {ob : Obj} {v₀ : Option Value} {vs : List Value} {ns : List Int} {Q : Flow → Shared → Prop} {E : Value → Shared → Prop}
    (hns : ns.length ≤ 63) (hcs : cs = (match (hd02.heap_39 w.params).lookup 89 with | some ⟨_, _, .func fd, _⟩ => fd.scope | _ => default)) (K0 : Below callerA h [] h) (KX : (hd02.heap_39 w.params).In h)
    (T : Top hd02.view_39 (looseW hd02.view_39 []) mean mg mb h) (hl : h.IsList la vs.toArray) (hI : IntsAre vs ns) (F : Fr h L s.heap m) (hm : m (Str.ofString "script") = some (.ref la)) (N0 : News h L s.heap [(cc, ob)]) (hob : ob.data = .cell v₀)
    (hQ : ∀ h' tk m', Fr h L h' m' → Q (.ret (.bool true)) { s with heap := h', toks := tk }) :
    wpAny (model PySem.Challenge.rw_pk0005_02.row.prog w) (callerA.deeper (envX cn cs L a ccd [(Str.ofString "word", cc)])) (execs (bodyAt (hd02.heap_39 w.params) 89) (envX cn cs L a ccd [(Str.ofString "word", cc)])) Q E s := by
  have H : Amb (C2 h w mg mb) ⟨callerA.deeper (envX cn cs L a ccd [(Str.ofString "word", cc)]), cn, cs, L, a, ccd, [(Str.ofString "word", cc)], h⟩ 4 :=
    ⟨⟨_, _, _, K0, rfl⟩, fun _ _ e => e, KX, topRead_of T, by rw [hcs]; rfl, rfl, by show 302 + 4 < 900; decide, by show 7 + 8 * 4 < 5000; decide⟩
  have G : Good h h L s.heap [] [] [(cc, ob)] [(Str.ofString "script", .arg ns)] [] := by
    refine ⟨⟨m, F, ?_⟩, N0, ?_, rfl, List.nodup_nil, ?_, ?_⟩
    · intro x v e
      rw [List.lookup_cons] at e
      by_cases q : (x == Str.ofString "script") = true
      · rw [q] at e
        cases e
        rw [eq_of_beq q]
        exact ⟨_, hm, Rep.arg la vs ns hl hI⟩
      · rw [Bool.not_eq_true] at q
        rw [q] at e; cases e
    · intro p hp; cases hp
    · intro a ha; cases ha
    · intro n a o h1; simp at h1
  have hC := codesOf_valid ns
  have hCl := codesOf_length ns
  have hOl := octets_short ns
  have hO := octets_oct hC
  have hOne := octets_ne hC (by have := hCl.1; intro e; rw [e] at this; simp at this)
  have rowC : RowOk (octetsOf (codesOf ns)) (codesOf ns) := ⟨hC, rfl, by omega⟩
  subst hcs
  -- codes
  refine wp_cons (c := C2 h w mg mb) (pl := ⟨_, cn, _, L, a, ccd, [(Str.ofString "word", cc)], h⟩) (N := fun ρ' σ' => σ' = [] ∧ ρ'.lookup (Str.ofString "codes") = some (.list ((codesOf ns).map V.int))) (R := fun _ _ => False)
    (x_assign (ev_call H (f := 49) (by rfl) (by rfl) (evs_cons (ev_name rfl (evs_nil ⟨by simp [V.isRef], (fn_codes ns (by omega)).mono (by rintro _ rfl; exact ⟨rfl, rfl⟩)⟩))))) G ?_ (fun _ _ _ _ _ _ _ _ hf => hf.elim)
  rintro h1 tk1 as1 fr1 ρ1 σ1 ⟨rfl, c1⟩ x1 G1
  -- octets
  generalize codesOf ns = C at *
  refine wp_cons (c := C2 h w mg mb) (pl := ⟨_, cn, _, L, a, ccd, [(Str.ofString "word", cc)], h⟩) (N := fun ρ' σ' => σ' = [] ∧ ρ'.lookup (Str.ofString "codes") = some (.list (C.map V.int)) ∧ ρ'.lookup (Str.ofString "octets") = some (.list ((octetsOf C).map V.int))) (R := fun _ _ => False)
    (x_assign (ev_call H (f := 56) (by rfl) (by rfl) (evs_cons (ev_name c1 (evs_nil ⟨by simp [V.isRef], (fn_octets C hC (by omega) (by omega)).mono (by rintro _ rfl; exact ⟨rfl, c1, rfl⟩)⟩))))) G1 ?_ (fun _ _ _ _ _ _ _ _ hf => hf.elim)
  rintro h2 tk2 as2 fr2 ρ2 σ2 ⟨rfl, c2, o2⟩ x2 G2
  generalize octetsOf C = O at *
  -- number
  refine wp_cons (c := C2 h w mg mb) (pl := ⟨_, cn, _, L, a, ccd, [(Str.ofString "word", cc)], h⟩) (N := fun ρ' σ' => σ' = [] ∧ ρ'.lookup (Str.ofString "codes") = some (.list (C.map V.int)) ∧ ρ'.lookup (Str.ofString "octets") = some (.list (O.map V.int)) ∧ ρ'.lookup (Str.ofString "number") = some (.int 0)) (R := fun _ _ => False)
    (x_assign (ev_int ⟨rfl, c2, o2, rfl⟩)) G2 ?_ (fun _ _ _ _ _ _ _ _ hf => hf.elim)
  rintro h3 tk3 as3 fr3 ρ3 σ3 ⟨rfl, c3, o3, n3⟩ x3 G3
  refine wp_cons (c := C2 h w mg mb) (pl := ⟨_, cn, _, L, a, ccd, [(Str.ofString "word", cc)], h⟩) (N := fun ρ' σ' => σ' = [] ∧ ρ'.lookup (Str.ofString "codes") = some (.list (C.map V.int)) ∧ ρ'.lookup (Str.ofString "octets") = some (.list (O.map V.int)) ∧ ρ'.lookup (Str.ofString "number") = some (.int (nI O : Nat))) (R := fun _ _ => False)
    (x_forList H (fun i ρ' σ' => σ' = [] ∧ ρ'.lookup (Str.ofString "codes") = some (.list (C.map V.int)) ∧ ρ'.lookup (Str.ofString "octets") = some (.list (O.map V.int)) ∧ ρ'.lookup (Str.ofString "number") = some (.int (nI (O.take i) : Nat))) (ev_name o3 ⟨_, rfl, ⟨rfl, c3, o3, n3⟩, ?_, ?_⟩)) G3 ?_ (fun _ _ _ _ _ _ _ _ hf => hf.elim)
  · rintro i d ρ σ hd ⟨rfl, q1, q2, q3⟩
    simp only [List.getElem?_map, Option.map_eq_some_iff] at hd
    obtain ⟨x, hx, rfl⟩ := hd
    have hxo := hO x (List.mem_of_getElem? hx)
    refine ex_cons (x_assign (ev_ibin (ev_ibin (ev_int ⟨_, rfl, ev_name q3 ⟨_, _, rfl, .mul _ _ (.of_left (by decide)), _, rfl, ev_name rfl ⟨_, _, rfl, .add _ _, ex_nil ⟨rfl, q1, q2, ?_⟩⟩⟩⟩))))
    rw [nI_take O i x hx]
    show some (V.int _) = some (V.int _)
    congr 2
    push_cast
    omega
  · rintro ρ σ ⟨rfl, q1, q2, q3⟩
    rw [List.length_map, List.take_length] at q3
    exact ⟨rfl, q1, q2, q3⟩
  rintro h4 tk4 as4 fr4 ρ4 σ4 ⟨rfl, c4, o4, n4⟩ x4 G4
  -- word
  have hap := apWord_le (2 * O.length) (nI O) (nI_lt16 hO)
  have hfill := fill_oct hO
  refine wpAny_execs_cons (wpAny_Assign_Name (ev_use (c := C2 h w mg mb) (pl := ⟨_, cn, _, L, a, ccd, [(Str.ofString "word", cc)], h⟩) (K := fun v σ' => v = .bytes (O.flatMap enc2) ∧ σ' = []) ?_ G4 ?_) (by rfl))
  · refine ev_call H (f := 70) (by rfl) (by rfl) (evs_cons (ev_name n4 (evs_cons (ev_ibin (ev_int ⟨_, rfl, ev_bcall H (id := "len") (by rfl) (by boot_by_name) (by decide) (evs_cons (ev_name o4 (evs_nil (co_lenL (by rw [List.length_map]; omega) ⟨_, _, rfl, .mul _ _ (.of_left (by decide)), evs_nil ⟨by simp [V.isRef], (fn_filled _ _ (by rw [Int.natAbs_natCast]; omega) (by omega) (by rw [List.length_map]; omega)).mono ?_⟩⟩))))⟩)))))
    rintro _ rfl
    rw [Int.natAbs_natCast, List.length_map, show (2 : Int) * (O.length : Int) = ((2 * O.length : Nat) : Int) from by omega, hfill]
    exact ⟨rfl, rfl⟩
  rintro h5 tk5 v5 as5 fr5 v σ5 ⟨rfl, rfl⟩ x5 G5 r5
  obtain ⟨t5, rfl⟩ := r5.bytes_inv
  refine cell_store (c := C2 h w mg mb) (pl := ⟨_, cn, _, L, a, ccd, [(Str.ofString "word", cc)], h⟩) G5 hob (fun p hp => by cases hp) rfl rfl rfl ?_
  intro h6 ob6 hob6 G6
  dsimp only
  -- pairs
  refine wpAny_execs_cons (pairs_ok (c := C2 h w mg mb) (pl := ⟨_, cn, _, L, a, ccd, [(Str.ofString "word", cc)], h⟩) H G6 hob6 hO (by omega) (by rfl) (by rfl) (by boot_by_name) (by boot_by_name) rfl rfl rfl rfl (by decide) (by decide) rfl (by rfl) (by decide) rfl (by decide) rfl (by rfl) (by rfl) (by rfl) ?_)
  intro h7 tk7 fr7 hsub7 G7
  dsimp only
  refine ex_use (c := C2 h w mg mb) (pl := ⟨_, cn, _, L, a, ccd, [(Str.ofString "word", cc)], h⟩) (N := fun _ _ => False) (R := fun v _ => v = .bool true) ?_ G7 (fun _ _ _ _ _ _ hf => hf.elim) ?_
  rotate_left
  · rintro h' tk v' as' fr' ρ' v σ' rfl x G' rv
    cases rv.bool_inv
    obtain ⟨m', F'⟩ := G'.frame
    exact hQ h' tk m' F'
  refine ex_cons (x_if (et_cmpL H (.inr rfl) (ev_name rfl ⟨O, rfl, ev_name o4 ⟨O, rfl, ?_⟩⟩)))
  rw [ifNe, decide_eq_true rfl]
  refine ex_nil ?_
  refine ex_cons (x_forList H (fun i ρ σ => σ = [] ∧ ρ.lookup (Str.ofString "number") = some (.int (nI O : Nat))) (ev_listI (evs_cons (ev_name c4 (evs_cons (ev_call H (f := 63) (by rfl) (by rfl) (evs_cons (ev_name rfl (evs_nil ⟨by simp [V.isRef], (fn_greedy O hO (by omega)).mono ?_⟩)))))))))
  rintro _ ⟨D2, rfl, hv2, ho2, hl2⟩
  refine evs_nil ⟨by simp [V.isRef], by simp, _, rfl, ⟨rfl, n4⟩, ?_, ?_⟩
  · rintro i d ρ σ hd ⟨rfl, q1⟩
    obtain ⟨D, rfl, hD⟩ : ∃ D : List Int, d = .list (D.map V.int) ∧ RowOk O D := by
      match i, hd with
      | 0, hd => exact ⟨C, by simpa using hd.symm, rowC⟩
      | 1, hd => exact ⟨D2, by simpa using hd.symm, ⟨hv2, ho2, by omega⟩⟩
      | j + 2, hd => simp at hd
    have hDp := row_pos hD hOne
    have hDl := hD.len
    have hDr := valid_range hD.valid hDl
    have hsn := numI_snoc D 0
    have hfl := fill_ring hDr
    have hlt := numI_lt hDr
    have hap2 := apWord_le _ _ hlt
    rw [hsn, show (0 : Int).toNat = 0 from rfl, Nat.add_zero] at hfl hap2
    rw [List.length_append, List.length_singleton] at hfl hap2
    refine ex_cons (x_assign (ev_int ?_))
    refine ex_cons (x_forList H (fun j ρ' σ' => σ' = [] ∧ ρ'.lookup (Str.ofString "row") = some (.list (D.map V.int)) ∧ ρ'.lookup (Str.ofString "number") = some (.int (nI O : Nat)) ∧ ρ'.lookup (Str.ofString "packed") = some (.int (numI (D.take j) : Nat)))
      (ev_name rfl ⟨_, rfl, ⟨rfl, rfl, q1, rfl⟩, ?_, ?_⟩))
    · rintro j e ρ' σ' he ⟨rfl, r1, r2, r3⟩
      simp only [List.getElem?_map, Option.map_eq_some_iff] at he
      obtain ⟨x, hx, rfl⟩ := he
      have hxr := hDr x (List.mem_append_left _ (List.mem_of_getElem? hx))
      refine ex_cons (x_assign (ev_ibin (ev_ibin (ev_int ⟨_, rfl, ev_name r3 ⟨_, _, rfl, .mul _ _ (.of_left (by decide)), _, rfl, ev_name rfl ⟨_, _, rfl, .add _ _, ex_nil ⟨rfl, r1, r2, ?_⟩⟩⟩⟩))))
      rw [numI_take D j x hx]
      show some (V.int _) = some (V.int _)
      congr 2
      push_cast
      omega
    · rintro ρ' σ' ⟨rfl, r1, r2, r3⟩
      rw [List.length_map, List.take_length] at r3
      generalize numI D = P at *
      -- kinds
      refine ex_cons (x_if (et_bool (eb_or (et_cmp (ev_call H (f := 77) (by rfl) (by rfl) (evs_cons (ev_ibin (ev_int ⟨_, rfl, ev_name r3 ⟨_, _, rfl, .mul _ _ (.of_left (by decide)), evs_nil ⟨by simp [V.isRef], (fn_kind _).mono ?_⟩⟩⟩))))))))
      rintro _ rfl
      refine ev_int ⟨_, .ne _ _, ?_⟩
      rw [show kindI (4096 * (P : Int)) = 2 from by unfold kindI; rw [if_neg (by omega), if_neg (by omega)]]
      refine eb_or (et_cmp (ev_call H (f := 77) (by rfl) (by rfl) (evs_cons (ev_ibin (ev_neg (ev_int ⟨_, rfl, _, rfl, ev_name r3 ⟨_, _, rfl, .mul _ _ (.of_left (by decide)), evs_nil ⟨by simp [V.isRef], (fn_kind _).mono ?_⟩⟩⟩))))))
      rintro _ rfl
      refine ev_int ⟨_, .ne _ _, ?_⟩
      rw [show kindI (-4096 * (P : Int)) = 1 from by unfold kindI; rw [if_neg (by omega), if_pos (by omega)]]
      refine eb_or_nil (ex_nil ?_)
      -- the number
      refine ex_cons (x_if (et_cmp (ev_call H (f := 84) (by rfl) (by rfl) (evs_cons (ev_call H (f := 70) (by rfl) (by rfl) (evs_cons (ev_ibin (ev_neg (ev_int ⟨_, rfl, _, rfl, ev_name r3 ⟨_, _, rfl, .mul _ _ (.of_left (by decide)), ?_⟩⟩)))))))))
      refine evs_cons (ev_ibin (ev_ibin (ev_int ⟨_, rfl, ev_bcall H (id := "len") (by rfl) (by boot_by_name) (by decide) (evs_cons (ev_name r1 (evs_nil (co_lenL (by rw [List.length_map]; omega) ⟨_, _, rfl, .mul _ _ (.of_left (by decide)), _, rfl, ev_int ⟨_, _, rfl, .add _ _, ?_⟩⟩))))⟩)))
      have hna : (-4096 * (P : Int)).natAbs = 4096 * P := by omega
      refine evs_nil ⟨by simp [V.isRef], (fn_filled _ _ (by rw [hna]; omega) (by omega) (by rw [List.length_map]; omega)).mono ?_⟩
      rintro _ rfl
      rw [hna, List.length_map, show (3 : Int) * (D.length : Int) + 3 = ((3 * (D.length + 1) : Nat) : Int) from by omega, hfl]
      refine evs_nil ⟨by simp [V.isRef], (fn_number D hD.valid hDl (by rw [hD.oct]; omega)).mono ?_⟩
      rintro _ rfl
      refine ev_name r2 ⟨_, .ne _ _, ?_⟩
      rw [hD.oct, bne_self_eq_false]
      exact ex_nil (ex_nil ⟨rfl, r2⟩)
  · rintro ρ σ ⟨rfl, q1⟩
    exact ex_cons (x_ret (ev_bool rfl))
end
end Mine

set_option maxHeartbeats 8000000 in
theorem PySem.Challenge.cw_pk0005_02_holds : PySem.Challenge.rw_pk0005_02.Holds := by
  refine Mine.hd02 ?_
  k_go0
  rename_i w s₀ s₁ mg mb G Y fa o pm doc ho hg KX X V GL T B TE TW u1 u2 M cd u4 hcd ns hs hlay0 hL1 hr1 hl2 u5 u6 la vs u7 hLs ra w1 r0 hI hr hc1 hc2 K0 hD h₁ tk₁ F ob hob N0 X0
  refine Mine.law2_top (cc := s₁.heap.objs.size + 1) (by omega) rfl K0 KX T hLs hI F rfl N0 hob fun h' tk m' F' => ?_
  clear hD F N0 X0 hob
  dsimp only
  first | (k_end; wrow_close) | wrow_close
