import PyProof.Rows.All
import Wide.All
import OpenK.AllK
import Wide.FinOn
import PySem.Challenge.RW_dn0305_05
set_option Elab.async false
section
open PySem PySem.W PySem.Calls PyProof.Rows PySem.Spec
set_option Elab.async false
set_option maxRecDepth 100000
namespace Mine

/-! Part 1: the abstract heap, the relation to the model's heap, the state predicate -/
structure Flds where
  sys : Value
  pub : Value
  enc : Value
  byt : Value
  chr : Value

inductive AObj where
  | src (f : Flds)
  | list (vs : List Value)
  | raw (o : Obj)

abbrev AH := Addr → Option AObj
def put (H : AH) (a : Addr) (o : AObj) : AH := fun b => if b = a then some o else H b
def del (H : AH) (a : Addr) : AH := fun b => if b = a then none else H b
theorem put_same {H : AH} {a : Addr} {o : AObj} : put H a o a = some o := if_pos rfl
theorem put_ne {H : AH} {a b : Addr} {o : AObj} (h : b ≠ a) : put H a o b = H b := if_neg h
theorem del_same {H : AH} {a : Addr} : del H a a = none := if_pos rfl
theorem del_ne {H : AH} {a b : Addr} (h : b ≠ a) : del H a b = H b := if_neg h

abbrev listObj (vs : List Value) (n : Nat) : Obj := { cls := .type "list", data := .seq vs.toArray n }
abbrev nSys : Str := "_InputSource__system_id"
abbrev nPub : Str := "_InputSource__public_id"
abbrev nEnc : Str := "_InputSource__encoding"
abbrev nByt : Str := "_InputSource__bytefile"
abbrev nChr : Str := "_InputSource__charfile"
def srcEs (ks : Nat → Int) (ts : Nat → Tok) (f : Flds) : List DictEntry :=
  [⟨ks 0, .str nSys (ts 0), f.sys⟩, ⟨ks 1, .str nPub (ts 1), f.pub⟩, ⟨ks 2, .str nEnc (ts 2), f.enc⟩, ⟨ks 3, .str nByt (ts 3), f.byt⟩, ⟨ks 4, .str nChr (ts 4), f.chr⟩]

def Real (C : Addr) (h : Heap) (d a : Addr) : AObj → Prop
  | .src f => h.get? a = some (instObj C d) ∧ ∃ ks ts, h.get? d = some (dictOf (srcEs ks ts f) 5)
  | .list vs => ∃ n, h.get? a = some (listObj vs n)
  | .raw o => h.get? a = some o

theorem Real.there {C : Addr} {h : Heap} {d a : Addr} {o : AObj} (r : Real C h d a o) : ∃ ob, h.get? a = some ob := by
  cases o with
  | src f => exact ⟨_, r.1⟩
  | list vs => obtain ⟨n, e⟩ := r; exact ⟨_, e⟩
  | raw o => exact ⟨_, r⟩

structure Rep (C : Addr) (h₀ : Heap) (L : Addr) (own : List (Addr × Obj)) (h : Heap) (H : AH) (δ : Addr → Addr) : Prop where
  real : ∀ a o, H a = some o → Real C h (δ a) a o
  new : ∀ a o, H a = some o → a ≠ L ∧ h₀.get? a = none
  dnew : ∀ a f, H a = some (.src f) → δ a ≠ L ∧ h₀.get? (δ a) = none
  doff : ∀ a f, H a = some (.src f) → H (δ a) = none
  dinj : ∀ a b f g, H a = some (.src f) → H b = some (.src g) → δ a = δ b → a = b
  news : News h₀ L h own
  ownH : ∀ p ∈ own, H p.1 = none
  ownd : ∀ p ∈ own, ∀ a f, H a = some (.src f) → δ a ≠ p.1

section
variable {C : Addr} {h₀ : Heap} {L : Addr} {own : List (Addr × Obj)} {h h' : Heap} {H : AH} {δ : Addr → Addr}

theorem Rep.there (R : Rep C h₀ L own h H δ) {a : Addr} {o : AObj} (e : H a = some o) : ∃ ob, h.get? a = some ob := (R.real a o e).there
theorem Rep.dthere (R : Rep C h₀ L own h H δ) {a : Addr} {f : Flds} (e : H a = some (.src f)) : ∃ ob, h.get? (δ a) = some ob := by
  obtain ⟨_, ks, ts, q⟩ := R.real a _ e; exact ⟨_, q⟩

/-- what is fresh for the heap is fresh for all -/
theorem Rep.fresh (R : Rep C h₀ L own h H δ) {a : Addr} (e : h.get? a = none) : H a = none ∧ (∀ p ∈ own, p.1 ≠ a) ∧ ∀ b f, H b = some (.src f) → δ b ≠ a := by
  refine ⟨?_, fun p hp q => ?_, fun b f hb q => ?_⟩
  · cases q : H a with
    | none => rfl
    | some o => obtain ⟨ob, x⟩ := R.there q; rw [e] at x; cases x
  · have := (R.news p hp).1; rw [q, e] at this; cases this
  · obtain ⟨ob, x⟩ := R.dthere hb; rw [q, e] at x; cases x

theorem Real.keep {d a : Addr} {o : AObj} (r : Real C h d a o) (k : ∀ b ob, (b = a ∨ ((∃ f, o = .src f) ∧ b = d)) → h.get? b = some ob → h'.get? b = some ob) : Real C h' d a o := by
  cases o with
  | src f => obtain ⟨e, ks, ts, q⟩ := r; exact ⟨k _ _ (.inl rfl) e, ks, ts, k _ _ (.inr ⟨⟨f, rfl⟩, rfl⟩) q⟩
  | list vs => obtain ⟨n, e⟩ := r; exact ⟨n, k _ _ (.inl rfl) e⟩
  | raw o => exact k _ _ (.inl rfl) r

theorem Rep.keep (R : Rep C h₀ L own h H δ) (k : ∀ b o, b ≠ L → h₀.get? b = none → h.get? b = some o → h'.get? b = some o) : Rep C h₀ L own h' H δ where
  real := fun a o e => (R.real a o e).keep fun b ob hb q => by
    rcases hb with rfl | ⟨⟨f, rfl⟩, rfl⟩
    · exact k _ _ (R.new _ _ e).1 (R.new _ _ e).2 q
    · exact k _ _ (R.dnew _ _ e).1 (R.dnew _ _ e).2 q
  new := R.new
  dnew := R.dnew
  doff := R.doff
  dinj := R.dinj
  news := fun p hp => ⟨k _ _ (R.news p hp).2.1 (R.news p hp).2.2 (R.news p hp).1, (R.news p hp).2⟩
  ownH := R.ownH
  ownd := R.ownd

/-- an entry that is no source: laid anew, or changed -/
theorem Rep.put (R : Rep C h₀ L own h H δ) {a : Addr} {o : AObj} (hns : ∀ f, o ≠ .src f) (hold : ∀ f, H a ≠ some (.src f))
    (k : ∀ b ob, b ≠ a → b ≠ L → h₀.get? b = none → h.get? b = some ob → h'.get? b = some ob) (hr : Real C h' (δ a) a o) (hL : a ≠ L) (h0 : h₀.get? a = none)
    (hown : ∀ p ∈ own, p.1 ≠ a) (hd : ∀ b f, H b = some (.src f) → δ b ≠ a) : Rep C h₀ L own h' (put H a o) δ where
  real := fun b ob e => by
    unfold Mine.put at e
    split at e
    · rename_i q; subst q; cases e; exact hr
    · rename_i q
      refine (R.real b ob e).keep fun c oc hc hq => ?_
      rcases hc with rfl | ⟨⟨f, rfl⟩, rfl⟩
      · exact k _ _ q (R.new _ _ e).1 (R.new _ _ e).2 hq
      · exact k _ _ (hd _ _ e) (R.dnew _ _ e).1 (R.dnew _ _ e).2 hq
  new := fun b ob e => by
    unfold Mine.put at e
    split at e
    · rename_i q; subst q; exact ⟨hL, h0⟩
    · exact R.new _ _ e
  dnew := fun b f e => by
    unfold Mine.put at e
    split at e
    · cases e; exact absurd rfl (hns _)
    · exact R.dnew _ _ e
  doff := fun b f e => by
    unfold Mine.put at e
    split at e
    · cases e; exact absurd rfl (hns _)
    · rw [put_ne (hd _ _ e)]; exact R.doff _ _ e
  dinj := fun b c f g e1 e2 => by
    unfold Mine.put at e1 e2
    split at e1
    · cases e1; exact absurd rfl (hns _)
    · split at e2
      · cases e2; exact absurd rfl (hns _)
      · exact R.dinj _ _ _ _ e1 e2
  news := fun p hp => ⟨k _ _ (hown p hp) (R.news p hp).2.1 (R.news p hp).2.2 (R.news p hp).1, (R.news p hp).2⟩
  ownH := fun p hp => by rw [put_ne (hown p hp)]; exact R.ownH p hp
  ownd := fun p hp b f e => by
    unfold Mine.put at e
    split at e
    · cases e; exact absurd rfl (hns _)
    · exact R.ownd p hp _ _ e

/-- an entry changed -/
theorem Rep.change (R : Rep C h₀ L own h H δ) {a : Addr} {o o' : AObj} (e : H a = some o) (hos : ∀ f, o ≠ .src f) (hns : ∀ f, o' ≠ .src f)
    (k : ∀ b ob, b ≠ a → b ≠ L → h₀.get? b = none → h.get? b = some ob → h'.get? b = some ob) (hr : Real C h' (δ a) a o') : Rep C h₀ L own h' (Mine.put H a o') δ :=
  R.put hns (fun f q => hos f (by rw [e] at q; exact Option.some.inj q)) k hr (R.new _ _ e).1 (R.new _ _ e).2 (fun p hp q => by have := R.ownH p hp; rw [q, e] at this; cases this)
    fun b f hb q => by have := R.doff _ _ hb; rw [q, e] at this; cases this

/-- a source's field stored -/
theorem Rep.fld (R : Rep C h₀ L own h H δ) {a : Addr} {f f' : Flds} (e : H a = some (.src f))
    (k : ∀ b ob, b ≠ δ a → b ≠ L → h₀.get? b = none → h.get? b = some ob → h'.get? b = some ob) {ks : Nat → Int} {ts : Nat → Tok} (hr : h'.get? (δ a) = some (dictOf (srcEs ks ts f') 5)) :
    Rep C h₀ L own h' (Mine.put H a (.src f')) δ where
  real := fun b ob q => by
    unfold Mine.put at q
    split at q
    · rename_i z; subst z; cases q
      have hne : b ≠ δ b := fun z => by have := R.doff _ _ e; rw [← z, e] at this; cases this
      exact ⟨k _ _ hne (R.new _ _ e).1 (R.new _ _ e).2 (R.real _ _ e).1, ks, ts, hr⟩
    · rename_i z
      refine (R.real b ob q).keep fun c oc hc hq => ?_
      rcases hc with rfl | ⟨⟨g, rfl⟩, rfl⟩
      · exact k _ _ (fun y => by have := R.doff _ _ e; rw [← y, q] at this; cases this) (R.new _ _ q).1 (R.new _ _ q).2 hq
      · exact k _ _ (fun y => z (R.dinj _ _ _ _ q e y)) (R.dnew _ _ q).1 (R.dnew _ _ q).2 hq
  new := fun b ob q => by
    unfold Mine.put at q
    split at q
    · rename_i z; subst z; exact R.new _ _ e
    · exact R.new _ _ q
  dnew := fun b g q => by
    unfold Mine.put at q
    split at q
    · rename_i z; subst z; exact R.dnew _ _ e
    · exact R.dnew _ _ q
  doff := fun b g q => by
    have hb : ∃ g', H b = some (.src g') := by
      unfold Mine.put at q
      split at q
      · rename_i z; subst z; exact ⟨_, e⟩
      · exact ⟨_, q⟩
    obtain ⟨g', hb⟩ := hb
    rw [put_ne (fun z => by have := R.doff _ _ hb; rw [z, e] at this; cases this)]
    exact R.doff _ _ hb
  dinj := fun b c f1 f2 e1 e2 => by
    have hs : ∀ x f1, Mine.put H a (.src f') x = some (.src f1) → ∃ g', H x = some (.src g') := fun x f1 q => by
      unfold Mine.put at q
      split at q
      · rename_i z; subst z; exact ⟨_, e⟩
      · exact ⟨_, q⟩
    obtain ⟨g1, h1⟩ := hs _ _ e1
    obtain ⟨g2, h2⟩ := hs _ _ e2
    exact R.dinj _ _ _ _ h1 h2
  news := fun p hp => ⟨k _ _ (fun z => R.ownd p hp _ _ e z.symm) (R.news p hp).2.1 (R.news p hp).2.2 (R.news p hp).1, (R.news p hp).2⟩
  ownH := fun p hp => by
    rw [put_ne (fun z => by have := R.ownH p hp; rw [z, e] at this; cases this)]; exact R.ownH p hp
  ownd := fun p hp b g q => by
    unfold Mine.put at q
    split at q
    · rename_i z; subst z; exact R.ownd p hp _ _ e
    · exact R.ownd p hp _ _ q

/-- a new source -/
theorem Rep.newSrc (R : Rep C h₀ L own h H δ) {x d : Addr} {f : Flds} (hx : h.get? x = none) (hd : h.get? d = none) (hxd : x ≠ d)
    (k : ∀ b ob, b ≠ L → h₀.get? b = none → h.get? b = some ob → h'.get? b = some ob) (hxL : x ≠ L) (hx0 : h₀.get? x = none) (hdL : d ≠ L) (hd0 : h₀.get? d = none)
    (hi : h'.get? x = some (instObj C d)) {ks : Nat → Int} {ts : Nat → Tok} (hr : h'.get? d = some (dictOf (srcEs ks ts f) 5)) :
    Rep C h₀ L own h' (Mine.put H x (.src f)) (fun b => if b = x then d else δ b) := by
  obtain ⟨fx1, fx2, fx3⟩ := R.fresh hx
  obtain ⟨fd1, fd2, fd3⟩ := R.fresh hd
  have hs : ∀ {b o}, b ≠ x → Mine.put H x (.src f) b = some o → H b = some o := fun z q => by rwa [put_ne z] at q
  refine ⟨fun b ob q => ?_, fun b ob q => ?_, fun b g q => ?_, fun b g q => ?_, fun b c f1 f2 e1 e2 q => ?_, fun p hp => ?_, fun p hp => ?_, fun p hp b g q => ?_⟩
  · by_cases z : b = x
    · subst z; rw [put_same] at q; cases q
      simp only [if_true]
      exact ⟨hi, ks, ts, hr⟩
    · simp only [if_neg z]
      have q := hs z q
      refine (R.real b ob q).keep fun c oc hc hq => ?_
      rcases hc with rfl | ⟨⟨g, rfl⟩, rfl⟩
      · exact k _ _ (R.new _ _ q).1 (R.new _ _ q).2 hq
      · exact k _ _ (R.dnew _ _ q).1 (R.dnew _ _ q).2 hq
  · by_cases z : b = x
    · subst z; exact ⟨hxL, hx0⟩
    · exact R.new _ _ (hs z q)
  · by_cases z : b = x
    · simp only [if_pos z]; exact ⟨hdL, hd0⟩
    · simp only [if_neg z]; exact R.dnew _ _ (hs z q)
  · by_cases z : b = x
    · simp only [if_pos z]; rw [put_ne hxd.symm]; exact fd1
    · simp only [if_neg z]; rw [put_ne (fx3 _ _ (hs z q))]; exact R.doff _ _ (hs z q)
  · by_cases z : b = x
    · by_cases y : c = x
      · rw [z, y]
      · simp only [if_pos z, if_neg y] at q; exact absurd q.symm (fd3 _ _ (hs y e2))
    · by_cases y : c = x
      · simp only [if_neg z, if_pos y] at q; exact absurd q (fd3 _ _ (hs z e1))
      · simp only [if_neg z, if_neg y] at q; exact R.dinj _ _ _ _ (hs z e1) (hs y e2) q
  · exact ⟨k _ _ (R.news p hp).2.1 (R.news p hp).2.2 (R.news p hp).1, (R.news p hp).2⟩
  · rw [put_ne (fx2 p hp)]; exact R.ownH p hp
  · by_cases z : b = x
    · simp only [if_pos z]; exact fun y => fd2 p hp y.symm
    · simp only [if_neg z]; exact R.ownd p hp _ _ (hs z q)

/-- an entry that is no source goes over to what is held as it lies -/
theorem Rep.hold (R : Rep C h₀ L own h H δ) {a : Addr} {o : AObj} (e : H a = some o) (hos : ∀ f, o ≠ .src f) {ob : Obj} (hob : h.get? a = some ob) : Rep C h₀ L ((a, ob) :: own) h (del H a) δ := by
  have hs : ∀ {b o}, del H a b = some o → H b = some o := fun {b o} q => by
    unfold del at q; split at q; cases q; exact q
  have hn : ∀ {b}, H b = none → del H a b = none := fun {b} q => by unfold del; split; rfl; exact q
  refine ⟨fun b ob q => R.real _ _ (hs q), fun b ob q => R.new _ _ (hs q), fun b f q => R.dnew _ _ (hs q), fun b f q => hn (R.doff _ _ (hs q)), fun b c f g q1 q2 => R.dinj _ _ _ _ (hs q1) (hs q2), fun p hp => ?_, fun p hp => ?_, fun p hp b f q => ?_⟩
  · rcases List.mem_cons.mp hp with rfl | hp
    · exact ⟨hob, R.new _ _ e⟩
    · exact R.news p hp
  · rcases List.mem_cons.mp hp with rfl | hp
    · exact del_same
    · exact hn (R.ownH p hp)
  · rcases List.mem_cons.mp hp with rfl | hp
    · exact fun z => by have := R.doff _ _ (hs q); rw [z, e] at this; cases this
    · exact R.ownd p hp _ _ (hs q)

/-- what is held is let go -/
theorem Rep.drop {p : Addr × Obj} (R : Rep C h₀ L (p :: own) h H δ) : Rep C h₀ L own h H δ where
  real := R.real
  new := R.new
  dnew := R.dnew
  doff := R.doff
  dinj := R.dinj
  news := fun q hq => R.news q (.tail _ hq)
  ownH := fun q hq => R.ownH q (.tail _ hq)
  ownd := fun q hq => R.ownd q (.tail _ hq)

/-- a heap that forgets entries -/
theorem Rep.sub {H' : AH} (R : Rep C h₀ L own h H δ) (hs : ∀ a o, H' a = some o → H a = some o) : Rep C h₀ L own h H' δ := by
  have hn : ∀ {b}, H b = none → H' b = none := fun {b} q => by
    cases z : H' b with
    | none => rfl
    | some o => rw [hs _ _ z] at q; cases q
  exact ⟨fun a o q => R.real _ _ (hs _ _ q), fun a o q => R.new _ _ (hs _ _ q), fun a f q => R.dnew _ _ (hs _ _ q), fun a f q => hn (R.doff _ _ (hs _ _ q)), fun b c f g q1 q2 => R.dinj _ _ _ _ (hs _ _ q1) (hs _ _ q2), R.news,
    fun p hp => hn (R.ownH p hp), fun p hp a f q => R.ownd p hp _ _ (hs _ _ q)⟩
end

/-! the whole ledger -/
def full (h₀ : Heap) (L : Addr) (h : Heap) : List (Addr × Obj) :=
  (List.range h.objs.size).filterMap fun a => match h.get? a, h₀.get? a with
    | some o, none => if a = L then none else some (a, o)
    | _, _ => none
theorem mem_full {h₀ : Heap} {L : Addr} {h : Heap} {a : Addr} {o : Obj} : (a, o) ∈ full h₀ L h ↔ h.get? a = some o ∧ a ≠ L ∧ h₀.get? a = none := by
  unfold full
  rw [List.mem_filterMap]
  constructor
  · rintro ⟨b, _, e⟩
    split at e
    · rename_i o' h1 h2
      split at e
      · cases e
      · rename_i q; cases e; exact ⟨h1, q, h2⟩
    · cases e
  · rintro ⟨h1, h2, h3⟩
    refine ⟨a, List.mem_range.mpr (Heap.lt_size h1), ?_⟩
    rw [h1, h3]
    exact if_neg h2
theorem news_full (h₀ : Heap) (L : Addr) (h : Heap) : News h₀ L h (full h₀ L h) := fun p hp => mem_full.mp hp
theorem full_inj {h₀ : Heap} {L : Addr} {h : Heap} {a : Addr} {o : Obj} (e : (a, o) ∈ full h₀ L h) : ∃ pre post, full h₀ L h = pre ++ (a, o) :: post ∧ (∀ p ∈ pre, p.1 ≠ a) ∧ ∀ p ∈ post, p.1 ≠ a := by
  have nd : ((full h₀ L h).map (·.1)).Nodup := by
    unfold full
    rw [List.map_filterMap]
    have : ∀ l : List Nat, l.Nodup → (l.filterMap fun x => Option.map (fun y : Addr × Obj => y.1) (match h.get? x, h₀.get? x with | some o, none => if x = L then none else some (x, o) | _, _ => none)).Nodup := by
      intro l
      induction l with
      | nil => intro _; exact List.nodup_nil
      | cons b r ih =>
        intro hn
        rw [List.nodup_cons] at hn
        rw [List.filterMap_cons]
        have ihr := ih hn.2
        split
        · exact ihr
        · rename_i v hv
          rw [List.nodup_cons]
          refine ⟨fun hm => ?_, ihr⟩
          obtain ⟨c, hc, e⟩ := List.mem_filterMap.mp hm
          have key : ∀ {c v}, Option.map (fun y : Addr × Obj => y.1) (match h.get? c, h₀.get? c with | some o, none => if c = L then none else some (c, o) | _, _ => none) = some v → v = c := by
            intro c v e
            split at e
            · split at e
              · cases e
              · cases e; rfl
            · cases e
          have h1 := key e
          have h2 := key hv
          exact hn.1 (by rw [← h2, h1]; exact hc)
    exact this _ List.nodup_range
  obtain ⟨pre, post, q⟩ := List.append_of_mem e
  refine ⟨pre, post, q, fun p hp z => ?_, fun p hp z => ?_⟩
  · rw [q, List.map_append, List.nodup_append] at nd
    exact nd.2.2 p.1 (List.mem_map_of_mem hp) a (by simp) z
  · rw [q, List.map_append, List.nodup_append] at nd
    have := nd.2.1
    rw [List.map_cons, List.nodup_cons] at this
    exact this.1 (List.mem_map.mpr ⟨p, hp, z⟩)

def upd (m : Str → Option Value) (x : Str) (v : Value) : Str → Option Value := fun y => if y = x then some v else m y
theorem upd_same {m : Str → Option Value} {x : Str} {v : Value} : upd m x v x = some v := if_pos rfl
theorem upd_look {m : Str → Option Value} {x y : Str} {v u : Value} (h : y ≠ x) (e : m y = some u) : upd m x v y = some u := (if_neg h).trans e

structure St (C : Addr) (s₀ : Shared) (h₀ : Heap) (L : Addr) (own : List (Addr × Obj)) (s : Shared) (m : Str → Option Value) (H : AH) : Prop where
  fr : Fr h₀ L s.heap m
  rep : ∃ δ, Rep C h₀ L own s.heap H δ
  gens : s.gens = s₀.gens
  drawn : s.drawn = s₀.drawn
  os : s.os = s₀.os

section
variable {C : Addr} {s₀ : Shared} {h₀ : Heap} {L : Addr} {own : List (Addr × Obj)} {s : Shared} {m : Str → Option Value} {H : AH}

theorem St.tok (S : St C s₀ h₀ L own s m H) (tk : Nat) : St C s₀ h₀ L own { s with toks := tk } m H := ⟨S.fr, S.rep, S.gens, S.drawn, S.os⟩
theorem St.keep (S : St C s₀ h₀ L own s m H) {h' : Heap} {tk : Nat} {m' : Str → Option Value} (F : Fr h₀ L h' m') (k : ∀ b o, b ≠ L → h₀.get? b = none → s.heap.get? b = some o → h'.get? b = some o) :
    St C s₀ h₀ L own { s with heap := h', toks := tk } m' H := ⟨F, let ⟨_, R⟩ := S.rep; ⟨_, R.keep k⟩, S.gens, S.drawn, S.os⟩
theorem St.of_same (S : St C s₀ h₀ L own s m H) {h' : Heap} {tk : Nat} {m' : Str → Option Value} (hn : h'.Ns L m') (hs : Heap.SameBut L s.heap h') : St C s₀ h₀ L own { s with heap := h', toks := tk } m' H :=
  S.keep (S.fr.set hn hs) fun b o hb _ e => (hs.2 b hb).trans e
theorem St.hold (S : St C s₀ h₀ L own s m H) {a : Addr} {o : AObj} (e : H a = some o) (hos : ∀ f, o ≠ .src f) : ∃ ob, s.heap.get? a = some ob ∧ St C s₀ h₀ L ((a, ob) :: own) s m (del H a) := by
  obtain ⟨δ, R⟩ := S.rep
  obtain ⟨ob, q⟩ := R.there e
  exact ⟨ob, q, S.fr, ⟨δ, R.hold e hos q⟩, S.gens, S.drawn, S.os⟩
theorem St.drop {p : Addr × Obj} (S : St C s₀ h₀ L (p :: own) s m H) : St C s₀ h₀ L own s m H := ⟨S.fr, let ⟨_, R⟩ := S.rep; ⟨_, R.drop⟩, S.gens, S.drawn, S.os⟩
theorem St.sub {H' : AH} (S : St C s₀ h₀ L own s m H) (hs : ∀ a o, H' a = some o → H a = some o) : St C s₀ h₀ L own s m H' := ⟨S.fr, let ⟨_, R⟩ := S.rep; ⟨_, R.sub hs⟩, S.gens, S.drawn, S.os⟩
theorem St.list (S : St C s₀ h₀ L own s m H) {a : Addr} {vs : List Value} (e : H a = some (.list vs)) : s.heap.PlainList a vs.toArray := by
  obtain ⟨δ, R⟩ := S.rep; exact R.real _ _ e
theorem St.isList (S : St C s₀ h₀ L own s m H) {a : Addr} {vs : List Value} (e : H a = some (.list vs)) : s.heap.IsList a vs.toArray := (S.list e).isList
theorem St.raw (S : St C s₀ h₀ L own s m H) {a : Addr} {o : Obj} (e : H a = some (.raw o)) : s.heap.get? a = some o := by
  obtain ⟨δ, R⟩ := S.rep; exact R.real _ _ e
theorem St.at_new (S : St C s₀ h₀ L own s m H) : s.heap.objs.size ≠ L ∧ h₀.get? s.heap.objs.size = none ∧ s.heap.get? s.heap.objs.size = none := by
  have hn : s.heap.get? s.heap.objs.size = none := by
    cases q : s.heap.get? s.heap.objs.size with
    | none => rfl
    | some o => exact absurd (Heap.lt_size q) (Nat.lt_irrefl _)
  refine ⟨Nat.ne_of_gt S.fr.ns.lt, ?_, hn⟩
  cases q : h₀.get? s.heap.objs.size with
  | none => rfl
  | some o => have := S.fr.keep _ _ q; rw [hn] at this; cases this

/-- an entry that is no source, at a place that is new -/
theorem St.add (S : St C s₀ h₀ L own s m H) {h' : Heap} {tk : Nat} {a : Addr} {o : AObj} (F : Fr h₀ L h' m) (hns : ∀ f, o ≠ .src f) (ha : s.heap.get? a = none) (hL : a ≠ L) (h0 : h₀.get? a = none)
    (k : ∀ b ob, b ≠ L → h₀.get? b = none → s.heap.get? b = some ob → h'.get? b = some ob) (hr : ∀ d, Real C h' d a o) : H a = none ∧ St C s₀ h₀ L own { s with heap := h', toks := tk } m (put H a o) := by
  obtain ⟨δ, R⟩ := S.rep
  obtain ⟨f1, f2, f3⟩ := R.fresh ha
  exact ⟨f1, F, ⟨δ, R.put hns (fun f q => by rw [f1] at q; cases q) (fun b ob _ => k b ob) (hr _) hL h0 f2 f3⟩, S.gens, S.drawn, S.os⟩
theorem St.change (S : St C s₀ h₀ L own s m H) {h' : Heap} {tk : Nat} {a : Addr} {o o' : AObj} (F : Fr h₀ L h' m) (e : H a = some o) (hos : ∀ f, o ≠ .src f) (hns : ∀ f, o' ≠ .src f)
    (k : ∀ b ob, b ≠ a → b ≠ L → h₀.get? b = none → s.heap.get? b = some ob → h'.get? b = some ob) (hr : ∀ d, Real C h' d a o') : St C s₀ h₀ L own { s with heap := h', toks := tk } m (put H a o') := by
  obtain ⟨δ, R⟩ := S.rep
  exact ⟨F, ⟨δ, R.change e hos hns k (hr _)⟩, S.gens, S.drawn, S.os⟩
theorem St.ne_L (S : St C s₀ h₀ L own s m H) {a : Addr} {o : AObj} (e : H a = some o) : a ≠ L ∧ h₀.get? a = none := by
  obtain ⟨δ, R⟩ := S.rep; exact R.new _ _ e
theorem Fr.of_but {h h' : Heap} {a : Addr} (F : Fr h₀ L h m) (hL : a ≠ L) (h0 : h₀.get? a = none) (k : ∀ b ob, b ≠ a → h.get? b = some ob → h'.get? b = some ob) : Fr h₀ L h' m := by
  refine ⟨F.ns.at' fun o e => k _ _ hL.symm e, fun b o e => k _ _ (fun z => ?_) (F.keep b o e), F.above⟩
  rw [z, h0] at e; cases e
theorem Fr.of_ext {h h' : Heap} (F : Fr h₀ L h m) (k : ∀ b ob, h.get? b = some ob → h'.get? b = some ob) : Fr h₀ L h' m := ⟨F.ns.keeps k, fun b o e => k _ _ (F.keep b o e), F.above⟩
/-- a list changed: the common case -/
theorem St.setList (S : St C s₀ h₀ L own s m H) {h' : Heap} {tk : Nat} {a : Addr} {vs vs' : List Value} (e : H a = some (.list vs)) (hs : Heap.SameBut a s.heap h') (hr : h'.PlainList a vs'.toArray) :
    St C s₀ h₀ L own { s with heap := h', toks := tk } m (put H a (.list vs')) :=
  S.change (Fr.of_but S.fr (S.ne_L e).1 (S.ne_L e).2 fun b ob hb q => (hs.2 b hb).trans q) e (fun _ q => by cases q) (fun _ q => by cases q) (fun b ob hb _ _ q => (hs.2 b hb).trans q) fun _ => hr
end

end Mine

end
section
open PySem PySem.W PySem.Calls PyProof.Rows PySem.Spec
set_option Elab.async false
set_option maxRecDepth 100000
namespace Mine

def NoE : Value → Shared → Prop := fun _ _ => False
theorem wp_noE {α : Type} {M : Model} {A : Around} {t : Sem α} {Q : α → Shared → Prop} {E : Value → Shared → Prop} {s : Shared} (h : wpAny M A t Q NoE s) : wpAny M A t Q E s :=
  wpAny_mono h (fun _ _ x => x) fun _ _ x => x.elim

structure Cx (K : Frag) (p : Program) (loose : List Str) (mean : ExcName → Option Value) (mg mb : Str → Option Value) (A : Around) (env : Env) (h₀ : Heap) (L : Addr) (d : Nat) : Prop where
  below : ∃ A₀ base outer, Below A₀ base outer h₀ ∧ A.frames = some (env :: outer)
  X : K.In h₀
  T : Top p loose mean mg mb h₀
  frame : env.frame = some L
  kind : env.scope.kind = .function
  loc : env.locals = L
  glb : env.globals = mainGlobals
  blt : env.builtins = builtinsNs
  handled : A.handled = none
  room : A.depth + d < recursionLimit
  units : A.units + 8 * d + 64 < cLine

def retOf : Flow → Value
  | .ret v => v
  | _ => .none
def Back (C : Addr) (s₀ : Shared) (h₀ : Heap) (L : Addr) (own : List (Addr × Obj)) (m : Str → Option Value) (g : Heap) (L' : Addr) (Q : Value → Shared → Prop) (v : Value) (s' : Shared) : Prop :=
  ∃ m' H', St C s₀ g L' own s' m' H' ∧ (St C s₀ h₀ L own s' m H' → Q v s')

theorem Rep.move {C : Addr} {h₀ g : Heap} {L L' : Addr} {own : List (Addr × Obj)} {h h' : Heap} {H : AH} {δ : Addr → Addr} (R : Rep C h₀ L own h H δ)
    (k : ∀ a o, h.get? a = some o → a ≠ L → h₀.get? a = none → h'.get? a = some o ∧ a ≠ L' ∧ g.get? a = none) : Rep C g L' own h' H δ where
  real := fun a o e => (R.real a o e).keep fun b ob hb q => by
    rcases hb with rfl | ⟨⟨f, rfl⟩, rfl⟩
    · exact (k _ _ q (R.new _ _ e).1 (R.new _ _ e).2).1
    · exact (k _ _ q (R.dnew _ _ e).1 (R.dnew _ _ e).2).1
  new := fun a o e => by
    obtain ⟨ob, q⟩ := R.there e
    exact (k _ _ q (R.new _ _ e).1 (R.new _ _ e).2).2
  dnew := fun a f e => by
    obtain ⟨ob, q⟩ := R.dthere e
    exact (k _ _ q (R.dnew _ _ e).1 (R.dnew _ _ e).2).2
  doff := R.doff
  dinj := R.dinj
  news := fun p hp => k _ _ (R.news p hp).1 (R.news p hp).2.1 (R.news p hp).2.2
  ownH := R.ownH
  ownd := R.ownd

def bindM (bs : List (Str × Value)) : Str → Option Value := bs.foldl (fun m b => upd m b.1 b.2) fun _ => none
theorem bindM_eq (bs : List (Str × Value)) : (fun y => bs.reverse.lookup y) = bindM bs := by
  have key : ∀ (bs : List (Str × Value)) (m : Str → Option Value) (y : Str), bs.foldl (fun m b => upd m b.1 b.2) m y = ((bs.reverse.lookup y).or (m y)) := by
    intro bs
    induction bs with
    | nil => intro m y; rfl
    | cons b r ih =>
      intro m y
      rw [List.foldl_cons, ih, List.reverse_cons, List.lookup_append]
      cases r.reverse.lookup y with
      | some v => rfl
      | none =>
        show upd m b.1 b.2 y = ((List.lookup y [b]).or (m y))
        unfold upd
        rw [List.lookup_cons]
        by_cases q : y = b.1
        · rw [if_pos q, q, beq_self_eq_true]; rfl
        · rw [if_neg q, beq_false_of_ne q]; rfl
  funext y
  unfold bindM
  rw [key]
  cases bs.reverse.lookup y <;> rfl

section
variable {K : Frag} {p : Program} {loose : List Str} {mean : ExcName → Option Value} {mg mb : Str → Option Value} {A : Around} {env : Env} {h₀ : Heap} {L : Addr} {d : Nat}
variable {prog : Program} {w : World} {C : Addr} {s₀ s : Shared} {own : List (Addr × Obj)} {m : Str → Option Value} {H : AH} {Q : Value → Shared → Prop} {E : Value → Shared → Prop}

theorem Cx.less (c : Cx K p loose mean mg mb A env h₀ L (d + 1)) : Cx K p loose mean mg mb A env h₀ L d :=
  ⟨c.below, c.X, c.T, c.frame, c.kind, c.loc, c.glb, c.blt, c.handled, by have := c.room; omega, by have := c.units; omega⟩
theorem Cx.in (c : Cx K p loose mean mg mb A env h₀ L d) (S : St C s₀ h₀ L own s m H) : K.In s.heap := c.X.keeps S.fr.keep

/-- the call of a def of the text's own, as code under any surrounding of the same frames -/
theorem code_fn {A₁ : Around} {d₁ : Nat} {R : Result → Shared → Prop} {name qual : Str} {params : Arguments} {body : List Stmt} {scope : Scope} {dV kV doc pm cdv ct oc : Value} {an od : Option Addr} {osl : Array (Option Value)} {f : Addr} {args : Args} {binds : List (Str × Value)}
    (c : Cx K p loose mean mg mb A env h₀ L d) (S : St C s₀ h₀ L own s m H)
    (hfr : A₁.frames = A.frames) (hhd : A₁.handled = A.handled) (hrm : A₁.depth + (d₁ + 1) < recursionLimit) (hun : A₁.units + 8 * (d₁ + 1) + 64 < cLine)
    (ho : K.lookup f = some ⟨oc, od, .func (fnOf name qual params body scope dV kV doc pm an cdv ct), osl⟩) (hcd : codeIn K cdv qual = true)
    (hbind : BindsTo s (fnOf name qual params body scope dV kV doc pm an cdv ct) args binds) (hloc : ∀ y ∈ binds, scope.names.lookup y.1 = some .local)
    (h : ∀ g L' s₁, Cx K p loose mean mg mb (A₁.deeper (envOf qual scope L' f cdv)) (envOf qual scope L' f cdv) g L' d₁ → St C s₀ g L' own s₁ (bindM binds) H →
      wpAny (model prog w) (A₁.deeper (envOf qual scope L' f cdv)) (execs body (envOf qual scope L' f cdv)) (fun fl s' => Back C s₀ h₀ L own m g L' (fun v s' => R (.ok (.ret v)) s') (retOf fl) s') NoE s₁)
    (hco : scope.isCoroutine = false) (hgen : scope.isGenerator = false) (hk : scope.kind = .function) (hcell : ∀ x ∈ scope.names, x.2 ≠ .cell) :
    codeAny (model prog w) A₁ (.call (.ref f) args) R s := by
  obtain ⟨A₀, base, outer, B, hA⟩ := c.below
  obtain ⟨δ, RR⟩ := S.rep
  refine code_def (news := full h₀ L s.heap) B S.fr c.X (news_full _ _ _) c.T (hfr.trans hA) c.frame c.kind ho hcd (by omega) hbind hloc (fun g L' h₁ FG F' N' B' X' T' => ?_) hco hgen hk hcell
  have S' : St C s₀ g L' own { s with heap := h₁, toks := s.toks + binds.length } (bindM binds) H :=
    ⟨bindM_eq binds ▸ F', ⟨δ, RR.move fun a o e hL h0 => N' (a, o) (mem_full.mpr ⟨e, hL, h0⟩)⟩, S.gens, S.drawn, S.os⟩
  have c' : Cx K p loose mean mg mb (A₁.deeper (envOf qual scope L' f cdv)) (envOf qual scope L' f cdv) g L' d₁ :=
    ⟨⟨A₁, base, env :: outer, B', Around.frames_deeper (hfr.trans hA)⟩, X', T', rfl, hk, rfl, rfl, rfl, hhd.trans c.handled, by rw [depth_deeper]; omega, by rw [units_deeper]; omega⟩
  refine wpAny_mono (h g L' _ c' S') (fun fl s' hb => ?_) fun _ _ x => x.elim
  obtain ⟨m', H', S₂, k⟩ := hb
  have e : ∀ fl : Flow, LeaveK h₀ L m g R (retOf fl) s' → LeaveK h₀ L m g R (match fl with | .ret v => v | _ => Value.none) s' := fun fl x => by cases fl <;> exact x
  refine e fl ?_
  refine ⟨L', m', full g L' s'.heap, S₂.fr, news_full _ _ _, fun F₂ N₂ => k ⟨F₂, ?_, S₂.gens, S₂.drawn, S₂.os⟩⟩
  obtain ⟨δ', R₂⟩ := S₂.rep
  exact ⟨δ', R₂.move fun a o e hL h0 => N₂ (a, o) (mem_full.mpr ⟨e, hL, h0⟩)⟩

theorem call_fn {name qual : Str} {params : Arguments} {body : List Stmt} {scope : Scope} {dV kV doc pm cdv ct oc : Value} {an od : Option Addr} {osl : Array (Option Value)} {f : Addr} {args : List Value} {binds : List (Str × Value)}
    (c : Cx K p loose mean mg mb A env h₀ L (d + 1)) (S : St C s₀ h₀ L own s m H)
    (ho : K.lookup f = some ⟨oc, od, .func (fnOf name qual params body scope dV kV doc pm an cdv ct), osl⟩) (hcd : codeIn K cdv qual = true)
    (hbind : BindsTo s (fnOf name qual params body scope dV kV doc pm an cdv ct) ⟨args, []⟩ binds) (hloc : ∀ y ∈ binds, scope.names.lookup y.1 = some .local)
    (h : ∀ g L' s₁, Cx K p loose mean mg mb (A.deeper (envOf qual scope L' f cdv)) (envOf qual scope L' f cdv) g L' d → St C s₀ g L' own s₁ (bindM binds) H →
      wpAny (model prog w) (A.deeper (envOf qual scope L' f cdv)) (execs body (envOf qual scope L' f cdv)) (fun fl s' => Back C s₀ h₀ L own m g L' Q (retOf fl) s') NoE s₁)
    (hco : scope.isCoroutine = false) (hgen : scope.isGenerator = false) (hk : scope.kind = .function) (hcell : ∀ x ∈ scope.names, x.2 ≠ .cell) :
    wpAny (model prog w) A (call (.ref f) args) Q E s :=
  wpAny_call (code_fn c S rfl rfl c.room c.units ho hcd hbind hloc h hco hgen hk hcell)

/-- the facts of the class InputSource -/
structure SrcCls (K : Frag) (C : Addr) : Prop where
  setattr : findIn K (.ref C) "__setattr__" = some (some (.builtin "object.__setattr__"))
  over : plainOver K C = true
  has : hasDictIn K C = true
  makes : makesIn K C = true
  t0 : takerIn K C nSys = some none
  t1 : takerIn K C nPub = some none
  t2 : takerIn K C nEnc = some none
  t3 : takerIn K C nByt = some none
  t4 : takerIn K C nChr = some none
  g0 : plainGet K C nSys = true
  f0 : findIn K (.ref C) nSys = some none
  f1 : findIn K (.ref C) nPub = some none
  f2 : findIn K (.ref C) nEnc = some none
  f3 : findIn K (.ref C) nByt = some none
  f4 : findIn K (.ref C) nChr = some none

theorem St.inst (S : St C s₀ h₀ L own s m H) {x : Addr} {f : Flds} (e : H x = some (.src f)) : ∃ dx ks ts, InstAt s.heap x (instObj C dx) C (some (dictOf (srcEs ks ts f) 5)) := by
  obtain ⟨δ, R⟩ := S.rep
  obtain ⟨q, ks, ts, z⟩ := R.real _ _ e
  exact ⟨δ x, ks, ts, q, rfl, rfl, z⟩

inductive Fd where
  | sys | pub | enc | byt | chr
@[reducible] def Fd.nm : Fd → Str
  | .sys => nSys
  | .pub => nPub
  | .enc => nEnc
  | .byt => nByt
  | .chr => nChr
@[reducible] def Flds.get (f : Flds) : Fd → Value
  | .sys => f.sys
  | .pub => f.pub
  | .enc => f.enc
  | .byt => f.byt
  | .chr => f.chr
@[reducible] def Flds.set (f : Flds) : Fd → Value → Flds
  | .sys, v => { f with sys := v }
  | .pub, v => { f with pub := v }
  | .enc, v => { f with enc := v }
  | .byt, v => { f with byt := v }
  | .chr, v => { f with chr := v }

theorem getL_src {n : Fd} {ks : Nat → Int} {ts : Nat → Tok} {f : Flds} : getL n.nm (srcEs ks ts f) = some (some (f.get n)) := by
  cases n <;> rfl
theorem putL_src {n : Fd} {v : Value} {ks : Nat → Int} {ts : Nat → Tok} {f : Flds} {k : Int} {key : Value} : putL n.nm k key v (srcEs ks ts f) = srcEs ks ts (f.set n v) := by
  cases n <;> rfl
theorem putN_src {n : Fd} {ks : Nat → Int} {ts : Nat → Tok} {f : Flds} : putN n.nm (srcEs ks ts f) 5 = 5 := by
  cases n <;> rfl

/-- an attribute of a source is read -/
theorem get_attr {x : Addr} {f : Flds} {n : Fd} {expr : Bool} (c : Cx K p loose mean mg mb A env h₀ L d) (B : SrcCls K C) (S : St C s₀ h₀ L own s m H) (hx : H x = some (.src f)) (hv : handedIn (f.get n) = true)
    (h : ∀ s', St C s₀ h₀ L own s' m H → Q (f.get n) s') : wpAny (model prog w) A (getAttr (.ref x) n.nm expr) Q E s := by
  obtain ⟨dx, ks, ts, I⟩ := S.inst hx
  have hf : findIn K (.ref C) n.nm = some none := by
    cases n
    · exact B.f0
    · exact B.f1
    · exact B.f2
    · exact B.f3
    · exact B.f4
  exact get_own S.fr c.X I (show plainGet K C n.nm = true from B.g0) B.has hf rfl getL_src hv (h _ (S.tok _))

/-- an attribute of a source is stored -/
theorem set_attr {x : Addr} {f : Flds} {n : Fd} {v : Value} {Q : Unit → Shared → Prop} (c : Cx K p loose mean mg mb A env h₀ L d) (B : SrcCls K C) (S : St C s₀ h₀ L own s m H) (hx : H x = some (.src f))
    (h : ∀ s', St C s₀ h₀ L own s' m (put H x (.src (f.set n v))) → Q () s') : wpAny (model prog w) A (setAttr (.ref x) n.nm v) Q E s := by
  obtain ⟨δ, R⟩ := S.rep
  obtain ⟨q, ks, ts, z⟩ := R.real _ _ hx
  have ht : takerIn K C n.nm = some none := by
    cases n
    · exact B.t0
    · exact B.t1
    · exact B.t2
    · exact B.t3
    · exact B.t4
  have hmem : (δ x, dictOf (srcEs ks ts f) 5) ∈ full h₀ L s.heap := mem_full.mpr ⟨z, (R.dnew _ _ hx).1, (R.dnew _ _ hx).2⟩
  obtain ⟨pre, post, e, h1, h2⟩ := full_inj hmem
  have U : Upd (δ x) (dictOf (srcEs ks ts f) 5) (dictOf (srcEs ks ts (f.set n v)) 5) (full h₀ L s.heap) (pre ++ (δ x, dictOf (srcEs ks ts (f.set n v)) 5) :: post) := by
    rw [e]
    clear e
    induction pre with
    | nil => exact .head h2
    | cons b r ih => exact .tail (h1 b (.head _)) (ih fun p hp => h1 p (.tail _ hp))
  have hl : (getL n.nm (srcEs ks ts f)).isSome = true := by rw [getL_src]; rfl
  refine set_dict S.fr c.X (news_full _ _ _) ⟨q, rfl, rfl, z⟩ rfl B.setattr B.over ht B.has hl (Prod.ext putL_src putN_src) U (by show (5 : Nat) ≤ 1000; decide) fun h' F' N' => h _ ?_
  have k : ∀ b ob, b ≠ δ x → b ≠ L → h₀.get? b = none → s.heap.get? b = some ob → h'.get? b = some ob := fun b ob hb hL h0 hq => by
    have hm : (b, ob) ∈ full h₀ L s.heap := mem_full.mpr ⟨hq, hL, h0⟩
    rw [e] at hm
    refine (N' (b, ob) ?_).1
    rcases List.mem_append.mp hm with hm | hm
    · exact List.mem_append_left _ hm
    · rcases List.mem_cons.mp hm with hm | hm
      · exact absurd (congrArg Prod.fst hm) hb
      · exact List.mem_append_right _ (.tail _ hm)
  exact ⟨F', ⟨δ, R.fld hx k (N' _ (List.mem_append_right _ (.head _))).1⟩, S.gens, S.drawn, S.os⟩

theorem units_make (A : Around) (C : Addr) (vals : List Value) (kw : List (Str × Value)) : (A.under (.builtin "type.__call__" ⟨.ref C :: vals, kw⟩)).units = A.units + 1 := rfl
theorem frames_make (A : Around) (C : Addr) (vals : List Value) (kw : List (Str × Value)) : (A.under (.builtin "type.__call__" ⟨.ref C :: vals, kw⟩)).frames = A.frames := rfl
end
end Mine

end
section
open PySem PySem.W PySem.Calls PyProof.Rows PySem.Spec
set_option Elab.async false
set_option maxRecDepth 100000
namespace Mine

section
variable {K : Frag} {p : Program} {loose : List Str} {mean : ExcName → Option Value} {mg mb : Str → Option Value} {A : Around} {env : Env} {h₀ : Heap} {L : Addr} {d : Nat}
variable {prog : Program} {w : World} {C : Addr} {s₀ s : Shared} {own : List (Addr × Obj)} {m : Str → Option Value} {H : AH} {Q : Value → Shared → Prop} {E : Value → Shared → Prop}

/-- a local name is loaded -/
theorem ev_name {cn : Str} {cs : Scope} {a : Addr} {ccd : Value} {x : Str} {pos : Pos} {v : Value} (S : St C s₀ h₀ L own s m H) (hv : m x = some v) (h : Q v s)
    (hk : cs.kind = .function) (hl : cs.names.lookup x = some .local) (hd : (x == ("__debug__" : Str)) = false) : wpAny (model prog w) A (eval (.Name x pos) (envOf cn cs L a ccd)) Q E s :=
  ld S.fr hv h hk hl hd
theorem st_name {cn : Str} {cs : Scope} {a : Addr} {ccd : Value} {x : Str} {v : Value} {Q : Unit → Shared → Prop} (S : St C s₀ h₀ L own s m H) (h : ∀ s', St C s₀ h₀ L own s' (upd m x v) H → Q () s')
    (hk : cs.kind = .function) (hl : cs.names.lookup x = some .local) : wpAny (model prog w) A (storeName (envOf cn cs L a ccd) x v) Q E s :=
  wpAny_storeName_local (env := envOf cn cs L a ccd) hl S.fr.ns (fun h' hn hs => h _ (S.of_same hn hs)) (by show (cs.kind == .class || (cs.kind == .module && L != mainGlobals)) = false; rw [hk]; rfl)

abbrev nSelf : Str := "self"
abbrev nSid : Str := "system_id"
abbrev oneArg (a : Str) (pa : Pos) : Arguments := { posonlyargs := [], args := [{ arg := a, annotation := none, pos := pa }], vararg := none, kwonlyargs := [], kw_defaults := [], kwarg := none, defaults := [] }
abbrev twoArgs (a b : Str) (pa pb : Pos) : Arguments := { posonlyargs := [], args := [{ arg := a, annotation := none, pos := pa }, { arg := b, annotation := none, pos := pb }], vararg := none, kwonlyargs := [], kw_defaults := [], kwarg := none, defaults := [] }

/-- a getter of a source -/
theorem getter {name qual : Str} {scope : Scope} {dV kV doc pm cdv ct oc : Value} {an od : Option Addr} {osl : Array (Option Value)} {f x : Addr} {fl : Fd} {pa p1 p2 p3 : Pos} {F : Flds}
    (c : Cx K p loose mean mg mb A env h₀ L (d + 1)) (B : SrcCls K C) (S : St C s₀ h₀ L own s m H) (hx : H x = some (.src F)) (hv : handedIn (F.get fl) = true)
    (ho : K.lookup f = some ⟨oc, od, .func (fnOf name qual (oneArg "self" pa) [.Return (some (.Attribute (.Name "self" p1) fl.nm p2)) p3] scope dV kV doc pm an cdv ct), osl⟩) (hcd : codeIn K cdv qual = true)
    (hself : scope.names.lookup nSelf = some .local) (hco : scope.isCoroutine = false) (hgen : scope.isGenerator = false) (hk : scope.kind = .function) (hcell : ∀ x ∈ scope.names, x.2 ≠ .cell)
    (hbind : bindArgs (fnOf name qual (oneArg "self" pa) [.Return (some (.Attribute (.Name "self" p1) fl.nm p2)) p3] scope dV kV doc pm an cdv ct) ⟨[.ref x], []⟩ = pure [(nSelf, .ref x)])
    (h : ∀ s', St C s₀ h₀ L own s' m H → Q (F.get fl) s') : wpAny (model prog w) A (call (.ref f) [.ref x]) Q E s := by
  refine call_fn (binds := [(nSelf, .ref x)]) c S ho hcd (BindsTo.of_eq hbind) (fun y hy => ?_) (fun g L' s₁ c' S' => ?_) hco hgen hk hcell
  · rcases List.mem_singleton.mp hy with rfl; exact hself
  · refine wpAny_execs_cons (wpAny_Return_some (Attribute_Name_ (ev_name S' rfl ?_ hk hself (by decide))))
    exact get_attr c' B S' hx hv fun s' S₂ => ⟨_, _, S₂, h s'⟩

/-- a setter of a source -/
theorem setter {name qual : Str} {scope : Scope} {dV kV doc pm cdv ct oc : Value} {an od : Option Addr} {osl : Array (Option Value)} {f x : Addr} {fl : Fd} {arg : Str} {pa pb p1 p2 p3 p4 : Pos} {F : Flds} {v : Value}
    (c : Cx K p loose mean mg mb A env h₀ L (d + 1)) (B : SrcCls K C) (S : St C s₀ h₀ L own s m H) (hx : H x = some (.src F))
    (ho : K.lookup f = some ⟨oc, od, .func (fnOf name qual (twoArgs "self" arg pa pb) [.Assign [.Attribute (.Name "self" p1) fl.nm p2] (.Name arg p3) p4] scope dV kV doc pm an cdv ct), osl⟩) (hcd : codeIn K cdv qual = true)
    (hself : scope.names.lookup nSelf = some .local) (harg : scope.names.lookup arg = some .local) (hne : nSelf ≠ arg) (hdb : (arg == ("__debug__" : Str)) = false)
    (hco : scope.isCoroutine = false) (hgen : scope.isGenerator = false) (hk : scope.kind = .function) (hcell : ∀ x ∈ scope.names, x.2 ≠ .cell)
    (hbind : bindArgs (fnOf name qual (twoArgs "self" arg pa pb) [.Assign [.Attribute (.Name "self" p1) fl.nm p2] (.Name arg p3) p4] scope dV kV doc pm an cdv ct) ⟨[.ref x, v], []⟩ = pure [(nSelf, .ref x), (arg, v)])
    (h : ∀ s', St C s₀ h₀ L own s' m (put H x (.src (F.set fl v))) → Q .none s') : wpAny (model prog w) A (call (.ref f) [.ref x, v]) Q E s := by
  refine call_fn (binds := [(nSelf, .ref x), (arg, v)]) c S ho hcd (BindsTo.of_eq hbind) (fun y hy => ?_) (fun g L' s₁ c' S' => ?_) hco hgen hk hcell
  · rcases List.mem_cons.mp hy with rfl | hy
    · exact hself
    · rcases List.mem_singleton.mp hy with rfl; exact harg
  · have e1 : bindM [(nSelf, Value.ref x), (arg, v)] arg = some v := upd_same
    have e2 : bindM [(nSelf, Value.ref x), (arg, v)] nSelf = some (.ref x) := upd_look hne upd_same
    refine wpAny_execs_cons (plainObj_wpAny_Assign_Attribute (ev_name S' e1 (ev_name S' e2 ?_ hk hself (by decide)) hk harg hdb))
    exact set_attr c' B S' hx fun s' S₂ => wpAny_execs_nil ⟨_, _, S₂, h s'⟩

/-- a raw object's dict is stored into -/
theorem set_raw {x dx : Addr} {n : Fd} {v : Value} {es : List DictEntry} {k : Nat} {Q : Unit → Shared → Prop} (c : Cx K p loose mean mg mb A env h₀ L d) (B : SrcCls K C) (S : St C s₀ h₀ L own s m H)
    (hx : H x = some (.raw (instObj C dx))) (hd : H dx = some (.raw (dictOf es k))) (hl : (getL n.nm es).isSome = true)
    (hz : ∀ tk, (putL n.nm (PyData.keyHash w.params n.nm) (.str n.nm tk) v es).length ≤ 1000)
    (h : ∀ s' tk, St C s₀ h₀ L own s' m (put H dx (.raw (dictOf (putL n.nm (PyData.keyHash w.params n.nm) (.str n.nm tk) v es) (putN n.nm es k)))) → Q () s') : wpAny (model prog w) A (setAttr (.ref x) n.nm v) Q E s := by
  obtain ⟨δ, R⟩ := S.rep
  have q := R.real _ _ hx
  have z := R.real _ _ hd
  have ht : takerIn K C n.nm = some none := by
    cases n
    · exact B.t0
    · exact B.t1
    · exact B.t2
    · exact B.t3
    · exact B.t4
  have hmem : (dx, dictOf es k) ∈ full h₀ L s.heap := mem_full.mpr ⟨z, (R.new _ _ hd).1, (R.new _ _ hd).2⟩
  obtain ⟨pre, post, e, h1, h2⟩ := full_inj hmem
  have U : ∀ o', Upd dx (dictOf es k) o' (full h₀ L s.heap) (pre ++ (dx, o') :: post) := fun o' => by
    rw [e]
    clear e
    induction pre with
    | nil => exact .head h2
    | cons b r ih => exact .tail (h1 b (.head _)) (ih fun p hp => h1 p (.tail _ hp))
  refine set_dict S.fr c.X (news_full _ _ _) ⟨q, rfl, rfl, z⟩ rfl B.setattr B.over ht B.has hl rfl (U _) (hz _) fun h' F' N' => h _ (s.toks + 1) ?_
  refine S.change F' hd (fun _ x => by cases x) (fun _ x => by cases x) (fun b ob hb hL h0 hq => ?_) fun _ => (N' _ (List.mem_append_right _ (.head _))).1
  have hm : (b, ob) ∈ full h₀ L s.heap := mem_full.mpr ⟨hq, hL, h0⟩
  rw [e] at hm
  refine (N' (b, ob) ?_).1
  rcases List.mem_append.mp hm with hm | hm
  · exact List.mem_append_left _ hm
  · rcases List.mem_cons.mp hm with hm | hm
    · exact absurd (congrArg Prod.fst hm) hb
    · exact List.mem_append_right _ (.tail _ hm)

/-- the raw pair becomes a source -/
theorem St.seal {x dx : Addr} {ks : Nat → Int} {ts : Nat → Tok} {f : Flds} (S : St C s₀ h₀ L own s m H) (hxd : x ≠ dx) (hx : H x = some (.raw (instObj C dx))) (hd : H dx = some (.raw (dictOf (srcEs ks ts f) 5))) :
    St C s₀ h₀ L own s m (put (del H dx) x (.src f)) := by
  obtain ⟨δ, R⟩ := S.rep
  refine ⟨S.fr, ⟨fun b => if b = x then dx else δ b, ?_⟩, S.gens, S.drawn, S.os⟩
  have hs : ∀ {b o}, b ≠ x → put (del H dx) x (.src f) b = some o → b ≠ dx ∧ H b = some o := fun {b o} z q => by
    rw [put_ne z] at q
    by_cases y : b = dx
    · rw [y, del_same] at q; cases q
    · rw [del_ne y] at q; exact ⟨y, q⟩
  have hn : ∀ {b}, b ≠ x → H b = none → put (del H dx) x (.src f) b = none := fun {b} z q => by
    rw [put_ne z]; unfold del; split; rfl; exact q
  refine ⟨fun b ob q => ?_, fun b ob q => ?_, fun b g q => ?_, fun b g q => ?_, fun b c f1 f2 e1 e2 q => ?_, R.news, fun p hp => ?_, fun p hp b g q => ?_⟩
  · by_cases z : b = x
    · subst z; rw [put_same] at q; cases q
      simp only [if_true]
      exact ⟨R.real _ _ hx, ks, ts, R.real _ _ hd⟩
    · simp only [if_neg z]; exact R.real _ _ (hs z q).2
  · by_cases z : b = x
    · subst z; exact R.new _ _ hx
    · exact R.new _ _ (hs z q).2
  · by_cases z : b = x
    · simp only [if_pos z]; exact R.new _ _ hd
    · simp only [if_neg z]; exact R.dnew _ _ (hs z q).2
  · by_cases z : b = x
    · simp only [if_pos z]; rw [put_ne hxd.symm]; exact del_same
    · simp only [if_neg z]
      refine hn (fun y => ?_) (R.doff _ _ (hs z q).2)
      have := R.doff _ _ (hs z q).2; rw [y, hx] at this; cases this
  · have off : ∀ y g, H y = some (.src g) → δ y ≠ dx := fun y g hy z => by have := R.doff _ _ hy; rw [z, hd] at this; cases this
    by_cases z : b = x
    · by_cases y : c = x
      · rw [z, y]
      · simp only [if_pos z, if_neg y] at q; exact absurd q.symm (off _ _ (hs y e2).2)
    · by_cases y : c = x
      · simp only [if_neg z, if_pos y] at q; exact absurd q (off _ _ (hs z e1).2)
      · simp only [if_neg z, if_neg y] at q; exact R.dinj _ _ _ _ (hs z e1).2 (hs y e2).2 q
  · exact hn (fun y => by have := R.ownH p hp; rw [y, hx] at this; cases this) (R.ownH p hp)
  · by_cases z : b = x
    · simp only [if_pos z]; exact fun y => by have := R.ownH p hp; rw [← y, hd] at this; cases this
    · simp only [if_neg z]; exact R.ownd p hp _ _ (hs z q).2

abbrev initBody (q : Nat → Pos) : List Stmt :=
  [.Assign [.Attribute (.Name "self" (q 0)) nSys (q 1)] (.Name "system_id" (q 2)) (q 3),
   .Assign [.Attribute (.Name "self" (q 4)) nPub (q 5)] (.Constant .none 0 (q 6)) (q 7),
   .Assign [.Attribute (.Name "self" (q 8)) nEnc (q 9)] (.Constant .none 0 (q 10)) (q 11),
   .Assign [.Attribute (.Name "self" (q 12)) nByt (q 13)] (.Constant .none 0 (q 14)) (q 15),
   .Assign [.Attribute (.Name "self" (q 16)) nChr (q 17)] (.Constant .none 0 (q 18)) (q 19)]

/-- a new source -/
theorem new_src {name qual : Str} {params : Arguments} {body : List Stmt} {q : Nat → Pos} {scope : Scope} {dV kV doc pm cdv ct oc : Value} {an od : Option Addr} {osl : Array (Option Value)} {fI : Addr} {args : List Value} {v : Value}
    (c : Cx K p loose mean mg mb A env h₀ L (d + 2)) (B : SrcCls K C) (S : St C s₀ h₀ L own s m H) (hi : findIn K (.ref C) "__init__" = some (some (.ref fI))) (hf : isFn K (.ref fI) = true)
    (ho : K.lookup fI = some ⟨oc, od, .func (fnOf name qual params body scope dV kV doc pm an cdv ct), osl⟩) (hcd : codeIn K cdv qual = true) (hbody : body = initBody q)
    (hbind : ∀ (s : Shared) (x : Addr), K.In s.heap → BindsTo s (fnOf name qual params body scope dV kV doc pm an cdv ct) ⟨.ref x :: args, []⟩ [(nSelf, .ref x), (nSid, v)])
    (hself : scope.names.lookup nSelf = some .local) (harg : scope.names.lookup nSid = some .local)
    (hco : scope.isCoroutine = false) (hgen : scope.isGenerator = false) (hk : scope.kind = .function) (hcell : ∀ x ∈ scope.names, x.2 ≠ .cell)
    (h : ∀ x s', H x = none → St C s₀ h₀ L own s' m (put H x (.src ⟨v, .none, .none, .none, .none⟩)) → Q (.ref x) s') : wpAny (model prog w) A (call (.ref C) args) Q E s := by
  obtain ⟨δ, R⟩ := S.rep
  refine call_cls S.fr c.X (news_full h₀ L s.heap) B.makes hi hf fun x dx h' F' N' l1 l2 => ?_
  have k : ∀ b ob, b ≠ L → h₀.get? b = none → s.heap.get? b = some ob → h'.get? b = some ob := fun b ob hL h0 hq => (N' (b, ob) (.tail _ (.tail _ (mem_full.mpr ⟨hq, hL, h0⟩)))).1
  have Nx := N' _ (.head _)
  have Nd := N' _ (.tail _ (.head _))
  have fresh : ∀ a, a ≠ L → h₀.get? a = none → dx ≤ a → s.heap.get? a = none := fun a hL h0 hle => by
    cases e : s.heap.get? a with
    | none => rfl
    | some o => exact absurd (l1 _ (mem_full.mpr ⟨e, hL, h0⟩)) (Nat.not_lt.mpr hle)
  have hxd : x ≠ dx := Nat.ne_of_gt l2
  have hHx := (R.fresh (fresh x Nx.2.1 Nx.2.2 (Nat.le_of_lt l2))).1
  have hHd := (R.fresh (fresh dx Nd.2.1 Nd.2.2 (Nat.le_refl _))).1
  have R1 : Rep C h₀ L own h' (put H dx (.raw (dictOf [] 0))) δ := by
    obtain ⟨f1, f2, f3⟩ := R.fresh (fresh dx Nd.2.1 Nd.2.2 (Nat.le_refl _))
    exact R.put (fun _ x => by cases x) (fun _ x => by rw [hHd] at x; cases x) (fun b ob _ => k b ob) Nd.1 Nd.2.1 Nd.2.2 f2 f3
  have R2 : Rep C h₀ L own h' (put (put H dx (.raw (dictOf [] 0))) x (.raw (instObj C dx))) δ := by
    obtain ⟨f1, f2, f3⟩ := R.fresh (fresh x Nx.2.1 Nx.2.2 (Nat.le_of_lt l2))
    refine R1.put (fun _ x => by cases x) (fun _ y => by rw [put_ne hxd, hHx] at y; cases y) (fun b ob _ _ _ e => e) Nx.1 Nx.2.1 Nx.2.2 f2 fun b f hb => ?_
    by_cases z : b = dx
    · rw [z, put_same] at hb; cases hb
    · rw [put_ne z] at hb; exact f3 _ _ hb
  have S' : St C s₀ h₀ L own { s with heap := h' } m (put (put H dx (.raw (dictOf [] 0))) x (.raw (instObj C dx))) := ⟨F', ⟨δ, R2⟩, S.gens, S.drawn, S.os⟩
  have cr := c.room
  have cu := c.units
  refine code_fn (d₁ := d) c S' (frames_make _ _ _ _) rfl (by rw [depth_under_kw]; omega) (by rw [units_make]; omega) ho hcd (hbind _ _ (c.X.keeps F'.keep)) (fun y hy => ?_) (fun g L' s₁ c' S₁ => ?_) hco hgen hk hcell
  · rcases List.mem_cons.mp hy with rfl | hy
    · exact hself
    · rcases List.mem_singleton.mp hy with rfl; exact harg
  · subst hbody
    have e1 : bindM [(nSelf, Value.ref x), (nSid, v)] nSelf = some (.ref x) := rfl
    have e2 : bindM [(nSelf, Value.ref x), (nSid, v)] nSid = some v := rfl
    have hx0 : ∀ (o : Obj), put (put H dx (.raw o)) x (.raw (instObj C dx)) x = some (.raw (instObj C dx)) := fun _ => put_same
    have hd0 : ∀ (o : Obj), put (put H dx (.raw o)) x (.raw (instObj C dx)) dx = some (.raw o) := fun _ => (put_ne hxd.symm).trans put_same
    have sw : ∀ (o o' : Obj), put (put (put H dx (.raw o)) x (.raw (instObj C dx))) dx (.raw o') = put (put H dx (.raw o')) x (.raw (instObj C dx)) := fun o o' => by
      funext b
      unfold put
      by_cases z : b = dx
      · simp [z, hxd.symm]
      · simp [z]
    refine wpAny_execs_cons (plainObj_wpAny_Assign_Attribute (ev_name S₁ e2 (ev_name S₁ e1 ?_ hk hself (by decide)) hk harg (by decide)))
    refine set_raw (n := .sys) c' B S₁ (hx0 _) (hd0 _) rfl (fun _ => by show (1 : Nat) ≤ 1000; decide) fun s₂ t1 S₂ => ?_
    rw [sw] at S₂
    refine wpAny_execs_cons (plainObj_wpAny_Assign_Attribute (wpAny_Constant_none (ev_name S₂ e1 ?_ hk hself (by decide))))
    refine set_raw (n := .pub) c' B S₂ (hx0 _) (hd0 _) rfl (fun _ => by show (2 : Nat) ≤ 1000; decide) fun s₃ t2 S₃ => ?_
    rw [sw] at S₃
    refine wpAny_execs_cons (plainObj_wpAny_Assign_Attribute (wpAny_Constant_none (ev_name S₃ e1 ?_ hk hself (by decide))))
    refine set_raw (n := .enc) c' B S₃ (hx0 _) (hd0 _) rfl (fun _ => by show (3 : Nat) ≤ 1000; decide) fun s₄ t3 S₄ => ?_
    rw [sw] at S₄
    refine wpAny_execs_cons (plainObj_wpAny_Assign_Attribute (wpAny_Constant_none (ev_name S₄ e1 ?_ hk hself (by decide))))
    refine set_raw (n := .byt) c' B S₄ (hx0 _) (hd0 _) rfl (fun _ => by show (4 : Nat) ≤ 1000; decide) fun s₅ t4 S₅ => ?_
    rw [sw] at S₅
    refine wpAny_execs_cons (plainObj_wpAny_Assign_Attribute (wpAny_Constant_none (ev_name S₅ e1 ?_ hk hself (by decide))))
    refine set_raw (n := .chr) c' B S₅ (hx0 _) (hd0 _) rfl (fun _ => by show (5 : Nat) ≤ 1000; decide) fun s₆ t5 S₆ => ?_
    rw [sw] at S₆
    have S₇ := St.seal (ks := fun i => if i = 0 then PyData.keyHash w.params nSys else if i = 1 then PyData.keyHash w.params nPub else if i = 2 then PyData.keyHash w.params nEnc else if i = 3 then PyData.keyHash w.params nByt else PyData.keyHash w.params nChr)
      (ts := fun i => if i = 0 then t1 else if i = 1 then t2 else if i = 2 then t3 else if i = 3 then t4 else t5) (f := ⟨v, .none, .none, .none, .none⟩) S₆ hxd (hx0 _) (hd0 _)
    have e3 : ∀ o, put (del (put (put H dx (.raw o)) x (.raw (instObj C dx))) dx) x (.src ⟨v, .none, .none, .none, .none⟩) = put H x (.src ⟨v, .none, .none, .none, .none⟩) := fun o => by
      funext b
      unfold put del
      by_cases z : b = x
      · simp [z]
      · by_cases y : b = dx
        · simp [y, hHd]
        · simp [z, y]
    rw [e3] at S₇
    exact wpAny_execs_nil ⟨_, _, S₇, fun S₈ => ⟨rfl, h _ _ hHx S₈⟩⟩
end
end Mine

end
section
open PySem PySem.W PySem.Calls PyProof.Rows PySem.Spec
set_option Elab.async false
set_option maxRecDepth 100000
namespace Mine

section
variable {K : Frag} {p : Program} {loose : List Str} {mean : ExcName → Option Value} {mg mb : Str → Option Value} {A : Around} {env : Env} {h₀ : Heap} {L : Addr} {d : Nat}
variable {prog : Program} {w : World} {C : Addr} {s₀ s : Shared} {own : List (Addr × Obj)} {m : Str → Option Value} {H : AH} {Q : Value → Shared → Prop} {E : Value → Shared → Prop}

/-! names -/
theorem r_local {x : Str} {pos : Pos} {v : Value} (c : Cx K p loose mean mg mb A env h₀ L d) (S : St C s₀ h₀ L own s m H) (hv : m x = some v) (h : Q v s)
    (hl : env.kindOf x = some .local := by rfl) (hd : (x == ("__debug__" : Str)) = false := by decide) : wpAny (model prog w) A (eval (.Name x pos) env) Q E s :=
  wpAny_Name (wpAny_loadName_local c.kind hl (c.loc ▸ S.fr.ns) hv h) hd
theorem r_glob {env' : Env} {x : Str} {pos : Pos} {v : Value} (c : Cx K p loose mean mg mb A env h₀ L d) (S : St C s₀ h₀ L own s m H) (e : nsIn K mainGlobals x = some (some v)) (h : Q v s)
    (hx : env'.kindOf x = some .globalImplicit := by rfl) (hd : (x == ("__debug__" : Str)) = false := by decide) (hk : env'.scope.kind = .function := by rfl) (hg : env'.globals = mainGlobals := by rfl) : wpAny (model prog w) A (eval (.Name x pos) env') Q E s :=
  Name_function_global hk hx (loadGlobal_global (by rw [hg]; exact c.T.g.keeps S.fr.keep) (mg_of c.X c.T.g e) h) hd
theorem r_blt {env' : Env} {x : Str} {pos : Pos} {v : Value} (c : Cx K p loose mean mg mb A env h₀ L d) (S : St C s₀ h₀ L own s m H) (e : nsIn K mainGlobals x = some none) (hb : bootBuiltins x = some v) (hn : x ≠ "__name__") (h : Q v s)
    (hx : env'.kindOf x = some .globalImplicit := by rfl) (hd : (x == ("__debug__" : Str)) = false := by decide) (hk : env'.scope.kind = .function := by rfl) (hg : env'.globals = mainGlobals := by rfl) (hbl : env'.builtins = builtinsNs := by rfl) : wpAny (model prog w) A (eval (.Name x pos) env') Q E s :=
  Name_function_global hk hx (loadGlobal_builtin (by rw [hg]; exact c.T.g.keeps S.fr.keep) (mg_none_of c.X c.T.g e) (by rw [hbl]; exact c.T.b.keeps S.fr.keep) ((c.T.builtins x hn).trans hb) h) hd
theorem r_store {x : Str} {v : Value} {Q : Unit → Shared → Prop} (c : Cx K p loose mean mg mb A env h₀ L d) (S : St C s₀ h₀ L own s m H) (h : ∀ s', St C s₀ h₀ L own s' (upd m x v) H → Q () s')
    (hl : env.kindOf x = some .local := by rfl) : wpAny (model prog w) A (storeName env x v) Q E s :=
  wpAny_storeName_local hl (c.loc ▸ S.fr.ns) (fun h' hn hs => h _ (S.of_same (c.loc ▸ hn) (c.loc ▸ hs))) (by rw [c.kind]; rfl)

/-! constants -/
theorem r_int {i : Int} {k : Nat} {pos : Pos} (S : St C s₀ h₀ L own s m H) (h : ∀ s' t, St C s₀ h₀ L own s' m H → Q (.int i t) s') : wpAny (model prog w) A (eval (.Constant (.int i) k pos) env) Q E s :=
  wpAny_Constant_int (h _ _ (S.tok _))
theorem r_str {x : Str} {k : Nat} {pos : Pos} (S : St C s₀ h₀ L own s m H) (h : ∀ s' t, St C s₀ h₀ L own s' m H → Q (.str x t) s') : wpAny (model prog w) A (eval (.Constant (.str x) k pos) env) Q E s :=
  wpAny_Constant_str (h _ _ (S.tok _))

/-! new objects -/
theorem St.pushed (S : St C s₀ h₀ L own s m H) {o : Obj} {ao : AObj} {tk : Nat} (hns : ∀ f, ao ≠ .src f) (hf : o.isFreed = false) (hr : ∀ (h : Heap) d, h.get? s.heap.objs.size = some o → Real C h d s.heap.objs.size ao) :
    H s.heap.objs.size = none ∧ St C s₀ h₀ L own { s with heap := s.heap.push o, toks := tk } m (put H s.heap.objs.size ao) :=
  S.add (S.fr.push o) hns S.at_new.2.2 S.at_new.1 S.at_new.2.1 (fun _ _ _ _ e => Heap.get?_push_of_some _ e) fun d => hr _ d (Heap.get?_push_size _ hf)
abbrev tupObj (vs : List Value) : Obj := { cls := .type "tuple", data := .seq vs.toArray }
theorem r_newList {vs : List Value} (S : St C s₀ h₀ L own s m H) (h : ∀ a s', H a = none → St C s₀ h₀ L own s' m (put H a (.list vs)) → Q (.ref a) s') (hsz : vs.length ≤ sizeLine := by size_fits) :
    wpAny (model prog w) A (newList vs) Q E s :=
  wpAny_newObj_type (by
    obtain ⟨q, S'⟩ := S.pushed (o := listObj vs 0) (ao := .list vs) (tk := s.toks) (fun _ x => by cases x) rfl fun h d e => ⟨0, e⟩
    exact h _ _ q S') (by show vs.toArray.size ≤ sizeLine; rw [List.size_toArray]; exact hsz)
theorem r_newTuple {vs : List Value} (S : St C s₀ h₀ L own s m H) (h : ∀ a s', H a = none → St C s₀ h₀ L own s' m (put H a (.raw (tupObj vs))) → Q (.ref a) s') (hsz : vs.length ≤ sizeLine := by size_fits) :
    wpAny (model prog w) A (newTuple vs) Q E s :=
  wpAny_newObj_type (by
    obtain ⟨q, S'⟩ := S.pushed (o := tupObj vs) (ao := .raw (tupObj vs)) (tk := s.toks) (fun _ x => by cases x) rfl fun h d e => e
    exact h _ _ q S') (by show vs.toArray.size ≤ sizeLine; rw [List.size_toArray]; exact hsz)

/-! methods of sources -/
structure IsMeth (K : Frag) (C : Addr) (name : Str) (f : Addr) : Prop where
  find : findIn K (.ref C) name = some (some (.ref f))
  fn : isFn K (.ref f) = true
  keep : keepIn K (.ref f) = true
  get : plainGet K C name = true
  off : ∀ ks ts F, getL name (srcEs ks ts F) = some none
def IsGetter (K : Frag) (C : Addr) (nm : Str) (fl : Fd) : Prop :=
  ∃ (f : Addr) (name qual : Str) (scope : Scope) (dV kV doc pm cdv ct oc : Value) (an od : Option Addr) (osl : Array (Option Value)) (pa p1 p2 p3 : Pos), IsMeth K C nm f ∧
    K.lookup f = some ⟨oc, od, .func (fnOf name qual (oneArg "self" pa) [.Return (some (.Attribute (.Name "self" p1) fl.nm p2)) p3] scope dV kV doc pm an cdv ct), osl⟩ ∧ codeIn K cdv qual = true ∧
    scope.names.lookup nSelf = some .local ∧ scope.isCoroutine = false ∧ scope.isGenerator = false ∧ scope.kind = .function ∧ (∀ x ∈ scope.names, x.2 ≠ .cell) ∧
    ∀ x, bindArgs (fnOf name qual (oneArg "self" pa) [.Return (some (.Attribute (.Name "self" p1) fl.nm p2)) p3] scope dV kV doc pm an cdv ct) ⟨[.ref x], []⟩ = pure [(nSelf, .ref x)]
def IsSetter (K : Frag) (C : Addr) (nm : Str) (fl : Fd) : Prop :=
  ∃ (f : Addr) (name qual arg : Str) (scope : Scope) (dV kV doc pm cdv ct oc : Value) (an od : Option Addr) (osl : Array (Option Value)) (pa pb p1 p2 p3 p4 : Pos), IsMeth K C nm f ∧
    K.lookup f = some ⟨oc, od, .func (fnOf name qual (twoArgs "self" arg pa pb) [.Assign [.Attribute (.Name "self" p1) fl.nm p2] (.Name arg p3) p4] scope dV kV doc pm an cdv ct), osl⟩ ∧ codeIn K cdv qual = true ∧
    scope.names.lookup nSelf = some .local ∧ scope.names.lookup arg = some .local ∧ nSelf ≠ arg ∧ (arg == ("__debug__" : Str)) = false ∧ scope.isCoroutine = false ∧ scope.isGenerator = false ∧ scope.kind = .function ∧ (∀ x ∈ scope.names, x.2 ≠ .cell) ∧
    ∀ x v, bindArgs (fnOf name qual (twoArgs "self" arg pa pb) [.Assign [.Attribute (.Name "self" p1) fl.nm p2] (.Name arg p3) p4] scope dV kV doc pm an cdv ct) ⟨[.ref x, v], []⟩ = pure [(nSelf, .ref x), (arg, v)]
def IsInit (K : Frag) (C : Addr) : Prop :=
  ∃ (fI : Addr) (name qual : Str) (params : Arguments) (q : Nat → Pos) (scope : Scope) (dV kV doc pm cdv ct oc : Value) (an od : Option Addr) (osl : Array (Option Value)), findIn K (.ref C) "__init__" = some (some (.ref fI)) ∧ isFn K (.ref fI) = true ∧
    K.lookup fI = some ⟨oc, od, .func (fnOf name qual params (initBody q) scope dV kV doc pm an cdv ct), osl⟩ ∧ codeIn K cdv qual = true ∧ keepIn K (.ref C) = true ∧
    (∀ (s : Shared) (x : Addr), K.In s.heap → BindsTo s (fnOf name qual params (initBody q) scope dV kV doc pm an cdv ct) ⟨[.ref x], []⟩ [(nSelf, .ref x), (nSid, .none)]) ∧
    (∀ (s : Shared) (x : Addr) (v : Value), K.In s.heap → BindsTo s (fnOf name qual params (initBody q) scope dV kV doc pm an cdv ct) ⟨[.ref x, v], []⟩ [(nSelf, .ref x), (nSid, v)]) ∧
    scope.names.lookup nSelf = some .local ∧ scope.names.lookup nSid = some .local ∧ scope.isCoroutine = false ∧ scope.isGenerator = false ∧ scope.kind = .function ∧ ∀ x ∈ scope.names, x.2 ≠ .cell

theorem IsGetter.intro {f : Addr} {nm : Str} {fl : Fd} {name qual : Str} {scope : Scope} {dV kV doc pm cdv ct oc : Value} {an od : Option Addr} {osl : Array (Option Value)} {pa p1 p2 p3 : Pos}
    (k1 : findIn K (.ref C) nm = some (some (.ref f))) (k2 : isFn K (.ref f) = true) (k3 : keepIn K (.ref f) = true) (k4 : plainGet K C nm = true) (k5 : ∀ ks ts F, getL nm (srcEs ks ts F) = some none)
    (ho : K.lookup f = some ⟨oc, od, .func (fnOf name qual (oneArg "self" pa) [.Return (some (.Attribute (.Name "self" p1) fl.nm p2)) p3] scope dV kV doc pm an cdv ct), osl⟩) (hcd : codeIn K cdv qual = true)
    (h1 : scope.names.lookup nSelf = some .local) (h2 : scope.isCoroutine = false) (h3 : scope.isGenerator = false) (h4 : scope.kind = .function) (h5 : ∀ x ∈ scope.names, x.2 ≠ .cell)
    (hb : ∀ x, bindArgs (fnOf name qual (oneArg "self" pa) [.Return (some (.Attribute (.Name "self" p1) fl.nm p2)) p3] scope dV kV doc pm an cdv ct) ⟨[.ref x], []⟩ = pure [(nSelf, .ref x)]) : IsGetter K C nm fl :=
  ⟨_, _, _, _, _, _, _, _, _, _, _, _, _, _, _, _, _, _, ⟨k1, k2, k3, k4, k5⟩, ho, hcd, h1, h2, h3, h4, h5, hb⟩
theorem IsSetter.intro {f : Addr} {nm : Str} {fl : Fd} {name qual arg : Str} {scope : Scope} {dV kV doc pm cdv ct oc : Value} {an od : Option Addr} {osl : Array (Option Value)} {pa pb p1 p2 p3 p4 : Pos}
    (k1 : findIn K (.ref C) nm = some (some (.ref f))) (k2 : isFn K (.ref f) = true) (k3 : keepIn K (.ref f) = true) (k4 : plainGet K C nm = true) (k5 : ∀ ks ts F, getL nm (srcEs ks ts F) = some none)
    (ho : K.lookup f = some ⟨oc, od, .func (fnOf name qual (twoArgs "self" arg pa pb) [.Assign [.Attribute (.Name "self" p1) fl.nm p2] (.Name arg p3) p4] scope dV kV doc pm an cdv ct), osl⟩) (hcd : codeIn K cdv qual = true)
    (h1 : scope.names.lookup nSelf = some .local) (h1' : scope.names.lookup arg = some .local) (hne : nSelf ≠ arg) (hdb : (arg == ("__debug__" : Str)) = false) (h2 : scope.isCoroutine = false) (h3 : scope.isGenerator = false) (h4 : scope.kind = .function) (h5 : ∀ x ∈ scope.names, x.2 ≠ .cell)
    (hb : ∀ x v, bindArgs (fnOf name qual (twoArgs "self" arg pa pb) [.Assign [.Attribute (.Name "self" p1) fl.nm p2] (.Name arg p3) p4] scope dV kV doc pm an cdv ct) ⟨[.ref x, v], []⟩ = pure [(nSelf, .ref x), (arg, v)]) : IsSetter K C nm fl :=
  ⟨_, _, _, _, _, _, _, _, _, _, _, _, _, _, _, _, _, _, _, _, _, ⟨k1, k2, k3, k4, k5⟩, ho, hcd, h1, h1', hne, hdb, h2, h3, h4, h5, hb⟩
theorem IsInit.intro {fI : Addr} {name qual : Str} {params : Arguments} (q : Nat → Pos) {scope : Scope} {dV kV doc pm cdv ct oc : Value} {an od : Option Addr} {osl : Array (Option Value)}
    (k1 : findIn K (.ref C) "__init__" = some (some (.ref fI))) (k2 : isFn K (.ref fI) = true) (ho : K.lookup fI = some ⟨oc, od, .func (fnOf name qual params (initBody q) scope dV kV doc pm an cdv ct), osl⟩) (hcd : codeIn K cdv qual = true) (k3 : keepIn K (.ref C) = true)
    (b0 : ∀ (s : Shared) (x : Addr), K.In s.heap → BindsTo s (fnOf name qual params (initBody q) scope dV kV doc pm an cdv ct) ⟨[.ref x], []⟩ [(nSelf, .ref x), (nSid, .none)])
    (b1 : ∀ (s : Shared) (x : Addr) (v : Value), K.In s.heap → BindsTo s (fnOf name qual params (initBody q) scope dV kV doc pm an cdv ct) ⟨[.ref x, v], []⟩ [(nSelf, .ref x), (nSid, v)])
    (h1 : scope.names.lookup nSelf = some .local) (h1' : scope.names.lookup nSid = some .local) (h2 : scope.isCoroutine = false) (h3 : scope.isGenerator = false) (h4 : scope.kind = .function) (h5 : ∀ x ∈ scope.names, x.2 ≠ .cell) : IsInit K C :=
  ⟨_, _, _, _, _, _, _, _, _, _, _, _, _, _, _, _, k1, k2, ho, hcd, k3, b0, b1, h1, h1', h2, h3, h4, h5⟩

theorem r_getm {env' : Env} {x : Addr} {F : Flds} {nm : Str} {fl : Fd} {pos : Pos} {pl : Sem Bool} (g : IsGetter K C nm fl) (c : Cx K p loose mean mg mb A env h₀ L (d + 1)) (B : SrcCls K C) (S : St C s₀ h₀ L own s m H)
    (hx : H x = some (.src F)) (hv : handedIn (F.get fl) = true) (h : ∀ s', St C s₀ h₀ L own s' m H → Q (F.get fl) s') :
    wpAny (model prog w) A (getMethod (.ref x) nm pl) (fun fx s₂ => wpAny (model prog w) A (callWith pos fx.1 fx.2 (backTo pos (starEach [] env')) []) Q E s₂) E s := by
  obtain ⟨f, name, qual, scope, dV, kV, doc, pm, cdv, ct, oc, an, od, osl, pa, p1, p2, p3, M, ho, hcd, h1, h2, h3, h4, h5, hb⟩ := g
  obtain ⟨dx, ks, ts, I⟩ := S.inst hx
  refine method_inst S.fr c.X I M.get M.find M.fn (M.off _ _ _) (callWith_K0 (c.in S) M.keep ?_)
  exact getter c B S hx hv ho hcd h1 h2 h3 h4 h5 (hb _) h

def AtSet (C : Addr) (s₀ : Shared) (h₀ : Heap) (L : Addr) (own : List (Addr × Obj)) (x : Addr) (fl : Fd) (Q : Value → Shared → Prop) (v : Value) (s : Shared) : Prop :=
  ∃ m H F, St C s₀ h₀ L own s m H ∧ H x = some (.src F) ∧ ∀ s', St C s₀ h₀ L own s' m (put H x (.src (F.set fl v))) → Q .none s'
theorem r_setm {env' : Env} {x : Addr} {F : Flds} {nm : Str} {fl : Fd} {pos : Pos} {pl : Sem Bool} {e : Expr} (g : IsSetter K C nm fl) (c : Cx K p loose mean mg mb A env h₀ L (d + 1)) (B : SrcCls K C) (S : St C s₀ h₀ L own s m H)
    (hx : H x = some (.src F)) (h : wpAny (model prog w) A (eval e env') (AtSet C s₀ h₀ L own x fl Q) E s) (he : starEach (e :: []) env' = (false, eval e env') :: starEach [] env' := by rfl) :
    wpAny (model prog w) A (getMethod (.ref x) nm pl) (fun fx s₂ => wpAny (model prog w) A (callWith pos fx.1 fx.2 (backTo pos (starEach [e] env')) []) Q E s₂) E s := by
  obtain ⟨f, name, qual, arg, scope, dV, kV, doc, pm, cdv, ct, oc, an, od, osl, pa, pb, p1, p2, p3, p4, M, ho, hcd, h1, h1', hne, hdb, h2, h3, h4, h5, hb⟩ := g
  obtain ⟨dx, ks, ts, I⟩ := S.inst hx
  refine method_inst S.fr c.X I M.get M.find M.fn (M.off _ _ _) (callWith_K c.X M.keep (args_cons (wpAny_mono h (fun v s₁ ha => args_nil ?_) fun _ _ y => y) he) he)
  obtain ⟨m₁, H₁, F₁, S₁, hx₁, k⟩ := ha
  exact ⟨c.in S₁, setter c B S₁ hx₁ ho hcd h1 h1' hne hdb h2 h3 h4 h5 (hb _ _) k⟩

theorem r_new0 {env' : Env} (i : IsInit K C) (c : Cx K p loose mean mg mb A env h₀ L (d + 2)) (B : SrcCls K C) (S : St C s₀ h₀ L own s m H) {pos : Pos}
    (h : ∀ x s', H x = none → St C s₀ h₀ L own s' m (put H x (.src ⟨.none, .none, .none, .none, .none⟩)) → Q (.ref x) s') :
    wpAny (model prog w) A (callWith pos (.ref C) [] (backTo pos (starEach [] env')) []) Q E s := by
  obtain ⟨fI, name, qual, params, q, scope, dV, kV, doc, pm, cdv, ct, oc, an, od, osl, hi, hf, ho, hcd, hkp, hb0, hb1, h1, h1', h2, h3, h4, h5⟩ := i
  exact callWith_K0 (c.in S) hkp (new_src c B S hi hf ho hcd rfl (fun s x X => hb0 s x X) h1 h1' h2 h3 h4 h5 h)
def AtNew (C : Addr) (s₀ : Shared) (h₀ : Heap) (L : Addr) (own : List (Addr × Obj)) (Q : Value → Shared → Prop) (v : Value) (s : Shared) : Prop :=
  ∃ m H, St C s₀ h₀ L own s m H ∧ ∀ x s', H x = none → St C s₀ h₀ L own s' m (put H x (.src ⟨v, .none, .none, .none, .none⟩)) → Q (.ref x) s'
theorem r_new1 {env' : Env} (i : IsInit K C) (c : Cx K p loose mean mg mb A env h₀ L (d + 2)) (B : SrcCls K C) (_S : St C s₀ h₀ L own s m H) {pos : Pos} {e : Expr}
    (h : wpAny (model prog w) A (eval e env') (AtNew C s₀ h₀ L own Q) E s) (he : starEach (e :: []) env' = (false, eval e env') :: starEach [] env' := by rfl) :
    wpAny (model prog w) A (callWith pos (.ref C) [] (backTo pos (starEach [e] env')) []) Q E s := by
  obtain ⟨fI, name, qual, params, q, scope, dV, kV, doc, pm, cdv, ct, oc, an, od, osl, hi, hf, ho, hcd, hkp, hb0, hb1, h1, h1', h2, h3, h4, h5⟩ := i
  refine callWith_K c.X hkp (args_cons (wpAny_mono h (fun v s₁ ha => args_nil ?_) fun _ _ y => y) he) he
  obtain ⟨m₁, H₁, S₁, k⟩ := ha
  exact ⟨c.in S₁, new_src c B S₁ hi hf ho hcd rfl (fun s x X => hb1 s x v X) h1 h1' h2 h3 h4 h5 k⟩

/-! the call of a def of the text's -/
theorem r_callK {env' : Env} {f : Value} {pos : Pos} {e : Expr} {rest : List Expr} {first : List Value} (c : Cx K p loose mean mg mb A env h₀ L d) (_S : St C s₀ h₀ L own s m H) (hk : keepIn K f = true)
    (h : wpAny (model prog w) A (spliced (backTo pos (starEach (e :: rest) env'))) (fun vs s₁ => (∃ m H, St C s₀ h₀ L own s₁ m H) ∧ wpAny (model prog w) A (call f (first ++ vs)) Q E s₁) E s)
    (he : starEach (e :: rest) env' = (false, eval e env') :: starEach rest env' := by rfl) (hplain : (backTo pos (starEach rest env')).any (·.1) = false := by rfl) :
    wpAny (model prog w) A (callWith pos f first (backTo pos (starEach (e :: rest) env')) []) Q E s :=
  callWith_K c.X hk (wpAny_mono h (fun vs s₁ ha => ⟨let ⟨⟨_, _, S⟩, _⟩ := ha; c.in S, ha.2⟩) fun _ _ y => y) he hplain
end
structure Lib (K : Frag) (C : Addr) : Prop where
  B : SrcCls K C
  init : IsInit K C
  g0 : IsGetter K C "getSystemId" .sys
  g1 : IsGetter K C "getPublicId" .pub
  g2 : IsGetter K C "getEncoding" .enc
  g3 : IsGetter K C "getByteStream" .byt
  g4 : IsGetter K C "getCharacterStream" .chr
  s0 : IsSetter K C "setSystemId" .sys
  s1 : IsSetter K C "setPublicId" .pub
  s2 : IsSetter K C "setEncoding" .enc
  s3 : IsSetter K C "setByteStream" .byt
  s4 : IsSetter K C "setCharacterStream" .chr
  nm : nsIn K mainGlobals "InputSource" = some (some (.ref C))

/-! looking up in a heap that was changed -/
theorem put_new {H : AH} {a b : Addr} {o o' : AObj} (hc : H b = none) (e : H a = some o) : put H b o' a = some o := by
  rw [put_ne (fun z => by rw [z, hc] at e; cases e)]; exact e
theorem put_off {H : AH} {a b : Addr} {o o' : AObj} (hne : a ≠ b) (e : H a = some o) : put H b o' a = some o := (put_ne hne).trans e
theorem put_src_list {H : AH} {a b : Addr} {f : Flds} {vs : List Value} {o' : AObj} (hb : H b = some (.src f)) (e : H a = some (.list vs)) : put H b o' a = some (.list vs) := put_off (fun z => by rw [z, hb] at e; cases e) e
theorem put_list_src {H : AH} {a b : Addr} {f : Flds} {vs : List Value} {o' : AObj} (hb : H b = some (.list vs)) (e : H a = some (.src f)) : put H b o' a = some (.src f) := put_off (fun z => by rw [z, hb] at e; cases e) e
theorem put_raw_src {H : AH} {a b : Addr} {f : Flds} {ob : Obj} {o' : AObj} (hb : H b = some (.raw ob)) (e : H a = some (.src f)) : put H b o' a = some (.src f) := put_off (fun z => by rw [z, hb] at e; cases e) e
theorem put_src_raw {H : AH} {a b : Addr} {f : Flds} {ob : Obj} {o' : AObj} (hb : H b = some (.src f)) (e : H a = some (.raw ob)) : put H b o' a = some (.raw ob) := put_off (fun z => by rw [z, hb] at e; cases e) e
theorem put_list_raw {H : AH} {a b : Addr} {vs : List Value} {ob : Obj} {o' : AObj} (hb : H b = some (.list vs)) (e : H a = some (.raw ob)) : put H b o' a = some (.raw ob) := put_off (fun z => by rw [z, hb] at e; cases e) e
theorem put_raw_list {H : AH} {a b : Addr} {vs : List Value} {ob : Obj} {o' : AObj} (hb : H b = some (.raw ob)) (e : H a = some (.list vs)) : put H b o' a = some (.list vs) := put_off (fun z => by rw [z, hb] at e; cases e) e
end Mine

end
section
open PySem PySem.W PySem.Calls PyProof.Rows PySem.Spec
set_option Elab.async false
set_option maxRecDepth 100000
namespace Mine

section
variable {C : Addr} {h₀ : Heap} {L : Addr} {own P P' : List (Addr × Obj)} {h h' : Heap} {H : AH} {δ : Addr → Addr}

/-- what is held changes -/
theorem Rep.reheld (R : Rep C h₀ L (P ++ own) h H δ) (k : ∀ b o, (∀ p ∈ P, p.1 ≠ b) → b ≠ L → h₀.get? b = none → h.get? b = some o → h'.get? b = some o)
    (hP : ∀ p ∈ P', h'.get? p.1 = some p.2 ∧ ∃ q ∈ P, q.1 = p.1) (hd : ∀ p ∈ P, ∀ q ∈ own, p.1 ≠ q.1) : Rep C h₀ L (P' ++ own) h' H δ where
  real := fun a o e => (R.real a o e).keep fun b ob hb q => by
    rcases hb with rfl | ⟨⟨f, rfl⟩, rfl⟩
    · exact k _ _ (fun p hp z => by have := R.ownH p (List.mem_append_left _ hp); rw [z, e] at this; cases this) (R.new _ _ e).1 (R.new _ _ e).2 q
    · exact k _ _ (fun p hp z => R.ownd p (List.mem_append_left _ hp) _ _ e z.symm) (R.dnew _ _ e).1 (R.dnew _ _ e).2 q
  new := R.new
  dnew := R.dnew
  doff := R.doff
  dinj := R.dinj
  news := fun p hp => by
    rcases List.mem_append.mp hp with hp | hp
    · obtain ⟨e, q, hq, z⟩ := hP p hp
      have := R.news q (List.mem_append_left _ hq)
      exact ⟨e, z ▸ this.2.1, z ▸ this.2.2⟩
    · have := R.news p (List.mem_append_right _ hp)
      exact ⟨k _ _ (fun q hq => hd q hq p hp) this.2.1 this.2.2 this.1, this.2⟩
  ownH := fun p hp => by
    rcases List.mem_append.mp hp with hp | hp
    · obtain ⟨e, q, hq, z⟩ := hP p hp; rw [← z]; exact R.ownH q (List.mem_append_left _ hq)
    · exact R.ownH p (List.mem_append_right _ hp)
  ownd := fun p hp => by
    rcases List.mem_append.mp hp with hp | hp
    · obtain ⟨e, q, hq, z⟩ := hP p hp; rw [← z]; exact R.ownd q (List.mem_append_left _ hq)
    · exact R.ownd p (List.mem_append_right _ hp)
end

section
variable {K : Frag} {p : Program} {loose : List Str} {mean : ExcName → Option Value} {mg mb : Str → Option Value} {A : Around} {env : Env} {h₀ : Heap} {L : Addr} {d : Nat}
variable {prog : Program} {w : World} {C : Addr} {s₀ s : Shared} {own P : List (Addr × Obj)} {m : Str → Option Value} {H : AH} {R : Result → Shared → Prop}

theorem St.dropAll : ∀ {P : List (Addr × Obj)}, St C s₀ h₀ L (P ++ own) s m H → St C s₀ h₀ L own s m H
  | [], S => S
  | _ :: _, S => dropAll (P := _) S.drop

theorem fm_congr {α β : Type} {f g : α → Option β} : ∀ {l : List α}, (∀ x ∈ l, f x = g x) → l.filterMap f = l.filterMap g
  | [], _ => rfl
  | a :: r, h => by rw [List.filterMap_cons, List.filterMap_cons, h a (.head _), fm_congr fun x hx => h x (.tail _ hx)]
/-- the turn's end -/
def Turn (C : Addr) (s₀ : Shared) (h₀ : Heap) (L : Addr) (own : List (Addr × Obj)) (J : (Str → Option Value) → AH → Prop) (R : Result → Shared → Prop) (f : Flow) (s : Shared) : Prop :=
  match f with
  | .ret v => R (.ok (.ret v)) s
  | .brk => R (.ok .next) s
  | _ => ∃ m H, St C s₀ h₀ L own s m H ∧ J m H

/-- the walk goes on: what it holds is held anew -/
theorem St.rehold {fp wr : List Addr} {h' : Heap} {tk : Nat} {m₂ : Str → Option Value} (S : St C s₀ h₀ L (P ++ own) s m H) (hL : L ∉ fp) (hsub : ∀ b ∈ wr, b ∈ fp) (hwr : ∀ b ∈ wr, h₀.get? b = none)
    (hPf : ∀ q ∈ P, q.1 ∈ fp) (hP : ∀ b ∈ fp, h₀.get? b = none → ∃ o, (b, o) ∈ P) (hd : ∀ b ∈ fp, ∀ q ∈ own, b ≠ q.1)
    (k : ∀ b o, b ∉ wr → b ≠ L → s.heap.get? b = some o → h'.get? b = some o) (hn : h'.Ns L m₂) (fp' : List Addr) (hfp : ∀ b ∈ fp', b ∈ fp) : St C s₀ h₀ L (ownOf h₀ fp' h' ++ own) { s with heap := h', toks := tk } m₂ H := by
  obtain ⟨δ, R₁⟩ := S.rep
  refine ⟨⟨hn, fun b o e => k b o (fun z => by rw [hwr b z] at e; cases e) (Nat.ne_of_lt (Nat.lt_of_lt_of_le (Heap.lt_size e) S.fr.above)) (S.fr.keep b o e), S.fr.above⟩,
    ⟨δ, R₁.reheld (fun b o hb hbL h0 e => k b o (fun z => ?_) hbL e) (fun q hq => ?_) fun q hq r hr => hd _ (hPf q hq) r hr⟩, S.gens, S.drawn, S.os⟩
  · obtain ⟨o', ho'⟩ := hP b (hsub _ z) h0
    exact hb _ ho' rfl
  · have hnw := news_ownOf (L := L) (fun z => hL (hfp _ z)) q hq
    obtain ⟨o', ho'⟩ := hP q.1 (hfp _ (ownOf_sub q hq)) hnw.2.2
    exact ⟨hnw.1, _, ho', rfl⟩

theorem code_for1 {x : Str} {px : Pos} {body : List Stmt} {I : Addr} {fp wr : List Addr} {n : Nat} {Pv : Nat → Value → Prop} {Sw : Nat → Heap → Prop}
    (W : Walks prog w A I fp wr n Pv Sw) (hex : ∀ i h, Sw i h → ∀ b ∈ fp, ∃ o, h.get? b = some o) (c : Cx K p loose mean mg mb A env h₀ L d) (hx : env.kindOf x = some .local)
    (S : St C s₀ h₀ L (P ++ own) s m H) (hst : Sw 0 s.heap) (hL : L ∉ fp) (hwr : ∀ b ∈ wr, h₀.get? b = none) (hP : ∀ b ∈ fp, h₀.get? b = none → ∃ o, (b, o) ∈ P) (hPf : ∀ p ∈ P, p.1 ∈ fp) (hd : ∀ b ∈ fp, ∀ q ∈ own, b ≠ q.1)
    (J : Nat → (Str → Option Value) → AH → Prop) (h0 : J 0 m H)
    (step : ∀ i v m₁ H₁ P₁ s₁, i < n → Pv i v → J i m₁ H₁ → St C s₀ h₀ L (P₁ ++ own) s₁ (upd m₁ x v) H₁ → wpAny (model prog w) A (execs body env) (Turn C s₀ h₀ L (P₁ ++ own) (J (i + 1)) R) NoE s₁)
    (done : ∀ m₁ H₁ s₁, J n m₁ H₁ → St C s₀ h₀ L (ownOf h₀ (fp.filter (· ∉ wr)) s.heap ++ own) s₁ m₁ H₁ → R (.ok .next) s₁) :
    codeAny (model prog w) A (.forLoop (.Name x px) (.ref I) body [] env) R s := by
  have hLw : L ∉ wr := fun z => hL (W.sub _ z)
  have hpk : (env.scope.kind == .class || (env.scope.kind == .module && env.locals != env.globals)) = false := by rw [c.kind]; rfl
  refine codeAny_forLoop (fun k s' => ∃ i m' H' P', St C s₀ h₀ L (P' ++ own) s' m' H' ∧ Sw i s'.heap ∧ (∀ q ∈ P', q.1 ∈ fp) ∧ (∀ b ∈ fp, h₀.get? b = none → ∃ o, (b, o) ∈ P') ∧ J i m' H' ∧ i ≤ n ∧ k = n + 1 - i ∧
      (∀ b o, b ∈ fp → b ∉ wr → h₀.get? b = none → s.heap.get? b = some o → s'.heap.get? b = some o)) ?_ (n + 1)
    ⟨0, m, H, P, S, hst, hPf, hP, h0, Nat.zero_le _, rfl, fun _ _ _ _ _ e => e⟩
  rintro k s' ⟨i, m', H', P', S', hst', hPf', hP', hJ, hi, rfl, hsame⟩
  by_cases hlt : i < n
  · refine W.item i _ _ _ hlt hst' fun v h₁ tk₁ hPv hst₁ hk₁ => ?_
    refine wpAny_assign_Name (wpAny_storeName_local hx (m := m') (c.loc ▸ S'.fr.ns.at' fun o e => hk₁ _ o hLw e) (fun h₂ hn₂ hs₂ => ?_) hpk)
    rw [c.loc] at hn₂ hs₂
    have hst₂ : Sw (i + 1) h₂ := W.frame _ _ _ hst₁ fun b hb o e => (hs₂.2 b fun q => hL (q ▸ hb)).trans e
    have S₂ := S'.rehold (fp := fp) (wr := wr) (h' := h₂) (tk := tk₁ + 1) hL W.sub hwr hPf' hP' hd (fun b o hb hbL e => (hs₂.2 b hbL).trans (hk₁ b o hb e)) hn₂ fp (fun _ z => z)
    have hfull : ∀ b ∈ fp, h₀.get? b = none → ∃ o, (b, o) ∈ ownOf h₀ fp h₂ := fun b hb h0 => by
      obtain ⟨o, ho⟩ := hex _ _ hst₂ b hb
      exact ⟨o, mem_ownOf hb h0 ho⟩
    refine wpAny_mono (step i v m' H' _ _ hlt hPv hJ S₂) (fun f s₃ h₃ => ?_) fun _ _ x => x.elim
    have fin : (∃ m H, St C s₀ h₀ L (ownOf h₀ fp h₂ ++ own) s₃ m H ∧ J (i + 1) m H) → ∃ k, k < n + 1 - i ∧ ∃ i m' H' P', St C s₀ h₀ L (P' ++ own) s₃ m' H' ∧ Sw i s₃.heap ∧ (∀ q ∈ P', q.1 ∈ fp) ∧ (∀ b ∈ fp, h₀.get? b = none → ∃ o, (b, o) ∈ P') ∧ J i m' H' ∧ i ≤ n ∧ k = n + 1 - i ∧
        (∀ b o, b ∈ fp → b ∉ wr → h₀.get? b = none → s.heap.get? b = some o → s₃.heap.get? b = some o) := by
      rintro ⟨m₃, H₃, S₃, hJ₃⟩
      obtain ⟨δ₃, R₃⟩ := S₃.rep
      have kept : ∀ b ∈ fp, ∀ o, h₂.get? b = some o → s₃.heap.get? b = some o := fun b hb o e => by
        cases hn : h₀.get? b with
        | some o₀ =>
          have : o₀ = o := by have := S₂.fr.keep b o₀ hn; rw [show h₂.get? b = some o from e] at this; exact (Option.some.inj this).symm
          exact this ▸ S₃.fr.keep b o₀ hn
        | none => exact (R₃.news _ (List.mem_append_left _ (mem_ownOf hb hn e))).1
      refine ⟨n + 1 - (i + 1), by omega, i + 1, m₃, H₃, _, S₃, W.frame _ _ _ hst₂ kept, ownOf_sub, hfull, hJ₃, hlt, rfl, fun b o hb hw hn e => kept b hb o ?_⟩
      exact (hs₂.2 b fun q => hL (q ▸ hb)).trans (hk₁ b o hw (hsame b o hb hw hn e))
    cases f with
    | ret v => exact h₃
    | brk => exact h₃
    | next => exact fin h₃
    | cont => exact fin h₃
  · have hin : i = n := by omega
    subst hin
    refine W.done _ _ _ hst' fun h₁ tk₁ hk₁ => wpAny_execs_nil ?_
    have S₁ := S'.rehold (fp := fp) (wr := wr) (h' := h₁) (tk := tk₁) hL W.sub hwr hPf' hP' hd (fun b o hb _ e => hk₁ b o hb e) (S'.fr.ns.at' fun o e => hk₁ _ o hLw e) (fp.filter (· ∉ wr)) (fun _ z => (List.mem_filter.mp z).1)
    have e : ownOf h₀ (fp.filter (· ∉ wr)) h₁ = ownOf h₀ (fp.filter (· ∉ wr)) s.heap := by
      unfold PyProof.Rows.ownOf
      refine fm_congr fun b hb => ?_
      obtain ⟨hb1, hb2⟩ := List.mem_filter.mp hb
      have hbw : b ∉ wr := by simpa using hb2
      cases hn : h₀.get? b with
      | some o => rfl
      | none =>
        obtain ⟨o, ho⟩ := hex _ _ hst b hb1
        have := hk₁ b o hbw (hsame b o hb1 hbw hn ho)
        simp only [this, ho]
    rw [e] at S₁
    exact done _ _ _ hJ S₁

theorem code_for2 {xi xc : Str} {pk pv pt : Pos} {x1 : Nat} {body : List Stmt} {I : Addr} {fp wr : List Addr} {n : Nat} {Pt : Nat → Array Value → Prop} {Sw : Nat → Heap → Prop} {Mid : Nat → Addr → Heap → Prop}
    (W : WalksU prog w A I fp wr n Pt Sw Mid) (hex : ∀ i h, Sw i h → ∀ b ∈ fp, ∃ o, h.get? b = some o) (P2 : Nat → Value → Value → Prop) (h2 : ∀ i vals, Pt i vals → ∃ v0 v1, vals = #[v0, v1] ∧ P2 i v0 v1)
    (c : Cx K p loose mean mg mb A env h₀ L d) (hxi : env.kindOf xi = some .local) (hxc : env.kindOf xc = some .local)
    (S : St C s₀ h₀ L (P ++ own) s m H) (hst : Sw 0 s.heap) (hL : L ∉ fp) (hwr : ∀ b ∈ wr, h₀.get? b = none) (hP : ∀ b ∈ fp, h₀.get? b = none → ∃ o, (b, o) ∈ P) (hPf : ∀ p ∈ P, p.1 ∈ fp) (hd : ∀ b ∈ fp, ∀ q ∈ own, b ≠ q.1)
    (J : Nat → (Str → Option Value) → AH → Prop) (h0 : J 0 m H)
    (step : ∀ i v0 v1 m₁ H₁ P₁ s₁, i < n → P2 i v0 v1 → J i m₁ H₁ → St C s₀ h₀ L (P₁ ++ own) s₁ (upd (upd m₁ xi v0) xc v1) H₁ → wpAny (model prog w) A (execs body env) (Turn C s₀ h₀ L (P₁ ++ own) (J (i + 1)) R) NoE s₁)
    (done : ∀ m₁ H₁ s₁, J n m₁ H₁ → St C s₀ h₀ L (ownOf h₀ (fp.filter (· ∉ wr)) s.heap ++ own) s₁ m₁ H₁ → R (.ok .next) s₁) :
    codeAny (model prog w) A (.forLoop (.Tuple [.Name xi pk, .Name xc pv] x1 pt) (.ref I) body [] env) R s := by
  have hLw : L ∉ wr := fun z => hL (W.sub _ z)
  have hpk : (env.scope.kind == .class || (env.scope.kind == .module && env.locals != env.globals)) = false := by rw [c.kind]; rfl
  refine codeAny_forLoop_any (fun k s' => ∃ i m' H' P', St C s₀ h₀ L (P' ++ own) s' m' H' ∧ Sw i s'.heap ∧ (∀ q ∈ P', q.1 ∈ fp) ∧ (∀ b ∈ fp, h₀.get? b = none → ∃ o, (b, o) ∈ P') ∧ J i m' H' ∧ i ≤ n ∧ k = n + 1 - i ∧
      (∀ b o, b ∈ fp → b ∉ wr → h₀.get? b = none → s.heap.get? b = some o → s'.heap.get? b = some o)) ?_ (n + 1)
    ⟨0, m, H, P, S, hst, hPf, hP, h0, Nat.zero_le _, rfl, fun _ _ _ _ _ e => e⟩
  rintro k s' ⟨i, m', H', P', S', hst', hPf', hP', hJ, hi, rfl, hsame⟩
  by_cases hlt : i < n
  · refine W.item i _ _ _ hlt hst' fun T vals h₁ tk₁ hPt hT hMid hk₁ => ?_
    obtain ⟨v0, v1, rfl, hP2⟩ := h2 i vals hPt
    refine W.go _ x1 pt i T _ _ _ hMid fun h₂ hst₂ hk₂ => ?_
    have ht₂ : h₂.IsTuple T #[v0, v1] := hT.at fun o e => hk₂ T o (W.apart i T h₁ hMid) e
    refine wpAny_assign_Tuple c.handled ht₂ rfl rfl fun h₃ hx₃ => ?_
    replace hx₃ : Heap.ExtBut h₂.objs.size h₂ h₃ := hx₃
    have up₃ : ∀ b o, h₂.get? b = some o → h₃.get? b = some o := fun b o x => hx₃ b o (Nat.ne_of_lt (Heap.lt_size x)) x
    have hn₃ : h₃.Ns L m' := S'.fr.ns.at' fun o e => up₃ _ o (hk₂ _ o hLw (hk₁ _ o hLw e))
    show wpAny _ A (do holding [v1] (assign (.Name xi pk) env v0); do holding [] (assign (.Name xc pv) env v1); pure ()) _ _ _
    refine wpAny_bind (wpAny_holding (wpAny_assign_Name (wpAny_storeName_local hxi (c.loc ▸ hn₃) (fun h₄ hn₄ hs₄ => ?_) hpk)))
    refine wpAny_bind (wpAny_holding (wpAny_assign_Name (wpAny_storeName_local hxc hn₄ (fun h₅ hn₅ hs₅ => wpAny_pure ?_) hpk)))
    replace hs₄ : Heap.SameBut env.locals h₃ h₄ := hs₄
    replace hs₅ : Heap.SameBut env.locals h₄ h₅ := hs₅
    rw [c.loc] at hn₅ hs₄ hs₅
    have up₅ : ∀ b o, b ≠ L → h₂.get? b = some o → h₅.get? b = some o := fun b o hb e => (hs₅.2 b hb).trans ((hs₄.2 b hb).trans (up₃ b o e))
    have hst₅ : Sw (i + 1) h₅ := W.frame _ _ _ hst₂ fun b hb o e => up₅ b o (fun q => hL (q ▸ hb)) e
    have S₂ := S'.rehold (fp := fp) (wr := wr) (h' := h₅) (tk := tk₁ + 1 + 1) (m₂ := upd (upd m' xi v0) xc v1) hL W.sub hwr hPf' hP' hd (fun b o hb hbL e => up₅ b o hbL (hk₂ b o hb (hk₁ b o hb e))) hn₅ fp (fun _ z => z)
    have hfull : ∀ b ∈ fp, h₀.get? b = none → ∃ o, (b, o) ∈ ownOf h₀ fp h₅ := fun b hb h0 => by
      obtain ⟨o, ho⟩ := hex _ _ hst₅ b hb
      exact ⟨o, mem_ownOf hb h0 ho⟩
    refine wpAny_mono (step i v0 v1 m' H' _ _ hlt hP2 hJ S₂) (fun f s₃ h₃ => ?_) fun _ _ x => x.elim
    have fin : (∃ m H, St C s₀ h₀ L (ownOf h₀ fp h₅ ++ own) s₃ m H ∧ J (i + 1) m H) → ∃ k, k < n + 1 - i ∧ ∃ i m' H' P', St C s₀ h₀ L (P' ++ own) s₃ m' H' ∧ Sw i s₃.heap ∧ (∀ q ∈ P', q.1 ∈ fp) ∧ (∀ b ∈ fp, h₀.get? b = none → ∃ o, (b, o) ∈ P') ∧ J i m' H' ∧ i ≤ n ∧ k = n + 1 - i ∧
        (∀ b o, b ∈ fp → b ∉ wr → h₀.get? b = none → s.heap.get? b = some o → s₃.heap.get? b = some o) := by
      rintro ⟨m₃, H₃, S₃, hJ₃⟩
      obtain ⟨δ₃, R₃⟩ := S₃.rep
      have kept : ∀ b ∈ fp, ∀ o, h₅.get? b = some o → s₃.heap.get? b = some o := fun b hb o e => by
        cases hn : h₀.get? b with
        | some o₀ =>
          have : o₀ = o := by have := S₂.fr.keep b o₀ hn; rw [show h₅.get? b = some o from e] at this; exact (Option.some.inj this).symm
          exact this ▸ S₃.fr.keep b o₀ hn
        | none => exact (R₃.news _ (List.mem_append_left _ (mem_ownOf hb hn e))).1
      refine ⟨n + 1 - (i + 1), by omega, i + 1, m₃, H₃, _, S₃, W.frame _ _ _ hst₅ kept, ownOf_sub, hfull, hJ₃, hlt, rfl, fun b o hb hw hn e => kept b hb o ?_⟩
      exact up₅ b o (fun q => hL (q ▸ hb)) (hk₂ b o hw (hk₁ b o hw (hsame b o hb hw hn e)))
    cases f with
    | ret v => exact h₃
    | brk => exact h₃
    | next => exact fin h₃
    | cont => exact fin h₃
  · have hin : i = n := by omega
    subst hin
    refine W.done _ _ _ hst' fun h₁ tk₁ hk₁ => wpAny_execs_nil ?_
    have S₁ := S'.rehold (fp := fp) (wr := wr) (h' := h₁) (tk := tk₁) hL W.sub hwr hPf' hP' hd (fun b o hb _ e => hk₁ b o hb e) (S'.fr.ns.at' fun o e => hk₁ _ o hLw e) (fp.filter (· ∉ wr)) (fun _ z => (List.mem_filter.mp z).1)
    have e : ownOf h₀ (fp.filter (· ∉ wr)) h₁ = ownOf h₀ (fp.filter (· ∉ wr)) s.heap := by
      unfold PyProof.Rows.ownOf
      refine fm_congr fun b hb => ?_
      obtain ⟨hb1, hb2⟩ := List.mem_filter.mp hb
      have hbw : b ∉ wr := by simpa using hb2
      cases hn : h₀.get? b with
      | some o => rfl
      | none =>
        obtain ⟨o, ho⟩ := hex _ _ hst b hb1
        have := hk₁ b o hbw (hsame b o hb1 hbw hn ho)
        simp only [this, ho]
    rw [e] at S₁
    exact done _ _ _ hJ S₁
end
end Mine

end
section
open PySem PySem.W PySem.Calls PyProof.Rows PySem.Spec
set_option Elab.async false
set_option maxRecDepth 100000
namespace Mine

section
variable {K : Frag} {p : Program} {loose : List Str} {mean : ExcName → Option Value} {mg mb : Str → Option Value} {A : Around} {env : Env} {h₀ : Heap} {L : Addr} {d : Nat}
variable {prog : Program} {w : World} {C : Addr} {s₀ s : Shared} {own P : List (Addr × Obj)} {m : Str → Option Value} {H : AH}

/-- what was held comes back as an entry -/
theorem St.unhold {a : Addr} {ob : Obj} {o : AObj} (S : St C s₀ h₀ L ((a, ob) :: own) s m H) (hns : ∀ f, o ≠ .src f) (hr : ∀ (h : Heap) d, h.get? a = some ob → Real C h d a o) (hd : ∀ q ∈ own, q.1 ≠ a) :
    H a = none ∧ St C s₀ h₀ L own s m (put H a o) := by
  obtain ⟨δ, R⟩ := S.rep
  have hn := R.news _ (.head _)
  have h1 : H a = none := R.ownH (a, ob) (.head _)
  exact ⟨h1, S.fr, ⟨δ, R.drop.put hns (fun f q => by rw [h1] at q; cases q) (fun _ _ _ _ _ e => e) (hr _ _ hn.1) hn.2.1 hn.2.2 hd fun b f hb => R.ownd _ (.head _) b f hb⟩, S.gens, S.drawn, S.os⟩
theorem St.own_ne (S : St C s₀ h₀ L own s m H) {a : Addr} {o : AObj} (e : H a = some o) : ∀ q ∈ own, q.1 ≠ a := fun q hq z => by
  obtain ⟨δ, R⟩ := S.rep
  have := R.ownH q hq; rw [z, e] at this; cases this
theorem St.own_new (S : St C s₀ h₀ L own s m H) {a : Addr} (e : s.heap.get? a = none) : ∀ q ∈ own, q.1 ≠ a := fun q hq z => by
  obtain ⟨δ, R⟩ := S.rep
  have := (R.news q hq).1; rw [z, e] at this; cases this

def TurnQ (C : Addr) (s₀ : Shared) (h₀ : Heap) (L : Addr) (own : List (Addr × Obj)) (J : (Str → Option Value) → AH → Prop) (Q : Flow → Shared → Prop) (f : Flow) (s : Shared) : Prop :=
  match f with
  | .ret v => Q (.ret v) s
  | .brk => Q .next s
  | _ => ∃ m H, St C s₀ h₀ L own s m H ∧ J m H

/-- a loop over a list -/
def ForL (prog : Program) (w : World) (A : Around) (C : Addr) (s₀ : Shared) (h₀ : Heap) (L : Addr) (env : Env) (x : Str) (body : List Stmt) (Q : Flow → Shared → Prop) (xv : Value) (s : Shared) : Prop :=
  ∃ (l : Addr) (vs : List Value) (own : List (Addr × Obj)) (m : Str → Option Value) (H : AH) (J : Nat → (Str → Option Value) → AH → Prop), xv = .ref l ∧ St C s₀ h₀ L own s m H ∧ H l = some (.list vs) ∧ J 0 m (del H l) ∧
    (∀ i v m₁ H₁ own₁ s₁, vs[i]? = some v → J i m₁ H₁ → St C s₀ h₀ L own₁ s₁ (upd m₁ x v) H₁ → wpAny (model prog w) A (execs body env) (TurnQ C s₀ h₀ L own₁ (J (i + 1)) Q) NoE s₁) ∧
    ∀ m₁ H₁ s₁, J vs.length m₁ H₁ → H₁ l = none → St C s₀ h₀ L own s₁ m₁ (put H₁ l (.list vs)) → Q .next s₁
theorem r_for_list {x : Str} {px pos : Pos} {iter : Expr} {body : List Stmt} {Q : Flow → Shared → Prop} (c : Cx K p loose mean mg mb A env h₀ L d) (_S : St C s₀ h₀ L own s m H)
    (h : wpAny (model prog w) A (eval iter env) (ForL prog w A C s₀ h₀ L env x body Q) NoE s) (hx : env.kindOf x = some .local) (hs : ∀ x, foldedSetIterable iter env x = pure x) :
    wpAny (model prog w) A (exec (.For (.Name x px) iter body [] pos) env) Q NoE s := by
  refine wpAny_For (wpAny_mono h (fun xv s₁ hf => ?_) fun _ _ y => y) hs
  obtain ⟨l, vs, own, m, H, J, rfl, S, hl, h0, step, done⟩ := hf
  refine wpAny_pyIter_list (S.isList hl) ?_
  obtain ⟨hi, S₁⟩ := S.pushed (o := { cls := .type "list_iterator", data := .fields #[.ref l, .int 0 0] }) (ao := .raw _) (tk := s₁.toks) (fun _ x => by cases x) rfl fun h d e => e
  have hlI : l ≠ s₁.heap.objs.size := fun z => by rw [← z, hl] at hi; cases hi
  obtain ⟨ol, hol, S₂⟩ := S₁.hold (a := l) (o := .list vs) (put_off hlI hl) (fun _ x => by cases x)
  have hI2 : del (put H s₁.heap.objs.size (.raw { cls := .type "list_iterator", data := .fields #[.ref l, .int 0 0] })) l s₁.heap.objs.size = some (.raw { cls := .type "list_iterator", data := .fields #[.ref l, .int 0 0] }) := (del_ne hlI.symm).trans put_same
  obtain ⟨oi, hoi, S₃⟩ := S₂.hold hI2 (fun _ x => by cases x)
  have eH : del (del (put H s₁.heap.objs.size (.raw { cls := .type "list_iterator", data := .fields #[.ref l, .int 0 0] })) l) s₁.heap.objs.size = del H l := by
    funext b
    unfold del put
    by_cases z : b = s₁.heap.objs.size
    · simp only [z, if_true, if_neg hlI.symm, hi]
    · simp only [if_neg z]
  rw [eH] at S₃
  have hL1 := S.ne_L hl
  have hnew := S.at_new
  have W := Walks.list (prog := prog) (w := w) (A := A) c.handled s₁.heap.objs.size l hlI vs.toArray
  have hIget : (s₁.heap.push { cls := .type "list_iterator", data := .fields #[.ref l, .int 0 0] }).IsListIter s₁.heap.objs.size l 0 := ⟨_, Heap.get?_push_size _ rfl, rfl, rfl⟩
  have hlget : (s₁.heap.push { cls := .type "list_iterator", data := .fields #[.ref l, .int 0 0] }).IsList l vs.toArray := (S.isList hl).push _
  obtain ⟨nn, hln⟩ := S.list hl
  have hol' : ol = listObj vs nn := by
    have : (s₁.heap.push { cls := .type "list_iterator", data := .fields #[.ref l, .int 0 0] }).get? l = some ol := hol
    rw [Heap.get?_push_of_some _ hln] at this; exact (Option.some.inj this).symm
  refine code_for1 (P := [(s₁.heap.objs.size, oi), (l, ol)]) (own := own) W (fun i h hw b hb => ?_) c hx S₃ ⟨hIget, hlget⟩ (fun z => ?_) (fun b hb => ?_) (fun b hb _ => ?_) (fun q hq => ?_) (fun b hb q hq => ?_) J h0 (fun i v m₁ H₁ P₁ s₂ hin hv hJ S₄ => ?_) fun m₁ H₁ s₂ hJ S₄ => ?_
  · rcases List.mem_cons.mp hb with rfl | hb
    · obtain ⟨⟨o, ho, _⟩, _⟩ := hw; exact ⟨o, ho⟩
    · rcases List.mem_singleton.mp hb with rfl; obtain ⟨_, ⟨o, ho, _⟩⟩ := hw; exact ⟨o, ho⟩
  · rcases List.mem_cons.mp z with z | z
    · exact hnew.1 z.symm
    · exact hL1.1 (List.mem_singleton.mp z).symm
  · rcases List.mem_singleton.mp hb with rfl; exact hnew.2.1
  · rcases List.mem_cons.mp hb with rfl | hb
    · exact ⟨oi, .head _⟩
    · rcases List.mem_singleton.mp hb with rfl; exact ⟨ol, .tail _ (.head _)⟩
  · rcases List.mem_cons.mp hq with rfl | hq
    · exact .head _
    · rcases List.mem_singleton.mp hq with rfl; exact .tail _ (.head _)
  · rcases List.mem_cons.mp hb with rfl | hb
    · exact fun z => S.own_new hnew.2.2 q hq z.symm
    · rcases List.mem_singleton.mp hb with rfl; exact fun z => S.own_ne hl q hq z.symm
  · exact wpAny_mono (step i v m₁ H₁ _ s₂ (by simpa using hv) hJ S₄) (fun f s₅ h₅ => by cases f <;> exact h₅) fun _ _ y => y
  · have hJ' : J vs.length m₁ H₁ := by simpa using hJ
    have e1 : ([s₁.heap.objs.size, l] : List Addr).filter (· ∉ [s₁.heap.objs.size]) = [l] := by simp [hlI]
    have hln' : (s₁.heap.push { cls := .type "list_iterator", data := .fields #[.ref l, .int 0 0] }).get? l = some (listObj vs nn) := Heap.get?_push_of_some _ hln
    have e2 : PyProof.Rows.ownOf h₀ [l] (s₁.heap.push { cls := .type "list_iterator", data := .fields #[.ref l, .int 0 0] }) = [(l, listObj vs nn)] := by
      unfold PyProof.Rows.ownOf
      simp only [List.filterMap_cons, List.filterMap_nil, hL1.2, hln', Option.isNone_none, if_true, Option.map_some]
    rw [e1] at S₄
    have S₄' : St C s₀ h₀ L (PyProof.Rows.ownOf h₀ [l] (s₁.heap.push { cls := .type "list_iterator", data := .fields #[.ref l, .int 0 0] }) ++ own) s₂ m₁ H₁ := S₄
    rw [e2] at S₄'
    obtain ⟨z1, z2⟩ := S₄'.unhold (o := .list vs) (fun _ x => by cases x) (fun h d e => ⟨nn, e⟩) (S.own_ne hl)
    exact done m₁ H₁ s₂ hJ' z1 z2

/-- enumerate of a list -/
abbrev enumObj (it : Addr) : Obj := { cls := .type "enumerate", dict := none, data := .fields #[.none, .bool false, .ref it, rawInt 0, .none, .none], slots := #[] }
theorem r_enum {l : Addr} {vs : List Value} {Q : Value → Shared → Prop} {E : Value → Shared → Prop} (S : St C s₀ h₀ L own s m H) (hl : H l = some (.list vs))
    (h : ∀ e it ob s', H it = none → H e = none → e ≠ it → s'.heap.IsListIter it l 0 → St C s₀ h₀ L own s' m (put (put H it (.raw ob)) e (.raw (enumObj it))) → Q (.ref e) s') : wpAny (model prog w) A (call (.type "enumerate") [.ref l]) Q E s := by
  obtain ⟨n, hn⟩ := S.list hl
  refine call_enumerate_1 hn fun h' he hit hsz hk => ?_
  obtain ⟨oi, hoi, hic, hid⟩ := id hit
  have hnew := S.at_new
  have hnew1 : s.heap.get? (s.heap.objs.size + 1) = none := by
    cases q : s.heap.get? (s.heap.objs.size + 1) with
    | none => rfl
    | some o => exact absurd (Heap.lt_size q) (Nat.not_lt.mpr (Nat.le_succ _))
  have hnewL1 : s.heap.objs.size + 1 ≠ L := fun z => absurd S.fr.ns.lt (by rw [← z]; exact Nat.not_lt.mpr (Nat.le_succ _))
  have hnew01 : h₀.get? (s.heap.objs.size + 1) = none := by
    cases q : h₀.get? (s.heap.objs.size + 1) with
    | none => rfl
    | some o => have := S.fr.keep _ _ q; rw [hnew1] at this; cases this
  have F' : Fr h₀ L h' m := Fr.of_ext S.fr hk
  obtain ⟨δ, R⟩ := S.rep
  obtain ⟨f1, f2, f3⟩ := R.fresh hnew.2.2
  obtain ⟨g1, g2, g3⟩ := R.fresh hnew1
  have R1 := R.put (a := s.heap.objs.size) (o := .raw oi) (h' := h') (fun _ x => by cases x) (fun f q => by rw [f1] at q; cases q) (fun b ob _ _ _ e => hk b ob e) hoi hnew.1 hnew.2.1 f2 f3
  have hne : s.heap.objs.size + 1 ≠ s.heap.objs.size := Nat.succ_ne_self _
  have R2 := R1.put (a := s.heap.objs.size + 1) (o := .raw (enumObj s.heap.objs.size)) (h' := h') (fun _ x => by cases x) (fun f q => by rw [put_ne hne, g1] at q; cases q) (fun b ob _ _ _ e => e) he hnewL1 hnew01 g2 (fun b f hb => by
    by_cases z : b = s.heap.objs.size
    · rw [z, put_same] at hb; cases hb
    · rw [put_ne z] at hb; exact g3 _ _ hb)
  exact h _ _ oi _ f1 g1 hne hit ⟨F', ⟨δ, R2⟩, S.gens, S.drawn, S.os⟩

/-- a loop over enumerate of a list -/
def ForE (prog : Program) (w : World) (A : Around) (C : Addr) (s₀ : Shared) (h₀ : Heap) (L : Addr) (env : Env) (xi xc : Str) (body : List Stmt) (Q : Flow → Shared → Prop) (xv : Value) (s : Shared) : Prop :=
  ∃ (e it l : Addr) (ob : Obj) (vs : List Value) (own : List (Addr × Obj)) (m : Str → Option Value) (H : AH) (J : Nat → (Str → Option Value) → AH → Prop), xv = .ref e ∧ s.heap.IsListIter it l 0 ∧ H it = none ∧ H e = none ∧ e ≠ it ∧ H l = some (.list vs) ∧
    St C s₀ h₀ L own s m (put (put H it (.raw ob)) e (.raw (enumObj it))) ∧ J 0 m (del H l) ∧
    (∀ (i : Nat) v t m₁ H₁ own₁ s₁, vs[i]? = some v → J i m₁ H₁ → St C s₀ h₀ L own₁ s₁ (upd (upd m₁ xi (.int i t)) xc v) H₁ → wpAny (model prog w) A (execs body env) (TurnQ C s₀ h₀ L own₁ (J (i + 1)) Q) NoE s₁) ∧
    ∀ m₁ H₁ s₁, J vs.length m₁ H₁ → St C s₀ h₀ L own s₁ m₁ H₁ → Q .next s₁
theorem r_for_enum {xi xc : Str} {pk pv pt pos : Pos} {x1 : Nat} {iter : Expr} {body : List Stmt} {Q : Flow → Shared → Prop} (c : Cx K p loose mean mg mb A env h₀ L d) (_S : St C s₀ h₀ L own s m H)
    (h : wpAny (model prog w) A (eval iter env) (ForE prog w A C s₀ h₀ L env xi xc body Q) NoE s) (hxi : env.kindOf xi = some .local) (hxc : env.kindOf xc = some .local) (hs : ∀ x, foldedSetIterable iter env x = pure x) :
    wpAny (model prog w) A (exec (.For (.Tuple [.Name xi pk, .Name xc pv] x1 pt) iter body [] pos) env) Q NoE s := by
  refine wpAny_For (wpAny_mono h (fun xv s₁ hf => ?_) fun _ _ y => y) hs
  obtain ⟨e, it, l, ob, vs, own, m, H, J, rfl, hit, fit, fe, hei, hl, S, h0, step, done⟩ := hf
  have he : IsEnum s₁.heap e it 0 .none := S.raw put_same
  refine wpAny_pyIter_enum he ?_
  have hlit : l ≠ it := fun z => by rw [z, fit] at hl; cases hl
  have hle : l ≠ e := fun z => by rw [z, fe] at hl; cases hl
  have hl' : put (put H it (.raw ob)) e (.raw (enumObj it)) l = some (.list vs) := put_off hle (put_off hlit hl)
  obtain ⟨o1, ho1, S1⟩ := S.hold (a := e) put_same (fun _ x => by cases x)
  have hit1 : del (put (put H it (.raw ob)) e (.raw (enumObj it))) e it = some (.raw ob) := (del_ne hei.symm).trans ((put_ne hei.symm).trans put_same)
  obtain ⟨o2, ho2, S2⟩ := S1.hold hit1 (fun _ x => by cases x)
  have hl2 : del (del (put (put H it (.raw ob)) e (.raw (enumObj it))) e) it l = some (.list vs) := (del_ne hlit).trans ((del_ne hle).trans hl')
  obtain ⟨o3, ho3, S3⟩ := S2.hold hl2 (fun _ x => by cases x)
  have eH : del (del (del (put (put H it (.raw ob)) e (.raw (enumObj it))) e) it) l = del H l := by
    funext b
    unfold del put
    by_cases z : b = l
    · simp [z]
    · by_cases y : b = it
      · simp [y, fit]
      · by_cases u : b = e
        · simp [u, fe]
        · simp [z, y, u]
  rw [eH] at S3
  have hLl := S.ne_L hl'
  have hLe := S.ne_L (a := e) put_same
  have hLi := S.ne_L (a := it) ((put_ne hei.symm).trans put_same)
  have W := (WalksT.enumerate (prog := prog) (w := w) (A := A) c.handled e it l hei hle hlit vs.toArray).toU
  refine code_for2 (P := [(l, o3), (it, o2), (e, o1)]) (own := own) W (fun i h hw b hb => ?_) (fun i v0 v1 => ∃ t, v0 = .int i t ∧ vs[i]? = some v1) (fun i vals hv => ?_) c hxi hxc S3 ⟨⟨_, he⟩, hit, S.isList hl'⟩ (fun z => ?_) (fun b hb => ?_) (fun b hb _ => ?_) (fun q hq => ?_) (fun b hb q hq => ?_) J h0 (fun i v0 v1 m₁ H₁ P₁ s₂ hin hv hJ S₄ => ?_) fun m₁ H₁ s₂ hJ S₄ => ?_
  · obtain ⟨⟨_, w1⟩, ⟨_, w2, _⟩, ⟨_, w3, _⟩⟩ := hw
    rcases List.mem_cons.mp hb with rfl | hb
    · exact ⟨_, w1⟩
    · rcases List.mem_cons.mp hb with rfl | hb
      · exact ⟨_, w2⟩
      · rcases List.mem_singleton.mp hb with rfl; exact ⟨_, w3⟩
  · obtain ⟨t, x, hx, rfl⟩ := hv
    exact ⟨_, _, rfl, t, rfl, by simpa using hx⟩
  · rcases List.mem_cons.mp z with z | z
    · exact hLe.1 z.symm
    · rcases List.mem_cons.mp z with z | z
      · exact hLi.1 z.symm
      · exact hLl.1 (List.mem_singleton.mp z).symm
  · rcases List.mem_cons.mp hb with rfl | hb
    · exact hLe.2
    · rcases List.mem_singleton.mp hb with rfl; exact hLi.2
  · rcases List.mem_cons.mp hb with rfl | hb
    · exact ⟨o1, by simp⟩
    · rcases List.mem_cons.mp hb with rfl | hb
      · exact ⟨o2, by simp⟩
      · rcases List.mem_singleton.mp hb with rfl; exact ⟨o3, by simp⟩
  · rcases List.mem_cons.mp hq with rfl | hq
    · simp
    · rcases List.mem_cons.mp hq with rfl | hq
      · simp
      · rcases List.mem_singleton.mp hq with rfl; simp
  · rcases List.mem_cons.mp hb with rfl | hb
    · exact fun z => S.own_ne put_same q hq z.symm
    · rcases List.mem_cons.mp hb with rfl | hb
      · exact fun z => S.own_ne ((put_ne hei.symm).trans put_same) q hq z.symm
      · rcases List.mem_singleton.mp hb with rfl; exact fun z => S.own_ne hl' q hq z.symm
  · obtain ⟨t, rfl, hv⟩ := hv
    exact wpAny_mono (step i v1 t m₁ H₁ _ s₂ hv hJ S₄) (fun f s₅ h₅ => by cases f <;> exact h₅) fun _ _ y => y
  · exact done m₁ H₁ s₂ (by simpa using hJ) S₄.dropAll
end
end Mine

end
section
open PySem PySem.W PySem.Calls PyProof.Rows PySem.Spec PySem.SeqAt
set_option Elab.async false
set_option maxRecDepth 100000
namespace Mine

/-! equality of what the abstract heap bears -/
def Same0 (v u : Value) : Prop := v = u ∨ (∃ i t t', v = .int i t ∧ u = .int i t') ∨ (∃ x t t', v = .str x t ∧ u = .str x t') ∨ ∃ x t t', v = .bytes x t ∧ u = .bytes x t'
def Same (H : AH) : Nat → Value → Value → Prop
  | 0, v, u => Same0 v u
  | n + 1, v, u => Same0 v u ∨ ∃ (a b : Addr) (vs us : List Value), v = .ref a ∧ u = .ref b ∧ ((H a = some (.list vs) ∧ H b = some (.list us)) ∨ (H a = some (.raw (tupObj vs)) ∧ H b = some (.raw (tupObj us)))) ∧ vs.length = us.length ∧
      ∀ (j : Nat) x y, vs[j]? = some x → us[j]? = some y → Same H n x y
theorem Same0.up {H : AH} {n : Nat} {v u : Value} (h : Same0 v u) : Same H n v u := by
  cases n with
  | zero => exact h
  | succ n => exact .inl h
theorem Same.rfl' {H : AH} {n : Nat} {v : Value} : Same H n v v := Same0.up (.inl rfl)
theorem Same.int {H : AH} {n : Nat} {i : Int} {t u : Tok} : Same H n (.int i t) (.int i u) := Same0.up (.inr (.inl ⟨_, _, _, rfl, rfl⟩))
theorem Same.str {H : AH} {n : Nat} {i : Str} {t u : Tok} : Same H n (.str i t) (.str i u) := Same0.up (.inr (.inr (.inl ⟨_, _, _, rfl, rfl⟩)))
theorem Same.bytes {H : AH} {n : Nat} {i : Array UInt8} {t u : Tok} : Same H n (.bytes i t) (.bytes i u) := Same0.up (.inr (.inr (.inr ⟨_, _, _, rfl, rfl⟩)))
inductive SameAll (H : AH) (n : Nat) : List Value → List Value → Prop
  | nil : SameAll H n [] []
  | cons {v u vs us} : Same H n v u → SameAll H n vs us → SameAll H n (v :: vs) (u :: us)
theorem SameAll.len {H : AH} {n : Nat} {vs us : List Value} (h : SameAll H n vs us) : vs.length = us.length := by
  induction h with
  | nil => rfl
  | cons _ _ ih => simp [ih]
theorem SameAll.get {H : AH} {n : Nat} {vs us : List Value} (h : SameAll H n vs us) : ∀ (j : Nat) x y, vs[j]? = some x → us[j]? = some y → Same H n x y := by
  induction h with
  | nil => intro j x y e; simp at e
  | cons hd _ ih =>
    intro j x y e1 e2
    cases j with
    | zero => simp at e1 e2; rw [← e1, ← e2]; exact hd
    | succ j => simp at e1 e2; exact ih j x y e1 e2
theorem SameAll.refl {H : AH} {n : Nat} : ∀ {vs : List Value}, SameAll H n vs vs
  | [] => .nil
  | _ :: _ => .cons Same.rfl' SameAll.refl
theorem SameAll.append {H : AH} {n : Nat} {vs us vs' us' : List Value} (h : SameAll H n vs us) (h' : SameAll H n vs' us') : SameAll H n (vs ++ vs') (us ++ us') := by
  induction h with
  | nil => exact h'
  | cons a _ ih => exact .cons a ih
theorem SameAll.of_get {H : AH} {n : Nat} : ∀ {vs us : List Value}, vs.length = us.length → (∀ (j : Nat) x y, vs[j]? = some x → us[j]? = some y → Same H n x y) → SameAll H n vs us
  | [], [], _, _ => .nil
  | v :: vs, u :: us, hl, h => .cons (h 0 v u rfl rfl) (SameAll.of_get (by simpa using hl) fun j x y a b => h (j + 1) x y (by simpa using a) (by simpa using b))
theorem Same.list {H : AH} {n : Nat} {a b : Addr} {vs us : List Value} (ha : H a = some (.list vs)) (hb : H b = some (.list us)) (h : SameAll H n vs us) : Same H (n + 1) (.ref a) (.ref b) :=
  .inr ⟨a, b, vs, us, rfl, rfl, .inl ⟨ha, hb⟩, h.len, h.get⟩
theorem Same.tup {H : AH} {n : Nat} {a b : Addr} {vs us : List Value} (ha : H a = some (.raw (tupObj vs))) (hb : H b = some (.raw (tupObj us))) (h : SameAll H n vs us) : Same H (n + 1) (.ref a) (.ref b) :=
  .inr ⟨a, b, vs, us, rfl, rfl, .inr ⟨ha, hb⟩, h.len, h.get⟩

theorem EqAt_bytes (A : Around) (s : Shared) (x : Array UInt8) (t u : Tok) : EqAt A s (.bytes x t) (.bytes x u) true := fun prog w E Q h => by
  unfold eqBool
  refine wpAny_holding ?_
  refine wpAny_ite_split (fun _ => wpAny_bind (wpAny_rule (wpAny_pure h))) (fun hab => ?_)
  refine wpAny_bind (eq_bytes (b := x) (c := x) (t := t) (u := u) ?_)
  rw [beq_self_eq_true]
  exact wpAny_truthy_bool h
theorem Same0.eqAt {v u : Value} (h : Same0 v u) (A : Around) (s : Shared) : EqAt A s v u true := by
  rcases h with rfl | ⟨i, t, t', rfl, rfl⟩ | ⟨i, t, t', rfl, rfl⟩ | ⟨i, t, t', rfl, rfl⟩
  · exact EqAt.same _
  · have := EqAt.int_int (A := A) (s := s) i t i t'; rwa [beq_self_eq_true] at this
  · have := EqAt.str_str (A := A) (s := s) i t i t'; rwa [beq_self_eq_true] at this
  · exact EqAt_bytes A s i t t'

section
variable {K : Frag} {p : Program} {loose : List Str} {mean : ExcName → Option Value} {mg mb : Str → Option Value} {A : Around} {env : Env} {h₀ : Heap} {L : Addr} {d : Nat}
variable {prog : Program} {w : World} {C : Addr} {s₀ s : Shared} {own P : List (Addr × Obj)} {m : Str → Option Value} {H : AH} {Q : Value → Shared → Prop} {E : Value → Shared → Prop}

theorem St.grown (S : St C s₀ h₀ L own s m H) {h' : Heap} {tk : Nat} (k : ∀ b o, s.heap.get? b = some o → h'.get? b = some o) : St C s₀ h₀ L own { s with heap := h', toks := tk } m H :=
  S.keep (Fr.of_ext S.fr k) fun b o _ _ e => k b o e
theorem St.of_news1 (S : St C s₀ h₀ L own s m H) {h' : Heap} {tk : Nat} {o : Obj} {ao : AObj} (F' : Fr h₀ L h' m) (N' : News h₀ L h' ((s.heap.objs.size, o) :: full h₀ L s.heap)) (hns : ∀ f, ao ≠ .src f)
    (hr : ∀ (h : Heap) d, h.get? s.heap.objs.size = some o → Real C h d s.heap.objs.size ao) : H s.heap.objs.size = none ∧ St C s₀ h₀ L own { s with heap := h', toks := tk } m (put H s.heap.objs.size ao) :=
  S.add F' hns S.at_new.2.2 S.at_new.1 S.at_new.2.1 (fun b ob hL h0 e => (N' (b, ob) (.tail _ (mem_full.mpr ⟨e, hL, h0⟩))).1) fun d => hr _ d (N' _ (.head _)).1
theorem St.isTuple (S : St C s₀ h₀ L own s m H) {a : Addr} {vs : List Value} (e : H a = some (.raw (tupObj vs))) : s.heap.IsTuple a vs.toArray := ⟨_, S.raw e, rfl, 0, rfl⟩

theorem all_true (n : Nat) : ((List.range n).all fun _ => true) = true := by rw [List.all_eq_true]; intro _ _; rfl
theorem Same.eqAt (S : St C s₀ h₀ L own s m H) : ∀ (n : Nat) {A : Around} {v u : Value}, Same H n v u → A.units + n < cLine → EqAt A s v u true := by
  intro n
  induction n with
  | zero => intro A v u h _; exact Same0.eqAt h A s
  | succ n ih =>
    intro A v u h hu
    rcases h with h | ⟨a, b, vs, us, rfl, rfl, hab, hlen, hall⟩
    · exact Same0.eqAt h A s
    · by_cases z : a = b
      · subst z; exact EqAt.same _
      · refine .of_refs z ?_
        have he : ∀ (j : Nat) (h1 : j < vs.toArray.size) (h2 : j < us.toArray.size), EqAt A.in1 s vs.toArray[j] us.toArray[j] ((fun _ => true) j) := fun j h1 h2 =>
          ih (hall j _ _ (by simpa using List.getElem?_eq_getElem (by simpa using h1)) (by simpa using List.getElem?_eq_getElem (by simpa using h2))) (by rw [units_in1]; omega)
        rcases hab with ⟨ha, hb⟩ | ⟨ha, hb⟩
        · have := RcAt.lists (e := fun _ => true) (S.isList ha) (S.isList hb) (by simpa using hlen) (by omega : A.units < cLine) he
          rwa [all_true] at this
        · have := RcAt.tuples (e := fun _ => true) (S.isTuple ha) (S.isTuple hb) (by omega : A.units < cLine) he
          rw [all_true] at this
          simpa [hlen] using this
theorem r_eq_lists {n : Nat} {a b : Addr} {vs us : List Value} (c : Cx K p loose mean mg mb A env h₀ L d) (S : St C s₀ h₀ L own s m H) (ha : H a = some (.list vs)) (hb : H b = some (.list us)) (h : SameAll H n vs us) (hn : n < 40) (hq : Q (.bool true) s) :
    wpAny (model prog w) A (compareOp .Eq (.ref a) (.ref b)) Q E s := by
  have cu := c.units
  refine eq_listAt (e := fun _ => true) (S.isList ha) (S.isList hb) (by simpa using h.len) (by omega) (fun j h1 h2 => ?_) (by rw [all_true]; exact hq)
  exact Same.eqAt S n (h.get j _ _ (by simpa using List.getElem?_eq_getElem (by simpa using h1)) (by simpa using List.getElem?_eq_getElem (by simpa using h2))) (by rw [units_in1]; omega)
theorem r_ne_lists {n : Nat} {a b : Addr} {vs us : List Value} (c : Cx K p loose mean mg mb A env h₀ L d) (S : St C s₀ h₀ L own s m H) (ha : H a = some (.list vs)) (hb : H b = some (.list us)) (h : SameAll H n vs us) (hn : n < 40) (hq : Q (.bool false) s) :
    wpAny (model prog w) A (compareOp .NotEq (.ref a) (.ref b)) Q E s := by
  have cu := c.units
  refine RcNeAt.lists (e := fun _ => true) (S.isList ha) (S.isList hb) (by simpa using h.len) (by omega) (fun j h1 h2 => ?_) prog w E Q (by rw [all_true]; exact hq)
  exact Same.eqAt S n (h.get j _ _ (by simpa using List.getElem?_eq_getElem (by simpa using h1)) (by simpa using List.getElem?_eq_getElem (by simpa using h2))) (by rw [units_in1]; omega)
theorem r_eq_nil {a b : Addr} {vs : List Value} (c : Cx K p loose mean mg mb A env h₀ L d) (S : St C s₀ h₀ L own s m H) (ha : H a = some (.list vs)) (hb : H b = some (.list [])) (hq : Q (.bool vs.isEmpty) s) :
    wpAny (model prog w) A (compareOp .Eq (.ref a) (.ref b)) Q E s := by
  cases vs with
  | nil => exact r_eq_lists (n := 0) c S ha hb .nil (by decide) hq
  | cons v r => exact eq_list_lengthsAt (S.isList ha) (S.isList hb) rfl (by have := c.units; omega) hq

/-! lists -/
theorem r_lmeth1 {l : Addr} {vs : List Value} {nm : Str} {id : String} {pos : Pos} {pl : Sem Bool} {e : Expr} (slot : Slot "list" nm id) (hty : typeOf (.builtin id) = pure (.type "method_descriptor")) (S : St C s₀ h₀ L own s m H) (hl : H l = some (.list vs))
    (h : wpAny (model prog w) A (eval e env) (fun v s₁ => wpAny (model prog w) A (call (.builtin id) [.ref l, v]) Q E s₁) E s) (he : starEach (e :: []) env = (false, eval e env) :: starEach [] env := by rfl) :
    wpAny (model prog w) A (getMethod (.ref l) nm pl) (fun fx s₂ => wpAny (model prog w) A (callWith pos fx.1 fx.2 (backTo pos (starEach [e] env)) []) Q E s₂) E s := by
  obtain ⟨n, hn⟩ := S.list hl
  refine getMethod_list_of slot hty (S.isList hl) ⟨_, hn, rfl⟩ ?_
  rw [he]
  exact callWith_builtin rfl (evalArgs_plain (spliced_cons (wpAny_mono h (fun v s₁ h₁ => spliced_nil h₁) fun _ _ y => y)))
theorem r_append {l : Addr} {vs : List Value} {v : Value} (S : St C s₀ h₀ L own s m H) (hl : H l = some (.list vs)) (hsz : vs.length ≤ 100000) (h : ∀ s', St C s₀ h₀ L own s' m (put H l (.list (vs ++ [v]))) → Q .none s') :
    wpAny (model prog w) A (call (.builtin "list.append") [.ref l, v]) Q E s :=
  wpAny_list_append_plain (S.list hl) (fun h' hp hs => h _ (S.setList hl hs (by simpa using hp))) (by rw [List.size_toArray, sizeLine_eq]; omega)
theorem r_extend {l b : Addr} {vs us : List Value} (S : St C s₀ h₀ L own s m H) (hl : H l = some (.list vs)) (hb : H b = some (.list us)) (hsz : vs.length + us.length ≤ 100000) (h : ∀ s', St C s₀ h₀ L own s' m (put H l (.list (vs ++ us))) → Q .none s') :
    wpAny (model prog w) A (call (.builtin "list.extend") [.ref l, .ref b]) Q E s := by
  obtain ⟨n, hn⟩ := S.list hl
  obtain ⟨n2, hn2⟩ := S.list hb
  have hsz' : vs.toArray.size + us.toArray.size ≤ sizeLine := by rw [List.size_toArray, List.size_toArray, sizeLine_eq]; omega
  refine call_meets PySem.F.slot_list_extend ⟨_, hn, rfl⟩ PySem.F.entry_list_extend (PySem.F.args_list_extend_2 _ _) (AutoSeq1.list_extend_list_list_0 l vs.toArray n b us.toArray n2 (extend_door hsz') (Nat.le_trans (Nat.le_add_right _ _) hsz') (Nat.le_succ_of_le hsz')) ⟨hn, hn2, h _ ?_⟩
  refine S.setList (tk := s.toks) hl (Heap.SameBut.update ..) ?_
  have e : vs.toArray ++ us.toArray = (vs ++ us).toArray := by simp
  exact ⟨_, by rw [Heap.get?_update_self _ hn (by rw [mapSeq_app]; rfl), mapSeq_app, e]⟩
theorem r_len {l : Addr} {vs : List Value} (S : St C s₀ h₀ L own s m H) (hl : H l = some (.list vs)) (hsz : vs.length ≤ 100000) (h : ∀ s' t, St C s₀ h₀ L own s' m H → Q (.int vs.length t) s') :
    wpAny (model prog w) A (call (.builtin "len") [.ref l]) Q E s := by
  refine len_list (S.isList hl) (by rw [List.size_toArray]; omega) ?_
  rw [List.size_toArray]
  exact h _ _ (S.tok _)
theorem r_add_lists {a b : Addr} {vs us : List Value} (S : St C s₀ h₀ L own s m H) (ha : s.heap.IsList a vs.toArray) (hb : s.heap.IsList b us.toArray) (hsz : vs.length + us.length ≤ 100000) (h : ∀ l s', H l = none → St C s₀ h₀ L own s' m (put H l (.list (vs ++ us))) → Q (.ref l) s') :
    wpAny (model prog w) A (binaryOp .Add (.ref a) (.ref b)) Q E s := by
  refine add_lists S.fr (news_full _ _ _) ha hb (fun h' F' N' => ?_) (by rw [sizeLine_eq]; omega)
  obtain ⟨q, S'⟩ := S.of_news1 (ao := .list (vs ++ us)) (tk := s.toks) F' N' (fun _ x => by cases x) fun h d e => ⟨0, e⟩
  exact h _ _ q S'
theorem foldl_rep (v : Value) (n : Nat) : List.foldl (fun x1 x2 => x1 ++ x2) #[] (List.replicate n #[v]) = (List.replicate n v).toArray := by
  have key : ∀ (n : Nat) (acc : List Value), List.foldl (fun x1 x2 => x1 ++ x2) acc.toArray (List.replicate n #[v]) = (acc ++ List.replicate n v).toArray := by
    intro n
    induction n with
    | zero => intro acc; simp
    | succ n ih =>
      intro acc
      rw [List.replicate_succ, List.foldl_cons, show acc.toArray ++ #[v] = (acc ++ [v]).toArray from by simp, ih, List.replicate_succ]
      simp
  simpa using key n []
theorem r_mul_list {l : Addr} {v : Value} {x : Int} {t : Tok} (S : St C s₀ h₀ L own s m H) (hl : H l = some (.list [v])) (h0 : 0 ≤ x) (hx : x ≤ 100000) (h : ∀ a s', H a = none → St C s₀ h₀ L own s' m (put H a (.list (List.replicate x.toNat v))) → Q (.ref a) s') :
    wpAny (model prog w) A (binaryOp .Mult (.ref l) (.int x t)) Q E s := by
  obtain ⟨n, hn⟩ := S.list hl
  refine PyProof.Rows.mul_list S.fr (news_full _ _ _) hn (by omega) (by omega) (by show 1 * x.toNat ≤ 2 ^ 24; omega) fun h' F' N' => ?_
  have e : List.foldl (fun x1 x2 => x1 ++ x2) #[] (List.replicate (if [v].toArray.isEmpty = true then 0 else x.toNat) [v].toArray) = (List.replicate x.toNat v).toArray := foldl_rep v x.toNat
  rw [e] at N'
  obtain ⟨q, S'⟩ := S.of_news1 (ao := .list (List.replicate x.toNat v)) (tk := s.toks) F' N' (fun _ x => by cases x) fun h d e => ⟨0, e⟩
  exact h _ _ q S'
theorem r_min {l : Addr} {vs : List Value} {ns : List Int} (c : Cx K p loose mean mg mb A env h₀ L d) (S : St C s₀ h₀ L own s m H) (hl : H l = some (.list vs)) (hi : IntsAre vs ns) (hne : 0 < ns.length)
    (h : ∀ s' M t, M ∈ ns → (∀ a ∈ ns, M ≤ a) → St C s₀ h₀ L own s' m H → Q (.int M t) s') : wpAny (model prog w) A (call (.builtin "min") [.ref l]) Q E s := by
  refine min_list_N c.handled S.fr (news_full h₀ L s.heap) (S.isList hl) hi hne fun h' M t tk F' N' hM hmin => h _ M t hM hmin ?_
  exact S.keep F' fun b o hL h0 e => (N' (b, o) (mem_full.mpr ⟨e, hL, h0⟩)).1

theorem tail_get {value slice : Expr} {l : Addr} {vs : List Value} {k : Int} {t : Tok} {v : Value} (S : St C s₀ h₀ L own s m H) (hl : H l = some (.list vs)) (h0 : 0 ≤ k) (hk : k < 2 ^ 63) (e : vs[k.toNat]? = some v) (hq : Q v s)
    (hs : subscripted slice false (.ref l) (.int k t) = operate [.ref l, .int k t] (getItem (.ref l) (.int k t)) := by rfl) :
    wpAny (model prog w) A (subscriptTail value slice (.ref l) (.int k t)) Q E s :=
  tail_any (S.isList hl).typeIs slot_list_getitem.lookup (wpAny_getItem_list (S.isList hl) h0 hk (by simpa using e) hq) hs
end
end Mine

end
section
open PySem PySem.W PySem.Calls PyProof.Rows PySem.Spec PySem.SeqAt
set_option Elab.async false
set_option maxRecDepth 100000
namespace Mine

/-! heaps that grow -/
def Sub (H H' : AH) : Prop := ∀ a o, H a = some o → H' a = some o
def SubX (X : List Addr) (H H' : AH) : Prop := ∀ a o, a ∉ X → H a = some o → H' a = some o
theorem Sub.refl {H : AH} : Sub H H := fun _ _ e => e
theorem Sub.trans {H H' H'' : AH} (h : Sub H H') (h' : Sub H' H'') : Sub H H'' := fun a o e => h' a o (h a o e)
theorem Sub.new {H H' : AH} {b : Addr} {o : AObj} (h : Sub H H') (hb : H' b = none) : Sub H (put H' b o) := fun _ _ e => put_new hb (h _ _ e)
theorem Sub.both {H H' : AH} {b : Addr} {o : AObj} (h : Sub H H') : Sub (put H b o) (put H' b o) := fun a ob e => by
  by_cases z : a = b
  · rw [z, put_same] at e ⊢; exact e
  · rw [put_ne z] at e ⊢; exact h _ _ e
theorem SubX.refl {X : List Addr} {H : AH} : SubX X H H := fun _ _ _ e => e
theorem SubX.new {X : List Addr} {H H' : AH} {b : Addr} {o : AObj} (h : SubX X H H') (hb : H' b = none) : SubX X H (put H' b o) := fun _ _ n e => put_new hb (h _ _ n e)
theorem SubX.at {X : List Addr} {H H' : AH} {b : Addr} {o : AObj} (h : SubX X H H') (hb : b ∈ X) : SubX X H (put H' b o) := fun _ _ n e => put_off (fun z => n (z ▸ hb)) (h _ _ n e)
theorem SubX.put {H H' : AH} {b : Addr} {o : AObj} (h : SubX [b] H H') (e : H' b = some o) : Sub (Mine.put H b o) H' := fun a ob q => by
  by_cases z : a = b
  · rw [z, put_same] at q; cases q; rw [z]; exact e
  · rw [put_ne z] at q; exact h _ _ (by simp [z]) q
theorem SubX.del {H H' : AH} {b : Addr} (h : SubX [b] H H') : Sub (Mine.del H b) H' := fun a ob q => by
  by_cases z : a = b
  · rw [z, del_same] at q; cases q
  · rw [del_ne z] at q; exact h _ _ (by simp [z]) q
theorem SubX.trans {X : List Addr} {H H' H'' : AH} (h : SubX X H H') (h' : SubX X H' H'') : SubX X H H'' := fun a o n e => h' a o n (h a o n e)
theorem Sub.toX {X : List Addr} {H H' : AH} (h : Sub H H') : SubX X H H' := fun a o _ e => h a o e
theorem Sub.none {H H' : AH} {a : Addr} (h : Sub H H') (e : H' a = none) : H a = none := by
  cases q : H a with
  | none => rfl
  | some o => rw [h a o q] at e; cases e
theorem del_none {H : AH} {a b : Addr} (h : H b = none) : del H a b = none := by unfold del; split; rfl; exact h

section
variable {K : Frag} {p : Program} {loose : List Str} {mean : ExcName → Option Value} {mg mb : Str → Option Value} {A : Around} {env : Env} {h₀ : Heap} {L : Addr} {d : Nat}
variable {prog : Program} {w : World} {C : Addr} {s₀ s : Shared} {own P : List (Addr × Obj)} {m : Str → Option Value} {H : AH} {Q : Value → Shared → Prop} {E : Value → Shared → Prop}

theorem r_add {a b : Int} {t u : Tok} (S : St C s₀ h₀ L own s m H) (h : ∀ s' t, St C s₀ h₀ L own s' m H → Q (.int (a + b) t) s') : wpAny (model prog w) A (binaryOp .Add (.int a t) (.int b u)) Q E s := add_int (h _ _ (S.tok _))
theorem r_sub {a b : Int} {t u : Tok} (S : St C s₀ h₀ L own s m H) (h : ∀ s' t, St C s₀ h₀ L own s' m H → Q (.int (a - b) t) s') : wpAny (model prog w) A (binaryOp .Sub (.int a t) (.int b u)) Q E s := sub_int (h _ _ (S.tok _))
theorem r_mod {a b : Int} {t u : Tok} (S : St C s₀ h₀ L own s m H) (hb : b ≠ 0) (h : ∀ s' t, St C s₀ h₀ L own s' m H → Q (.int (a.fmod b) t) s') : wpAny (model prog w) A (binaryOp .Mod (.int a t) (.int b u)) Q E s := mod_int' hb (h _ _ (S.tok _))
def Pyl (prog : Program) (w : World) (A : Around) (h₀ : Heap) : Prop := ∀ s : Shared, (∀ b o, h₀.get? b = some o → s.heap.get? b = some o) → PylongRoom (model prog w) A s
theorem r_fdiv {a b : Int} {t u : Tok} (pr : Pyl prog w A h₀) (S : St C s₀ h₀ L own s m H) (hb : b ≠ 0) (h : ∀ s' t, St C s₀ h₀ L own s' m H → Q (.int (a.fdiv b) t) s') : wpAny (model prog w) A (binaryOp .FloorDiv (.int a t) (.int b u)) Q E s :=
  floordiv_int hb (h _ _ (S.tok _)) (.inr (pr s S.fr.keep))
theorem r_neg {a : Int} {t : Tok} (S : St C s₀ h₀ L own s m H) (h : ∀ s' t, St C s₀ h₀ L own s' m H → Q (.int (-a) t) s') : wpAny (model prog w) A (unaryOp .USub (.int a t)) Q E s := neg_int (h _ _ (S.tok _))
theorem r_is_none {v : Value} (hv : v = .none ∨ ∃ a, v = .ref a) (h : Q (.bool (v == .none)) s) : wpAny (model prog w) A (compareOp .Is v .none) Q E s := by
  rcases hv with rfl | ⟨a, rfl⟩
  · exact wpAny_is_plain rfl h
  · exact wpAny_is_plain rfl h
theorem r_isnot_none {v : Value} (hv : v = .none ∨ ∃ a, v = .ref a) (h : Q (.bool (!(v == .none))) s) : wpAny (model prog w) A (compareOp .IsNot v .none) Q E s := by
  rcases hv with rfl | ⟨a, rfl⟩
  · exact wpAny_isNot_plain rfl h
  · exact wpAny_isNot_plain rfl h
theorem AtSet.mk' {x : Addr} {F : Flds} {fl : Fd} {v : Value} (S : St C s₀ h₀ L own s m H) (hx : H x = some (.src F)) (h : ∀ s', St C s₀ h₀ L own s' m (put H x (.src (F.set fl v))) → Q .none s') : AtSet C s₀ h₀ L own x fl Q v s := ⟨m, H, F, S, hx, h⟩
theorem AtNew.mk' {v : Value} (S : St C s₀ h₀ L own s m H) (h : ∀ x s', H x = none → St C s₀ h₀ L own s' m (put H x (.src ⟨v, .none, .none, .none, .none⟩)) → Q (.ref x) s') : AtNew C s₀ h₀ L own Q v s := ⟨m, H, S, h⟩
theorem Back.mk' {g : Heap} {L' : Addr} {m' : Str → Option Value} {H' H'' : AH} {v : Value} (S : St C s₀ g L' own s m' H') (hs : Sub H'' H') (h : St C s₀ h₀ L own s m H'' → Q v s) : Back C s₀ h₀ L own m g L' Q v s := ⟨m', H'', S.sub hs, h⟩
theorem calledWith {f : Value} {vs first : List Value} (S : St C s₀ h₀ L own s m H) (h : wpAny (model prog w) A (call f (first ++ vs)) Q E s) : (∃ m H, St C s₀ h₀ L own s m H) ∧ wpAny (model prog w) A (call f (first ++ vs)) Q E s := ⟨⟨m, H, S⟩, h⟩
theorem TurnQ.mk' {J : (Str → Option Value) → AH → Prop} {Q : Flow → Shared → Prop} (S : St C s₀ h₀ L own s m H) (j : J m H) : TurnQ C s₀ h₀ L own J Q .next s := ⟨m, H, S, j⟩
theorem St.sub' {H' : AH} (S : St C s₀ h₀ L own s m H) (h : Sub H' H) : St C s₀ h₀ L own s m H' := S.sub h
theorem ite_b {b : Bool} {P Q : Prop} (ht : b = true → P) (hf : b = false → Q) : if b = true then P else Q := by cases b <;> simp_all
end
end Mine

end
section
open PySem PySem.W PySem.Calls PyProof.Rows PySem.Spec PySem.SeqAt
set_option Elab.async false
set_option maxRecDepth 100000
namespace Mine

section
variable {K : Frag} {p : Program} {loose : List Str} {mean : ExcName → Option Value} {mg mb : Str → Option Value} {A : Around} {env : Env} {h₀ : Heap} {L : Addr} {d : Nat}
variable {prog : Program} {w : World} {C : Addr} {s₀ s : Shared} {own P : List (Addr × Obj)} {m : Str → Option Value} {H : AH} {Q : Value → Shared → Prop} {E : Value → Shared → Prop}

/-! tuples taken apart -/
theorem r_unpackItems {t : Addr} {vs : List Value} {n : Nat} {Q : List Value → Shared → Prop} (c : Cx K p loose mean mg mb A env h₀ L d) (S : St C s₀ h₀ L own s m H) (ht : H t = some (.raw (tupObj vs))) (hn : n = vs.length) (h : ∀ s', St C s₀ h₀ L own s' m H → Q vs s') :
    wpAny (model prog w) A (unpackItems (.ref t) n none) Q E s := by
  subst hn
  refine wpAny_unpackItems_tuple c.handled (S.isTuple ht) fun h' hx => h _ (S.grown fun b o e => hx b o (Nat.ne_of_lt (Heap.lt_size e)) e)
theorem r_assign_tup {env' : Env} {elts : List Expr} {x1 : Nat} {pos : Pos} {t : Addr} {vs : List Value} {Q : Unit → Shared → Prop} (c : Cx K p loose mean mg mb A env h₀ L d) (S : St C s₀ h₀ L own s m H) (ht : H t = some (.raw (tupObj vs)))
    (hn : (assignEach elts env').length = vs.length) (hstar : (assignEach elts env').findIdx? (·.1) = none) (h : ∀ s', St C s₀ h₀ L own s' m H → wpAny (model prog w) A (assignInOrder ((assignEach elts env').map (·.2)) vs) Q E s') :
    wpAny (model prog w) A (assign (.Tuple elts x1 pos) env' (.ref t)) Q E s :=
  wpAny_assign_Tuple c.handled (S.isTuple ht) (by simpa using hn) hstar fun h' hx => h _ (S.grown fun b o e => hx b o (Nat.ne_of_lt (Heap.lt_size e)) e)
theorem aio_cons {t : Value → Sem Unit} {ts : List (Value → Sem Unit)} {x : Value} {xs : List Value} {Q : Unit → Shared → Prop} (h : wpAny (model prog w) A (t x) (fun _ s' => wpAny (model prog w) A (assignInOrder ts xs) Q E s') E s) :
    wpAny (model prog w) A (assignInOrder (t :: ts) (x :: xs)) Q E s := wpAny_bind (wpAny_holding h)
theorem aio_nil {Q : Unit → Shared → Prop} (h : Q () s) : wpAny (model prog w) A (assignInOrder [] []) Q E s := wpAny_pure h
theorem r_is_nn (h : Q (.bool true) s) : wpAny (model prog w) A (compareOp .Is .none .none) Q E s := wpAny_is_self rfl h
theorem r_is_rn {a : Addr} (h : Q (.bool false) s) : wpAny (model prog w) A (compareOp .Is (.ref a) .none) Q E s := wpAny_is_other rfl (fun x => by cases x) h
theorem r_isnot_nn (h : Q (.bool false) s) : wpAny (model prog w) A (compareOp .IsNot .none .none) Q E s := wpAny_isNot_self rfl h
theorem r_isnot_rn {a : Addr} (h : Q (.bool true) s) : wpAny (model prog w) A (compareOp .IsNot (.ref a) .none) Q E s := wpAny_isNot_other rfl (fun x => by cases x) h
end

/-! more depth than is asked -/
theorem Cx.le {K : Frag} {p : Program} {loose : List Str} {mean : ExcName → Option Value} {mg mb : Str → Option Value} {A : Around} {env : Env} {h₀ : Heap} {L : Addr} {d d' : Nat} (c : Cx K p loose mean mg mb A env h₀ L d) (h : d' ≤ d) : Cx K p loose mean mg mb A env h₀ L d' :=
  ⟨c.below, c.X, c.T, c.frame, c.kind, c.loc, c.glb, c.blt, c.handled, by have := c.room; omega, by have := c.units; omega⟩
end Mine

end
section
open PySem PySem.W PySem.Calls PyProof.Rows PySem.Spec PySem.SeqAt
set_option Elab.async false
set_option maxRecDepth 100000
namespace Mine

/-! comprehensions -/
def ObjNs (o : Obj) (mc : Str → Option Value) : Prop := ∃ es ep, o.data = .dict es ep ∧ StrKeys es ∧ ∀ name, nsFind es name = mc name
theorem ObjNs.ns {o : Obj} {mc : Str → Option Value} {h : Heap} {a : Addr} (x : ObjNs o mc) (e : h.get? a = some o) : h.Ns a mc := let ⟨es, ep, r⟩ := x; ⟨o, es, ep, e, r⟩
theorem ns_obj {h : Heap} {a : Addr} {mc : Str → Option Value} (x : h.Ns a mc) : ∃ o, h.get? a = some o ∧ ObjNs o mc := let ⟨o, es, ep, e, r⟩ := x; ⟨o, e, es, ep, r⟩

section
variable {C : Addr} {s₀ : Shared} {h₀ : Heap} {L : Addr} {own P P' : List (Addr × Obj)} {s : Shared} {m : Str → Option Value} {H : AH}
theorem St.reheld (S : St C s₀ h₀ L (P ++ own) s m H) {h' : Heap} {tk : Nat} (F : Fr h₀ L h' m) (k : ∀ b o, (∀ p ∈ P, p.1 ≠ b) → b ≠ L → h₀.get? b = none → s.heap.get? b = some o → h'.get? b = some o)
    (hP : ∀ p ∈ P', h'.get? p.1 = some p.2 ∧ ∃ q ∈ P, q.1 = p.1) (hd : ∀ p ∈ P, ∀ q ∈ own, p.1 ≠ q.1) : St C s₀ h₀ L (P' ++ own) { s with heap := h', toks := tk } m H :=
  ⟨F, let ⟨δ, R⟩ := S.rep; ⟨δ, R.reheld k hP hd⟩, S.gens, S.drawn, S.os⟩
theorem St.held (S : St C s₀ h₀ L P s m H) {q : Addr × Obj} (hq : q ∈ P) : s.heap.get? q.1 = some q.2 ∧ q.1 ≠ L ∧ h₀.get? q.1 = none := let ⟨_, R⟩ := S.rep; R.news q hq
theorem St.perm (S : St C s₀ h₀ L P s m H) (h : ∀ q ∈ P', q ∈ P) : St C s₀ h₀ L P' s m H :=
  ⟨S.fr, let ⟨δ, R⟩ := S.rep; ⟨δ, R.real, R.new, R.dnew, R.doff, R.dinj, fun q hq => R.news q (h q hq), fun q hq => R.ownH q (h q hq), fun q hq => R.ownd q (h q hq)⟩, S.gens, S.drawn, S.os⟩
/-- one thing that is held changes -/
theorem St.held_set (S : St C s₀ h₀ L P s m H) {h' : Heap} {tk : Nat} {a : Addr} {o o' : Obj} {A B : List (Addr × Obj)} (hP : P = A ++ (a, o) :: B) (hA : ∀ q ∈ A, q.1 ≠ a) (hB : ∀ q ∈ B, q.1 ≠ a) (hs : Heap.SameBut a s.heap h') (hg : h'.get? a = some o') :
    St C s₀ h₀ L (A ++ (a, o') :: B) { s with heap := h', toks := tk } m H := by
  subst hP
  have ha := S.held (q := (a, o)) (List.mem_append_right _ (.head _))
  have S1 : St C s₀ h₀ L ([(a, o)] ++ (A ++ B)) s m H := S.perm fun q hq => by
    rcases List.mem_append.mp hq with hq | hq
    · rw [List.mem_singleton.mp hq]; exact List.mem_append_right _ (.head _)
    · rcases List.mem_append.mp hq with hq | hq
      · exact List.mem_append_left _ hq
      · exact List.mem_append_right _ (.tail _ hq)
  have S2 := S1.reheld (P' := [(a, o')]) (tk := tk) (Fr.of_but S.fr ha.2.1 ha.2.2 fun b ob hb e => (hs.2 b hb).trans e) (fun b ob hb _ _ e => (hs.2 b (fun z => hb (a, o) (.head _) z.symm)).trans e) (fun q hq => by rw [List.mem_singleton.mp hq]; exact ⟨hg, (a, o), .head _, rfl⟩)
    (fun q hq r hr => by
      rw [List.mem_singleton.mp hq]
      rcases List.mem_append.mp hr with hr | hr
      · exact (hA r hr).symm
      · exact (hB r hr).symm)
  refine S2.perm fun q hq => ?_
  rcases List.mem_append.mp hq with hq | hq
  · exact List.mem_append_right _ (List.mem_append_left _ hq)
  · rcases List.mem_cons.mp hq with hq | hq
    · rw [hq]; exact .head _
    · exact List.mem_append_right _ (List.mem_append_right _ hq)
end

section
variable {prog : Program} {w : World} {A : Around} {E : Value → Shared → Prop} {R : Result → Shared → Prop} {s : Shared}
theorem code_compLoop {elt target iter : Expr} {ifs : List Expr} {scope : Scope} {pos : Pos} {it acc : Value} {env : Env} (I : Nat → Shared → Prop)
    (turn : ∀ n s, I n s → wpAny (model prog w) A (pyNext it) (fun r s₁ => match r with
      | none => R (.ok .next) s₁
      | some v => wpAny (model prog w) A (letOwnedTupleGo target it v) (fun _ s₁' => wpAny (model prog w) A (assign target env v) (fun _ s₂ =>
          wpAny (model prog w) A (forIn ifs true fun c r => if r = true then do let ok ← isTrue c env (eval c env); pure (ForInStep.yield ok) else pure (ForInStep.yield r)) (fun ok s₃ =>
            if ok = true then wpAny (model prog w) A (eval elt env) (fun x s₄ => wpAny (model prog w) A (call (.builtin "list.append") [acc, x]) (fun _ s₅ => ∃ m, m < n ∧ I m s₅) NoE s₄) NoE s₃
            else ∃ m, m < n ∧ I m s₃) NoE s₂) NoE s₁') NoE s₁) NoE s)
    (n : Nat) (h : I n s) : codeAny (model prog w) A (.compLoop (.ListComp elt [⟨target, iter, ifs, 0⟩] scope pos) 0 it acc env) R s := by
  refine codeAny_loop rfl I (fun n s hI => ?_) n h
  show wpAny _ A ((compTurn (.ListComp elt [⟨target, iter, ifs, 0⟩] scope pos) 0 it acc env).onRaise (fun x => do noteFrame x env; theTreesLotGoes x)) _ _ s
  refine wpAny_noted (wp_noE ?_)
  rw [compTurn_list]
  refine wpAny_bind (wpAny_standAt (wpAny_bind (wpAny_mono (turn n s hI) (fun r s₁ h₁ => ?_) fun _ _ y => y)))
  cases r with
  | none => exact wpAny_pure h₁
  | some v =>
    refine wpAny_bind (wpAny_mono h₁ (fun _ s₁' h₁' => wpAny_bind (wpAny_mono h₁' (fun _ s₂ h₂ => wpAny_bind (wpAny_mono h₂ (fun ok s₃ h₃ => ?_) fun _ _ y => y)) fun _ _ y => y)) fun _ _ y => y)
    cases ok with
    | false => exact wpAny_pure ⟨rfl, h₃⟩
    | true => exact wpAny_bind (wpAny_bind (wpAny_mono h₃ (fun x s₄ h₄ => wpAny_bind (wpAny_mono h₄ (fun _ s₅ h₅ => wpAny_pure (wpAny_pure ⟨rfl, h₅⟩)) fun _ _ y => y)) fun _ _ y => y))

theorem letGo_list {target : Expr} {I l : Addr} {i : Nat} {v : Value} {Q : Unit → Shared → Prop} (hI : s.heap.IsListIter I l i) (h : Q () s) : wpAny (model prog w) A (letOwnedTupleGo target (.ref I) v) Q E s := by
  obtain ⟨o, ho, hc, hd⟩ := hI
  unfold letOwnedTupleGo
  have key : wpAny (model prog w) A (do
    let (.ref r, .ref a) := (Value.ref I, v) | return
    let o ← load r
    match o.cls, o.data with
    | .type n, .fields vs =>
      if ["enumerate", "zip", "dict_itemiterator", "dict_reverseitemiterator", "odict_iterator", "itertools.zip_longest", "itertools.pairwise"].contains n && vs[0]? == some (rawInt a) then
        rule "for.unpacks-the-owned-tuple"
        setField (.ref r) 0 .none
    | _, _ => pure ()) Q E s := by
    cases v with
    | ref a =>
      refine wpAny_bind (wpAny_load ho ?_)
      rw [hc, hd]
      exact wpAny_pure h
    | _ => exact wpAny_pure h
  cases target <;> first | exact key | exact wpAny_pure h
end

section
variable {K : Frag} {p : Program} {loose : List Str} {mean : ExcName → Option Value} {mg mb : Str → Option Value} {A : Around} {env : Env} {h₀ : Heap} {L : Addr} {d : Nat}
variable {prog : Program} {w : World} {C : Addr} {s₀ s : Shared} {own : List (Addr × Obj)} {m : Str → Option Value} {H : AH} {E : Value → Shared → Prop}

/-- an element was reckoned -/
def CompPut (C : Addr) (s₀ : Shared) (h₀ : Heap) (L : Addr) (own : List (Addr × Obj)) (Cc : Addr) (m : Str → Option Value) (J : List Value → AH → Prop) (ys : List Value) (y : Value) (s : Shared) : Prop :=
  ∃ o mc H, ObjNs o mc ∧ St C s₀ h₀ L ((Cc, o) :: own) s m H ∧ J (ys ++ [y]) H
def CompSkip (C : Addr) (s₀ : Shared) (h₀ : Heap) (L : Addr) (own : List (Addr × Obj)) (Cc : Addr) (m : Str → Option Value) (J : List Value → AH → Prop) (ys : List Value) (s : Shared) : Prop :=
  ∃ o mc H, ObjNs o mc ∧ St C s₀ h₀ L ((Cc, o) :: own) s m H ∧ J ys H
def CompStep (prog : Program) (w : World) (A : Around) (C : Addr) (s₀ : Shared) (h₀ : Heap) (L : Addr) (env : Env) (scope : Scope) (cl : List (Str × Addr)) (target : Expr) (ifs : List Expr) (elt : Expr) (m : Str → Option Value) (vs : List Value) (J : Nat → List Value → AH → Prop) : Prop :=
  ∀ i v ys H₁ Cc o mc own₁ s₁, vs[i]? = some v → J i ys H₁ → ObjNs o mc → (∀ q ∈ own₁, q.1 ≠ Cc) → St C s₀ h₀ L ((Cc, o) :: own₁) s₁ m H₁ →
    wpAny (model prog w) A (assign target (compEnvC scope cl Cc env) v) (fun _ s₂ =>
      wpAny (model prog w) A (forIn ifs true fun c r => if r = true then do let ok ← isTrue c (compEnvC scope cl Cc env) (eval c (compEnvC scope cl Cc env)); pure (ForInStep.yield ok) else pure (ForInStep.yield r)) (fun ok s₃ =>
        if ok = true then wpAny (model prog w) A (eval elt (compEnvC scope cl Cc env)) (CompPut C s₀ h₀ L own₁ Cc m (J (i + 1)) ys) NoE s₃ else CompSkip C s₀ h₀ L own₁ Cc m (J (i + 1)) ys s₃) NoE s₂) NoE s₁

theorem code_comp {elt target iter : Expr} {ifs : List Expr} {scope : Scope} {cl : List (Str × Addr)} {pos : Pos} {l : Addr} {vs : List Value} {J : Nat → List Value → AH → Prop} {RR : Value → Addr → Result → Shared → Prop}
    (c : Cx K p loose mean mg mb A env h₀ L d) (S : St C s₀ h₀ L own s m H) (hl : H l = some (.list vs)) (hsz : vs.length ≤ 10000) (h0 : J 0 [] (del H l)) (hJ : ∀ i ys H, J i ys H → ys.length ≤ i)
    (step : CompStep prog w A C s₀ h₀ L env scope cl target ifs elt m vs J) (hcell : ∀ y ∈ scope.names, y.2 ≠ .cell) (hkind : scope.kind = .function)
    (hRR : ∀ D Cc o mc ys H₁ s₁, J vs.length ys H₁ → H₁ l = none → H₁ D = none → D ≠ l → ObjNs o mc → (∀ q ∈ own, q.1 ≠ Cc) → St C s₀ h₀ L ((Cc, o) :: own) s₁ m (put (put H₁ l (.list vs)) D (.list ys)) → RR (.ref D) Cc (.ok .next) s₁) :
    wpAny (model prog w) A (pyIter (.ref l)) (fun it s₂ => wpAny (model prog w) A (newList []) (fun acc s₃ => wpAny (model prog w) A (newFunctionEnv scope env.globals cl [] env.qual none .none (some env)) (fun cenv s₄ =>
      codeAny (model prog w) A (.compStart (.ListComp elt [⟨target, iter, ifs, 0⟩] scope pos) 0 it acc { cenv with scope := relabel scope env }) (RR acc cenv.locals) s₄) E s₃) E s₂) E s := by
  refine wpAny_pyIter_list (S.isList hl) ?_
  -- the iterator, the new list, the new names
  obtain ⟨hi, S1⟩ := S.pushed (o := { cls := .type "list_iterator", data := .fields #[.ref l, .int 0 0] }) (ao := .raw { cls := .type "list_iterator", data := .fields #[.ref l, .int 0 0] }) (tk := s.toks) (fun _ x => by cases x) rfl fun h d e => e
  generalize hIa : s.heap.objs.size = I at *
  have hlI : l ≠ I := fun z => by rw [z, hi] at hl; cases hl
  refine r_newList S1 (fun D s2 hD S2 => ?_) (by rw [sizeLine_eq]; decide)
  have hDI : D ≠ I := fun z => by rw [z, put_same] at hD; cases hD
  have hHD : H D = none := by rwa [put_ne hDI] at hD
  have hDl : D ≠ l := fun z => by rw [z, hl] at hHD; cases hHD
  refine wpAny_newFunctionEnv hcell (by intro y hy; simp at hy) (fun h₁ hns₁ hsb₁ => ?_) hkind
  have hnew := S2.at_new
  have hC1 : s2.heap.get? s2.heap.objs.size = none := hnew.2.2
  generalize hCa : s2.heap.objs.size = Cc at *
  obtain ⟨oc, hoc, hON⟩ := ns_obj hns₁
  have k1 : ∀ b o, s2.heap.get? b = some o → h₁.get? b = some o := fun b o e => by
    refine (hsb₁.2 b (fun z => by rw [z, hC1] at e; cases e)).trans ?_
    exact Heap.get?_push_of_some _ e
  obtain ⟨hHC, S3⟩ := S2.add (tk := s2.toks + ([] : List (Str × Value)).length) (o := .raw oc) (Fr.of_ext S2.fr k1) (fun _ x => by cases x) hC1 hnew.1 hnew.2.1 (fun b ob _ _ e => k1 b ob e) (fun d => hoc)
  -- all are held
  have e1 : put (put (put H I (.raw { cls := .type "list_iterator", data := .fields #[.ref l, .int 0 0] })) D (.list [])) Cc (.raw oc) l = some (.list vs) := put_new hHC (put_off hDl.symm (put_off hlI hl))
  have hCl : Cc ≠ l := fun z => by rw [z] at hHC; rw [put_off hDl.symm (put_off hlI hl)] at hHC; cases hHC
  have hCD : Cc ≠ D := fun z => by rw [z, put_same] at hHC; cases hHC
  have hCI : Cc ≠ I := fun z => by rw [z, put_off hDI.symm put_same] at hHC; cases hHC
  have hHCc : H Cc = none := by rw [put_ne hCD, put_ne hCI] at hHC; exact hHC
  obtain ⟨o1, ho1, T1⟩ := S3.hold e1 (fun _ x => by cases x)
  obtain ⟨o2, ho2, T2⟩ := T1.hold (a := I) ((del_ne hlI.symm).trans ((put_ne hCI.symm).trans ((put_ne hDI.symm).trans put_same))) (fun _ x => by cases x)
  obtain ⟨o3, ho3, T3⟩ := T2.hold (a := D) ((del_ne hDI).trans ((del_ne hDl).trans ((put_ne hCD.symm).trans put_same))) (fun _ x => by cases x)
  obtain ⟨o4, ho4, T4⟩ := T3.hold (a := Cc) ((del_ne hCD).trans ((del_ne hCI).trans ((del_ne hCl).trans put_same))) (fun _ x => by cases x)
  have eH : del (del (del (del (put (put (put H I (.raw { cls := .type "list_iterator", data := .fields #[.ref l, .int 0 0] })) D (.list [])) Cc (.raw oc)) l) I) D) Cc = del H l := by
    funext b
    unfold del put
    by_cases z1 : b = l
    · simp [z1]
    · by_cases z2 : b = I
      · simp [z2, hi]
      · by_cases z3 : b = D
        · simp [z3, hHD]
        · by_cases z4 : b = Cc
          · simp [z4, hHCc]
          · simp [z1, z2, z3, z4]
  rw [eH] at T4
  have hl1 : h₁.IsList l vs.toArray := S3.isList e1
  obtain ⟨nn, hnn⟩ := S3.list e1
  have ho1' : o1 = listObj vs nn := by
    have q : h₁.get? l = some o1 := ho1
    have q2 : h₁.get? l = some (listObj vs nn) := hnn
    rw [q2] at q; exact (Option.some.inj q).symm
  have ho4' : o4 = oc := by
    have q : h₁.get? Cc = some o4 := ho4
    rw [hoc] at q; exact (Option.some.inj q).symm
  have hI1 : h₁.IsListIter I l 0 := by
    have q : h₁.get? I = some { cls := .type "list_iterator", data := .fields #[.ref l, .int 0 0] } := S3.raw ((put_ne hCI.symm).trans ((put_ne hDI.symm).trans put_same))
    exact ⟨_, q, rfl, rfl⟩
  obtain ⟨n3, hn3⟩ := S3.list (a := D) (vs := []) ((put_ne hCD.symm).trans put_same)
  have ho3' : o3 = listObj [] n3 := by
    have q : h₁.get? D = some o3 := ho3
    have q2 : h₁.get? D = some (listObj [] n3) := hn3
    rw [q2] at q; exact (Option.some.inj q).symm
  subst ho1' ho4' ho3'
  have W := Walks.list (prog := prog) (w := w) (A := A) c.handled I l hlI vs.toArray
  have hl3 : ∀ q ∈ own, q.1 ≠ l := S3.own_ne e1
  have hI3 : ∀ q ∈ own, q.1 ≠ I := S3.own_ne ((put_ne hCI.symm).trans ((put_ne hDI.symm).trans put_same))
  have hD3 : ∀ q ∈ own, q.1 ≠ D := S3.own_ne ((put_ne hCD.symm).trans put_same)
  have hC3 : ∀ q ∈ own, q.1 ≠ Cc := S3.own_ne put_same
  have loop : ∀ s₃ : Shared, s₃ = { s2 with heap := h₁, toks := s2.toks + ([] : List (Str × Value)).length } →
      codeAny (model prog w) A (.compLoop (.ListComp elt [⟨target, iter, ifs, 0⟩] scope pos) 0 (.ref I) (.ref D) (compEnvC scope cl Cc env)) (RR (.ref D) Cc) s₃ := by
    rintro s₃ rfl
    refine code_compLoop (fun k s' => ∃ i ys H' o oi nD mc, St C s₀ h₀ L ((Cc, o) :: (D, listObj ys nD) :: (I, oi) :: (l, listObj vs nn) :: own) s' m H' ∧ ObjNs o mc ∧ s'.heap.IsListIter I l i ∧ J i ys H' ∧ i ≤ vs.length ∧ k = vs.length + 1 - i) ?_ (vs.length + 1)
      ⟨0, [], del H l, _, o2, n3, _, T4, hON, hI1, h0, Nat.zero_le _, rfl⟩
    rintro k s' ⟨i, ys, H', o, oi, nD, mc, S', hO, hit, hJi, hile, rfl⟩
    have hl' : s'.heap.IsList l vs.toArray := ⟨_, (S'.held (q := (l, listObj vs nn)) (by simp)).1, rfl, nn, rfl⟩
    by_cases hlt : i < vs.length
    · have hx : vs.toArray[i]? = some vs[i] := by simp [hlt]
      refine wpAny_pyNext_list_item hit hl' hx fun h' hit' hs' => ?_
      obtain ⟨oi', hoi', hic', hid'⟩ := id hit'
      have S5 := S'.held_set (tk := s'.toks) (A := [(Cc, o), (D, listObj ys nD)]) (B := (l, listObj vs nn) :: own) (a := I) (o := oi) (o' := oi') rfl
        (fun q hq => by
          rcases List.mem_cons.mp hq with rfl | hq
          · exact hCI
          · rw [List.mem_singleton.mp hq]; exact hDI)
        (fun q hq => by
          rcases List.mem_cons.mp hq with rfl | hq
          · exact hlI
          · exact hI3 q hq) hs' hoi'
      have hC9 : ∀ q ∈ (D, listObj ys nD) :: (I, oi') :: (l, listObj vs nn) :: own, q.1 ≠ Cc := fun q hq => by
        rcases List.mem_cons.mp hq with rfl | hq
        · exact hCD.symm
        · rcases List.mem_cons.mp hq with rfl | hq
          · exact hCI.symm
          · rcases List.mem_cons.mp hq with rfl | hq
            · exact hCl.symm
            · exact hC3 q hq
      refine letGo_list hit' ?_
      refine wpAny_mono (step i vs[i] ys H' Cc o mc _ _ (by simp [hlt]) hJi hO hC9 S5) (fun _ s₂ h₂ => wpAny_mono h₂ (fun ok s₃ h₃ => ?_) fun _ _ y => y) fun _ _ y => y
      have itn : ∀ {s₄ : Shared} {P}, St C s₀ h₀ L P s₄ m H' ∨ (∃ H₂, St C s₀ h₀ L P s₄ m H₂) → (I, oi') ∈ P → s₄.heap.IsListIter I l (i + 1) := fun hS hP => by
        rcases hS with hS | ⟨H₂, hS⟩
        · exact ⟨oi', (hS.held hP).1, hic', hid'⟩
        · exact ⟨oi', (hS.held hP).1, hic', hid'⟩
      cases ok with
      | false =>
        obtain ⟨o', mc', H₂, hO', S₃, hJ₃⟩ := h₃
        exact ⟨vs.length + 1 - (i + 1), by omega, i + 1, ys, H₂, o', oi', nD, mc', S₃, hO', itn (.inr ⟨_, S₃⟩) (by simp), hJ₃, hlt, rfl⟩
      | true =>
        refine wpAny_mono h₃ (fun y s₄ h₄ => ?_) fun _ _ y => y
        obtain ⟨o', mc', H₂, hO', S₄, hJ₄⟩ := h₄
        have hDl4 : s₄.heap.PlainList D ys.toArray := ⟨nD, (S₄.held (q := (D, listObj ys nD)) (by simp)).1⟩
        have hys := hJ _ _ _ hJi
        refine wpAny_list_append_plain hDl4 (fun h5 hp5 hs5 => ?_) (by rw [List.size_toArray, sizeLine_eq]; omega)
        obtain ⟨n5, hn5⟩ := hp5
        have S5 := S₄.held_set (tk := s₄.toks) (A := [(Cc, o')]) (B := (I, oi') :: (l, listObj vs nn) :: own) (a := D) (o := listObj ys nD) (o' := listObj (ys ++ [y]) n5) rfl
          (fun q hq => by rw [List.mem_singleton.mp hq]; exact hCD)
          (fun q hq => by
            rcases List.mem_cons.mp hq with rfl | hq
            · exact hDI.symm
            · rcases List.mem_cons.mp hq with rfl | hq
              · exact hDl.symm
              · exact hD3 q hq) hs5 (by rw [hn5]; simp)
        exact ⟨vs.length + 1 - (i + 1), by omega, i + 1, ys ++ [y], H₂, o', oi', n5, mc', S5, hO', itn (.inr ⟨_, S5⟩) (by simp), hJ₄, hlt, rfl⟩
    · have hin : i = vs.length := by omega
      subst hin
      refine wpAny_pyNext_list_end c.handled hit hl' (by simp) fun h' hx => ?_
      have S5 : St C s₀ h₀ L ([(I, oi)] ++ ((l, listObj vs nn) :: (D, listObj ys nD) :: (Cc, o) :: own)) s' m H' := S'.perm fun q hq => by
        simp only [List.singleton_append, List.mem_cons] at hq ⊢
        rcases hq with h | h | h | h | h
        · exact .inr (.inr (.inl h))
        · exact .inr (.inr (.inr (.inl h)))
        · exact .inr (.inl h)
        · exact .inl h
        · exact .inr (.inr (.inr (.inr h)))
      have hIh := S'.held (q := (I, oi)) (by simp)
      have S6 := S5.reheld (P' := []) (tk := s'.toks) (Fr.of_but S'.fr hIh.2.1 hIh.2.2 fun b ob hb e => hx b ob hb e) (fun b ob hb _ _ e => hx b ob (fun z => hb (I, oi) (.head _) z.symm) e) (fun q hq => by cases hq)
        (fun q hq r hr => by
          rw [List.mem_singleton.mp hq]
          rcases List.mem_cons.mp hr with rfl | hr
          · exact hlI.symm
          · rcases List.mem_cons.mp hr with rfl | hr
            · exact hDI.symm
            · rcases List.mem_cons.mp hr with rfl | hr
              · exact hCI.symm
              · exact (hI3 r hr).symm)
      have S6' : St C s₀ h₀ L ((l, listObj vs nn) :: (D, listObj ys nD) :: (Cc, o) :: own) { s' with heap := h', toks := s'.toks } m H' := S6
      obtain ⟨q1, S7⟩ := S6'.unhold (o := .list vs) (fun _ x => by cases x) (fun h d e => ⟨nn, e⟩) (fun q hq => by
        rcases List.mem_cons.mp hq with rfl | hq
        · exact hDl
        · rcases List.mem_cons.mp hq with rfl | hq
          · exact hCl
          · exact hl3 q hq)
      obtain ⟨q2, S8⟩ := S7.unhold (o := .list ys) (fun _ x => by cases x) (fun h d e => ⟨nD, e⟩) (fun q hq => by
        rcases List.mem_cons.mp hq with rfl | hq
        · exact hCD
        · exact hD3 q hq)
      exact hRR D Cc o mc ys H' _ hJi q1 (by rwa [put_ne hDl] at q2) hDl hO hC3 S8
  exact codeAny_compStart_list (loop _ rfl) (wpAny_pyIter_listiter hI1 (loop _ rfl))

/-- a comprehension, reckoned -/
def CompL (prog : Program) (w : World) (A : Around) (C : Addr) (s₀ : Shared) (h₀ : Heap) (L : Addr) (own : List (Addr × Obj)) (env : Env) (scope : Scope) (cl : List (Str × Addr)) (target : Expr) (ifs : List Expr) (elt : Expr) (Q : Value → Shared → Prop) (xv : Value) (s : Shared) : Prop :=
  ∃ (l : Addr) (vs : List Value) (m : Str → Option Value) (H : AH) (J : Nat → List Value → AH → Prop), xv = .ref l ∧ St C s₀ h₀ L own s m H ∧ H l = some (.list vs) ∧ vs.length ≤ 10000 ∧ J 0 [] (del H l) ∧ (∀ i ys H, J i ys H → ys.length ≤ i) ∧
    CompStep prog w A C s₀ h₀ L env scope cl target ifs elt m vs J ∧
    ∀ D ys H₁ s₁, J vs.length ys H₁ → H₁ l = none → H₁ D = none → D ≠ l → St C s₀ h₀ L own s₁ m (put (put H₁ l (.list vs)) D (.list ys)) → Q (.ref D) s₁
theorem St.sameC {Cc : Addr} {o : Obj} {h' : Heap} (S : St C s₀ h₀ L ((Cc, o) :: own) s m H) (hC : ∀ q ∈ own, q.1 ≠ Cc) (hs : Heap.SameBut Cc s.heap h') : St C s₀ h₀ L own { s with heap := h' } m H := by
  have hh := S.held (q := (Cc, o)) (.head _)
  have S' : St C s₀ h₀ L ([(Cc, o)] ++ own) s m H := S
  exact S'.reheld (P' := []) (tk := s.toks) (Fr.of_but S.fr hh.2.1 hh.2.2 fun b ob hb e => (hs.2 b hb).trans e) (fun b ob hb _ _ e => (hs.2 b (fun z => hb (Cc, o) (.head _) z.symm)).trans e) (fun q hq => by cases hq)
    (fun q hq r hr => by rw [List.mem_singleton.mp hq]; exact (hC r hr).symm)
theorem r_comp {elt target iter : Expr} {ifs : List Expr} {scope : Scope} {cl : List (Str × Addr)} {pos : Pos} {Q : Value → Shared → Prop} (c : Cx K p loose mean mg mb A env h₀ L d) (_S : St C s₀ h₀ L own s m H)
    (h : wpAny (model prog w) A (eval iter env) (CompL prog w A C s₀ h₀ L own env scope cl target ifs elt Q) NoE s)
    (hclos : closureFor scope env = pure cl) (hcell : ∀ y ∈ scope.names, y.2 ≠ .cell) (hkind : scope.kind = .function) (hnames : ∀ y ∈ scope.names, y.2 = .local → scope.names.lookup y.1 = some .local) (hs : ∀ x, foldedSetIterable iter env x = pure x) :
    wpAny (model prog w) A (eval (.ListComp elt [⟨target, iter, ifs, 0⟩] scope pos) env) Q NoE s := by
  rw [eval_ListComp]
  refine wpAny_comprehension_free rfl hs hclos hkind hnames (wpAny_mono h (fun xv s₁ hf => ?_) fun _ _ y => y)
  obtain ⟨l, vs, m, H, J, rfl, S, hl, hsz, h0, hJ, step, done⟩ := hf
  refine code_comp (RR := fun acc Cc r s' => compPost (model prog w) A NoE none Q acc Cc r s') c S hl hsz h0 hJ step hcell hkind fun D Cc o mc ys H₁ s₁ hj q1 q2 q3 hO hC S₁ => ?_
  exact ⟨mc, hO.ns (S₁.held (q := (Cc, o)) (.head _)).1, fun h' hs' => done D ys H₁ _ hj q1 q2 q3 (S₁.sameC hC hs')⟩
/-- a comprehension, bound to a name -/
def CompA (prog : Program) (w : World) (A : Around) (C : Addr) (s₀ : Shared) (h₀ : Heap) (L : Addr) (own : List (Addr × Obj)) (env : Env) (scope : Scope) (cl : List (Str × Addr)) (target : Expr) (ifs : List Expr) (elt : Expr) (y : Str) (Q : Flow → Shared → Prop) (xv : Value) (s : Shared) : Prop :=
  ∃ (l : Addr) (vs : List Value) (m : Str → Option Value) (H : AH) (J : Nat → List Value → AH → Prop), xv = .ref l ∧ St C s₀ h₀ L own s m H ∧ H l = some (.list vs) ∧ vs.length ≤ 10000 ∧ J 0 [] (del H l) ∧ (∀ i ys H, J i ys H → ys.length ≤ i) ∧
    CompStep prog w A C s₀ h₀ L env scope cl target ifs elt m vs J ∧
    ∀ D ys H₁ s₁, J vs.length ys H₁ → H₁ l = none → H₁ D = none → D ≠ l → St C s₀ h₀ L own s₁ (upd m y (.ref D)) (put (put H₁ l (.list vs)) D (.list ys)) → Q .next s₁
theorem r_assign_comp {elt target iter : Expr} {ifs : List Expr} {scope : Scope} {cl : List (Str × Addr)} {pos spos py : Pos} {y : Str} {Q : Flow → Shared → Prop} (c : Cx K p loose mean mg mb A env h₀ L d) (_S : St C s₀ h₀ L own s m H)
    (h : wpAny (model prog w) A (eval iter env) (CompA prog w A C s₀ h₀ L own env scope cl target ifs elt y Q) NoE s) (hsw : swapsWith (.ListComp elt [⟨target, iter, ifs, 0⟩] scope pos) (some (.Name y py)) spos.line env = pure true)
    (hclos : closureFor scope env = pure cl) (hcell : ∀ y ∈ scope.names, y.2 ≠ .cell) (hkind : scope.kind = .function) (hnames : ∀ y ∈ scope.names, y.2 = .local → scope.names.lookup y.1 = some .local) (hs : ∀ x, foldedSetIterable iter env x = pure x)
    (hy : env.kindOf y = some .local) : wpAny (model prog w) A (exec (.Assign [.Name y py] (.ListComp elt [⟨target, iter, ifs, 0⟩] scope pos) spos) env) Q NoE s := by
  rw [exec_Assign_Name_used _ _ _ _ hsw]
  refine wpAny_bind (wpAny_standAt (wpAny_bind ?_))
  show wpAny _ A (do let _ ← comprehension (.ListComp elt [⟨target, iter, ifs, 0⟩] scope pos) scope env _ (newList []) false (eval iter env) (some (assign (.Name y py) env))) _ _ s
  refine wpAny_bind (wpAny_mono (wpAny_comprehension_free (Q := fun _ s' => Q .next s') rfl hs hclos hkind hnames (wpAny_mono h (fun xv s₁ hf => ?_) fun _ _ y => y)) (fun _ s' hq => wpAny_pure (wpAny_pure hq)) fun _ _ e => e)
  obtain ⟨l, vs, m, H, J, rfl, S, hl, hsz, h0, hJ, step, done⟩ := hf
  refine code_comp (RR := fun acc Cc r s' => compPost (model prog w) A NoE (some (assign (.Name y py) env)) (fun _ s' => Q .next s') acc Cc r s') c S hl hsz h0 hJ step hcell hkind fun D Cc o mc ys H₁ s₁ hj q1 q2 q3 hO hC S₁ => ?_
  show wpAny _ _ (assign (.Name y py) env (.ref D)) _ _ _
  refine wpAny_assign_Name (r_store c S₁ (fun s₂ S₂ => ?_) hy)
  exact ⟨mc, hO.ns (S₂.held (q := (Cc, o)) (.head _)).1, fun h' hs' => done D ys H₁ _ hj q1 q2 q3 (S₂.sameC hC hs')⟩

/-! names of a comprehension -/
theorem r_cname {scope : Scope} {cl : List (Str × Addr)} {Cc : Addr} {o : Obj} {mc : Str → Option Value} {x : Str} {pos : Pos} {v : Value} {Q : Value → Shared → Prop} (S : St C s₀ h₀ L ((Cc, o) :: own) s m H) (hO : ObjNs o mc) (hv : mc x = some v) (h : Q v s)
    (hk : (compEnvC scope cl Cc env).scope.kind = .function := by rfl) (hl : (compEnvC scope cl Cc env).kindOf x = some .local := by rfl) (hd : (x == ("__debug__" : Str)) = false := by decide) : wpAny (model prog w) A (eval (.Name x pos) (compEnvC scope cl Cc env)) Q E s :=
  wpAny_Name (wpAny_loadName_local hk hl (hO.ns (S.held (q := (Cc, o)) (.head _)).1) hv h) hd
theorem r_cstore {scope : Scope} {cl : List (Str × Addr)} {Cc : Addr} {o : Obj} {mc : Str → Option Value} {x : Str} {v : Value} {Q : Unit → Shared → Prop} (hC : ∀ q ∈ own, q.1 ≠ Cc) (S : St C s₀ h₀ L ((Cc, o) :: own) s m H) (hO : ObjNs o mc)
    (h : ∀ o' s', ObjNs o' (upd mc x v) → St C s₀ h₀ L ((Cc, o') :: own) s' m H → Q () s')
    (hk : (compEnvC scope cl Cc env).scope.kind = .function := by rfl) (hl : (compEnvC scope cl Cc env).kindOf x = some .local := by rfl) : wpAny (model prog w) A (storeName (compEnvC scope cl Cc env) x v) Q E s := by
  refine wpAny_storeName_local hl (hO.ns (S.held (q := (Cc, o)) (.head _)).1) (fun h' hn hs => ?_) (by rw [hk]; rfl)
  obtain ⟨o', ho', hO'⟩ := ns_obj hn
  exact h o' _ hO' (S.held_set (A := []) (B := own) (a := Cc) (o := o) (o' := o') rfl (fun q hq => by cases hq) hC hs ho')
end
end Mine

end
section
open PySem PySem.W PySem.Calls PyProof.Rows PySem.Spec PySem.SeqAt
set_option Elab.async false
set_option maxRecDepth 100000
namespace Mine

/-! list.remove where the items' equality hangs on the heap -/
theorem remove_at (l : Addr) (its : Array Value) (n : Nat) (x : Value) (e : Value → Bool) (j : Nat) (hj : j < its.size) (hit : e its[j] = true) (hs1 : its.size ≤ sizeLine) :
    ∀ (k i : Nat), j - i = k → i ≤ j → (∀ q (hq : q < its.size), i ≤ q → q < j → e its[q] = false) → Meets (Builtin.«list.remove.loop» ⟨[.ref l, x, rawInt i], []⟩)
      (fun A R s => s.heap.get? l = some { cls := .type "list", dict := none, data := .seq its n, slots := #[] } ∧ (∀ y, y ∈ its → EqAt A.in1 s y x (e y)) ∧ R (.ok (.ret .none)) { s with heap := s.heap.update l (Obj.mapSeq fun xs => xs.eraseIdxIfInBounds j) }) := by
  intro k
  induction k with
  | zero =>
    intro i hk hij hno prog w A R s h
    obtain ⟨hp, g, d, tk, os⟩ := s
    obtain ⟨hl, he, h⟩ := h
    obtain rfl : i = j := by omega
    wp_walk using AutoSeq1.wpAny_loadPart' hl
    rw [show its[((i : Nat) : Int).toNat]? = some its[i] from by simp [hj]]
    refine wpAny_bind (he _ (Array.getElem_mem hj) prog w _ _ ?_)
    rw [hit]
    have hz' : (its.eraseIdxIfInBounds i).size ≤ sizeLine + 1 := by
      refine Nat.le_trans ?_ (Nat.le_succ_of_le hs1)
      unfold Array.eraseIdxIfInBounds
      split
      · rw [Array.size_eraseIdx]; omega
      · omega
    wp_walk using (wpAny_updateSeq hl rfl (hz := hs1) (_hz' := hz')), AutoSeq1.wpAny_loadPart' hl
    simpa using h
  | succ k ih =>
    intro i hk hij hno prog w A R s h
    obtain ⟨hp, g, d, tk, os⟩ := s
    obtain ⟨hl, he, h⟩ := h
    have hlt : i < its.size := by omega
    wp_walk using AutoSeq1.wpAny_loadPart' hl
    rw [show its[((i : Nat) : Int).toNat]? = some its[i] from by simp [hlt]]
    refine wpAny_bind (he _ (Array.getElem_mem hlt) prog w _ _ ?_)
    rw [hno i hlt (Nat.le_refl _) (by omega)]
    wp_walk
    rw [show ((i : Int) + 1) = ((i + 1 : Nat) : Int) from by push_cast; rfl]
    exact ⟨plainId_quiet MeetsSeq.plain_remove_loop _, codeAny_builtin MeetsSeq.entry_remove_loop (by
      rw [Around.under_plainId MeetsSeq.plain_remove_loop _]
      exact ih (i + 1) (by omega) (by omega) (fun q hq h1 h2 => hno q hq (by omega) h2) prog w A R _ ⟨hl, he, h⟩)⟩
theorem remove_meets (l : Addr) (its : Array Value) (n : Nat) (x : Value) (e : Value → Bool) (j : Nat) (hj : j < its.size) (hit : e its[j] = true) (hno : ∀ q (hq : q < its.size), q < j → e its[q] = false) (hs1 : its.size ≤ sizeLine) :
    Meets (Builtin.«list.remove» ⟨[.ref l, x], []⟩)
      (fun A R s => s.heap.get? l = some { cls := .type "list", dict := none, data := .seq its n, slots := #[] } ∧ (∀ y, y ∈ its → EqAt A.in1 s y x (e y)) ∧ R (.ok (.ret .none)) { s with heap := s.heap.update l (Obj.mapSeq fun xs => xs.eraseIdxIfInBounds j) }) := by
  intro prog w A R s h
  obtain ⟨hp, g, d, tk, os⟩ := s
  obtain ⟨hl, he, h⟩ := h
  wp_walk using AutoSeq1.wpAny_loadPart' hl
  exact ⟨plainId_quiet MeetsSeq.plain_remove_loop _, codeAny_builtin MeetsSeq.entry_remove_loop (by
    rw [Around.under_plainId MeetsSeq.plain_remove_loop _]
    exact remove_at l its n x e j hj hit hs1 _ 0 rfl (Nat.zero_le _) (fun q hq _ h2 => hno q hq h2) prog w A R _ ⟨hl, he, h⟩)⟩

/-! lists of pairs of ints -/
inductive Pairs (H : AH) : List Value → List (Int × Int) → Prop
  | nil : Pairs H [] []
  | cons {a : Addr} {k u : Int} {t t' : Tok} {ws : List Value} {ps : List (Int × Int)} : H a = some (.raw (tupObj [.int k t, .int u t'])) → Pairs H ws ps → Pairs H (.ref a :: ws) ((k, u) :: ps)
theorem Pairs.len {H : AH} {ws : List Value} {ps : List (Int × Int)} (h : Pairs H ws ps) : ws.length = ps.length := by
  induction h with
  | nil => rfl
  | cons _ _ ih => simp [ih]
theorem Pairs.mono {H H' : AH} {ws : List Value} {ps : List (Int × Int)} (h : Pairs H ws ps) (hs : ∀ a o, H a = some (.raw o) → H' a = some (.raw o)) : Pairs H' ws ps := by
  induction h with
  | nil => exact .nil
  | cons e _ ih => exact .cons (hs _ _ e) ih
theorem Pairs.append {H : AH} {ws ws' : List Value} {ps ps' : List (Int × Int)} (h : Pairs H ws ps) (h' : Pairs H ws' ps') : Pairs H (ws ++ ws') (ps ++ ps') := by
  induction h with
  | nil => exact h'
  | cons e _ ih => exact .cons e ih
theorem Pairs.get {H : AH} {ws : List Value} {ps : List (Int × Int)} (h : Pairs H ws ps) : ∀ (j : Nat) x, ws[j]? = some x → ∃ a k u t t', x = .ref a ∧ H a = some (.raw (tupObj [.int k t, .int u t'])) ∧ ps[j]? = some (k, u) := by
  induction h with
  | nil => intro j x e; simp at e
  | cons e _ ih =>
    intro j x q
    cases j with
    | zero => simp at q; exact ⟨_, _, _, _, _, q.symm, e, rfl⟩
    | succ j => simp at q; simpa using ih j x q
theorem Pairs.erase {H : AH} {ws : List Value} {ps : List (Int × Int)} (h : Pairs H ws ps) : ∀ j, Pairs H (ws.eraseIdx j) (ps.eraseIdx j) := by
  induction h with
  | nil => intro j; simpa using Pairs.nil
  | cons e h' ih =>
    intro j
    cases j with
    | zero => simpa using h'
    | succ j => simpa using Pairs.cons e (ih j)

open Classical in
noncomputable def isPair (H : AH) (k u : Int) (y : Value) : Bool := decide (∃ a t t', y = .ref a ∧ H a = some (.raw (tupObj [.int k t, .int u t'])))
theorem isPair_iff {H : AH} {k u k' u' : Int} {a : Addr} {t t' : Tok} (e : H a = some (.raw (tupObj [.int k' t, .int u' t']))) : isPair H k u (.ref a) = (k' == k && u' == u) := by
  unfold isPair
  by_cases h : k' = k ∧ u' = u
  · obtain ⟨rfl, rfl⟩ := h
    simp only [beq_self_eq_true, Bool.and_self, decide_eq_true_eq]
    exact ⟨a, t, t', rfl, e⟩
  · have : (k' == k && u' == u) = false := by
      rw [Bool.and_eq_false_iff]
      by_cases z : k' = k
      · right; simpa using fun y => h ⟨z, y⟩
      · left; simpa using z
    rw [this, decide_eq_false_iff_not]
    rintro ⟨b, t2, t3, q, q2⟩
    cases q
    rw [e] at q2
    simp only [Option.some.injEq, AObj.raw.injEq] at q2
    injection q2 with _ _ q3 _
    injection q3 with q4 _
    simp at q4
    exact h ⟨q4.1.1, q4.2.1⟩
theorem Pairs.any {H : AH} {ws : List Value} {ps : List (Int × Int)} {k u : Int} (h : Pairs H ws ps) : ws.any (isPair H k u) = decide ((k, u) ∈ ps) := by
  induction h with
  | nil => simp
  | @cons a k' u' t t' ws ps e _ ih =>
    rw [List.any_cons, ih, isPair_iff e]
    rw [Bool.eq_iff_iff]
    simp only [Bool.or_eq_true, Bool.and_eq_true, beq_iff_eq, decide_eq_true_eq, List.mem_cons, Prod.mk.injEq]
    constructor
    · rintro (⟨h1, h2⟩ | h)
      · exact .inl ⟨h1.symm, h2.symm⟩
      · exact .inr h
    · rintro (⟨h1, h2⟩ | h)
      · exact .inl ⟨h1.symm, h2.symm⟩
      · exact .inr h

section
variable {K : Frag} {p : Program} {loose : List Str} {mean : ExcName → Option Value} {mg mb : Str → Option Value} {A : Around} {env : Env} {h₀ : Heap} {L : Addr} {d : Nat}
variable {prog : Program} {w : World} {C : Addr} {s₀ s : Shared} {own : List (Addr × Obj)} {m : Str → Option Value} {H : AH} {Q : Value → Shared → Prop} {E : Value → Shared → Prop}

theorem eqAt_pair {a b : Addr} {k u k' u' : Int} {t t' t2 t3 : Tok} (S : St C s₀ h₀ L own s m H) (ha : H a = some (.raw (tupObj [.int k' t, .int u' t']))) (hb : H b = some (.raw (tupObj [.int k t2, .int u t3]))) (hu : A.units < cLine) :
    EqAt A s (.ref a) (.ref b) (isPair H k u (.ref a)) := by
  rw [isPair_iff ha]
  by_cases z : a = b
  · subst z
    rw [ha] at hb
    simp only [Option.some.injEq, AObj.raw.injEq] at hb
    injection hb with _ _ q3 _
    injection q3 with q4 _
    simp at q4
    obtain ⟨⟨rfl, _⟩, rfl, _⟩ := q4
    simpa using EqAt.same _
  · refine .of_refs z ?_
    have := RcAt.tuples (e := fun j => if j = 0 then k' == k else u' == u) (S.isTuple ha) (S.isTuple hb) hu (fun j h1 h2 => ?_)
    · simpa [List.range, List.range.loop] using this
    · rcases j with _ | _ | j
      · exact EqAt.int_int k' t k t2
      · exact EqAt.int_int u' t' u t3
      · simp at h1; omega
theorem r_notin_pairs {b l : Addr} {ws : List Value} {ps : List (Int × Int)} {k u : Int} {t t' : Tok} (c : Cx K p loose mean mg mb A env h₀ L d) (S : St C s₀ h₀ L own s m H) (hl : H l = some (.list ws)) (hp : Pairs H ws ps) (hb : H b = some (.raw (tupObj [.int k t, .int u t'])))
    (hq : Q (.bool (!decide ((k, u) ∈ ps))) s) : wpAny (model prog w) A (compareOp .NotIn (.ref b) (.ref l)) Q E s := by
  refine notIn_listAt (isPair H k u) (S.isList hl) (fun y hy => ?_) (by rw [List.any_toArray, hp.any]; exact hq)
  have hy' : y ∈ ws := by simpa using hy
  obtain ⟨j, hj, rfl⟩ := List.mem_iff_getElem.mp hy'
  obtain ⟨a, k', u', t1, t2, e1, e2, _⟩ := hp.get j _ (List.getElem?_eq_getElem hj)
  rw [e1]
  exact eqAt_pair S e2 hb (by rw [units_in1]; have := c.units; omega)
theorem r_remove_pair {b l : Addr} {ws : List Value} {ps : List (Int × Int)} {k u : Int} {t t' : Tok} (c : Cx K p loose mean mg mb A env h₀ L d) (S : St C s₀ h₀ L own s m H) (hl : H l = some (.list ws)) (hp : Pairs H ws ps) (hb : H b = some (.raw (tupObj [.int k t, .int u t']))) (hm : (k, u) ∈ ps)
    (hsz : ws.length ≤ 100000) (h : ∀ s' ws', Pairs H ws' (ps.erase (k, u)) → St C s₀ h₀ L own s' m (put H l (.list ws')) → Q .none s') : wpAny (model prog w) A (call (.builtin "list.remove") [.ref l, .ref b]) Q E s := by
  obtain ⟨n, hn⟩ := S.list hl
  have hlen := hp.len
  have hjl : ps.idxOf (k, u) < ps.length := List.idxOf_lt_length_iff.mpr hm
  have hj : ps.idxOf (k, u) < ws.toArray.size := by rw [List.size_toArray, hlen]; exact hjl
  have key : ∀ q (hq : q < ws.toArray.size), isPair H k u ws.toArray[q] = decide (ps[q]? = some (k, u)) := fun q hq => by
    have hq' : q < ws.length := by simpa using hq
    obtain ⟨a, k', u', t1, t2, e1, e2, e3⟩ := hp.get q _ (List.getElem?_eq_getElem hq')
    have : ws.toArray[q] = .ref a := by simpa using e1
    rw [this, isPair_iff e2, e3]
    by_cases h1 : k' = k <;> by_cases h2 : u' = u <;> simp [h1, h2]
  refine call_meets PySem.F.slot_list_remove ⟨_, hn, rfl⟩ PySem.F.entry_list_remove (PySem.F.args_list_remove_2 _ _)
    (remove_meets l ws.toArray n (.ref b) (isPair H k u) (ps.idxOf (k, u)) hj ?_ (fun q hq h2 => ?_) (by rw [List.size_toArray, sizeLine_eq]; omega)) ⟨hn, fun y hy => ?_, h _ (ws.eraseIdx (ps.idxOf (k, u))) ?_ ?_⟩
  · rw [key, decide_eq_true_eq, List.getElem?_eq_getElem hjl, List.getElem_idxOf]
  · rw [key, decide_eq_false_iff_not]
    intro z
    have hq' : q < ps.length := by rw [← hlen]; simpa using hq
    rw [List.getElem?_eq_getElem hq'] at z
    have := List.not_of_lt_findIdx (p := (· == (k, u))) (xs := ps) h2
    rw [Option.some.inj z] at this
    simp at this
  · have hy' : y ∈ ws := by simpa using hy
    obtain ⟨j, hj', rfl⟩ := List.mem_iff_getElem.mp hy'
    obtain ⟨a, k', u', t1, t2, e1, e2, _⟩ := hp.get j _ (List.getElem?_eq_getElem hj')
    rw [e1]
    exact eqAt_pair S e2 hb (by rw [units_in1]; have := c.units; omega)
  · rw [List.erase_eq_eraseIdx_of_idxOf rfl]
    exact hp.erase _
  · refine S.setList (tk := s.toks) hl (Heap.SameBut.update ..) ⟨if ((ws.toArray.eraseIdxIfInBounds (ps.idxOf (k, u))).size == ws.toArray.size) = true then n else n + 1, ?_⟩
    · rw [Heap.get?_update_self _ hn (by rfl)]
      have hj2 : ps.idxOf (k, u) < ws.length := by simpa using hj
      simp [Obj.mapSeq, Array.eraseIdxIfInBounds]
      intro z
      omega
end
end Mine

end
section
open PySem PySem.W PySem.Calls PyProof.Rows PySem.Spec PySem.SeqAt
set_option Elab.async false
set_option maxRecDepth 100000
namespace Mine

/-! the way into a law, and out of it -/
def LawQ (C : Addr) (s₀ : Shared) (h₀ : Heap) (L : Addr) (f : Flow) (s : Shared) : Prop := f = .ret (.bool true) ∧ ∃ own m H, St C s₀ h₀ L own s m H
theorem LawQ.mk' {C : Addr} {s₀ : Shared} {h₀ : Heap} {L : Addr} {s : Shared} {own : List (Addr × Obj)} {m : Str → Option Value} {H : AH} {b : Bool} (S : St C s₀ h₀ L own s m H) (hb : b = true) : LawQ C s₀ h₀ L (.ret (.bool b)) s := ⟨by rw [hb], own, m, H, S⟩

theorem enter {prog : Program} {w : World} {K : Frag} {p : Program} {loose : List Str} {mean : ExcName → Option Value} {mg mb : Str → Option Value} {C : Addr} {s₁ : Shared} {h₁ : Heap} {m : Str → Option Value} {qual : Str} {scope : Scope} {fa : Addr} {cd : Value} {tk : Nat}
    {body : List Stmt} {Q : Flow → Shared → Prop} {E : Value → Shared → Prop} (KX : K.In s₁.heap) (T : Top p loose mean mg mb s₁.heap) (F : Fr s₁.heap s₁.heap.objs.size h₁ m) (hgens : s₁.gens = #[])
    (h : ∀ s, Cx K p loose mean mg mb (callerA.deeper (envOf qual scope s₁.heap.objs.size fa cd)) (envOf qual scope s₁.heap.objs.size fa cd) s₁.heap s₁.heap.objs.size 300 → St C s₁ s₁.heap s₁.heap.objs.size [] s m (fun _ => none) →
      Pyl prog w (callerA.deeper (envOf qual scope s₁.heap.objs.size fa cd)) s₁.heap →
      wpAny (model prog w) (callerA.deeper (envOf qual scope s₁.heap.objs.size fa cd)) (execs body (envOf qual scope s₁.heap.objs.size fa cd)) (LawQ C s₁ s₁.heap s₁.heap.objs.size) NoE s)
    (hQ : ∀ s' m', Fr s₁.heap s₁.heap.objs.size s'.heap m' → s'.gens = #[] → s'.os = s₁.os → Q (.ret (.bool true)) s')
    (hs : importsNone p = true) (htree : prog.given.tree = none) (hk : scope.kind = .function) (hg : scope.isGenerator = false) (hco : scope.isCoroutine = false) :
    wpAny (model prog w) (callerA.deeper (envOf qual scope s₁.heap.objs.size fa cd)) (execs body (envOf qual scope s₁.heap.objs.size fa cd)) Q E { heap := h₁, gens := s₁.gens, drawn := s₁.drawn, toks := tk, os := s₁.os } := by
  have B := below_caller s₁.heap
  refine wpAny_mono (h _ ⟨⟨callerA, s₁.heap, [], B, Around.frames_deeper B.stack⟩, KX, T, rfl, hk, rfl, rfl, rfl, rfl, ?_, ?_⟩ ⟨F, ⟨fun a => a, ?_⟩, rfl, rfl, rfl⟩ ?_) (fun f s' hf => ?_) fun _ _ x => x.elim
  · rw [depth_deeper]; decide
  · rw [units_deeper]; decide
  · exact ⟨fun a o e => (nomatch e), fun a o e => (nomatch e), fun a f e => (nomatch e), fun a f e => (nomatch e), fun a b f g e => (nomatch e), fun q hq => (nomatch hq), fun q hq => (nomatch hq), fun q hq => (nomatch hq)⟩
  · intro s hk'
    exact PylongRoom.of (T.nolimit.keeps hk') (by rw [depth_deeper]; decide) (SeerAt.of ((T.seer hs).keeps hk') htree (Around.frames_deeper B.stack) hg hco rfl rfl)
  · obtain ⟨rfl, own, m', H, S⟩ := hf
    exact hQ s' m' S.fr (S.gens.trans hgens) S.os
/-! looking an object up -/
theorem put_step {H : AH} {a b : Addr} {o ob : AObj} (e : H a = some o) (n : H a = some o → a ≠ b) : put H b ob a = some o := put_off (n e) e
theorem ne_new {H : AH} {a b : Addr} {o : AObj} (hb : H b = none) (e : H a = some o) : a ≠ b := fun z => by rw [z, hb] at e; cases e
theorem ne_kind {H : AH} {a b : Addr} {o o' : AObj} (e : H a = some o) (hb : H b = some o') (h : o ≠ o') : a ≠ b := fun z => by rw [z, hb] at e; cases e; exact h rfl
theorem SubX.of {C : Addr} {s₀ : Shared} {h₀ : Heap} {L : Addr} {s : Shared} {own : List (Addr × Obj)} {m : Str → Option Value} {X : List Addr} {H H' : AH} (_S : St C s₀ h₀ L own s m H') (h : SubX X H H') : SubX X H H' := h
theorem wp_forIn_nil {α β : Type} {M : Model} {A : Around} {E : Value → Shared → Prop} {s : Shared} {b : β} {f : α → β → Sem (ForInStep β)} {Q : β → Shared → Prop} (h : Q b s) : wpAny M A (forIn ([] : List α) b f) Q E s := wpAny_pure h
theorem CompPut.mk' {C : Addr} {s₀ : Shared} {h₀ : Heap} {L : Addr} {s : Shared} {own : List (Addr × Obj)} {m : Str → Option Value} {H : AH} {Cc : Addr} {o : Obj} {mc : Str → Option Value} {J : List Value → AH → Prop} {ys : List Value} {y : Value} (O : ObjNs o mc) (S : St C s₀ h₀ L ((Cc, o) :: own) s m H) (j : J (ys ++ [y]) H) :
    CompPut C s₀ h₀ L own Cc m J ys y s := ⟨o, mc, H, O, S, j⟩
theorem St.name {C : Addr} {s₀ : Shared} {h₀ : Heap} {L : Addr} {s : Shared} {own : List (Addr × Obj)} {m : Str → Option Value} {H : AH} (S : St C s₀ h₀ L own s m H) {P : AH → Prop} (h : P H) : ∃ H', P H' ∧ St C s₀ h₀ L own s m H' := ⟨H, h, S⟩
theorem SubX.back {H H' : AH} {b D : Addr} {o o' : AObj} (h : SubX [b] H H') (e : H b = some o) (hD : H' D = none) (hn : D ≠ b) : Sub H (Mine.put (Mine.put H' b o) D o') := fun a q hq => by
  have h1 : Mine.put H' b o a = some q := by
    by_cases z : a = b
    · rw [z, e] at hq; cases hq; rw [z]; exact put_same
    · exact put_off z (h a q (by simpa using z) hq)
  exact put_new ((put_ne hn).trans hD) h1
theorem one_arg (x : Str) (v : Value) : (fun y => List.lookup y [(x, v)].reverse) = upd (fun _ => none) x v := by
  funext y
  unfold upd
  by_cases h : y = x
  · simp [h]
  · have : (y == x) = false := by simpa using h
    simp [List.lookup, this, h]
theorem fr_one {h₀ h : Heap} {L : Addr} {x : Str} {v : Value} (F : Fr h₀ L h (fun y => List.lookup y [(x, v)].reverse)) : Fr h₀ L h (upd (fun _ => none) x v) := by
  rw [← one_arg]; exact F
theorem ints_at {vs : List Value} {ns : List Int} (h : IntsAre vs ns) : ∀ (i : Nat) (v : Value), vs[i]? = some v → ∃ x tk, v = Value.int x tk := by
  induction h with
  | nil => intro i v e; simp at e
  | cons n t _ ih =>
    intro i v e
    cases i with
    | zero => simp at e; exact ⟨_, _, e.symm⟩
    | succ i => simp at e; exact ih i v e
theorem ints_app {vs us : List Value} {ns ms : List Int} (h : IntsAre vs ns) (h' : IntsAre us ms) : IntsAre (vs ++ us) (ns ++ ms) := by
  induction h with
  | nil => exact h'
  | cons n t _ ih => exact .cons n t ih
theorem ints_rep (x : Int) (t : Tok) : ∀ n, IntsAre (List.replicate n (.int x t)) (List.replicate n x)
  | 0 => .nil
  | n + 1 => by rw [List.replicate_succ, List.replicate_succ]; exact .cons _ _ (ints_rep x t n)
theorem ints_len {vs : List Value} {ns : List Int} (h : IntsAre vs ns) : vs.length = ns.length := by
  induction h with
  | nil => rfl
  | cons n t _ ih => simp [ih]
theorem del_put {H : AH} {a : Addr} {o : AObj} (h : H a = none) : del (put H a o) a = H := by
  funext b
  unfold del put
  by_cases z : b = a
  · simp [z, h]
  · simp [z]
theorem SubX.del1 {H : AH} {a : Addr} : SubX [a] H (Mine.del H a) := fun b o hb e => by
  have : b ≠ a := fun z => hb (by simp [z])
  exact (del_ne this).trans e
theorem ite_nt {P Q : Prop} (h : Q) : if (!true) = true then P else Q := h
theorem ite_nf {P Q : Prop} (h : P) : if (!false) = true then P else Q := h
theorem ite_T {P Q : Prop} (h : P) : if True then P else Q := by rw [if_pos trivial]; exact h
theorem ite_F {P Q : Prop} (h : Q) : if False then P else Q := by rw [if_neg id]; exact h
theorem St.given {C : Addr} {s₀ : Shared} {h₀ : Heap} {L : Addr} {s : Shared} {own : List (Addr × Obj)} {m : Str → Option Value} {H : AH} {l : Addr} {xs : Array Value} (S : St C s₀ h₀ L own s m H) (h : h₀.IsList l xs) : s.heap.IsList l xs := by
  obtain ⟨o, a, r⟩ := h
  exact ⟨o, S.fr.keep _ _ a, r⟩
end Mine

end
section
open PySem PySem.W PySem.Calls PyProof.Rows PySem.Spec PySem.SeqAt
set_option Elab.async false
set_option maxRecDepth 100000
namespace Mine

section
variable {K : Frag} {p : Program} {loose : List Str} {mean : ExcName → Option Value} {mg mb : Str → Option Value} {A : Around} {env : Env} {h₀ : Heap} {L : Addr} {d : Nat}
variable {prog : Program} {w : World} {C : Addr} {s₀ s : Shared} {own : List (Addr × Obj)} {m : Str → Option Value} {H : AH} {Q : Value → Shared → Prop} {E : Value → Shared → Prop}

/-! ranges -/
abbrev rangeObj (a b c : Int) (t u v : Tok) : Obj := { cls := .type "range", data := .fields #[.int a t, .int b u, .int c v] }
theorem r_range1 {n : Int} {t : Tok} (S : St C s₀ h₀ L own s m H) (h : ∀ r s' t1 t2, H r = none → St C s₀ h₀ L own s' m (put H r (.raw (rangeObj 0 n 1 t1 t t2))) → Q (.ref r) s') : wpAny (model prog w) A (call (.type "range") [.int n t]) Q E s :=
  call_range_1 (by
    obtain ⟨q, S'⟩ := S.pushed (o := rangeObj 0 n 1 s.toks t (s.toks + 1)) (ao := .raw (rangeObj 0 n 1 s.toks t (s.toks + 1))) (tk := s.toks + 1 + 1) (fun _ x => by cases x) rfl fun h d e => e
    exact h _ _ _ _ q S')
theorem r_range2 {a n : Int} {t u : Tok} (S : St C s₀ h₀ L own s m H) (h : ∀ r s' t2, H r = none → St C s₀ h₀ L own s' m (put H r (.raw (rangeObj a n 1 t u t2))) → Q (.ref r) s') : wpAny (model prog w) A (call (.type "range") [.int a t, .int n u]) Q E s :=
  call_range_2 (by
    obtain ⟨q, S'⟩ := S.pushed (o := rangeObj a n 1 t u s.toks) (ao := .raw (rangeObj a n 1 t u s.toks)) (tk := s.toks + 1) (fun _ x => by cases x) rfl fun h d e => e
    exact h _ _ _ q S')
theorem r_range3 {a n k : Int} {t u v : Tok} (S : St C s₀ h₀ L own s m H) (hk : k ≠ 0) (hk2 : k.natAbs < 1073741824) (h : ∀ r s', H r = none → St C s₀ h₀ L own s' m (put H r (.raw (rangeObj a n k t u v))) → Q (.ref r) s') : wpAny (model prog w) A (call (.type "range") [.int a t, .int n u, .int k v]) Q E s :=
  call_range_3 hk (by
    obtain ⟨q, S'⟩ := S.pushed (o := rangeObj a n k t u v) (ao := .raw (rangeObj a n k t u v)) (tk := s.toks) (fun _ x => by cases x) rfl fun h d e => e
    exact h _ _ q S') (.inl (PyProof.noPylong_small hk2))

def ForR (prog : Program) (w : World) (A : Around) (C : Addr) (s₀ : Shared) (h₀ : Heap) (L : Addr) (env : Env) (x : Str) (body : List Stmt) (Q : Flow → Shared → Prop) (xv : Value) (s : Shared) : Prop :=
  ∃ (r : Addr) (a b c : Int) (t u v : Tok) (n : Nat) (own : List (Addr × Obj)) (m : Str → Option Value) (H : AH) (J : Nat → (Str → Option Value) → AH → Prop), xv = .ref r ∧ St C s₀ h₀ L own s m H ∧ H r = some (.raw (rangeObj a b c t u v)) ∧
    Builtin.Range.small a b c = true ∧ Builtin.Range.rangeSize a b c = n ∧ J 0 m H ∧
    (∀ (i : Nat) t m₁ H₁ own₁ s₁, i < n → J i m₁ H₁ → St C s₀ h₀ L own₁ s₁ (upd m₁ x (.int (a + i * c) t)) H₁ → wpAny (model prog w) A (execs body env) (TurnQ C s₀ h₀ L own₁ (J (i + 1)) Q) NoE s₁) ∧
    ∀ m₁ H₁ s₁, J n m₁ H₁ → St C s₀ h₀ L own s₁ m₁ H₁ → Q .next s₁
theorem r_for_range {x : Str} {px pos : Pos} {iter : Expr} {body : List Stmt} {Q : Flow → Shared → Prop} (c : Cx K p loose mean mg mb A env h₀ L d) (_S : St C s₀ h₀ L own s m H)
    (h : wpAny (model prog w) A (eval iter env) (ForR prog w A C s₀ h₀ L env x body Q) NoE s) (hx : env.kindOf x = some .local) (hs : ∀ x, foldedSetIterable iter env x = pure x) :
    wpAny (model prog w) A (exec (.For (.Name x px) iter body [] pos) env) Q NoE s := by
  refine wpAny_For (wpAny_mono h (fun xv s₁ hf => ?_) fun _ _ y => y) hs
  obtain ⟨r, a, b, cc, t, u, v, n, own, m, H, J, rfl, S, hr, hsm, hn, h0, step, done⟩ := hf
  refine wpAny_pyIter_range (S.raw hr) hsm ?_
  rw [hn]
  obtain ⟨hi, S₁⟩ := S.pushed (o := { cls := .type "range_iterator", data := .fields #[rawInt a, rawInt (n : Int), rawInt cc] }) (ao := .raw { cls := .type "range_iterator", data := .fields #[rawInt a, rawInt (n : Int), rawInt cc] }) (tk := s₁.toks) (fun _ x => by cases x) rfl fun h d e => e
  obtain ⟨oi, hoi, S₂⟩ := S₁.hold (a := s₁.heap.objs.size) put_same (fun _ x => by cases x)
  rw [del_put hi] at S₂
  have hnew := S.at_new
  have W := Walks.range (prog := prog) (w := w) (A := A) c.handled s₁.heap.objs.size a cc n
  have hI : IsRangeIter (s₁.heap.push { cls := .type "range_iterator", data := .fields #[rawInt a, rawInt (n : Int), rawInt cc] }) s₁.heap.objs.size a (n : Int) cc := Heap.get?_push_size _ rfl
  refine code_for1 (P := [(s₁.heap.objs.size, oi)]) (own := own) W (fun i h hw b hb => ?_) c hx S₂ ?_ (fun z => ?_) (fun b hb => ?_) (fun b hb _ => ?_) (fun q hq => ?_) (fun b hb q hq => ?_) J h0 (fun i v m₁ H₁ P₁ s₂ hin hv hJ S₄ => ?_) fun m₁ H₁ s₂ hJ S₄ => ?_
  · rcases List.mem_singleton.mp hb with rfl; exact ⟨_, hw⟩
  · simpa using hI
  · exact hnew.1 (List.mem_singleton.mp z).symm
  · rcases List.mem_singleton.mp hb with rfl; exact hnew.2.1
  · rcases List.mem_singleton.mp hb with rfl; exact ⟨oi, .head _⟩
  · rcases List.mem_singleton.mp hq with rfl; exact .head _
  · rcases List.mem_singleton.mp hb with rfl
    exact fun z => S.own_new hnew.2.2 q hq z.symm
  · obtain ⟨tt, rfl⟩ := hv
    exact wpAny_mono (step i tt m₁ H₁ _ s₂ hin hJ S₄) (fun f s₅ h₅ => by cases f <;> exact h₅) fun _ _ y => y
  · exact done m₁ H₁ s₂ hJ S₄.dropAll

/-! while -/
def WhileQ (C : Addr) (s₀ : Shared) (h₀ : Heap) (L : Addr) (own : List (Addr × Obj)) (J : Nat → (Str → Option Value) → AH → Prop) (Q : Flow → Shared → Prop) (n : Nat) (f : Flow) (s : Shared) : Prop :=
  match f with
  | .ret v => Q (.ret v) s
  | .brk => Q .next s
  | _ => ∃ n' m H, n' < n ∧ St C s₀ h₀ L own s m H ∧ J n' m H
theorem WhileQ.mk' {J : Nat → (Str → Option Value) → AH → Prop} {Q : Flow → Shared → Prop} {n n' : Nat} (S : St C s₀ h₀ L own s m H) (hn : n' < n) (j : J n' m H) : WhileQ C s₀ h₀ L own J Q n .next s := ⟨n', m, H, hn, S, j⟩
theorem r_while {test : Expr} {body : List Stmt} {pos : Pos} {Q : Flow → Shared → Prop} (S : St C s₀ h₀ L own s m H) (J : Nat → (Str → Option Value) → AH → Prop) (n₀ : Nat) (h0 : J n₀ m H)
    (turn : ∀ n m₁ H₁ s₁, J n m₁ H₁ → St C s₀ h₀ L own s₁ m₁ H₁ → wpAny (model prog w) A (PySem.isTrue test env (eval test env)) (fun b s₂ => if b = true then wpAny (model prog w) A (execs body env) (WhileQ C s₀ h₀ L own J Q n) NoE s₂ else Q .next s₂) NoE s₁) :
    wpAny (model prog w) A (exec (.While test body [] pos) env) Q NoE s := by
  refine wpAny_While (codeAny_whileLoop (fun n s' => ∃ m₁ H₁, St C s₀ h₀ L own s' m₁ H₁ ∧ J n m₁ H₁) ?_ n₀ ⟨m, H, S, h0⟩)
  rintro n s' ⟨m₁, H₁, S₁, J₁⟩
  refine wpAny_mono (turn n m₁ H₁ s' J₁ S₁) (fun b s₂ h₂ => ?_) fun _ _ x => x.elim
  cases b with
  | false =>
    simp only [Bool.false_eq_true, if_false] at h₂ ⊢
    exact wpAny_execs_nil h₂
  | true =>
    simp only [if_true] at h₂ ⊢
    refine wpAny_mono h₂ (fun f s₃ h₃ => ?_) fun _ _ x => x.elim
    cases f with
    | next => obtain ⟨n', m₂, H₂, hn, S₂, J₂⟩ := h₃; exact ⟨n', hn, m₂, H₂, S₂, J₂⟩
    | cont => obtain ⟨n', m₂, H₂, hn, S₂, J₂⟩ := h₃; exact ⟨n', hn, m₂, H₂, S₂, J₂⟩
    | brk => exact h₃
    | ret v => exact h₃

/-! numbers -/
theorem r_divmod {a b : Int} {t u : Tok} (S : St C s₀ h₀ L own s m H) (hb : b ≠ 0) (hb2 : b.natAbs < 1073741824)
    (h : ∀ x s' t1 t2, H x = none → St C s₀ h₀ L own s' m (put H x (.raw (tupObj [.int (a.fdiv b) t1, .int (a.fmod b) t2]))) → Q (.ref x) s') : wpAny (model prog w) A (call (.builtin "divmod") [.int a t, .int b u]) Q E s :=
  divmod_int hb (by
    obtain ⟨q, S'⟩ := S.pushed (o := tupObj [.int (a.fdiv b) s.toks, .int (a.fmod b) (s.toks + 1)]) (ao := .raw (tupObj [.int (a.fdiv b) s.toks, .int (a.fmod b) (s.toks + 1)])) (tk := s.toks + 1 + 1) (fun _ x => by cases x) rfl fun h d e => e
    exact h _ _ _ _ q S') (.inl (PyProof.noPylong_small hb2))
theorem r_fdiv' {a b : Int} {t u : Tok} (S : St C s₀ h₀ L own s m H) (hb : b ≠ 0) (hb2 : b.natAbs < 1073741824) (h : ∀ s' t, St C s₀ h₀ L own s' m H → Q (.int (a.fdiv b) t) s') : wpAny (model prog w) A (binaryOp .FloorDiv (.int a t) (.int b u)) Q E s :=
  floordiv_int hb (h _ _ (S.tok _)) (.inl (PyProof.noPylong_small hb2))
theorem r_sum {l : Addr} {vs : List Value} {ns : List Int} (c : Cx K p loose mean mg mb A env h₀ L d) (S : St C s₀ h₀ L own s m H) (hl : H l = some (.list vs)) (hi : IntsAre vs ns) (h : ∀ s' t, St C s₀ h₀ L own s' m H → Q (.int ns.sum t) s') :
    wpAny (model prog w) A (call (.builtin "sum") [.ref l]) Q E s := by
  refine LSm.sum_ints S.fr (news_full h₀ L s.heap) c.handled (S.isList hl) hi fun h' tk t' F' N' => h _ t' ?_
  exact S.keep F' fun b o hL h0 e => (N' (b, o) (mem_full.mpr ⟨e, hL, h0⟩)).1

/-! constants, is -/
theorem r_bytes {x : List UInt8} {k : Nat} {pos : Pos} (S : St C s₀ h₀ L own s m H) (h : ∀ s' t, St C s₀ h₀ L own s' m H → Q (.bytes x.toArray t) s') : wpAny (model prog w) A (eval (.Constant (.bytes x) k pos) env) Q E s := by
  have : ∀ s', s' = { s with toks := s.toks + 1 } → Q (.bytes x.toArray s.toks) s' := fun s' e => e ▸ h _ _ (S.tok _)
  exact fun _ _ _ => this _ rfl
theorem r_is_rr {a : Addr} (h : Q (.bool true) s) : wpAny (model prog w) A (compareOp .Is (.ref a) (.ref a)) Q E s := by
  refine wpAny_bind (wpAny_isSame_ref_self ?_)
  exact wpAny_pure h
theorem r_isnot_rr {a : Addr} (h : Q (.bool false) s) : wpAny (model prog w) A (compareOp .IsNot (.ref a) (.ref a)) Q E s := by
  refine wpAny_bind (wpAny_isSame_ref_self ?_)
  exact wpAny_pure h

/-! slices -/
abbrev sliceObj (lo hi : Value) : Obj := { cls := .type "slice", data := .fields #[lo, hi, .none] }
def SliceMk (C : Addr) (s₀ : Shared) (h₀ : Heap) (L : Addr) (Q : Value → Shared → Prop) (l u : Value) (s : Shared) : Prop := ∃ own m H, St C s₀ h₀ L own s m H ∧ ∀ a s', H a = none → St C s₀ h₀ L own s' m (put H a (.raw (sliceObj l u))) → Q (.ref a) s'
theorem r_sliceObj {lower upper : Option Expr} {p : Pos} (_S : St C s₀ h₀ L own s m H)
    (h : wpAny (model prog w) A (evalPart lower env) (fun l s₁ => wpAny (model prog w) A (evalPart upper env) (SliceMk C s₀ h₀ L Q l) E s₁) E s) :
    wpAny (model prog w) A (eval (.Slice lower upper none p) env) Q E s := by
  refine wpAny_Slice (wpAny_mono h (fun l s₁ h₁ => wpAny_mono h₁ (fun u s₂ h₂ => ?_) fun _ _ y => y) fun _ _ y => y)
  obtain ⟨own, m, H, S, k⟩ := h₂
  refine evalPart_none_step ?_
  obtain ⟨q, S'⟩ := S.pushed (o := sliceObj l u) (ao := .raw (sliceObj l u)) (tk := s₂.toks) (fun _ x => by cases x) rfl fun h d e => e
  exact k _ _ q S'
theorem r_sliceMk {own : List (Addr × Obj)} {m : Str → Option Value} {H : AH} {l u : Value} {Q : Value → Shared → Prop} (S : St C s₀ h₀ L own s m H) (h : ∀ a s', H a = none → St C s₀ h₀ L own s' m (put H a (.raw (sliceObj l u))) → Q (.ref a) s') :
    SliceMk C s₀ h₀ L Q l u s := ⟨own, m, H, S, h⟩
theorem r_getslice {value slice : Expr} {l sl : Addr} {vs : List Value} {vl vu : Value} {lo hi : Option Int} (S : St C s₀ h₀ L own s m H) (hl : H l = some (.list vs)) (hsl : H sl = some (.raw (sliceObj vl vu))) (pl : IsPart vl lo) (pu : IsPart vu hi) (hsz : vs.length ≤ 10000)
    (h : ∀ a s', H a = none → St C s₀ h₀ L own s' m (put H a (.list (slicePick vs.toArray lo hi none).toList)) → Q (.ref a) s')
    (hs : subscripted slice false (.ref l) (.ref sl) = operate [.ref sl, .ref l] (getItem (.ref l) (.ref sl)) := by with_unfolding_all rfl) :
    wpAny (model prog w) A (subscriptTail value slice (.ref l) (.ref sl)) Q E s := by
  have hsz' : vs.toArray.size ≤ sizeLine := by rw [List.size_toArray, sizeLine_eq]; omega
  refine tail_any (S.isList hl).typeIs slot_list_getitem.lookup (wpAny_getItem_list_slice (S.isList hl) ⟨_, S.raw hsl, rfl, rfl⟩ pl pu .none (by simp) ?_ hsz') hs
  obtain ⟨q, S'⟩ := S.pushed (o := listObj (slicePick vs.toArray lo hi none).toList 0) (ao := .list (slicePick vs.toArray lo hi none).toList) (tk := s.toks) (fun _ x => by cases x) rfl fun h d e => ⟨0, e⟩
  refine h _ _ q ?_
  simpa using S'
theorem r_slice_to {value slice : Expr} {l sl : Addr} {vs : List Value} {b : Int} {tb : Tok} (S : St C s₀ h₀ L own s m H) (hl : H l = some (.list vs)) (hsl : H sl = some (.raw (sliceObj .none (.int b tb)))) (hb : 0 ≤ b) (hsz : vs.length ≤ 10000)
    (h : ∀ a s', H a = none → St C s₀ h₀ L own s' m (put H a (.list (vs.take b.toNat))) → Q (.ref a) s')
    (hs : subscripted slice false (.ref l) (.ref sl) = operate [.ref sl, .ref l] (getItem (.ref l) (.ref sl)) := by with_unfolding_all rfl) :
    wpAny (model prog w) A (subscriptTail value slice (.ref l) (.ref sl)) Q E s := by
  refine r_getslice S hl hsl .none (.int _ _) hsz (fun a s' ha S' => h a s' ha ?_) hs
  have := slicePick_upto' vs.toArray b.toNat
  rw [Int.toNat_of_nonneg hb] at this
  rw [this] at S'
  exact S'
theorem r_slice_from {value slice : Expr} {l sl : Addr} {vs : List Value} {b : Int} {tb : Tok} (S : St C s₀ h₀ L own s m H) (hl : H l = some (.list vs)) (hsl : H sl = some (.raw (sliceObj (.int b tb) .none))) (hb : 0 ≤ b) (hsz : vs.length ≤ 10000)
    (h : ∀ a s', H a = none → St C s₀ h₀ L own s' m (put H a (.list (vs.drop b.toNat))) → Q (.ref a) s')
    (hs : subscripted slice false (.ref l) (.ref sl) = operate [.ref sl, .ref l] (getItem (.ref l) (.ref sl)) := by with_unfolding_all rfl) :
    wpAny (model prog w) A (subscriptTail value slice (.ref l) (.ref sl)) Q E s := by
  refine r_getslice S hl hsl (.int _ _) .none hsz (fun a s' ha S' => h a s' ha ?_) hs
  have := slicePick_from' vs.toArray b.toNat
  rw [Int.toNat_of_nonneg hb] at this
  rw [this] at S'
  exact S'
theorem pick_upto (vs : List Value) (b : Nat) : (slicePick vs.toArray none (some (b : Int)) none).toList = vs.take b := by rw [slicePick_upto']
theorem pick_from (vs : List Value) (a : Nat) : (slicePick vs.toArray (some (a : Int)) none none).toList = vs.drop a := by rw [slicePick_from']
theorem pick_butLast (vs : List Value) : (slicePick vs.toArray none (some (-1)) none).toList = vs.take (vs.length - 1) := by
  have := slicePick_butLast vs.toArray 1 (by decide)
  rw [show (-((1 : Nat) : Int)) = -1 from rfl] at this
  rw [this]; simp
end
end Mine
namespace Mine
theorem ite_yes {b : Bool} {P Q : Prop} (hb : b = true) (h : P) : if b = true then P else Q := by rw [if_pos hb]; exact h
theorem ite_no {b : Bool} {P Q : Prop} (hb : b = false) (h : Q) : if b = true then P else Q := by rw [if_neg (by rw [hb]; exact Bool.false_ne_true)]; exact h
section
variable {C : Addr} {s₀ : Shared} {h₀ : Heap} {L : Addr} {s : Shared} {own : List (Addr × Obj)} {m : Str → Option Value} {H : AH}
theorem St.srcAt (_S : St C s₀ h₀ L own s m H) {a : Addr} {F : Flds} (e : H a = some (.src F)) : H a = some (.src F) := e
theorem St.listAt (_S : St C s₀ h₀ L own s m H) {a : Addr} {vs : List Value} (e : H a = some (.list vs)) : H a = some (.list vs) := e
theorem St.keptAt (_S : St C s₀ h₀ L own s m H) {a : Addr} {o : AObj} (e : H a = some o) : H a = some o := e
end
section
variable {prog : Program} {w : World} {A : Around} {C : Addr} {s₀ : Shared} {h₀ : Heap} {L : Addr} {s : Shared} {own : List (Addr × Obj)} {m : Str → Option Value} {H : AH} {Q : Value → Shared → Prop}
theorem wp_value (v0 : Value) {t : Sem Value} (_S : St C s₀ h₀ L own s m H) (h1 : wpAny (model prog w) A t (fun v s' => v = v0 ∧ St C s₀ h₀ L own s' m H) NoE s) (h2 : ∀ s', St C s₀ h₀ L own s' m H → Q v0 s') : wpAny (model prog w) A t Q NoE s :=
  wpAny_mono h1 (fun v s' h => by rw [h.1]; exact h2 s' h.2) fun _ _ x => x
theorem wp_test {t : Sem Bool} {Q : Bool → Shared → Prop} (b0 : Bool) (_S : St C s₀ h₀ L own s m H) (h1 : wpAny (model prog w) A t (fun v s' => v = b0 ∧ St C s₀ h₀ L own s' m H) NoE s) (h2 : ∀ s', St C s₀ h₀ L own s' m H → Q b0 s') : wpAny (model prog w) A t Q NoE s :=
  wpAny_mono h1 (fun v s' h => by rw [h.1]; exact h2 s' h.2) fun _ _ x => x
end
theorem ints_same {H : AH} {n : Nat} {vs us : List Value} {ns : List Int} (h : IntsAre vs ns) : IntsAre us ns → SameAll H n vs us := by
  induction h generalizing us with
  | nil => intro h'; cases h'; exact .nil
  | cons k t _ ih => intro h'; cases h' with | cons _ t' h'' => exact .cons Same.int (ih h'')
def fdn : Nat → Fd
  | 0 => .sys
  | 1 => .pub
  | 2 => .enc
  | 3 => .byt
  | _ => .chr
end Mine

end
section
open PySem PySem.W PySem.Calls PyProof.Rows PySem.Spec PySem.SeqAt
set_option Elab.async false
set_option maxRecDepth 100000
namespace Mine

/-! dicts with int keys -/
def DObj (prog : Program) (w : World) (f : Int → Option Value) (n : Nat) (o : Obj) : Prop := ∃ kvs : List (Int × Value), o.IsDictOf (intKind prog w) kvs ∧ kvs.length ≤ n ∧ ∀ k, valueAt kvs k = f k
theorem valueAt_stored {kvs : List (Int × Value)} {k x : Int} {v : Value} : valueAt (stored kvs k v) x = if x = k then some v else valueAt kvs x := by
  unfold stored
  by_cases hany : (kvs.any fun kv => decide (kv.1 = k)) = true
  · rw [if_pos hany]
    induction kvs with
    | nil => simp at hany
    | cons a r ih =>
      unfold valueAt at ih ⊢
      rw [List.map_cons, List.find?_cons]
      by_cases h1 : a.1 = k
      · simp only [h1, if_true]
        by_cases h2 : k = x
        · simp [h2]
        · simp only [h2, decide_false]
          rw [if_neg (fun z => h2 z.symm)]
          rw [List.find?_cons]
          simp only [h1, h2, decide_false]
          clear ih hany
          induction r with
          | nil => rfl
          | cons b r ih2 =>
            rw [List.map_cons, List.find?_cons, List.find?_cons]
            by_cases h3 : b.1 = k
            · simp only [h3, if_true, h2, decide_false]; exact ih2
            · simp only [h3, if_false]
              by_cases h4 : b.1 = x
              · simp [h4]
              · simp only [h4, decide_false]; exact ih2
      · simp only [h1, if_false]
        have hany' : (r.any fun kv => decide (kv.1 = k)) = true := by simpa [h1] using hany
        by_cases h2 : a.1 = x
        · have : x ≠ k := fun z => h1 (h2.trans z)
          simp [h2, this]
        · simp only [h2, decide_false]
          rw [ih hany', List.find?_cons]
          simp [h2]
  · rw [if_neg hany]
    unfold valueAt
    rw [List.find?_append]
    by_cases h1 : x = k
    · subst h1
      have : kvs.find? (fun kv => decide (kv.1 = x)) = none := by
        rw [List.find?_eq_none]
        intro a ha z
        exact hany (List.any_eq_true.mpr ⟨a, ha, z⟩)
      rw [this]
      simp
    · have h2 : ¬ k = x := fun z => h1 z.symm
      simp only [List.find?_cons, List.find?_nil, h2, decide_false, Option.or_none, if_neg h1]

section
variable {K : Frag} {p : Program} {loose : List Str} {mean : ExcName → Option Value} {mg mb : Str → Option Value} {A : Around} {env : Env} {h₀ : Heap} {L : Addr} {d : Nat}
variable {prog : Program} {w : World} {C : Addr} {s₀ s : Shared} {own : List (Addr × Obj)} {m : Str → Option Value} {H : AH} {Q : Value → Shared → Prop} {E : Value → Shared → Prop}

theorem St.notMod (c : Cx K p loose mean mg mb A env h₀ L d) (S : St C s₀ h₀ L own s m H) : (s.heap.objs.size == sysModules) = false := S.fr.notModules (modules_low c.T.nolimit)
theorem r_dict0 {env' : Env} {pos : Pos} (c : Cx K p loose mean mg mb A env h₀ L d) (S : St C s₀ h₀ L own s m H) (h : ∀ a o s', H a = none → (a == sysModules) = false → DObj prog w (fun _ => none) 0 o → St C s₀ h₀ L own s' m (put H a (.raw o)) → Q (.ref a) s') :
    wpAny (model prog w) A (eval (.Dict [] [] pos) env') Q E s := by
  refine wpAny_Dict_empty ?_
  obtain ⟨q, S'⟩ := S.pushed (o := { cls := .type "dict", data := .dict #[] }) (ao := .raw { cls := .type "dict", data := .dict #[] }) (tk := s.toks) (fun _ x => by cases x) rfl fun h d e => e
  refine h _ _ _ q (S.notMod c) ⟨[], ?_, Nat.le_refl _, fun _ => rfl⟩ S'
  obtain ⟨o, ho, hd⟩ := Heap.dictOf_iff.mp (Heap.DictOf.new (knd := intKind prog w) s.heap)
  rw [Heap.get?_push_size _ rfl] at ho
  exact (Option.some.inj ho) ▸ hd

theorem r_dict1 {env' : Env} {pos p1 p2 : Pos} {k v : Int} {n1 n2 : Nat} (c : Cx K p loose mean mg mb A env h₀ L d) (S : St C s₀ h₀ L own s m H) (h : ∀ a o s' t, H a = none → (a == sysModules) = false → DObj prog w (fun x => if x = k then some (.int v t) else none) 1 o → St C s₀ h₀ L own s' m (put H a (.raw o)) → Q (.ref a) s') :
    wpAny (model prog w) A (eval (.Dict [some (.Constant (.int k) n1 p1)] [.Constant (.int v) n2 p2] pos) env') Q E s := by
  refine Dict_made_int rfl S.fr rfl rfl (by simp) (by simp) fun F' => ?_
  refine pairTrees_cons_walk (wpAny_Constant_int (wpAny_Constant_int (pairTrees_nil_walk ?_)))
  refine ⟨[(k, .int v (s.toks + 1))], ?_, Heap.DictOf.new _, fun h' hd hs => ?_⟩
  · exact ⟨intKind_is _ _ _ _, rfl, trivial⟩
  · obtain ⟨o, ho, hd'⟩ := Heap.dictOf_iff.mp hd
    have k1 : ∀ b ob, s.heap.get? b = some ob → h'.get? b = some ob := fun b ob e => (hs.2 b (Nat.ne_of_lt (Heap.lt_size e))).trans (Heap.get?_push_of_some _ e)
    obtain ⟨q, S'⟩ := S.add (tk := s.toks + 1 + 1 + 1) (o := .raw o) (Fr.of_ext S.fr k1) (fun _ x => by cases x) S.at_new.2.2 S.at_new.1 S.at_new.2.1 (fun b ob _ _ e => k1 b ob e) (fun d => ho)
    refine h _ o _ (s.toks + 1) q (S.notMod c) ⟨_, hd', by simp [merged, stored], fun x => ?_⟩ S'
    simp only [merged, List.foldl_cons, List.foldl_nil]
    rw [valueAt_stored]
    rfl

theorem DObj.map {a : Addr} {f : Int → Option Value} {n : Nat} {o : Obj} {h : Heap} (D : DObj prog w f n o) (e : h.get? a = some o) : h.MapOf (intKind prog w) a f := by
  obtain ⟨kvs, hd, _, hf⟩ := D
  have := (Heap.dictOf_iff.mpr ⟨o, e, hd⟩ : h.DictOf (intKind prog w) a kvs).mapOf
  rwa [show valueAt kvs = f from funext hf] at this
theorem r_ditem {value slice : Expr} {a : Addr} {o : Obj} {f : Int → Option Value} {n : Nat} {k : Int} {t : Tok} {v : Value} (S : St C s₀ h₀ L own s m H) (ha : H a = some (.raw o)) (D : DObj prog w f n o) (hk : f k = some v) (h : ∀ s', St C s₀ h₀ L own s' m H → Q v s')
    (hs : subscripted slice false (.ref a) (.int k t) = operate [.ref a, .int k t] (getItem (.ref a) (.int k t)) := by with_unfolding_all rfl) :
    wpAny (model prog w) A (subscriptTail value slice (.ref a) (.int k t)) Q E s := by
  have M := D.map (S.raw ha)
  exact tail_any M.typeIs slot_dict_getitem.lookup (wpAny_getItem_of (intKind_is prog w k t) M hk (h _ (S.tok _))) hs
theorem r_dmeth {a : Addr} {o : Obj} {f : Int → Option Value} {n : Nat} {pl : Sem Bool} {Q : Value × List Value → Shared → Prop} (S : St C s₀ h₀ L own s m H) (ha : H a = some (.raw o)) (D : DObj prog w f n o) (h : Q (.builtin "dict.get", [.ref a]) s) :
    wpAny (model prog w) A (getMethod (.ref a) "get" pl) Q E s := by
  have M := D.map (S.raw ha)
  exact getMethod_builtin M.typeIs PySem.F.plainAttrs_dict PySem.F.slot_dict_get PySem.F.type_dict_get M.noDict h
theorem r_dget1 {a : Addr} {o : Obj} {f : Int → Option Value} {n : Nat} {k : Int} {t : Tok} (S : St C s₀ h₀ L own s m H) (ha : H a = some (.raw o)) (hm : (a == sysModules) = false) (D : DObj prog w f n o) {u : Value} (hu : (f k).getD .none = u) (h : ∀ s', St C s₀ h₀ L own s' m H → Q u s') :
    wpAny (model prog w) A (call (.builtin "dict.get") [.ref a, .int k t]) Q E s := by
  subst hu
  have M := D.map (S.raw ha)
  exact call_meetsIn PySem.F.slot_dict_get M.typeIs PySem.F.entry_dict_get (PySem.F.args_dict_get_2 _ _) (meets_dict_get _ a (intKind_is prog w k t) hm) ⟨_, M, h _ (S.tok _)⟩
theorem r_dget2 {a : Addr} {o : Obj} {f : Int → Option Value} {n : Nat} {k : Int} {t : Tok} {v : Value} (S : St C s₀ h₀ L own s m H) (ha : H a = some (.raw o)) (hm : (a == sysModules) = false) (D : DObj prog w f n o) {u : Value} (hu : (f k).getD v = u) (h : ∀ s', St C s₀ h₀ L own s' m H → Q u s') :
    wpAny (model prog w) A (call (.builtin "dict.get") [.ref a, .int k t, v]) Q E s := by
  subst hu
  have M := D.map (S.raw ha)
  exact call_meetsIn PySem.F.slot_dict_get M.typeIs PySem.F.entry_dict_get (PySem.F.args_dict_get_3 _ _ _) (meets_dict_get_default _ a (intKind_is prog w k t) hm _) ⟨_, M, h _ (S.tok _)⟩
theorem r_dset {a : Addr} {o : Obj} {f : Int → Option Value} {n : Nat} {k : Int} {t : Tok} {v : Value} {Q : Unit → Shared → Prop} (S : St C s₀ h₀ L own s m H) (ha : H a = some (.raw o)) (D : DObj prog w f n o) (hn : n ≤ 100000)
    (h : ∀ o' s', DObj prog w (fun x => if x = k then some v else f x) (n + 1) o' → St C s₀ h₀ L own s' m (put H a (.raw o')) → Q () s') : wpAny (model prog w) A (setItem (.ref a) (.int k t) v) Q E s := by
  obtain ⟨kvs, hd, hl, hf⟩ := D
  refine wpAny_setItem_pairs (intKind_is prog w k t) (Heap.dictOf_iff.mpr ⟨o, S.raw ha, hd⟩) (fun h' hm hs => ?_) (by rw [sizeLine_eq]; omega)
  obtain ⟨o', ho', hd'⟩ := Heap.dictOf_iff.mp hm
  refine h o' _ ⟨_, hd', Nat.le_trans (stored_length_le _ _ _) (by omega), fun x => by rw [valueAt_stored, hf]⟩ ?_
  exact S.change (Fr.of_but S.fr (S.ne_L ha).1 (S.ne_L ha).2 fun b ob hb q => (hs.2 b hb).trans q) ha (fun _ q => by cases q) (fun _ q => by cases q) (fun b ob hb _ _ q => (hs.2 b hb).trans q) fun _ => ho'

/-! list.index -/
theorem r_index {l : Addr} {vs : List Value} {x : Value} {e : Value → Bool} {j : Nat} (_c : Cx K p loose mean mg mb A env h₀ L d) (S : St C s₀ h₀ L own s m H) (hl : H l = some (.list vs)) (hj : j < vs.length) (hs : vs.length ≤ 100000) (hit : e vs[j] = true) (hno : ∀ q (hq : q < vs.length), q < j → e vs[q] = false)
    (he : ∀ A' y, y ∈ vs → EqAt A' s y x (e y)) (h : ∀ s' t, St C s₀ h₀ L own s' m H → Q (.int j t) s') : wpAny (model prog w) A (call (.builtin "list.index") [.ref l, x]) Q E s := by
  obtain ⟨n, hn⟩ := S.list hl
  refine call_meets PySem.F.slot_list_index ⟨_, hn, rfl⟩ PySem.F.entry_list_index (PySem.F.args_list_index_2 _ _) (list_indexAt l vs.toArray n none #[] x e j (by simpa using hj) (by omega) (by simpa using hit) fun q hq h2 => by simpa using hno q (by simpa using hq) h2)
    ⟨hn, fun y hy => he _ y (by simpa using hy), h _ _ (S.tok _)⟩

/-! comparisons -/
theorem r_ne_none (h : Q (.bool false) s) : wpAny (model prog w) A (compareOp .NotEq .none .none) Q E s := RcNeAt.none_none prog w E Q h
theorem r_ne_bool {a b : Bool} (h : Q (.bool (!(a == b))) s) : wpAny (model prog w) A (compareOp .NotEq (.bool a) (.bool b)) Q E s := RcNeAt.bool_bool a b prog w E Q h
end
end Mine
namespace Mine
section
variable {prog : Program} {w : World} {A : Around} {env : Env} {h₀ : Heap} {L : Addr} {C : Addr} {s₀ s : Shared} {own : List (Addr × Obj)} {m : Str → Option Value} {H : AH} {Q : Value → Shared → Prop} {E : Value → Shared → Prop}
theorem r_dmeth1 {a : Addr} {o : Obj} {f : Int → Option Value} {n : Nat} {pos : Pos} {pl : Sem Bool} {e : Expr} (S : St C s₀ h₀ L own s m H) (ha : H a = some (.raw o)) (D : DObj prog w f n o)
    (h : wpAny (model prog w) A (eval e env) (fun v s₁ => wpAny (model prog w) A (call (.builtin "dict.get") [.ref a, v]) Q E s₁) E s) (he : starEach (e :: []) env = (false, eval e env) :: starEach [] env := by rfl) :
    wpAny (model prog w) A (getMethod (.ref a) "get" pl) (fun fx s₂ => wpAny (model prog w) A (callWith pos fx.1 fx.2 (backTo pos (starEach [e] env)) []) Q E s₂) E s := by
  refine r_dmeth S ha D ?_
  rw [he]
  exact callWith_builtin rfl (evalArgs_plain (spliced_cons (wpAny_mono h (fun v s₁ h₁ => spliced_nil h₁) fun _ _ y => y)))
theorem r_dmeth2 {a : Addr} {o : Obj} {f : Int → Option Value} {n : Nat} {pos : Pos} {pl : Sem Bool} {e e2 : Expr} (S : St C s₀ h₀ L own s m H) (ha : H a = some (.raw o)) (D : DObj prog w f n o)
    (h : wpAny (model prog w) A (eval e env) (fun v s₁ => wpAny (model prog w) A (eval e2 env) (fun v2 s₂ => wpAny (model prog w) A (call (.builtin "dict.get") [.ref a, v, v2]) Q E s₂) E s₁) E s)
    (he : starEach (e :: [e2]) env = (false, eval e env) :: (false, eval e2 env) :: starEach [] env := by rfl) :
    wpAny (model prog w) A (getMethod (.ref a) "get" pl) (fun fx s₂ => wpAny (model prog w) A (callWith pos fx.1 fx.2 (backTo pos (starEach [e, e2] env)) []) Q E s₂) E s := by
  refine r_dmeth S ha D ?_
  rw [he]
  exact callWith_builtin rfl (evalArgs_plain (spliced_cons (wpAny_mono h (fun v s₁ h₁ => spliced_cons (wpAny_mono h₁ (fun v2 s₂ h₂ => spliced_nil h₂) fun _ _ y => y)) fun _ _ y => y)))
end
end Mine
namespace Mine
theorem Sub.off {H H' : AH} {b : Addr} {o : AObj} (h : Sub H H') (hb : H b = Option.none) : Sub H (Mine.put H' b o) := fun a ob e => put_off (fun z => by rw [z, hb] at e; cases e) (h a ob e)
theorem SubX.off {X : List Addr} {H H' : AH} {b : Addr} {o : AObj} (h : SubX X H H') (hb : H b = Option.none) : SubX X H (Mine.put H' b o) := fun a ob hx e => put_off (fun z => by rw [z, hb] at e; cases e) (h a ob hx e)
theorem SubX.none {H H' : AH} {x r : Addr} {o : AObj} (h : SubX [x] H H') (e : H' x = some o) (hr : H' r = Option.none) : H r = Option.none := by
  cases q : H r with
  | none => rfl
  | some ob =>
    by_cases z : r = x
    · rw [z, e] at hr; cases hr
    · rw [h r ob (by simpa using z) q] at hr; cases hr
end Mine
namespace Mine
theorem getD_none' {o : Option Value} {v : Value} (h : o = none) : o.getD v = v := by rw [h]; rfl
theorem getD_some' {o : Option Value} {u v : Value} (h : o = some u) : o.getD v = u := by rw [h]; rfl
section
variable {prog : Program} {w : World} {A : Around} {C : Addr} {s₀ : Shared} {h₀ : Heap} {L : Addr} {s : Shared} {own : List (Addr × Obj)} {m : Str → Option Value} {H : AH} {Q : Value → Shared → Prop}
theorem wp_valueP (P : Value → Prop) {t : Sem Value} (_S : St C s₀ h₀ L own s m H) (h1 : wpAny (model prog w) A t (fun v s' => P v ∧ St C s₀ h₀ L own s' m H) NoE s) (h2 : ∀ v s', P v → St C s₀ h₀ L own s' m H → Q v s') : wpAny (model prog w) A t Q NoE s :=
  wpAny_mono h1 (fun v s' h => h2 v s' h.1 h.2) fun _ _ x => x
end
end Mine
namespace Mine
section
variable {prog : Program} {w : World} {A : Around} {s : Shared} {Q : Value → Shared → Prop} {E : Value → Shared → Prop}
theorem r_is_in {i : Int} {t : Tok} (h : Q (.bool false) s) : wpAny (model prog w) A (compareOp .Is (.int i t) .none) Q E s := wpAny_is_other rfl (fun x => by cases x) h
end
end Mine

end
section
open PySem PySem.W PyProof.Rows
set_option Elab.async false
namespace Mine
set_option maxRecDepth 100000 in
set_option maxHeartbeats 8000000 in
open_top hd05 for PySem.Challenge.rw_dn0305_05
end Mine

end
section
open PySem PySem.W PySem.Calls PyProof.Rows PySem.Spec
set_option Elab.async false
set_option maxRecDepth 100000
namespace Mine
local macro_rules | `(tactic| walk_at "my getter") => `(tactic| (refine' IsGetter.intro ?k1 ?k2 ?k3 ?k4 ?k5 ?k7 ?k8 ?k9 ?k10 ?k11 ?k12 ?k13 ?k14; (case k1 => k_is); (case k2 => k_is); (case k3 => k_is); (case k4 => k_is); (case k5 => exact fun _ _ _ => rfl); (case k7 => k_is); (case k8 => k_is); (case k9 => exact rfl); (case k10 => exact rfl); (case k11 => exact rfl); (case k12 => exact rfl); (case k13 => decide); (case k14 => exact fun _ => rfl)))
local macro_rules | `(tactic| walk_at "my setter") => `(tactic| (refine' IsSetter.intro ?k1 ?k2 ?k3 ?k4 ?k5 ?k7 ?k8 ?k9 ?k9' ?k9a ?k9b ?k10 ?k11 ?k12 ?k13 ?k14; (case k1 => k_is); (case k2 => k_is); (case k3 => k_is); (case k4 => k_is); (case k5 => exact fun _ _ _ => rfl); (case k7 => k_is); (case k8 => k_is); (case k9 => exact rfl); (case k9' => exact rfl); (case k9a => decide); (case k9b => decide); (case k10 => exact rfl); (case k11 => exact rfl); (case k12 => exact rfl); (case k13 => decide); (case k14 => exact fun _ _ => rfl)))
local macro_rules | `(tactic| walk_at "my init") => `(tactic| (refine' IsInit.intro (fun i => (match i with | 0 => ⟨5, 8, 5, 12⟩ | 1 => ⟨5, 8, 5, 24⟩ | 2 => ⟨5, 27, 5, 36⟩ | 3 => ⟨5, 8, 5, 36⟩ | 4 => ⟨6, 8, 6, 12⟩ | 5 => ⟨6, 8, 6, 24⟩ | 6 => ⟨6, 27, 6, 31⟩ | 7 => ⟨6, 8, 6, 31⟩ | 8 => ⟨7, 8, 7, 12⟩ | 9 => ⟨7, 8, 7, 23⟩ | 10 => ⟨7, 26, 7, 30⟩ | 11 => ⟨7, 8, 7, 30⟩ | 12 => ⟨8, 8, 8, 12⟩ | 13 => ⟨8, 8, 8, 23⟩ | 14 => ⟨8, 26, 8, 30⟩ | 15 => ⟨8, 8, 8, 30⟩ | 16 => ⟨9, 8, 9, 12⟩ | 17 => ⟨9, 8, 9, 23⟩ | 18 => ⟨9, 26, 9, 30⟩ | _ => ⟨9, 8, 9, 30⟩ : Pos)) ?k1 ?k2 ?k3 ?k4 ?k5 ?k6 ?k7 ?k8 ?k9 ?k10 ?k11 ?k12 ?k13; (case k1 => k_is); (case k2 => k_is); (case k3 => k_is); (case k4 => k_is); (case k5 => k_is); (case k6 => exact fun s x X => binds_K X rfl (by k_is) rfl rfl rfl); (case k7 => exact fun s x v X => binds_K X rfl (by k_is) rfl rfl rfl); (case k8 => exact rfl); (case k9 => exact rfl); (case k10 => exact rfl); (case k11 => exact rfl); (case k12 => exact rfl); (case k13 => decide)))
local macro_rules | `(tactic| walk_at "my lib") => `(tactic| exact ⟨⟨by k_is, by k_is, by k_is, by k_is, by k_is, by k_is, by k_is, by k_is, by k_is, by k_is, by k_is, by k_is, by k_is, by k_is, by k_is⟩, by walk_at "my init", by walk_at "my getter", by walk_at "my getter", by walk_at "my getter", by walk_at "my getter", by walk_at "my getter", by walk_at "my setter", by walk_at "my setter", by walk_at "my setter", by walk_at "my setter", by walk_at "my setter", by k_is⟩)

local macro_rules | `(tactic| walk_at "my look") => `(tactic| first | with_reducible assumption | with_reducible exact upd_same | ((with_reducible refine' upd_look ?k1 ?k2); (case k1 => decide); (case k2 => walk_at "my look")))
local macro_rules | `(tactic| walk_at "my ne") => `(tactic| first | with_reducible assumption | ((with_reducible refine Ne.symm ?_); with_reducible assumption))
local macro_rules | `(tactic| walk_at "my heap") => `(tactic| first | with_reducible assumption | with_reducible exact put_same | ((with_reducible refine' put_step ?j1 ?j2); (case j1 => walk_at "my heap"); (case j2 => walk_at "my apart")))
local macro_rules | `(tactic| walk_at "my apart") => `(tactic| (intro e9; first | walk_at "my ne" | ((with_reducible refine' ne_new ?j3 e9); with_reducible assumption) | ((with_reducible refine' ne_kind e9 ?j4 ?j5); (case j4 => walk_at "my heap"); (case j5 => exact fun z9 => by cases z9))))
local macro_rules | `(tactic| walk_at "my none") => `(tactic| with_reducible assumption)
local macro_rules | `(tactic| walk_at "my asm") => `(tactic| with_reducible assumption)
local macro_rules | `(tactic| walk_at "my getter of") => `(tactic| first | with_reducible exact (by assumption : Lib _ _).g0 | with_reducible exact (by assumption : Lib _ _).g1 | with_reducible exact (by assumption : Lib _ _).g2 | with_reducible exact (by assumption : Lib _ _).g3 | with_reducible exact (by assumption : Lib _ _).g4)
local macro_rules | `(tactic| walk_at "my setter of") => `(tactic| first | with_reducible exact (by assumption : Lib _ _).s0 | with_reducible exact (by assumption : Lib _ _).s1 | with_reducible exact (by assumption : Lib _ _).s2 | with_reducible exact (by assumption : Lib _ _).s3 | with_reducible exact (by assumption : Lib _ _).s4)
local macro_rules | `(tactic| walk_at "my B") => `(tactic| with_reducible exact (by assumption : Lib _ _).B)
local macro_rules | `(tactic| walk_at "my handed") => `(tactic| first | with_reducible assumption | exact rfl)
local macro_rules | `(tactic| walk_at "my size") => `(tactic| first | ((try simp only [List.length_append, List.length_cons, List.length_nil, List.length_replicate]); omega) | (rw [sizeLine_eq]; (try simp only [List.length_append, List.length_cons, List.length_nil, List.length_replicate]); omega))
local macro_rules | `(tactic| walk_at "my isl") => `(tactic| first | ((with_reducible refine' St.given ?i1 ?i2); (case i2 => walk_at "my asm"); (case i1 => walk_at "my asm")) | ((with_reducible refine' St.isList ?i1 ?i2); (case i1 => walk_at "my asm"); (case i2 => walk_at "my heap")))
local macro_rules | `(tactic| walk_at "my stmt") => `(tactic| first | with_reducible refine wpAny_execs_cons ?_ | with_reducible refine wpAny_execs_nil ?_ | with_reducible refine wpAny_Return_some ?_ | ((with_reducible refine wpAny_Assign_Name ?h ?he); (case he => rfl)) | ((with_reducible refine Assign_Tuple ?h ?he ?hw); (case he => rfl); (case hw => rfl)) | ((with_reducible refine' Assign_Tuple_swapped ?h ?he ?hw); (case he => rfl); (case hw => exact rfl)) | with_reducible refine wpAny_If ?_ | ((with_reducible refine wpAny_Expr ?h ?hi ?he); (case hi => rfl); (case he => rfl)))
local macro_rules | `(tactic| walk_at "my expr") => `(tactic| first | ((with_reducible refine' r_local ?k1 ?k2 ?k3 ?h ?hl ?hd); (case k1 => walk_at "my asm"); (case k2 => walk_at "my asm"); (case k3 => walk_at "my look"); (case hl => exact rfl); (case hd => decide)) | ((with_reducible refine' r_cname ?k1 ?k2 ?k3 ?h ?hk ?hl ?hd); (case k1 => walk_at "my asm"); (case k2 => walk_at "my asm"); (case k3 => walk_at "my look"); (case hk => exact rfl); (case hl => exact rfl); (case hd => decide)) | ((with_reducible refine' r_glob ?k1 ?k2 ?k3 ?h ?hl ?hd ?hk ?hg); (case k1 => walk_at "my asm"); (case k2 => walk_at "my asm"); (case k3 => first | walk_at "my asm" | k_is); (case hl => exact rfl); (case hd => decide); (case hk => exact rfl); (case hg => exact rfl)) | ((with_reducible refine' r_blt ?k1 ?k2 ?k3 ?k4 ?k5 ?h ?hl ?hd ?hk ?hg ?hb); (case k1 => walk_at "my asm"); (case k2 => walk_at "my asm"); (case k3 => first | walk_at "my asm" | k_is); (case k4 => boot_by_name); (case k5 => decide); (case hl => exact rfl); (case hd => decide); (case hk => exact rfl); (case hg => exact rfl); (case hb => exact rfl)) | ((with_reducible refine' r_int ?k1 ?h); (case k1 => walk_at "my asm"); intro s' t' S') | ((with_reducible refine' r_str ?k1 ?h); (case k1 => walk_at "my asm"); intro s' t' S') | with_reducible refine wpAny_Constant_none ?_ | with_reducible refine wpAny_Constant_bool ?_ | with_reducible refine wpAny_BinOp ?_ | ((with_reducible refine wpAny_Compare1 ?h ?he); (case he => with_unfolding_all rfl)) | with_reducible refine List_ ?_ | with_reducible refine Tuple_ ?_ | with_reducible refine IfExp_ ?_ | with_reducible refine Subscript_ ?_ | ((with_reducible refine args_cons ?h ?he); (case he => rfl)) | with_reducible refine args_nil ?_ | ((with_reducible show wpAny _ _ (eval (Expr.Call (Expr.Attribute _ _ _) _ _ _) _) _ _ _); refine MethodCall_ ?_) | ((with_reducible show wpAny _ _ (eval (Expr.Call _ _ _ _) _) _ _ _); refine Call_ ?_))
local macro_rules | `(tactic| walk_at "my test") => `(tactic| first | ((with_reducible refine wpAny_isTrue_Compare1 ?h ?he); (case he => with_unfolding_all rfl)) | with_reducible refine isTrue_not ?_ | with_reducible refine isTrue_or ?_ | with_reducible refine isTrue_and ?_ | with_reducible refine isTrue_or_nil ?_ | with_reducible refine isTrue_and_nil ?_ | with_reducible refine wpAny_truthy_bool ?_ | with_reducible refine ite_tt ?_ | with_reducible refine ite_ff ?_ | with_reducible refine ite_nt ?_ | with_reducible refine ite_nf ?_ | with_reducible refine ite_T ?_ | with_reducible refine ite_F ?_ | ((with_reducible show wpAny _ _ (PySem.isTrue _ _ _) _ _ _); refine isTrue_plain ?_))
local macro_rules | `(tactic| walk_at "my sub") => `(tactic| first | with_reducible assumption | with_reducible exact SubX.refl | with_reducible exact Sub.refl | ((with_reducible refine' SubX.new ?k1 ?k2); (case k2 => walk_at "my none"); (case k1 => walk_at "my sub")) | ((with_reducible refine' SubX.at ?k1 ?k2); (case k2 => simp); (case k1 => walk_at "my sub")) | ((with_reducible refine' Sub.new ?k1 ?k2); (case k2 => walk_at "my none"); (case k1 => walk_at "my sub")))
local macro_rules | `(tactic| walk_at "my St") => `(tactic| first | with_reducible assumption | ((with_reducible refine' St.sub' ?k1 ?k2); (case k1 => with_reducible assumption); (case k2 => walk_at "my sub")))
local macro_rules | `(tactic| walk_at "my same1") => `(tactic| first | with_reducible exact Same.rfl' | with_reducible exact Same.int | with_reducible exact Same.str | with_reducible exact Same.bytes | ((with_reducible refine' Same.list ?k1 ?k2 ?k3); (case k1 => walk_at "my heap"); (case k2 => walk_at "my heap"); (case k3 => walk_at "my same")))
local macro_rules | `(tactic| walk_at "my same") => `(tactic| first | (simp only [List.length_replicate, Int.toNat_natCast]; exact SameAll.refl) | with_reducible exact SameAll.refl | exact SameAll.refl | exact SameAll.nil | ((with_reducible refine SameAll.cons ?k1 ?k2); (case k1 => walk_at "my same1"); (case k2 => walk_at "my same")))
local macro_rules | `(tactic| walk_at "my op") => `(tactic| first | ((with_reducible refine' r_newList ?k1 ?h ?hz); (case k1 => walk_at "my asm"); (case hz => walk_at "my size"); intro a' s' n' S') | ((with_reducible refine' r_newTuple ?k1 ?h ?hz); (case k1 => walk_at "my asm"); (case hz => walk_at "my size"); intro a' s' n' S') | with_reducible refine r_is_nn ?_ | with_reducible refine r_is_rn ?_ | with_reducible refine r_isnot_nn ?_ | with_reducible refine r_isnot_rn ?_ | with_reducible refine wpAny_bindName ?_ | with_reducible refine wpAny_assign_Name ?_ | ((with_reducible refine' r_unpackItems ?k1 ?k2 ?k3 ?k4 ?h); (case k1 => walk_at "my asm"); (case k2 => walk_at "my asm"); (case k3 => walk_at "my heap"); (case k4 => exact rfl); intro s' S') | ((with_reducible refine' r_assign_tup ?k1 ?k2 ?k3 ?k4 ?k5 ?h); (case k1 => walk_at "my asm"); (case k2 => walk_at "my asm"); (case k3 => walk_at "my heap"); (case k4 => exact rfl); (case k5 => exact rfl); intro s' S') | ((with_reducible show wpAny _ _ (assignInOrder _ _) _ _ _); (show wpAny _ _ (assignInOrder (_ :: _) (_ :: _)) _ _ _); refine aio_cons ?_) | ((with_reducible show wpAny _ _ (assignInOrder _ _) _ _ _); (show wpAny _ _ (assignInOrder [] []) _ _ _); refine aio_nil ?_) | ((with_reducible refine' r_store ?k1 ?k2 ?h ?hl); (case k1 => walk_at "my asm"); (case k2 => walk_at "my asm"); (case hl => exact rfl); intro s' S') | ((with_reducible refine' r_cstore ?k0 ?k1 ?k2 ?h ?hk ?hl); (case k0 => walk_at "my asm"); (case k1 => walk_at "my asm"); (case k2 => walk_at "my asm"); (case hk => exact rfl); (case hl => exact rfl); intro o' s' O' S') | ((with_reducible refine' r_getm ?k0 ?k1 ?k2 ?k3 ?k4 ?k5 ?h); (case k0 => walk_at "my getter of"); (case k1 => walk_at "my asm"); (case k2 => walk_at "my B"); (case k3 => walk_at "my asm"); (case k4 => walk_at "my heap"); (case k5 => walk_at "my handed"); intro s' S'; (try dsimp only [Flds.get])) | ((with_reducible refine' r_setm ?k0 ?k1 ?k2 ?k3 ?k4 ?h ?he); (case k0 => walk_at "my setter of"); (case k1 => walk_at "my asm"); (case k2 => walk_at "my B"); (case k3 => walk_at "my asm"); (case k4 => walk_at "my heap"); (case he => rfl)) | ((with_reducible refine' AtSet.mk' ?k1 ?k2 ?h); (case k1 => walk_at "my asm"); (case k2 => walk_at "my heap"); intro s' S'; dsimp only [Flds.set] at S') | ((with_reducible refine' r_new0 ?k0 ?k1 ?k2 ?k3 ?h); (case k0 => with_reducible exact (by assumption : Lib _ _).init); (case k1 => walk_at "my asm"); (case k2 => walk_at "my B"); (case k3 => walk_at "my asm"); intro x' s' n' S') | ((with_reducible refine' r_new1 ?k0 ?k1 ?k2 ?k3 ?h ?he); (case k0 => with_reducible exact (by assumption : Lib _ _).init); (case k1 => walk_at "my asm"); (case k2 => walk_at "my B"); (case k3 => walk_at "my asm"); (case he => rfl)) | ((with_reducible refine' r_add ?k1 ?h); (case k1 => walk_at "my asm"); intro s' t' S') | ((with_reducible refine' r_sub ?k1 ?h); (case k1 => walk_at "my asm"); intro s' t' S') | ((with_reducible refine' r_mod ?k1 ?k2 ?h); (case k1 => walk_at "my asm"); (case k2 => decide); intro s' t' S') | ((with_reducible refine' r_fdiv ?k0 ?k1 ?k2 ?h); (case k0 => walk_at "my asm"); (case k1 => walk_at "my asm"); (case k2 => decide); intro s' t' S') | ((with_reducible refine' r_ne_lists (n := 3) ?k1 ?k2 ?k3 ?k4 ?k5 ?k6 ?h); (case k1 => walk_at "my asm"); (case k2 => walk_at "my asm"); (case k3 => walk_at "my heap"); (case k4 => walk_at "my heap"); (case k5 => walk_at "my same"); (case k6 => decide)) | ((with_reducible refine' r_eq_lists (n := 3) ?k1 ?k2 ?k3 ?k4 ?k5 ?k6 ?h); (case k1 => walk_at "my asm"); (case k2 => walk_at "my asm"); (case k3 => walk_at "my heap"); (case k4 => walk_at "my heap"); (case k5 => walk_at "my same"); (case k6 => decide)) | ((with_reducible refine' r_eq_nil ?k1 ?k2 ?k3 ?k4 ?h); (case k1 => walk_at "my asm"); (case k2 => walk_at "my asm"); (case k3 => walk_at "my heap"); (case k4 => walk_at "my heap")) | ((with_reducible refine' r_add_lists ?k1 ?k2 ?k3 ?k4 ?h); (case k1 => walk_at "my asm"); (case k2 => walk_at "my isl"); (case k3 => walk_at "my isl"); (case k4 => walk_at "my size"); intro a' s' n' S') | ((with_reducible refine' r_enum ?k1 ?k2 ?h); (case k1 => walk_at "my asm"); (case k2 => walk_at "my heap"); intro e' it' ob' s' n1' n2' n3' hi' S') | with_reducible refine wp_forIn_nil ?_ | with_reducible refine lt_int ?_ | with_reducible refine gt_int ?_ | with_reducible refine eq_int ?_ | with_reducible refine ne_int ?_ | ((with_reducible refine' r_lmeth1 PySem.F.slot_list_append PySem.F.type_list_append ?k1 ?k2 ?h ?he); (case k1 => walk_at "my asm"); (case k2 => walk_at "my heap"); (case he => rfl)) | ((with_reducible refine' r_lmeth1 PySem.F.slot_list_extend PySem.F.type_list_extend ?k1 ?k2 ?h ?he); (case k1 => walk_at "my asm"); (case k2 => walk_at "my heap"); (case he => rfl)) | ((with_reducible refine' r_lmeth1 PySem.F.slot_list_remove PySem.F.type_list_remove ?k1 ?k2 ?h ?he); (case k1 => walk_at "my asm"); (case k2 => walk_at "my heap"); (case he => rfl)) | ((with_reducible refine' r_append ?k1 ?k2 ?k3 ?h); (case k1 => walk_at "my asm"); (case k2 => walk_at "my heap"); (case k3 => walk_at "my size"); intro s' S') | ((with_reducible refine' r_extend ?k1 ?k2 ?k3 ?k4 ?h); (case k1 => walk_at "my asm"); (case k2 => walk_at "my heap"); (case k3 => walk_at "my heap"); (case k4 => walk_at "my size"); intro s' S') | ((with_reducible refine' r_mul_list ?k1 ?k2 ?k3 ?k4 ?h); (case k1 => walk_at "my asm"); (case k2 => walk_at "my heap"); (case k3 => walk_at "my size"); (case k4 => walk_at "my size"); intro a' s' n' S') | ((with_reducible refine' r_len ?k1 ?k2 ?k3 ?h); (case k1 => walk_at "my asm"); (case k2 => walk_at "my heap"); (case k3 => walk_at "my size"); intro s' t' S') | ((with_reducible show wpAny _ _ (callWith _ (Value.builtin _) _ _ _) _ _ _); (with_reducible refine callWith_builtin1 ?h ?he ?hp); (case he => rfl); (case hp => rfl)) | ((with_reducible show wpAny _ _ (callWith _ (Value.type _) _ _ _) _ _ _); (with_reducible refine callWith_type1 ?h ?he ?hp); (case he => rfl); (case hp => rfl)) | ((with_reducible refine' r_callK ?k1 ?k3 ?k2 ?h ?he ?hp); (case k1 => walk_at "my asm"); (case k3 => walk_at "my asm"); (case k2 => k_is); (case he => rfl); (case hp => rfl)) | ((with_reducible refine' calledWith ?k1 ?h); (case k1 => walk_at "my asm"); (try simp only [List.nil_append])) | ((with_reducible refine' AtNew.mk' ?k1 ?h); (case k1 => walk_at "my asm"); intro x' s' n' S'))
local macro_rules | `(tactic| walk_at "my step") => `(tactic| first | (k_unfold; (try dsimp only)) | walk_at "my stmt" | walk_at "my expr" | walk_at "my test" | walk_at "my op" | walk_at "my call" | dsimp only)

section
variable {p : Program} {loose : List Str} {mean : ExcName → Option Value} {mg mb : Str → Option Value} {A : Around} {env : Env} {h₀ : Heap} {L : Addr} {d : Nat}
variable {w : World} {s₀ s : Shared} {own : List (Addr × Obj)} {m : Str → Option Value} {H : AH} {Q : Value → Shared → Prop} {E : Value → Shared → Prop}

theorem lib05 (w : World) : PySem.Challenge.rw_dn0305_05.prog = PySem.Challenge.rw_dn0305_05.prog → Lib (hd05.heap_39 w.params) 102 := by
  k_fill
  intro _
  walk_at "my lib"
set_option maxHeartbeats 1000000 in
theorem told05 {x : Addr} {F : Flds} (c : Cx (hd05.heap_39 w.params) p loose mean mg mb A env h₀ L (d + 2)) (S : St 102 s₀ h₀ L own s m H) (hx : H x = some (.src F))
    (h0 : handedIn F.sys = true) (h1 : handedIn F.pub = true) (h2 : handedIn F.enc = true) (h3 : handedIn F.byt = true) (h4 : handedIn F.chr = true)
    (h : ∀ a s', H a = none → St 102 s₀ h₀ L own s' m (put H a (.list [F.sys, F.pub, F.enc, F.byt, F.chr])) → Q (.ref a) s') :
    wpAny (model PySem.Challenge.rw_dn0305_05.row.prog w) A (call (.ref 113) [.ref x]) Q E s := by
  have l := lib05 w rfl
  refine' call_fn (binds := [("source", .ref x)]) c S ?k1 ?k2 ?k3 ?k4 ?k5 ?k6 ?k7 ?k8 ?k9
  case k1 => k_is
  case k2 => k_is
  case k3 => exact BindsTo.of_eq rfl
  case k4 => exact locs rfl
  case k6 => rfl
  case k7 => rfl
  case k8 => rfl
  case k9 => decide
  case k5 =>
    intro g L' s₁ c' S'
    dsimp only [bindM, List.foldl_cons, List.foldl_nil] at S'
    clear S
    k_fold
    repeat walk_at "my step"
    exact Back.mk' (by assumption) Sub.refl (h _ _ (by assumption))
end
end Mine

end
section
open PySem PySem.W PySem.Calls PyProof.Rows PySem.Spec
set_option Elab.async false
set_option maxRecDepth 100000
namespace Mine
local macro_rules | `(tactic| walk_at "my look") => `(tactic| first | with_reducible assumption | with_reducible exact upd_same | ((with_reducible refine' upd_look ?k1 ?k2); (case k1 => decide); (case k2 => walk_at "my look")))
local macro_rules | `(tactic| walk_at "my ne") => `(tactic| first | with_reducible assumption | ((with_reducible refine Ne.symm ?_); with_reducible assumption))
local macro_rules | `(tactic| walk_at "my heap") => `(tactic| first | with_reducible assumption | with_reducible exact put_same | ((with_reducible refine' put_step ?j1 ?j2); (case j1 => walk_at "my heap"); (case j2 => walk_at "my apart")))
local macro_rules | `(tactic| walk_at "my apart") => `(tactic| (intro e9; first | walk_at "my ne" | ((with_reducible refine' ne_new ?j3 e9); with_reducible assumption) | ((with_reducible refine' ne_kind e9 ?j4 ?j5); (case j4 => walk_at "my heap"); (case j5 => exact fun z9 => by cases z9))))
local macro_rules | `(tactic| walk_at "my none") => `(tactic| with_reducible assumption)
local macro_rules | `(tactic| walk_at "my asm") => `(tactic| with_reducible assumption)
local macro_rules | `(tactic| walk_at "my getter of") => `(tactic| first | with_reducible exact (by assumption : Lib _ _).g0 | with_reducible exact (by assumption : Lib _ _).g1 | with_reducible exact (by assumption : Lib _ _).g2 | with_reducible exact (by assumption : Lib _ _).g3 | with_reducible exact (by assumption : Lib _ _).g4)
local macro_rules | `(tactic| walk_at "my setter of") => `(tactic| first | with_reducible exact (by assumption : Lib _ _).s0 | with_reducible exact (by assumption : Lib _ _).s1 | with_reducible exact (by assumption : Lib _ _).s2 | with_reducible exact (by assumption : Lib _ _).s3 | with_reducible exact (by assumption : Lib _ _).s4)
local macro_rules | `(tactic| walk_at "my B") => `(tactic| with_reducible exact (by assumption : Lib _ _).B)
local macro_rules | `(tactic| walk_at "my handed") => `(tactic| first | with_reducible assumption | exact rfl)
local macro_rules | `(tactic| walk_at "my size") => `(tactic| first | ((try simp only [List.length_append, List.length_cons, List.length_nil, List.length_replicate]); omega) | (rw [sizeLine_eq]; (try simp only [List.length_append, List.length_cons, List.length_nil, List.length_replicate]); omega))
local macro_rules | `(tactic| walk_at "my isl") => `(tactic| first | ((with_reducible refine' St.given ?i1 ?i2); (case i2 => walk_at "my asm"); (case i1 => walk_at "my asm")) | ((with_reducible refine' St.isList ?i1 ?i2); (case i1 => walk_at "my asm"); (case i2 => walk_at "my heap")))
local macro_rules | `(tactic| walk_at "my stmt") => `(tactic| first | with_reducible refine wpAny_execs_cons ?_ | with_reducible refine wpAny_execs_nil ?_ | with_reducible refine wpAny_Return_some ?_ | ((with_reducible refine wpAny_Assign_Name ?h ?he); (case he => rfl)) | ((with_reducible refine Assign_Tuple ?h ?he ?hw); (case he => rfl); (case hw => rfl)) | ((with_reducible refine' Assign_Tuple_swapped ?h ?he ?hw); (case he => rfl); (case hw => exact rfl)) | with_reducible refine wpAny_If ?_ | ((with_reducible refine wpAny_Expr ?h ?hi ?he); (case hi => rfl); (case he => rfl)))
local macro_rules | `(tactic| walk_at "my expr") => `(tactic| first | ((with_reducible refine' r_local ?k1 ?k2 ?k3 ?h ?hl ?hd); (case k1 => walk_at "my asm"); (case k2 => walk_at "my asm"); (case k3 => walk_at "my look"); (case hl => exact rfl); (case hd => decide)) | ((with_reducible refine' r_cname ?k1 ?k2 ?k3 ?h ?hk ?hl ?hd); (case k1 => walk_at "my asm"); (case k2 => walk_at "my asm"); (case k3 => walk_at "my look"); (case hk => exact rfl); (case hl => exact rfl); (case hd => decide)) | ((with_reducible refine' r_glob ?k1 ?k2 ?k3 ?h ?hl ?hd ?hk ?hg); (case k1 => walk_at "my asm"); (case k2 => walk_at "my asm"); (case k3 => first | walk_at "my asm" | k_is); (case hl => exact rfl); (case hd => decide); (case hk => exact rfl); (case hg => exact rfl)) | ((with_reducible refine' r_blt ?k1 ?k2 ?k3 ?k4 ?k5 ?h ?hl ?hd ?hk ?hg ?hb); (case k1 => walk_at "my asm"); (case k2 => walk_at "my asm"); (case k3 => first | walk_at "my asm" | k_is); (case k4 => boot_by_name); (case k5 => decide); (case hl => exact rfl); (case hd => decide); (case hk => exact rfl); (case hg => exact rfl); (case hb => exact rfl)) | ((with_reducible refine' r_int ?k1 ?h); (case k1 => walk_at "my asm"); intro s' t' S') | ((with_reducible refine' r_str ?k1 ?h); (case k1 => walk_at "my asm"); intro s' t' S') | with_reducible refine wpAny_Constant_none ?_ | with_reducible refine wpAny_Constant_bool ?_ | with_reducible refine wpAny_BinOp ?_ | ((with_reducible refine wpAny_Compare1 ?h ?he); (case he => with_unfolding_all rfl)) | with_reducible refine List_ ?_ | with_reducible refine Tuple_ ?_ | with_reducible refine IfExp_ ?_ | with_reducible refine Subscript_ ?_ | ((with_reducible refine args_cons ?h ?he); (case he => rfl)) | with_reducible refine args_nil ?_ | ((with_reducible show wpAny _ _ (eval (Expr.Call (Expr.Attribute _ _ _) _ _ _) _) _ _ _); refine MethodCall_ ?_) | ((with_reducible show wpAny _ _ (eval (Expr.Call _ _ _ _) _) _ _ _); refine Call_ ?_))
local macro_rules | `(tactic| walk_at "my test") => `(tactic| first | ((with_reducible refine wpAny_isTrue_Compare1 ?h ?he); (case he => with_unfolding_all rfl)) | with_reducible refine isTrue_not ?_ | with_reducible refine isTrue_or ?_ | with_reducible refine isTrue_and ?_ | with_reducible refine isTrue_or_nil ?_ | with_reducible refine isTrue_and_nil ?_ | with_reducible refine wpAny_truthy_bool ?_ | with_reducible refine ite_tt ?_ | with_reducible refine ite_ff ?_ | with_reducible refine ite_nt ?_ | with_reducible refine ite_nf ?_ | with_reducible refine ite_T ?_ | with_reducible refine ite_F ?_ | ((with_reducible show wpAny _ _ (PySem.isTrue _ _ _) _ _ _); refine isTrue_plain ?_))
local macro_rules | `(tactic| walk_at "my sub") => `(tactic| first | with_reducible assumption | with_reducible exact SubX.refl | with_reducible exact Sub.refl | ((with_reducible refine' SubX.new ?k1 ?k2); (case k2 => walk_at "my none"); (case k1 => walk_at "my sub")) | ((with_reducible refine' SubX.at ?k1 ?k2); (case k2 => simp); (case k1 => walk_at "my sub")) | ((with_reducible refine' Sub.new ?k1 ?k2); (case k2 => walk_at "my none"); (case k1 => walk_at "my sub")))
local macro_rules | `(tactic| walk_at "my St") => `(tactic| first | with_reducible assumption | ((with_reducible refine' St.sub' ?k1 ?k2); (case k1 => with_reducible assumption); (case k2 => walk_at "my sub")))
local macro_rules | `(tactic| walk_at "my same1") => `(tactic| first | with_reducible exact Same.rfl' | with_reducible exact Same.int | with_reducible exact Same.str | with_reducible exact Same.bytes | ((with_reducible refine' Same.list ?k1 ?k2 ?k3); (case k1 => walk_at "my heap"); (case k2 => walk_at "my heap"); (case k3 => walk_at "my same")))
local macro_rules | `(tactic| walk_at "my same") => `(tactic| first | (simp only [List.length_replicate, Int.toNat_natCast]; exact SameAll.refl) | with_reducible exact SameAll.refl | exact SameAll.refl | exact SameAll.nil | ((with_reducible refine SameAll.cons ?k1 ?k2); (case k1 => walk_at "my same1"); (case k2 => walk_at "my same")))
local macro_rules | `(tactic| walk_at "my op") => `(tactic| first | ((with_reducible refine' r_newList ?k1 ?h ?hz); (case k1 => walk_at "my asm"); (case hz => walk_at "my size"); intro a' s' n' S') | ((with_reducible refine' r_newTuple ?k1 ?h ?hz); (case k1 => walk_at "my asm"); (case hz => walk_at "my size"); intro a' s' n' S') | with_reducible refine r_is_nn ?_ | with_reducible refine r_is_rn ?_ | with_reducible refine r_isnot_nn ?_ | with_reducible refine r_isnot_rn ?_ | with_reducible refine wpAny_bindName ?_ | with_reducible refine wpAny_assign_Name ?_ | ((with_reducible refine' r_unpackItems ?k1 ?k2 ?k3 ?k4 ?h); (case k1 => walk_at "my asm"); (case k2 => walk_at "my asm"); (case k3 => walk_at "my heap"); (case k4 => exact rfl); intro s' S') | ((with_reducible refine' r_assign_tup ?k1 ?k2 ?k3 ?k4 ?k5 ?h); (case k1 => walk_at "my asm"); (case k2 => walk_at "my asm"); (case k3 => walk_at "my heap"); (case k4 => exact rfl); (case k5 => exact rfl); intro s' S') | ((with_reducible show wpAny _ _ (assignInOrder _ _) _ _ _); (show wpAny _ _ (assignInOrder (_ :: _) (_ :: _)) _ _ _); refine aio_cons ?_) | ((with_reducible show wpAny _ _ (assignInOrder _ _) _ _ _); (show wpAny _ _ (assignInOrder [] []) _ _ _); refine aio_nil ?_) | ((with_reducible refine' r_store ?k1 ?k2 ?h ?hl); (case k1 => walk_at "my asm"); (case k2 => walk_at "my asm"); (case hl => exact rfl); intro s' S') | ((with_reducible refine' r_cstore ?k0 ?k1 ?k2 ?h ?hk ?hl); (case k0 => walk_at "my asm"); (case k1 => walk_at "my asm"); (case k2 => walk_at "my asm"); (case hk => exact rfl); (case hl => exact rfl); intro o' s' O' S') | ((with_reducible refine' r_getm ?k0 ?k1 ?k2 ?k3 ?k4 ?k5 ?h); (case k0 => walk_at "my getter of"); (case k1 => walk_at "my asm"); (case k2 => walk_at "my B"); (case k3 => walk_at "my asm"); (case k4 => walk_at "my heap"); (case k5 => walk_at "my handed"); intro s' S'; (try dsimp only [Flds.get])) | ((with_reducible refine' r_setm ?k0 ?k1 ?k2 ?k3 ?k4 ?h ?he); (case k0 => walk_at "my setter of"); (case k1 => walk_at "my asm"); (case k2 => walk_at "my B"); (case k3 => walk_at "my asm"); (case k4 => walk_at "my heap"); (case he => rfl)) | ((with_reducible refine' AtSet.mk' ?k1 ?k2 ?h); (case k1 => walk_at "my asm"); (case k2 => walk_at "my heap"); intro s' S'; dsimp only [Flds.set] at S') | ((with_reducible refine' r_new0 ?k0 ?k1 ?k2 ?k3 ?h); (case k0 => with_reducible exact (by assumption : Lib _ _).init); (case k1 => walk_at "my asm"); (case k2 => walk_at "my B"); (case k3 => walk_at "my asm"); intro x' s' n' S') | ((with_reducible refine' r_new1 ?k0 ?k1 ?k2 ?k3 ?h ?he); (case k0 => with_reducible exact (by assumption : Lib _ _).init); (case k1 => walk_at "my asm"); (case k2 => walk_at "my B"); (case k3 => walk_at "my asm"); (case he => rfl)) | ((with_reducible refine' r_add ?k1 ?h); (case k1 => walk_at "my asm"); intro s' t' S') | ((with_reducible refine' r_sub ?k1 ?h); (case k1 => walk_at "my asm"); intro s' t' S') | ((with_reducible refine' r_mod ?k1 ?k2 ?h); (case k1 => walk_at "my asm"); (case k2 => decide); intro s' t' S') | ((with_reducible refine' r_fdiv ?k0 ?k1 ?k2 ?h); (case k0 => walk_at "my asm"); (case k1 => walk_at "my asm"); (case k2 => decide); intro s' t' S') | ((with_reducible refine' r_ne_lists (n := 3) ?k1 ?k2 ?k3 ?k4 ?k5 ?k6 ?h); (case k1 => walk_at "my asm"); (case k2 => walk_at "my asm"); (case k3 => walk_at "my heap"); (case k4 => walk_at "my heap"); (case k5 => walk_at "my same"); (case k6 => decide)) | ((with_reducible refine' r_eq_lists (n := 3) ?k1 ?k2 ?k3 ?k4 ?k5 ?k6 ?h); (case k1 => walk_at "my asm"); (case k2 => walk_at "my asm"); (case k3 => walk_at "my heap"); (case k4 => walk_at "my heap"); (case k5 => walk_at "my same"); (case k6 => decide)) | ((with_reducible refine' r_eq_nil ?k1 ?k2 ?k3 ?k4 ?h); (case k1 => walk_at "my asm"); (case k2 => walk_at "my asm"); (case k3 => walk_at "my heap"); (case k4 => walk_at "my heap")) | ((with_reducible refine' r_add_lists ?k1 ?k2 ?k3 ?k4 ?h); (case k1 => walk_at "my asm"); (case k2 => walk_at "my isl"); (case k3 => walk_at "my isl"); (case k4 => walk_at "my size"); intro a' s' n' S') | ((with_reducible refine' r_enum ?k1 ?k2 ?h); (case k1 => walk_at "my asm"); (case k2 => walk_at "my heap"); intro e' it' ob' s' n1' n2' n3' hi' S') | with_reducible refine wp_forIn_nil ?_ | with_reducible refine lt_int ?_ | with_reducible refine gt_int ?_ | with_reducible refine eq_int ?_ | with_reducible refine ne_int ?_ | ((with_reducible refine' r_lmeth1 PySem.F.slot_list_append PySem.F.type_list_append ?k1 ?k2 ?h ?he); (case k1 => walk_at "my asm"); (case k2 => walk_at "my heap"); (case he => rfl)) | ((with_reducible refine' r_lmeth1 PySem.F.slot_list_extend PySem.F.type_list_extend ?k1 ?k2 ?h ?he); (case k1 => walk_at "my asm"); (case k2 => walk_at "my heap"); (case he => rfl)) | ((with_reducible refine' r_lmeth1 PySem.F.slot_list_remove PySem.F.type_list_remove ?k1 ?k2 ?h ?he); (case k1 => walk_at "my asm"); (case k2 => walk_at "my heap"); (case he => rfl)) | ((with_reducible refine' r_append ?k1 ?k2 ?k3 ?h); (case k1 => walk_at "my asm"); (case k2 => walk_at "my heap"); (case k3 => walk_at "my size"); intro s' S') | ((with_reducible refine' r_extend ?k1 ?k2 ?k3 ?k4 ?h); (case k1 => walk_at "my asm"); (case k2 => walk_at "my heap"); (case k3 => walk_at "my heap"); (case k4 => walk_at "my size"); intro s' S') | ((with_reducible refine' r_mul_list ?k1 ?k2 ?k3 ?k4 ?h); (case k1 => walk_at "my asm"); (case k2 => walk_at "my heap"); (case k3 => walk_at "my size"); (case k4 => walk_at "my size"); intro a' s' n' S') | ((with_reducible refine' r_len ?k1 ?k2 ?k3 ?h); (case k1 => walk_at "my asm"); (case k2 => walk_at "my heap"); (case k3 => walk_at "my size"); intro s' t' S') | ((with_reducible show wpAny _ _ (callWith _ (Value.builtin _) _ _ _) _ _ _); (with_reducible refine callWith_builtin1 ?h ?he ?hp); (case he => rfl); (case hp => rfl)) | ((with_reducible show wpAny _ _ (callWith _ (Value.type _) _ _ _) _ _ _); (with_reducible refine callWith_type1 ?h ?he ?hp); (case he => rfl); (case hp => rfl)) | ((with_reducible refine' r_callK ?k1 ?k3 ?k2 ?h ?he ?hp); (case k1 => walk_at "my asm"); (case k3 => walk_at "my asm"); (case k2 => k_is); (case he => rfl); (case hp => rfl)) | ((with_reducible refine' calledWith ?k1 ?h); (case k1 => walk_at "my asm"); (try simp only [List.nil_append])) | ((with_reducible refine' AtNew.mk' ?k1 ?h); (case k1 => walk_at "my asm"); intro x' s' n' S'))
local macro_rules | `(tactic| walk_at "my step") => `(tactic| first | (k_unfold; (try dsimp only)) | walk_at "my stmt" | walk_at "my expr" | walk_at "my test" | walk_at "my op" | walk_at "my call" | dsimp only)

local macro_rules | `(tactic| walk_at "my call told") => `(tactic| ((with_reducible refine' told05 ?k1 ?k2 ?k3 ?h0 ?h1 ?h2 ?h3 ?h4 ?h); (case k1 => walk_at "my asm"); (case k2 => walk_at "my asm"); (case k3 => walk_at "my heap"); (case h0 => walk_at "my handed"); (case h1 => walk_at "my handed"); (case h2 => walk_at "my handed"); (case h3 => walk_at "my handed"); (case h4 => walk_at "my handed"); intro a' s' n' S'; (try dsimp only at S')))
local macro_rules | `(tactic| walk_at "my call") => `(tactic| walk_at "my call told")
local macro_rules | `(tactic| walk_at "my call washed") => `(tactic| ((with_reducible refine' washed05 ?k1 ?k2 ?k3 ?h); (case k1 => walk_at "my asm"); (case k2 => walk_at "my asm"); (case k3 => walk_at "my heap"); intro s' S'))

example (w : World) : PySem.Challenge.rw_dn0305_05.prog = PySem.Challenge.rw_dn0305_05.prog → Lib (hd05.heap_39 w.params) 102 := by
  k_fill
  exact lib05 w
section
variable {p : Program} {loose : List Str} {mean : ExcName → Option Value} {mg mb : Str → Option Value} {A : Around} {env : Env} {h₀ : Heap} {L : Addr} {d : Nat}
variable {w : World} {s₀ s : Shared} {own : List (Addr × Obj)} {m : Str → Option Value} {H : AH} {Q : Value → Shared → Prop} {E : Value → Shared → Prop}

set_option maxHeartbeats 4000000 in
theorem washed05 {x : Addr} {F : Flds} (c : Cx (hd05.heap_39 w.params) p loose mean mg mb A env h₀ L (d + 4)) (S : St 102 s₀ h₀ L own s m H) (hx : H x = some (.src F))
    (h : ∀ s', St 102 s₀ h₀ L own s' m (put H x (.src ⟨.none, .none, .none, .none, .none⟩)) → Q (.bool true) s') :
    wpAny (model PySem.Challenge.rw_dn0305_05.row.prog w) A (call (.ref 120) [.ref x]) Q E s := by
  have l := lib05 w rfl
  refine' call_fn (binds := [("source", .ref x)]) c S ?k1 ?k2 ?k3 ?k4 ?k5 ?k6 ?k7 ?k8 ?k9
  case k1 => k_is
  case k2 => k_is
  case k3 => exact BindsTo.of_eq rfl
  case k4 => exact locs rfl
  case k6 => rfl
  case k7 => rfl
  case k8 => rfl
  case k9 => decide
  case k5 =>
    intro g L' s₁ c' S'
    dsimp only [bindM, List.foldl_cons, List.foldl_nil] at S'
    clear S
    k_fold
    walk_at "my step"
    refine r_for_list c' S' ?h rfl (fun _ => rfl)
    repeat walk_at "my step"
    rename_i t1 _ _ t2 _ a s2 hn S2
    refine ⟨a, _, _, _, _, fun i m' H' => m' "source" = some (.ref x) ∧ SubX [x] H H' ∧ ∃ F', H' x = some (.src F') ∧ (i = 3 → F' = ⟨.none, .none, .none, .none, .none⟩), rfl, S2, put_same, ?_, ?_, ?_⟩
    · refine ⟨upd_same, fun b o hb e => ?_, F, ?_, fun z => by cases z⟩
      · rw [del_ne (fun z => by rw [z, hn] at e; cases e)]; exact put_new hn e
      · rw [del_ne (fun z => by rw [z, hn] at hx; cases hx)]; exact put_new hn hx
    · intro i v m₁ H₁ own₁ s₃ hv hJ S₃
      obtain ⟨hm, hsub, F', hF', _⟩ := hJ
      have hh : handedIn v = true := by
        rcases i with _ | _ | _ | i
        · cases hv; rfl
        · cases hv; rfl
        · cases hv; rfl
        · cases hv
      have h3 : i + 1 = 3 → v = .none := fun z => by
        cases Nat.succ.inj z
        cases hv; rfl
      clear S2 S' hv
      repeat walk_at "my step"
      refine TurnQ.mk' (by assumption) ⟨by walk_at "my look", by walk_at "my sub", _, by walk_at "my heap", fun z => by rw [h3 z]⟩
    · intro m₁ H₁ s₃ hJ hl S₃
      obtain ⟨hm, hsub, F', hF', h3⟩ := hJ
      cases h3 rfl
      clear S2 S'
      repeat walk_at "my step"
      refine Back.mk' S₃ ?_ (h _)
      exact fun b o e => put_new hl (hsub.put hF' b o e)
end
end Mine

end
section
open PySem PySem.W PySem.Calls PyProof.Rows PySem.Spec
set_option Elab.async false
set_option maxRecDepth 100000
namespace Mine
local macro_rules | `(tactic| walk_at "my look") => `(tactic| first | with_reducible assumption | with_reducible exact upd_same | ((with_reducible refine' upd_look ?k1 ?k2); (case k1 => decide); (case k2 => walk_at "my look")))
local macro_rules | `(tactic| walk_at "my ne") => `(tactic| first | with_reducible assumption | ((with_reducible refine Ne.symm ?_); with_reducible assumption))
local macro_rules | `(tactic| walk_at "my heap") => `(tactic| first | with_reducible assumption | with_reducible exact put_same | ((with_reducible refine' put_step ?j1 ?j2); (case j1 => walk_at "my heap"); (case j2 => walk_at "my apart")))
local macro_rules | `(tactic| walk_at "my apart") => `(tactic| (intro e9; first | walk_at "my ne" | ((with_reducible refine' ne_new ?j3 e9); with_reducible assumption) | ((with_reducible refine' ne_kind e9 ?j4 ?j5); (case j4 => walk_at "my heap"); (case j5 => exact fun z9 => by cases z9))))
local macro_rules | `(tactic| walk_at "my none") => `(tactic| with_reducible assumption)
local macro_rules | `(tactic| walk_at "my asm") => `(tactic| with_reducible assumption)
local macro_rules | `(tactic| walk_at "my getter of") => `(tactic| first | with_reducible exact (by assumption : Lib _ _).g0 | with_reducible exact (by assumption : Lib _ _).g1 | with_reducible exact (by assumption : Lib _ _).g2 | with_reducible exact (by assumption : Lib _ _).g3 | with_reducible exact (by assumption : Lib _ _).g4)
local macro_rules | `(tactic| walk_at "my setter of") => `(tactic| first | with_reducible exact (by assumption : Lib _ _).s0 | with_reducible exact (by assumption : Lib _ _).s1 | with_reducible exact (by assumption : Lib _ _).s2 | with_reducible exact (by assumption : Lib _ _).s3 | with_reducible exact (by assumption : Lib _ _).s4)
local macro_rules | `(tactic| walk_at "my B") => `(tactic| with_reducible exact (by assumption : Lib _ _).B)
local macro_rules | `(tactic| walk_at "my handed") => `(tactic| first | with_reducible assumption | exact rfl)
local macro_rules | `(tactic| walk_at "my size") => `(tactic| first | ((try simp only [List.length_append, List.length_cons, List.length_nil, List.length_replicate]); omega) | (rw [sizeLine_eq]; (try simp only [List.length_append, List.length_cons, List.length_nil, List.length_replicate]); omega))
local macro_rules | `(tactic| walk_at "my isl") => `(tactic| first | ((with_reducible refine' St.given ?i1 ?i2); (case i2 => walk_at "my asm"); (case i1 => walk_at "my asm")) | ((with_reducible refine' St.isList ?i1 ?i2); (case i1 => walk_at "my asm"); (case i2 => walk_at "my heap")))
local macro_rules | `(tactic| walk_at "my stmt") => `(tactic| first | with_reducible refine wpAny_execs_cons ?_ | with_reducible refine wpAny_execs_nil ?_ | with_reducible refine wpAny_Return_some ?_ | ((with_reducible refine wpAny_Assign_Name ?h ?he); (case he => rfl)) | ((with_reducible refine Assign_Tuple ?h ?he ?hw); (case he => rfl); (case hw => rfl)) | ((with_reducible refine' Assign_Tuple_swapped ?h ?he ?hw); (case he => rfl); (case hw => exact rfl)) | with_reducible refine wpAny_If ?_ | ((with_reducible refine wpAny_Expr ?h ?hi ?he); (case hi => rfl); (case he => rfl)))
local macro_rules | `(tactic| walk_at "my expr") => `(tactic| first | ((with_reducible refine' r_local ?k1 ?k2 ?k3 ?h ?hl ?hd); (case k1 => walk_at "my asm"); (case k2 => walk_at "my asm"); (case k3 => walk_at "my look"); (case hl => exact rfl); (case hd => decide)) | ((with_reducible refine' r_cname ?k1 ?k2 ?k3 ?h ?hk ?hl ?hd); (case k1 => walk_at "my asm"); (case k2 => walk_at "my asm"); (case k3 => walk_at "my look"); (case hk => exact rfl); (case hl => exact rfl); (case hd => decide)) | ((with_reducible refine' r_glob ?k1 ?k2 ?k3 ?h ?hl ?hd ?hk ?hg); (case k1 => walk_at "my asm"); (case k2 => walk_at "my asm"); (case k3 => first | walk_at "my asm" | k_is); (case hl => exact rfl); (case hd => decide); (case hk => exact rfl); (case hg => exact rfl)) | ((with_reducible refine' r_blt ?k1 ?k2 ?k3 ?k4 ?k5 ?h ?hl ?hd ?hk ?hg ?hb); (case k1 => walk_at "my asm"); (case k2 => walk_at "my asm"); (case k3 => first | walk_at "my asm" | k_is); (case k4 => boot_by_name); (case k5 => decide); (case hl => exact rfl); (case hd => decide); (case hk => exact rfl); (case hg => exact rfl); (case hb => exact rfl)) | ((with_reducible refine' r_int ?k1 ?h); (case k1 => walk_at "my asm"); intro s' t' S') | ((with_reducible refine' r_str ?k1 ?h); (case k1 => walk_at "my asm"); intro s' t' S') | with_reducible refine wpAny_Constant_none ?_ | with_reducible refine wpAny_Constant_bool ?_ | with_reducible refine wpAny_BinOp ?_ | ((with_reducible refine wpAny_Compare1 ?h ?he); (case he => with_unfolding_all rfl)) | with_reducible refine List_ ?_ | with_reducible refine Tuple_ ?_ | with_reducible refine IfExp_ ?_ | with_reducible refine Subscript_ ?_ | ((with_reducible refine args_cons ?h ?he); (case he => rfl)) | with_reducible refine args_nil ?_ | ((with_reducible show wpAny _ _ (eval (Expr.Call (Expr.Attribute _ _ _) _ _ _) _) _ _ _); refine MethodCall_ ?_) | ((with_reducible show wpAny _ _ (eval (Expr.Call _ _ _ _) _) _ _ _); refine Call_ ?_))
local macro_rules | `(tactic| walk_at "my test") => `(tactic| first | ((with_reducible refine wpAny_isTrue_Compare1 ?h ?he); (case he => with_unfolding_all rfl)) | with_reducible refine isTrue_not ?_ | with_reducible refine isTrue_or ?_ | with_reducible refine isTrue_and ?_ | with_reducible refine isTrue_or_nil ?_ | with_reducible refine isTrue_and_nil ?_ | with_reducible refine wpAny_truthy_bool ?_ | with_reducible refine ite_tt ?_ | with_reducible refine ite_ff ?_ | with_reducible refine ite_nt ?_ | with_reducible refine ite_nf ?_ | with_reducible refine ite_T ?_ | with_reducible refine ite_F ?_ | ((with_reducible show wpAny _ _ (PySem.isTrue _ _ _) _ _ _); refine isTrue_plain ?_))
local macro_rules | `(tactic| walk_at "my sub") => `(tactic| first | with_reducible assumption | with_reducible exact SubX.refl | with_reducible exact Sub.refl | ((with_reducible refine' SubX.new ?k1 ?k2); (case k2 => walk_at "my none"); (case k1 => walk_at "my sub")) | ((with_reducible refine' SubX.at ?k1 ?k2); (case k2 => simp); (case k1 => walk_at "my sub")) | ((with_reducible refine' Sub.new ?k1 ?k2); (case k2 => walk_at "my none"); (case k1 => walk_at "my sub")))
local macro_rules | `(tactic| walk_at "my St") => `(tactic| first | with_reducible assumption | ((with_reducible refine' St.sub' ?k1 ?k2); (case k1 => with_reducible assumption); (case k2 => walk_at "my sub")))
local macro_rules | `(tactic| walk_at "my same1") => `(tactic| first | with_reducible exact Same.rfl' | with_reducible exact Same.int | with_reducible exact Same.str | with_reducible exact Same.bytes | ((with_reducible refine' Same.list ?k1 ?k2 ?k3); (case k1 => walk_at "my heap"); (case k2 => walk_at "my heap"); (case k3 => walk_at "my same")))
local macro_rules | `(tactic| walk_at "my same") => `(tactic| first | (simp only [List.length_replicate, Int.toNat_natCast]; exact SameAll.refl) | with_reducible exact SameAll.refl | exact SameAll.refl | exact SameAll.nil | ((with_reducible refine SameAll.cons ?k1 ?k2); (case k1 => walk_at "my same1"); (case k2 => walk_at "my same")))
local macro_rules | `(tactic| walk_at "my op") => `(tactic| first | ((with_reducible refine' r_newList ?k1 ?h ?hz); (case k1 => walk_at "my asm"); (case hz => walk_at "my size"); intro a' s' n' S') | ((with_reducible refine' r_newTuple ?k1 ?h ?hz); (case k1 => walk_at "my asm"); (case hz => walk_at "my size"); intro a' s' n' S') | with_reducible refine r_is_nn ?_ | with_reducible refine r_is_rn ?_ | with_reducible refine r_isnot_nn ?_ | with_reducible refine r_isnot_rn ?_ | with_reducible refine wpAny_bindName ?_ | with_reducible refine wpAny_assign_Name ?_ | ((with_reducible refine' r_unpackItems ?k1 ?k2 ?k3 ?k4 ?h); (case k1 => walk_at "my asm"); (case k2 => walk_at "my asm"); (case k3 => walk_at "my heap"); (case k4 => exact rfl); intro s' S') | ((with_reducible refine' r_assign_tup ?k1 ?k2 ?k3 ?k4 ?k5 ?h); (case k1 => walk_at "my asm"); (case k2 => walk_at "my asm"); (case k3 => walk_at "my heap"); (case k4 => exact rfl); (case k5 => exact rfl); intro s' S') | ((with_reducible show wpAny _ _ (assignInOrder _ _) _ _ _); (show wpAny _ _ (assignInOrder (_ :: _) (_ :: _)) _ _ _); refine aio_cons ?_) | ((with_reducible show wpAny _ _ (assignInOrder _ _) _ _ _); (show wpAny _ _ (assignInOrder [] []) _ _ _); refine aio_nil ?_) | ((with_reducible refine' r_store ?k1 ?k2 ?h ?hl); (case k1 => walk_at "my asm"); (case k2 => walk_at "my asm"); (case hl => exact rfl); intro s' S') | ((with_reducible refine' r_cstore ?k0 ?k1 ?k2 ?h ?hk ?hl); (case k0 => walk_at "my asm"); (case k1 => walk_at "my asm"); (case k2 => walk_at "my asm"); (case hk => exact rfl); (case hl => exact rfl); intro o' s' O' S') | ((with_reducible refine' r_getm ?k0 ?k1 ?k2 ?k3 ?k4 ?k5 ?h); (case k0 => walk_at "my getter of"); (case k1 => walk_at "my asm"); (case k2 => walk_at "my B"); (case k3 => walk_at "my asm"); (case k4 => walk_at "my heap"); (case k5 => walk_at "my handed"); intro s' S'; (try dsimp only [Flds.get])) | ((with_reducible refine' r_setm ?k0 ?k1 ?k2 ?k3 ?k4 ?h ?he); (case k0 => walk_at "my setter of"); (case k1 => walk_at "my asm"); (case k2 => walk_at "my B"); (case k3 => walk_at "my asm"); (case k4 => walk_at "my heap"); (case he => rfl)) | ((with_reducible refine' AtSet.mk' ?k1 ?k2 ?h); (case k1 => walk_at "my asm"); (case k2 => walk_at "my heap"); intro s' S'; dsimp only [Flds.set] at S') | ((with_reducible refine' r_new0 ?k0 ?k1 ?k2 ?k3 ?h); (case k0 => with_reducible exact (by assumption : Lib _ _).init); (case k1 => walk_at "my asm"); (case k2 => walk_at "my B"); (case k3 => walk_at "my asm"); intro x' s' n' S') | ((with_reducible refine' r_new1 ?k0 ?k1 ?k2 ?k3 ?h ?he); (case k0 => with_reducible exact (by assumption : Lib _ _).init); (case k1 => walk_at "my asm"); (case k2 => walk_at "my B"); (case k3 => walk_at "my asm"); (case he => rfl)) | ((with_reducible refine' r_add ?k1 ?h); (case k1 => walk_at "my asm"); intro s' t' S') | ((with_reducible refine' r_sub ?k1 ?h); (case k1 => walk_at "my asm"); intro s' t' S') | ((with_reducible refine' r_mod ?k1 ?k2 ?h); (case k1 => walk_at "my asm"); (case k2 => decide); intro s' t' S') | ((with_reducible refine' r_fdiv ?k0 ?k1 ?k2 ?h); (case k0 => walk_at "my asm"); (case k1 => walk_at "my asm"); (case k2 => decide); intro s' t' S') | ((with_reducible refine' r_ne_lists (n := 3) ?k1 ?k2 ?k3 ?k4 ?k5 ?k6 ?h); (case k1 => walk_at "my asm"); (case k2 => walk_at "my asm"); (case k3 => walk_at "my heap"); (case k4 => walk_at "my heap"); (case k5 => walk_at "my same"); (case k6 => decide)) | ((with_reducible refine' r_eq_lists (n := 3) ?k1 ?k2 ?k3 ?k4 ?k5 ?k6 ?h); (case k1 => walk_at "my asm"); (case k2 => walk_at "my asm"); (case k3 => walk_at "my heap"); (case k4 => walk_at "my heap"); (case k5 => walk_at "my same"); (case k6 => decide)) | ((with_reducible refine' r_eq_nil ?k1 ?k2 ?k3 ?k4 ?h); (case k1 => walk_at "my asm"); (case k2 => walk_at "my asm"); (case k3 => walk_at "my heap"); (case k4 => walk_at "my heap")) | ((with_reducible refine' r_add_lists ?k1 ?k2 ?k3 ?k4 ?h); (case k1 => walk_at "my asm"); (case k2 => walk_at "my isl"); (case k3 => walk_at "my isl"); (case k4 => walk_at "my size"); intro a' s' n' S') | ((with_reducible refine' r_enum ?k1 ?k2 ?h); (case k1 => walk_at "my asm"); (case k2 => walk_at "my heap"); intro e' it' ob' s' n1' n2' n3' hi' S') | with_reducible refine wp_forIn_nil ?_ | with_reducible refine lt_int ?_ | with_reducible refine gt_int ?_ | with_reducible refine eq_int ?_ | with_reducible refine ne_int ?_ | ((with_reducible refine' r_lmeth1 PySem.F.slot_list_append PySem.F.type_list_append ?k1 ?k2 ?h ?he); (case k1 => walk_at "my asm"); (case k2 => walk_at "my heap"); (case he => rfl)) | ((with_reducible refine' r_lmeth1 PySem.F.slot_list_extend PySem.F.type_list_extend ?k1 ?k2 ?h ?he); (case k1 => walk_at "my asm"); (case k2 => walk_at "my heap"); (case he => rfl)) | ((with_reducible refine' r_lmeth1 PySem.F.slot_list_remove PySem.F.type_list_remove ?k1 ?k2 ?h ?he); (case k1 => walk_at "my asm"); (case k2 => walk_at "my heap"); (case he => rfl)) | ((with_reducible refine' r_append ?k1 ?k2 ?k3 ?h); (case k1 => walk_at "my asm"); (case k2 => walk_at "my heap"); (case k3 => walk_at "my size"); intro s' S') | ((with_reducible refine' r_extend ?k1 ?k2 ?k3 ?k4 ?h); (case k1 => walk_at "my asm"); (case k2 => walk_at "my heap"); (case k3 => walk_at "my heap"); (case k4 => walk_at "my size"); intro s' S') | ((with_reducible refine' r_mul_list ?k1 ?k2 ?k3 ?k4 ?h); (case k1 => walk_at "my asm"); (case k2 => walk_at "my heap"); (case k3 => walk_at "my size"); (case k4 => walk_at "my size"); intro a' s' n' S') | ((with_reducible refine' r_len ?k1 ?k2 ?k3 ?h); (case k1 => walk_at "my asm"); (case k2 => walk_at "my heap"); (case k3 => walk_at "my size"); intro s' t' S') | ((with_reducible show wpAny _ _ (callWith _ (Value.builtin _) _ _ _) _ _ _); (with_reducible refine callWith_builtin1 ?h ?he ?hp); (case he => rfl); (case hp => rfl)) | ((with_reducible show wpAny _ _ (callWith _ (Value.type _) _ _ _) _ _ _); (with_reducible refine callWith_type1 ?h ?he ?hp); (case he => rfl); (case hp => rfl)) | ((with_reducible refine' r_callK ?k1 ?k3 ?k2 ?h ?he ?hp); (case k1 => walk_at "my asm"); (case k3 => walk_at "my asm"); (case k2 => k_is); (case he => rfl); (case hp => rfl)) | ((with_reducible refine' calledWith ?k1 ?h); (case k1 => walk_at "my asm"); (try simp only [List.nil_append])) | ((with_reducible refine' AtNew.mk' ?k1 ?h); (case k1 => walk_at "my asm"); intro x' s' n' S'))
local macro_rules | `(tactic| walk_at "my step") => `(tactic| first | (k_unfold; (try dsimp only)) | walk_at "my stmt" | walk_at "my expr" | walk_at "my test" | walk_at "my op" | walk_at "my call" | dsimp only)

local macro_rules | `(tactic| walk_at "my arith") => `(tactic| first | with_reducible assumption | decide | omega)
local macro_rules | `(tactic| walk_at "my item") => `(tactic| first | with_reducible assumption | exact rfl)
local macro_rules | `(tactic| walk_at "my part") => `(tactic| first | with_reducible exact IsPart.none | with_reducible exact IsPart.int _ _)
local macro_rules | `(tactic| walk_at "my expr") => `(tactic| first | ((with_reducible refine' r_bytes ?k1 ?h); (case k1 => walk_at "my asm"); intro s' t' S') | ((with_reducible refine' r_sliceObj ?k1 ?h); (case k1 => walk_at "my asm")) | with_reducible refine evalPart_none_step ?_ | with_reducible refine evalPart_some_step ?_ | ((with_reducible refine' r_sliceMk ?k1 ?h); (case k1 => walk_at "my asm"); intro a' s' n' S'))
local macro_rules | `(tactic| walk_at "my test") => `(tactic| first | ((with_reducible refine' ite_yes ?k1 ?h); (case k1 => first | with_reducible assumption | decide)) | ((with_reducible refine' ite_no ?k1 ?h); (case k1 => first | with_reducible assumption | decide)))
local macro_rules | `(tactic| walk_at "my op") => `(tactic| first | ((with_reducible refine' r_range1 ?k1 ?h); (case k1 => walk_at "my asm"); intro a' s' t1' t2' n' S') | ((with_reducible refine' r_range2 ?k1 ?h); (case k1 => walk_at "my asm"); intro a' s' t1' n' S') | ((with_reducible refine' r_range3 ?k1 ?k2 ?k3 ?h); (case k1 => walk_at "my asm"); (case k2 => decide); (case k3 => decide); intro a' s' n' S') | ((with_reducible refine' r_fdiv' ?k1 ?k2 ?k3 ?h); (case k1 => walk_at "my asm"); (case k2 => walk_at "my arith"); (case k3 => walk_at "my arith"); intro s' t' S') | ((with_reducible refine' r_divmod ?k1 ?k2 ?k3 ?h); (case k1 => walk_at "my asm"); (case k2 => walk_at "my arith"); (case k3 => walk_at "my arith"); intro a' s' t1' t2' n' S') | ((with_reducible refine' r_sum ?k1 ?k2 ?k3 ?k4 ?h); (case k1 => walk_at "my asm"); (case k2 => walk_at "my asm"); (case k3 => walk_at "my heap"); (case k4 => walk_at "my asm"); intro s' t' S') | with_reducible refine r_is_rr ?_ | with_reducible refine r_isnot_rr ?_ | ((with_reducible refine' tail_get ?k1 ?k2 ?k3 ?k4 ?k5 ?h ?hs); (case k1 => walk_at "my asm"); (case k2 => walk_at "my heap"); (case k3 => walk_at "my arith"); (case k4 => walk_at "my arith"); (case k5 => walk_at "my item"); (case hs => exact rfl)) | ((with_reducible refine' r_slice_to ?k1 ?k2 ?k3 ?k4 ?k5 ?h ?hs); (case k1 => walk_at "my asm"); (case k2 => walk_at "my heap"); (case k3 => walk_at "my heap"); (case k4 => walk_at "my arith"); (case k5 => walk_at "my size"); (case hs => with_unfolding_all rfl); intro a' s' n' S'; (try simp only [Int.reduceToNat, List.take_succ_cons, List.take_zero, List.drop_succ_cons, List.drop_zero] at S')) | ((with_reducible refine' r_slice_from ?k1 ?k2 ?k3 ?k4 ?k5 ?h ?hs); (case k1 => walk_at "my asm"); (case k2 => walk_at "my heap"); (case k3 => walk_at "my heap"); (case k4 => walk_at "my arith"); (case k5 => walk_at "my size"); (case hs => with_unfolding_all rfl); intro a' s' n' S'; (try simp only [Int.reduceToNat, List.take_succ_cons, List.take_zero, List.drop_succ_cons, List.drop_zero] at S')))
local macro_rules | `(tactic| walk_at "my sub") => `(tactic| first | ((with_reducible refine' SubX.at ?k1 ?k2); (case k2 => with_reducible assumption); (case k1 => walk_at "my sub")) | fail "no")

local macro_rules | `(tactic| walk_at "my dlook") => `(tactic| first | with_reducible assumption | exact if_pos rfl | (refine (if_neg ?_).trans ?_ <;> with_reducible assumption))
local macro_rules | `(tactic| walk_at "my stmt") => `(tactic| first | ((with_reducible refine' wpAny_Assign_Subscript ?h ?hs); (case hs => rfl)) | fail "no")
local macro_rules | `(tactic| walk_at "my expr") => `(tactic| first | ((with_reducible refine' r_dict0 ?k1 ?k2 ?h); (case k1 => walk_at "my asm"); (case k2 => walk_at "my asm"); intro a' o' s' n' q' D' S') | ((with_reducible refine' r_dict1 ?k1 ?k2 ?h); (case k1 => walk_at "my asm"); (case k2 => walk_at "my asm"); intro a' o' s' t' n' q' D' S') | fail "no")
local macro_rules | `(tactic| walk_at "my op") => `(tactic| first | with_reducible refine r_ne_none ?_ | with_reducible refine r_is_in ?_ | with_reducible refine r_ne_bool ?_ | ((with_reducible refine' r_ditem ?k1 ?k2 ?k3 ?k4 ?h ?hs); (case k1 => walk_at "my asm"); (case k2 => walk_at "my heap"); (case k3 => walk_at "my asm"); (case k4 => walk_at "my dlook"); (case hs => with_unfolding_all rfl); intro s' S') | ((with_reducible refine' r_dmeth1 ?k1 ?k2 ?k3 ?h ?hs); (case k1 => walk_at "my asm"); (case k2 => walk_at "my heap"); (case k3 => walk_at "my asm"); (case hs => rfl)) | ((with_reducible refine' r_dmeth2 ?k1 ?k2 ?k3 ?h ?hs); (case k1 => walk_at "my asm"); (case k2 => walk_at "my heap"); (case k3 => walk_at "my asm"); (case hs => rfl)) | ((with_reducible refine' r_dget1 ?k1 ?k2 ?k3 ?k4 ?k5 ?h); (case k1 => walk_at "my asm"); (case k2 => walk_at "my heap"); (case k3 => walk_at "my asm"); (case k4 => walk_at "my asm"); (case k5 => first | with_reducible assumption | with_reducible exact getD_none' (by assumption) | with_reducible exact getD_some' (by assumption)); intro s' S') | ((with_reducible refine' r_dget2 ?k1 ?k2 ?k3 ?k4 ?k5 ?h); (case k1 => walk_at "my asm"); (case k2 => walk_at "my heap"); (case k3 => walk_at "my asm"); (case k4 => walk_at "my asm"); (case k5 => first | with_reducible assumption | with_reducible exact getD_none' (by assumption) | with_reducible exact getD_some' (by assumption)); intro s' S') | ((with_reducible refine' r_dset ?k1 ?k2 ?k3 ?k4 ?h); (case k1 => walk_at "my asm"); (case k2 => walk_at "my heap"); (case k3 => walk_at "my asm"); (case k4 => walk_at "my arith"); intro o' s' D' S') | ((with_reducible refine' r_lmeth1 PySem.F.slot_list_index PySem.F.type_list_index ?k1 ?k2 ?h ?he); (case k1 => walk_at "my asm"); (case k2 => walk_at "my heap"); (case he => rfl)) | fail "no")
local macro_rules | `(tactic| walk_at "my sub") => `(tactic| first | ((with_reducible refine' SubX.off ?k1 ?k2); (case k2 => with_reducible assumption); (case k1 => walk_at "my sub")) | ((with_reducible refine' Sub.off ?k1 ?k2); (case k2 => with_reducible assumption); (case k1 => walk_at "my sub")) | fail "no")

local macro_rules | `(tactic| walk_at "my call told") => `(tactic| ((with_reducible refine' told05 ?k1 ?k2 ?k3 ?h0 ?h1 ?h2 ?h3 ?h4 ?h); (case k1 => walk_at "my asm"); (case k2 => walk_at "my asm"); (case k3 => walk_at "my heap"); (case h0 => walk_at "my handed"); (case h1 => walk_at "my handed"); (case h2 => walk_at "my handed"); (case h3 => walk_at "my handed"); (case h4 => walk_at "my handed"); intro a' s' n' S'; (try dsimp only at S')))
local macro_rules | `(tactic| walk_at "my call") => `(tactic| walk_at "my call told")
local macro_rules | `(tactic| walk_at "my call washed") => `(tactic| ((with_reducible refine' washed05 ?k1 ?k2 ?k3 ?h); (case k1 => walk_at "my asm"); (case k2 => walk_at "my asm"); (case k3 => walk_at "my heap"); intro s' S'))

local macro_rules | `(tactic| walk_at "my call") => `(tactic| first | walk_at "my call told" | walk_at "my call washed")
example (w : World) : PySem.Challenge.rw_dn0305_05.prog = PySem.Challenge.rw_dn0305_05.prog → Lib (hd05.heap_39 w.params) 102 := by
  k_fill
  exact lib05 w
def three (a b c : Value) : Nat → Value
  | 0 => a
  | 1 => b
  | _ => c
theorem fmod3 (n k : Nat) : ((n : Int) + k).fmod 3 = (((n + k) % 3 : Nat) : Int) := by
  rw [Int.fmod_eq_emod_of_nonneg _ (by decide)]; omega
section
variable {p : Program} {loose : List Str} {mean : ExcName → Option Value} {mg mb : Str → Option Value} {A : Around} {env : Env} {h₀ : Heap} {L : Addr} {d : Nat}
variable {w : World} {s₀ s : Shared} {own : List (Addr × Obj)} {m : Str → Option Value} {H : AH} {Q : Value → Shared → Prop} {E : Value → Shared → Prop}

structure JW (x lt la : Addr) (a b c : Value) (n : Nat) (tn : Tok) (H : AH) (F0 : Flds) (q : Nat) (m : Str → Option Value) (H' : AH) (F : Flds) : Prop where
  mat : m "at" = some (.ref x)
  mth : m "things" = some (.ref lt)
  mtu : m "turn" = some (.int n tn)
  man : m "answers" = some (.ref la)
  hla : H' la = some (.list (List.replicate q .none))
  hx : H' x = some (.src F)
  sub : SubX [x, la] H H'
  set : ∀ p, p < q → F.get (fdn ((n + p) % 3)) = three a b c ((n + p) % 3)
  b3 : F.byt = F0.byt
  b4 : F.chr = F0.chr

set_option maxHeartbeats 4000000 in
theorem write05 {x lt : Addr} {F : Flds} {a b cc : Value} {n : Nat} {tn : Tok} (c : Cx (hd05.heap_39 w.params) p loose mean mg mb A env h₀ L (d + 2)) (S : St 102 s₀ h₀ L own s m H) (hx : H x = some (.src F)) (hlt : H lt = some (.list [a, b, cc]))
    (h : ∀ r s' H', H r = none → H' r = some (.list [.none, .none, .none]) → H' x = some (.src ⟨a, b, cc, F.byt, F.chr⟩) → SubX [x] H H' → St 102 s₀ h₀ L own s' m H' → Q (.ref r) s') :
    wpAny (model PySem.Challenge.rw_dn0305_05.row.prog w) A (call (.ref 127) [.ref x, .ref lt, .int n tn]) Q E s := by
  have l := lib05 w rfl
  refine' call_fn (binds := [("at", .ref x), ("things", .ref lt), ("turn", .int n tn)]) c S ?k1 ?k2 ?k3 ?k4 ?k5 ?k6 ?k7 ?k8 ?k9
  case k1 => k_is
  case k2 => k_is
  case k3 => exact BindsTo.of_eq rfl
  case k4 => exact locs rfl
  case k6 => rfl
  case k7 => rfl
  case k8 => rfl
  case k9 => decide
  case k5 =>
    intro g L' s₁ c' S'
    dsimp only [bindM, List.foldl_cons, List.foldl_nil] at S'
    clear S
    k_fold
    repeat walk_at "my step"
    rename_i la _ nla _ _ S2
    with_reducible refine' r_for_range c' S2 ?hfor ?k1 ?k2
    case k1 => rfl
    case k2 => exact fun _ => rfl
    repeat walk_at "my step"
    rename_i lr _ _ _ nlr Sr
    have hxl : x ≠ la := ne_new nla hx
    have hxr : x ≠ lr := ne_new nlr (put_new nla hx)
    have hlar : la ≠ lr := ne_new nlr put_same
    refine ⟨lr, 0, 3, 1, _, _, _, 3, _, _, _, fun q m' H' => ∃ F', JW x lt la a b cc n tn H F q m' H' F', rfl, Sr, put_same, (by decide), (by decide), ?_, ?_, ?_⟩
    · exact ⟨F, by walk_at "my look", by walk_at "my look", by walk_at "my look", by walk_at "my look", by (show _ = some (AObj.list [])); walk_at "my heap", by walk_at "my heap", (Sub.refl.new nla).new nlr |>.toX, fun p hp => absurd hp (Nat.not_lt_zero _), rfl, rfl⟩
    · intro q tq m₁ H₁ own₁ s₃ hq hJ S₃
      obtain ⟨F', mat, mth, mtu, man, hla, hx', hsub, hset, b3, b4⟩ := hJ
      have e0 : (0 + (q : Int) * 1) = (q : Int) := by omega
      rw [e0] at S₃
      have hlt1 : H₁ lt = some (.list [a, b, cc]) := hsub _ _ (by
        have h1 := ne_kind hlt hx (fun z => by cases z)
        have h2 := ne_new nla hlt
        simp [h1, h2]) hlt
      have hsz : (List.replicate q Value.none).length ≤ 90000 := by rw [List.length_replicate]; omega
      have key : ∀ j, j < 3 → (n + q) % 3 = j → ((n : Int) + (q : Int)).fmod 3 = (j : Int) := fun j _ e => by rw [fmod3, e]
      have fin : ∀ (j : Nat) (v : Value), j < 3 → (n + q) % 3 = j → v = three a b cc j → ∀ p, p < q + 1 → (F'.set (fdn j) v).get (fdn ((n + p) % 3)) = three a b cc ((n + p) % 3) := fun j v hj e hv p hp => by
        by_cases z : (n + p) % 3 = j
        · rw [z, hv]
          rcases j with _ | _ | _ | j
          · rfl
          · rfl
          · rfl
          · omega
        · have hp2 : p < q := by
            rcases Nat.lt_or_ge p q with h | h
            · exact h
            · have : p = q := by omega
              rw [this] at z; exact absurd e z
          rw [← hset p hp2]
          have h3 : (n + p) % 3 < 3 := Nat.mod_lt _ (by decide)
          generalize (n + p) % 3 = i at z h3
          rcases i with _ | _ | _ | i <;> rcases j with _ | _ | _ | j <;> first | rfl | omega
      clear Sr S2
      have h3 : (n + q) % 3 = 0 ∨ (n + q) % 3 = 1 ∨ (n + q) % 3 = 2 := by omega
      rcases h3 with h3 | h3 | h3
      · have k0 := key 0 (by decide) h3
        have t0 : (((n : Int) + (q : Int)).fmod 3 == 0) = true := by rw [k0]; rfl
        repeat walk_at "my step"
        refine TurnQ.mk' (by assumption) ⟨F'.set .sys a, by walk_at "my look", by walk_at "my look", by walk_at "my look", by walk_at "my look", by rw [put_same, List.replicate_succ'], by walk_at "my heap", (hsub.at (by simp)).at (by simp), fin 0 a (by decide) h3 rfl, b3, b4⟩
      · have k0 := key 1 (by decide) h3
        have t0 : (((n : Int) + (q : Int)).fmod 3 == 0) = false := by rw [k0]; rfl
        have t1 : (((n : Int) + (q : Int)).fmod 3 == 1) = true := by rw [k0]; rfl
        repeat walk_at "my step"
        refine TurnQ.mk' (by assumption) ⟨F'.set .pub b, by walk_at "my look", by walk_at "my look", by walk_at "my look", by walk_at "my look", by rw [put_same, List.replicate_succ'], by walk_at "my heap", (hsub.at (by simp)).at (by simp), fin 1 b (by decide) h3 rfl, b3, b4⟩
      · have k0 := key 2 (by decide) h3
        have t0 : (((n : Int) + (q : Int)).fmod 3 == 0) = false := by rw [k0]; rfl
        have t1 : (((n : Int) + (q : Int)).fmod 3 == 1) = false := by rw [k0]; rfl
        repeat walk_at "my step"
        refine TurnQ.mk' (by assumption) ⟨F'.set .enc cc, by walk_at "my look", by walk_at "my look", by walk_at "my look", by walk_at "my look", by rw [put_same, List.replicate_succ'], by walk_at "my heap", (hsub.at (by simp)).at (by simp), fin 2 cc (by decide) h3 rfl, b3, b4⟩
    · intro m₁ H₁ s₃ hJ S₃
      obtain ⟨F', mat, mth, mtu, man, hla, hx', hsub, hset, b3, b4⟩ := hJ
      clear Sr S2
      repeat walk_at "my step"
      have hF : F' = ⟨a, b, cc, F.byt, F.chr⟩ := by
        have hj : ∀ j, j < 3 → F'.get (fdn j) = three a b cc j := fun j hj => by
          have := hset ((j + 3 - n % 3) % 3) (Nat.mod_lt _ (by decide))
          rwa [show (n + (j + 3 - n % 3) % 3) % 3 = j from by omega] at this
        have h0 := hj 0 (by decide)
        have h1 := hj 1 (by decide)
        have h2 := hj 2 (by decide)
        obtain ⟨f0, f1, f2, f3, f4⟩ := F'
        simp only [fdn, Flds.get, three] at h0 h1 h2
        rw [h0, h1, h2]
        simp only at b3 b4
        rw [b3, b4]
      subst hF
      refine Back.mk' (by assumption) Sub.refl (h la _ H₁ nla hla hx' fun y o hy e => hsub y o ?_ e)
      have : y ≠ la := ne_new nla e
      have : y ≠ x := fun z => hy (by simp [z])
      simp [*]

set_option maxHeartbeats 4000000 in
theorem endL05 {x : Addr} {F : Flds} (c : Cx (hd05.heap_39 w.params) p loose mean mg mb A env h₀ L (d + 4)) (S : St 102 s₀ h₀ L own s m H) (hx : H x = some (.src F))
    (h : ∀ r y s' H', H r = none → H y = none → H' r = some (.list (List.replicate 9 .none)) → H' y = some (.src ⟨.none, .none, .none, .none, .ref x⟩) → H' x = some (.src { F with byt := .ref y }) → SubX [x] H H' → St 102 s₀ h₀ L own s' m H' → Q (.ref r) s') :
    wpAny (model PySem.Challenge.rw_dn0305_05.row.prog w) A (call (.ref 134) [.ref x, .bool true]) Q E s := by
  have l := lib05 w rfl
  refine' call_fn (binds := [("at", .ref x), ("left", .bool true)]) c S ?k1 ?k2 ?k3 ?k4 ?k5 ?k6 ?k7 ?k8 ?k9
  case k1 => k_is
  case k2 => k_is
  case k3 => exact BindsTo.of_eq rfl
  case k4 => exact locs rfl
  case k6 => rfl
  case k7 => rfl
  case k8 => rfl
  case k9 => decide
  case k5 =>
    intro g L' s₁ c' S'
    dsimp only [bindM, List.foldl_cons, List.foldl_nil] at S'
    clear S
    k_fold
    repeat (fail_if_success (with_reducible show wpAny _ _ (storeName _ _ _) _ _ _)); walk_at "my step"
    rename_i y _ ny Sy
    have hxy : x ≠ y := ne_new ny hx
    walk_at "my step"
    repeat (fail_if_success (with_reducible show wpAny _ _ (storeName _ _ _) _ _ _)); walk_at "my step"
    rename_i la _ nla Sa
    have hla0 : H la = none := Sub.none (by walk_at "my sub") nla
    clear Sy
    repeat walk_at "my step"
    rename_i r _ nr SS
    have hs : SubX [x] H _ := SubX.of SS (by walk_at "my sub")
    have hr0 : H r = none := SubX.none (x := x) (H' := _) (by walk_at "my sub") (by walk_at "my heap") nr
    refine Back.mk' SS Sub.refl (h r y _ _ hr0 ny put_same ?_ ?_ hs)
    · walk_at "my heap"
    · walk_at "my heap"

set_option maxHeartbeats 4000000 in
theorem endR05 {x : Addr} {F : Flds} (c : Cx (hd05.heap_39 w.params) p loose mean mg mb A env h₀ L (d + 4)) (S : St 102 s₀ h₀ L own s m H) (hx : H x = some (.src F))
    (h : ∀ r y s' H', H r = none → H y = none → H' r = some (.list (List.replicate 9 .none)) → (∃ t, H' y = some (.src ⟨.str "" t, .none, .none, .ref x, .none⟩)) → H' x = some (.src { F with chr := .ref y }) → SubX [x] H H' → St 102 s₀ h₀ L own s' m H' → Q (.ref r) s') :
    wpAny (model PySem.Challenge.rw_dn0305_05.row.prog w) A (call (.ref 134) [.ref x, .bool false]) Q E s := by
  have l := lib05 w rfl
  refine' call_fn (binds := [("at", .ref x), ("left", .bool false)]) c S ?k1 ?k2 ?k3 ?k4 ?k5 ?k6 ?k7 ?k8 ?k9
  case k1 => k_is
  case k2 => k_is
  case k3 => exact BindsTo.of_eq rfl
  case k4 => exact locs rfl
  case k6 => rfl
  case k7 => rfl
  case k8 => rfl
  case k9 => decide
  case k5 =>
    intro g L' s₁ c' S'
    dsimp only [bindM, List.foldl_cons, List.foldl_nil] at S'
    clear S
    k_fold
    repeat (fail_if_success (with_reducible show wpAny _ _ (storeName _ _ _) _ _ _)); walk_at "my step"
    rename_i y _ ny Sy
    have hxy : x ≠ y := ne_new ny hx
    walk_at "my step"
    repeat (fail_if_success (with_reducible show wpAny _ _ (storeName _ _ _) _ _ _)); walk_at "my step"
    rename_i la _ nla Sa
    have hla0 : H la = none := Sub.none (by walk_at "my sub") nla
    clear Sy
    repeat walk_at "my step"
    rename_i r _ nr SS
    have hs : SubX [x] H _ := SubX.of SS (by walk_at "my sub")
    have hr0 : H r = none := SubX.none (x := x) (H' := _) (by walk_at "my sub") (by walk_at "my heap") nr
    refine Back.mk' SS Sub.refl (h r y _ _ hr0 ny put_same ?_ ?_ hs)
    · exact ⟨_, by walk_at "my heap"⟩
    · walk_at "my heap"
end
end Mine

end
section
open PySem PySem.W PySem.Calls PyProof.Rows PySem.Spec PySem.SeqAt
set_option Elab.async false
set_option maxRecDepth 100000
namespace Mine
/-! the row of places, and what the tables say -/
def sgS : Nat → Str
  | 1 => ""
  | 2 => "a"
  | 3 => "A"
  | _ => " a"
def IsSg (i : Nat) (v : Value) : Prop := i < 5 ∧ ((i = 0 ∧ v = .none) ∨ (0 < i ∧ ∃ t, v = .str (sgS i) t))
def IsO (o : Option Int) (v : Value) : Prop := match o with
  | none => v = .none
  | some i => ∃ t, v = .int i t
def RelO (f : Int → Option Value) (cn : Int → Option Int) : Prop := ∀ p, match cn p with
  | none => f p = none
  | some i => ∃ t, f p = some (.int i t)
def sgl (t1 t2 t3 t4 : Tok) : List Value := [.none, .str "" t1, .str "a" t2, .str "A" t3, .str " a" t4]
def eqS : Value → Value → Bool
  | .none, .none => true
  | .str a _, .str b _ => a == b
  | _, _ => false
theorem eqS_at {A : Around} {s : Shared} {t1 t2 t3 t4 : Tok} {i : Nat} {v y : Value} (h : IsSg i v) (hy : y ∈ sgl t1 t2 t3 t4) : EqAt A s y v (eqS y v) := by
  have hv : v = .none ∨ ∃ x t, v = .str x t := by
    rcases h.2 with ⟨_, rfl⟩ | ⟨_, t, rfl⟩
    · exact .inl rfl
    · exact .inr ⟨_, _, rfl⟩
  have hy' : y = .none ∨ ∃ x t, y = .str x t := by
    simp only [sgl, List.mem_cons, List.not_mem_nil, or_false] at hy
    rcases hy with h | h | h | h | h
    · exact .inl h
    · exact .inr ⟨_, _, h⟩
    · exact .inr ⟨_, _, h⟩
    · exact .inr ⟨_, _, h⟩
    · exact .inr ⟨_, _, h⟩
  rcases hv with rfl | ⟨x, t, rfl⟩ <;> rcases hy' with rfl | ⟨x', t', rfl⟩
  · exact EqAt.same _
  · exact EqAt.str_none _ _
  · exact EqAt.none_str _ _
  · exact EqAt.str_str _ _ _ _
theorem eqS_hit {t1 t2 t3 t4 : Tok} {i : Nat} {v : Value} (h : IsSg i v) (hi : i < (sgl t1 t2 t3 t4).length) : eqS (sgl t1 t2 t3 t4)[i] v = true := by
  obtain ⟨h5, h⟩ := h
  rcases i with _ | _ | _ | _ | _ | i
  · rcases h with ⟨_, rfl⟩ | ⟨h, _⟩
    · rfl
    · omega
  · rcases h with ⟨h, _⟩ | ⟨_, t, rfl⟩
    · omega
    · rfl
  · rcases h with ⟨h, _⟩ | ⟨_, t, rfl⟩
    · omega
    · rfl
  · rcases h with ⟨h, _⟩ | ⟨_, t, rfl⟩
    · omega
    · rfl
  · rcases h with ⟨h, _⟩ | ⟨_, t, rfl⟩
    · omega
    · rfl
  · omega
theorem eqS_miss {t1 t2 t3 t4 : Tok} {i : Nat} {v : Value} (h : IsSg i v) : ∀ q (hq : q < (sgl t1 t2 t3 t4).length), q < i → eqS (sgl t1 t2 t3 t4)[q] v = false := by
  intro q hq hqi
  obtain ⟨h5, h⟩ := h
  rcases h with ⟨h, _⟩ | ⟨_, t, rfl⟩
  · omega
  · rcases i with _ | _ | _ | _ | _ | i
    · omega
    all_goals (rcases q with _ | _ | _ | _ | _ | q)
    all_goals first | rfl | omega | decide
theorem sgl_get {t1 t2 t3 t4 : Tok} {i : Nat} (hi : i < 5) : ∃ v, (sgl t1 t2 t3 t4)[i]? = some v ∧ IsSg i v ∧ handedIn v = true := by
  rcases i with _ | _ | _ | _ | _ | i
  · exact ⟨_, rfl, ⟨by decide, .inl ⟨rfl, rfl⟩⟩, rfl⟩
  · exact ⟨_, rfl, ⟨by decide, .inr ⟨by decide, _, rfl⟩⟩, rfl⟩
  · exact ⟨_, rfl, ⟨by decide, .inr ⟨by decide, _, rfl⟩⟩, rfl⟩
  · exact ⟨_, rfl, ⟨by decide, .inr ⟨by decide, _, rfl⟩⟩, rfl⟩
  · exact ⟨_, rfl, ⟨by decide, .inr ⟨by decide, _, rfl⟩⟩, rfl⟩
  · omega
theorem IsSg.handed {i : Nat} {v : Value} (h : IsSg i v) : handedIn v = true := by
  rcases h.2 with ⟨_, rfl⟩ | ⟨_, t, rfl⟩ <;> rfl
theorem IsO.handed {o : Option Int} {v : Value} (h : IsO o v) : handedIn v = true := by
  cases o with
  | none => cases h; rfl
  | some i => obtain ⟨t, rfl⟩ := h; rfl

theorem mod5' (x : Int) : ∃ k : Nat, k < 5 ∧ x.fmod 5 = (k : Int) := by
  have h1 := Int.fmod_nonneg_of_pos x (b := 5) (by decide)
  have h2 := Int.fmod_lt_of_pos x (b := 5) (by decide)
  exact ⟨(x.fmod 5).toNat, by omega, by omega⟩
def Row (H : AH) (lo hi : Int) (A : Int → Addr) (sg : Int → Nat) (cn tn : Int → Option Int) : Prop := ∀ p, lo ≤ p → p ≤ hi → ∃ vs vc vt,
  H (A p) = some (.src ⟨vs, vc, vt, if p = lo then .none else .ref (A (p - 1)), if p = hi then .none else .ref (A (p + 1))⟩) ∧ IsSg (sg p) vs ∧ IsO (cn p) vc ∧ IsO (tn p) vt
structure T5 where
  lo : Int
  hi : Int
  pl : Int
  A : Int → Addr
  sg : Int → Nat
  cn : Int → Option Int
  tn : Int → Option Int
  ft : Int → Option Value
  fc : Int → Option Value
  fn : Int → Option Value
  ot : Obj
  oc : Obj
  on : Obj
  n : Nat

/-! what the heap and the tables bear, apart from the names -/
structure W5 (prog : Program) (w : World) (ls la dt dc dn : Addr) (t1 t2 t3 t4 : Tok) (na nt nc nw : Nat) (H : AH) (X : T5) : Prop where
  hls : H ls = some (.list (sgl t1 t2 t3 t4))
  hla : H la = some (.list (List.replicate X.n .none))
  few : X.n ≤ na
  hdt : H dt = some (.raw X.ot)
  hdc : H dc = some (.raw X.oc)
  hdn : H dn = some (.raw X.on)
  dot : DObj prog w X.ft nt X.ot
  doc : DObj prog w X.fc nc X.oc
  don : DObj prog w X.fn nc X.on
  row : Row H X.lo X.hi X.A X.sg X.cn X.tn
  inj : ∀ p q, X.lo ≤ p → p ≤ X.hi → X.lo ≤ q → q ≤ X.hi → X.A p = X.A q → p = q
  rt : ∀ p, X.lo ≤ p → p ≤ X.hi → ∃ t, X.ft p = some (.int (X.sg p) t)
  rc : RelO X.fc X.cn
  rn : RelO X.fn X.tn
  out : ∀ p, p < X.lo ∨ X.hi < p → X.cn p = none ∧ X.tn p = none
  l1 : X.lo ≤ X.pl
  l2 : X.pl ≤ X.hi
  z1 : X.lo ≤ 0
  z2 : 0 ≤ X.hi
  wide : X.hi - X.lo ≤ nw
theorem DObj.mono {prog : Program} {w : World} {f : Int → Option Value} {n n' : Nat} {o : Obj} (h : DObj prog w f n o) (hn : n ≤ n') : DObj prog w f n' o := by
  obtain ⟨kvs, h1, h2, h3⟩ := h
  exact ⟨kvs, h1, Nat.le_trans h2 hn, h3⟩
theorem Row.sub {H H' : AH} {lo hi : Int} {A : Int → Addr} {sg : Int → Nat} {cn tn : Int → Option Int} (h : Row H lo hi A sg cn tn) (hs : Sub H H') : Row H' lo hi A sg cn tn := fun p h1 h2 => by
  obtain ⟨a, b, c, e, r⟩ := h p h1 h2
  exact ⟨a, b, c, hs _ _ e, r⟩
theorem RelO.set {f : Int → Option Value} {cn : Int → Option Int} (h : RelO f cn) (p0 k : Int) (t : Tok) : RelO (fun x => if x = p0 then some (.int k t) else f x) (fun p => if p = p0 then some k else cn p) := fun p => by
  by_cases z : p = p0
  · simp only [if_pos z]; exact ⟨t, rfl⟩
  · simp only [if_neg z]; exact h p
section
variable {prog : Program} {w : World} {ls la dt dc dn : Addr} {t1 t2 t3 t4 : Tok} {na nt nc nw : Nat} {H H' : AH} {X : T5}
theorem W5.sub (h : W5 prog w ls la dt dc dn t1 t2 t3 t4 na nt nc nw H X) (hs : Sub H H') : W5 prog w ls la dt dc dn t1 t2 t3 t4 na nt nc nw H' X :=
  ⟨hs _ _ h.hls, hs _ _ h.hla, h.few, hs _ _ h.hdt, hs _ _ h.hdc, hs _ _ h.hdn, h.dot, h.doc, h.don, h.row.sub hs, h.inj, h.rt, h.rc, h.rn, h.out, h.l1, h.l2, h.z1, h.z2, h.wide⟩
theorem W5.mono (h : W5 prog w ls la dt dc dn t1 t2 t3 t4 na nt nc nw H X) {na' nt' nc' nw' : Nat} (h1 : na ≤ na') (h2 : nt ≤ nt') (h3 : nc ≤ nc') (h4 : nw ≤ nw') : W5 prog w ls la dt dc dn t1 t2 t3 t4 na' nt' nc' nw' H X :=
  ⟨h.hls, h.hla, Nat.le_trans h.few h1, h.hdt, h.hdc, h.hdn, h.dot.mono h2, h.doc.mono h3, h.don.mono h3, h.row, h.inj, h.rt, h.rc, h.rn, h.out, h.l1, h.l2, h.z1, h.z2, by have := h.wide; omega⟩
/-- the walker goes to another place of the row -/
theorem W5.go (h : W5 prog w ls la dt dc dn t1 t2 t3 t4 na nt nc nw H X) (q : Int) (h1 : X.lo ≤ q) (h2 : q ≤ X.hi) : W5 prog w ls la dt dc dn t1 t2 t3 t4 na nt nc nw H { X with pl := q } :=
  ⟨h.hls, h.hla, h.few, h.hdt, h.hdc, h.hdn, h.dot, h.doc, h.don, h.row, h.inj, h.rt, h.rc, h.rn, h.out, h1, h2, h.z1, h.z2, h.wide⟩
/-- a new end on the left -/
theorem W5.endL (h : W5 prog w ls la dt dc dn t1 t2 t3 t4 na nt nc nw H X) (hpl : X.pl = X.lo) {y : Addr} {ot' : Obj} {t : Tok} {F : Flds} (hF : H (X.A X.lo) = some (.src F))
    (hy0 : H y = none) (hls : H' ls = some (.list (sgl t1 t2 t3 t4))) (hla : H' la = some (.list (List.replicate (X.n + 9) .none))) (hdt : H' dt = some (.raw ot')) (hdc : H' dc = some (.raw X.oc)) (hdn : H' dn = some (.raw X.on))
    (dot : DObj prog w (fun x => if x = X.lo - 1 then some (.int 0 t) else X.ft x) (nt + 1) ot') (hy : H' y = some (.src ⟨.none, .none, .none, .none, .ref (X.A X.lo)⟩)) (hA : H' (X.A X.lo) = some (.src { F with byt := .ref y }))
    (up : ∀ a F, a ≠ X.A X.lo → H a = some (.src F) → H' a = some (.src F)) :
    W5 prog w ls la dt dc dn t1 t2 t3 t4 (na + 9) (nt + 1) nc (nw + 1) H' ⟨X.lo - 1, X.hi, X.lo - 1, fun p => if p = X.lo - 1 then y else X.A p, fun p => if p = X.lo - 1 then 0 else X.sg p, X.cn, X.tn, fun x => if x = X.lo - 1 then some (.int 0 t) else X.ft x, X.fc, X.fn, ot', X.oc, X.on, X.n + 9⟩ := by
  have l3 : X.lo ≤ X.hi := Int.le_trans h.l1 h.l2
  have hyn : ∀ p, X.lo ≤ p → p ≤ X.hi → y ≠ X.A p := fun p h1 h2 z => by
    obtain ⟨_, _, _, e, _⟩ := h.row p h1 h2
    rw [← z, hy0] at e; cases e
  refine ⟨hls, hla, by have := h.few; simp only; omega, hdt, hdc, hdn, dot, h.doc, h.don, ?_, ?_, ?_, h.rc, h.rn, ?_, by simp only; omega, by simp only; omega, by have := h.z1; simp only; omega, h.z2, by have := h.wide; simp only; omega⟩
  · intro p h1 h2
    simp only at h1 h2 ⊢
    by_cases z : p = X.lo - 1
    · subst z
      have z2 : ¬ X.lo - 1 = X.hi := by omega
      have z3 : ¬ X.lo = X.lo - 1 := by omega
      obtain ⟨o1, o2⟩ := h.out (X.lo - 1) (.inl (by omega))
      simp only [if_true, if_neg z2, if_neg z3, show X.lo - 1 + 1 = X.lo from by omega, o1, o2]
      exact ⟨_, _, _, hy, ⟨by decide, .inl ⟨rfl, rfl⟩⟩, rfl, rfl⟩
    · have h3 : X.lo ≤ p := by omega
      have z3 : ¬ p + 1 = X.lo - 1 := by omega
      simp only [if_neg z, if_neg z3]
      obtain ⟨a, b, c, e, r⟩ := h.row p h3 h2
      by_cases q : p = X.lo
      · subst q
        rw [hF] at e
        cases e
        refine ⟨a, b, c, ?_, r⟩
        rw [hA]
        simp
      · have z4 : ¬ p - 1 = X.lo - 1 := by omega
        rw [if_neg q] at e
        simp only [if_neg z4]
        exact ⟨a, b, c, up _ _ (fun z => q (h.inj p X.lo h3 h2 (Int.le_refl _) l3 z)) e, r⟩
  · intro p q h1 h2 h3 h4 e
    simp only at h1 h2 h3 h4 e
    by_cases z : p = X.lo - 1
    · by_cases z' : q = X.lo - 1
      · rw [z, z']
      · simp only [if_pos z, if_neg z'] at e
        exact absurd e (hyn q (by omega) h4)
    · by_cases z' : q = X.lo - 1
      · simp only [if_neg z, if_pos z'] at e
        exact absurd e.symm (hyn p (by omega) h2)
      · simp only [if_neg z, if_neg z'] at e
        exact h.inj p q (by omega) h2 (by omega) h4 e
  · intro p h1 h2
    simp only at h1 h2 ⊢
    by_cases z : p = X.lo - 1
    · simp only [if_pos z]; exact ⟨t, rfl⟩
    · simp only [if_neg z]; exact h.rt p (by omega) h2
  · intro p hp
    simp only at hp
    exact h.out p (by omega)
/-- a new end on the right -/
theorem W5.endR (h : W5 prog w ls la dt dc dn t1 t2 t3 t4 na nt nc nw H X) (hpl : X.pl = X.hi) {y : Addr} {ot' : Obj} {t t' : Tok} {F : Flds} (hF : H (X.A X.hi) = some (.src F))
    (hy0 : H y = none) (hls : H' ls = some (.list (sgl t1 t2 t3 t4))) (hla : H' la = some (.list (List.replicate (X.n + 9) .none))) (hdt : H' dt = some (.raw ot')) (hdc : H' dc = some (.raw X.oc)) (hdn : H' dn = some (.raw X.on))
    (dot : DObj prog w (fun x => if x = X.hi + 1 then some (.int 1 t) else X.ft x) (nt + 1) ot') (hy : H' y = some (.src ⟨.str "" t', .none, .none, .ref (X.A X.hi), .none⟩)) (hA : H' (X.A X.hi) = some (.src { F with chr := .ref y }))
    (up : ∀ a F, a ≠ X.A X.hi → H a = some (.src F) → H' a = some (.src F)) :
    W5 prog w ls la dt dc dn t1 t2 t3 t4 (na + 9) (nt + 1) nc (nw + 1) H' ⟨X.lo, X.hi + 1, X.hi + 1, fun p => if p = X.hi + 1 then y else X.A p, fun p => if p = X.hi + 1 then 1 else X.sg p, X.cn, X.tn, fun x => if x = X.hi + 1 then some (.int 1 t) else X.ft x, X.fc, X.fn, ot', X.oc, X.on, X.n + 9⟩ := by
  have l3 : X.lo ≤ X.hi := Int.le_trans h.l1 h.l2
  have hyn : ∀ p, X.lo ≤ p → p ≤ X.hi → y ≠ X.A p := fun p h1 h2 z => by
    obtain ⟨_, _, _, e, _⟩ := h.row p h1 h2
    rw [← z, hy0] at e; cases e
  refine ⟨hls, hla, by have := h.few; simp only; omega, hdt, hdc, hdn, dot, h.doc, h.don, ?_, ?_, ?_, h.rc, h.rn, ?_, by simp only; omega, by simp only; omega, h.z1, by have := h.z2; simp only; omega, by have := h.wide; simp only; omega⟩
  · intro p h1 h2
    simp only at h1 h2 ⊢
    by_cases z : p = X.hi + 1
    · subst z
      have z2 : ¬ X.hi + 1 = X.lo := by omega
      have z3 : ¬ X.hi = X.hi + 1 := by omega
      obtain ⟨o1, o2⟩ := h.out (X.hi + 1) (.inr (by omega))
      simp only [if_true, if_neg z2, if_neg z3, show X.hi + 1 - 1 = X.hi from by omega, o1, o2]
      exact ⟨_, _, _, hy, ⟨by decide, .inr ⟨by decide, _, rfl⟩⟩, rfl, rfl⟩
    · have h3 : p ≤ X.hi := by omega
      have z3 : ¬ p - 1 = X.hi + 1 := by omega
      simp only [if_neg z, if_neg z3]
      obtain ⟨a, b, c, e, r⟩ := h.row p h1 h3
      by_cases q : p = X.hi
      · subst q
        rw [hF] at e
        cases e
        refine ⟨a, b, c, ?_, r⟩
        rw [hA]
        simp
      · have z4 : ¬ p + 1 = X.hi + 1 := by omega
        rw [if_neg q] at e
        simp only [if_neg z4]
        exact ⟨a, b, c, up _ _ (fun z => q (h.inj p X.hi h1 h3 l3 (Int.le_refl _) z)) e, r⟩
  · intro p q h1 h2 h3 h4 e
    simp only at h1 h2 h3 h4 e
    by_cases z : p = X.hi + 1
    · by_cases z' : q = X.hi + 1
      · rw [z, z']
      · simp only [if_pos z, if_neg z'] at e
        exact absurd e (hyn q h3 (by omega))
    · by_cases z' : q = X.hi + 1
      · simp only [if_neg z, if_pos z'] at e
        exact absurd e.symm (hyn p h1 (by omega))
      · simp only [if_neg z, if_neg z'] at e
        exact h.inj p q h1 (by omega) h3 (by omega) e
  · intro p h1 h2
    simp only at h1 h2 ⊢
    by_cases z : p = X.hi + 1
    · simp only [if_pos z]; exact ⟨t, rfl⟩
    · simp only [if_neg z]; exact h.rt p h1 (by omega)
  · intro p hp
    simp only at hp
    exact h.out p (by omega)
end
structure J05 (prog : Program) (w : World) (ls la dt dc dn : Addr) (t1 t2 t3 t4 : Tok) (i : Nat) (m : Str → Option Value) (H : AH) (X : T5) : Prop where
  msg : m "signs" = some (.ref ls)
  man : m "answers" = some (.ref la)
  mat : m "at" = some (.ref (X.A X.pl))
  mpl : ∃ t, m "place" = some (.int X.pl t)
  mtp : m "tape" = some (.ref dt)
  mco : m "counts" = some (.ref dc)
  mtu : m "turns" = some (.ref dn)
  mlo : ∃ t, m "low" = some (.int X.lo t)
  mhi : ∃ t, m "high" = some (.int X.hi t)
  W : W5 prog w ls la dt dc dn t1 t2 t3 t4 (12 * i) (2 * i + 1) i i H X
structure J5w (ls la dt dc dn : Addr) (lo hi : Int) (A : Int → Addr) (q : Int) (m : Str → Option Value) : Prop where
  msg : m "signs" = some (.ref ls)
  man : m "answers" = some (.ref la)
  mat : m "at" = some (.ref (A q))
  mpl : ∃ t, m "place" = some (.int q t)
  mtp : m "tape" = some (.ref dt)
  mco : m "counts" = some (.ref dc)
  mtu : m "turns" = some (.ref dn)
  mlo : ∃ t, m "low" = some (.int lo t)
  mhi : ∃ t, m "high" = some (.int hi t)
structure J5f (ls la dt dc dn : Addr) (lo hi : Int) (A : Int → Addr) (i : Nat) (m : Str → Option Value) : Prop where
  msg : m "signs" = some (.ref ls)
  man : m "answers" = some (.ref la)
  mat : m "at" = some (if lo + i ≤ hi then .ref (A (lo + i)) else .none)
  mtp : m "tape" = some (.ref dt)
  mco : m "counts" = some (.ref dc)
  mtu : m "turns" = some (.ref dn)
  mle : m "left" = some (if i = 0 then .none else .ref (A (lo + i - 1)))
theorem sg_same {i : Nat} {v u : Value} (h : IsSg i v) (h' : IsSg i u) : Same0 v u := by
  rcases h.2 with ⟨h1, rfl⟩ | ⟨h1, t, rfl⟩ <;> rcases h'.2 with ⟨h2, rfl⟩ | ⟨h2, t', rfl⟩
  · exact .inl rfl
  · omega
  · omega
  · exact .inr (.inr (.inl ⟨_, _, _, rfl, rfl⟩))
theorem o_same {o : Option Int} {v u : Value} (h : IsO o v) (h' : IsO o u) : Same0 v u := by
  cases o with
  | none => cases h; cases h'; exact .inl rfl
  | some i => obtain ⟨t, rfl⟩ := h; obtain ⟨t', rfl⟩ := h'; exact .inr (.inl ⟨_, _, _, rfl, rfl⟩)
theorem RelO.isO {f : Int → Option Value} {cn : Int → Option Int} (h : RelO f cn) (p : Int) : ∃ u, (f p).getD .none = u ∧ IsO (cn p) u := by
  have := h p
  cases q : cn p with
  | none => rw [q] at this; exact ⟨.none, by rw [this]; rfl, rfl⟩
  | some i =>
    rw [q] at this
    obtain ⟨t, e⟩ := this
    exact ⟨.int i t, by rw [e]; rfl, t, rfl⟩
end Mine

end
section
open PySem PySem.W PySem.Calls PyProof.Rows PySem.Spec PySem.SeqAt
set_option Elab.async false
set_option maxRecDepth 100000
namespace Mine
local macro_rules | `(tactic| walk_at "my look") => `(tactic| first | with_reducible assumption | with_reducible exact upd_same | ((with_reducible refine' upd_look ?k1 ?k2); (case k1 => decide); (case k2 => walk_at "my look")))
local macro_rules | `(tactic| walk_at "my ne") => `(tactic| first | with_reducible assumption | ((with_reducible refine Ne.symm ?_); with_reducible assumption))
local macro_rules | `(tactic| walk_at "my heap") => `(tactic| first | with_reducible assumption | with_reducible exact put_same | ((with_reducible refine' put_step ?j1 ?j2); (case j1 => walk_at "my heap"); (case j2 => walk_at "my apart")))
local macro_rules | `(tactic| walk_at "my apart") => `(tactic| (intro e9; first | walk_at "my ne" | ((with_reducible refine' ne_new ?j3 e9); with_reducible assumption) | ((with_reducible refine' ne_kind e9 ?j4 ?j5); (case j4 => walk_at "my heap"); (case j5 => exact fun z9 => by cases z9))))
local macro_rules | `(tactic| walk_at "my none") => `(tactic| with_reducible assumption)
local macro_rules | `(tactic| walk_at "my asm") => `(tactic| with_reducible assumption)
local macro_rules | `(tactic| walk_at "my getter of") => `(tactic| first | with_reducible exact (by assumption : Lib _ _).g0 | with_reducible exact (by assumption : Lib _ _).g1 | with_reducible exact (by assumption : Lib _ _).g2 | with_reducible exact (by assumption : Lib _ _).g3 | with_reducible exact (by assumption : Lib _ _).g4)
local macro_rules | `(tactic| walk_at "my setter of") => `(tactic| first | with_reducible exact (by assumption : Lib _ _).s0 | with_reducible exact (by assumption : Lib _ _).s1 | with_reducible exact (by assumption : Lib _ _).s2 | with_reducible exact (by assumption : Lib _ _).s3 | with_reducible exact (by assumption : Lib _ _).s4)
local macro_rules | `(tactic| walk_at "my B") => `(tactic| with_reducible exact (by assumption : Lib _ _).B)
local macro_rules | `(tactic| walk_at "my handed") => `(tactic| first | with_reducible assumption | exact rfl)
local macro_rules | `(tactic| walk_at "my size") => `(tactic| first | ((try simp only [List.length_append, List.length_cons, List.length_nil, List.length_replicate]); omega) | (rw [sizeLine_eq]; (try simp only [List.length_append, List.length_cons, List.length_nil, List.length_replicate]); omega))
local macro_rules | `(tactic| walk_at "my isl") => `(tactic| first | ((with_reducible refine' St.given ?i1 ?i2); (case i2 => walk_at "my asm"); (case i1 => walk_at "my asm")) | ((with_reducible refine' St.isList ?i1 ?i2); (case i1 => walk_at "my asm"); (case i2 => walk_at "my heap")))
local macro_rules | `(tactic| walk_at "my stmt") => `(tactic| first | with_reducible refine wpAny_execs_cons ?_ | with_reducible refine wpAny_execs_nil ?_ | with_reducible refine wpAny_Return_some ?_ | ((with_reducible refine wpAny_Assign_Name ?h ?he); (case he => rfl)) | ((with_reducible refine Assign_Tuple ?h ?he ?hw); (case he => rfl); (case hw => rfl)) | ((with_reducible refine' Assign_Tuple_swapped ?h ?he ?hw); (case he => rfl); (case hw => exact rfl)) | with_reducible refine wpAny_If ?_ | ((with_reducible refine wpAny_Expr ?h ?hi ?he); (case hi => rfl); (case he => rfl)))
local macro_rules | `(tactic| walk_at "my expr") => `(tactic| first | ((with_reducible refine' r_local ?k1 ?k2 ?k3 ?h ?hl ?hd); (case k1 => walk_at "my asm"); (case k2 => walk_at "my asm"); (case k3 => walk_at "my look"); (case hl => exact rfl); (case hd => decide)) | ((with_reducible refine' r_cname ?k1 ?k2 ?k3 ?h ?hk ?hl ?hd); (case k1 => walk_at "my asm"); (case k2 => walk_at "my asm"); (case k3 => walk_at "my look"); (case hk => exact rfl); (case hl => exact rfl); (case hd => decide)) | ((with_reducible refine' r_glob ?k1 ?k2 ?k3 ?h ?hl ?hd ?hk ?hg); (case k1 => walk_at "my asm"); (case k2 => walk_at "my asm"); (case k3 => first | walk_at "my asm" | k_is); (case hl => exact rfl); (case hd => decide); (case hk => exact rfl); (case hg => exact rfl)) | ((with_reducible refine' r_blt ?k1 ?k2 ?k3 ?k4 ?k5 ?h ?hl ?hd ?hk ?hg ?hb); (case k1 => walk_at "my asm"); (case k2 => walk_at "my asm"); (case k3 => first | walk_at "my asm" | k_is); (case k4 => boot_by_name); (case k5 => decide); (case hl => exact rfl); (case hd => decide); (case hk => exact rfl); (case hg => exact rfl); (case hb => exact rfl)) | ((with_reducible refine' r_int ?k1 ?h); (case k1 => walk_at "my asm"); intro s' t' S') | ((with_reducible refine' r_str ?k1 ?h); (case k1 => walk_at "my asm"); intro s' t' S') | with_reducible refine wpAny_Constant_none ?_ | with_reducible refine wpAny_Constant_bool ?_ | with_reducible refine wpAny_BinOp ?_ | ((with_reducible refine wpAny_Compare1 ?h ?he); (case he => with_unfolding_all rfl)) | with_reducible refine List_ ?_ | with_reducible refine Tuple_ ?_ | with_reducible refine IfExp_ ?_ | with_reducible refine Subscript_ ?_ | ((with_reducible refine args_cons ?h ?he); (case he => rfl)) | with_reducible refine args_nil ?_ | ((with_reducible show wpAny _ _ (eval (Expr.Call (Expr.Attribute _ _ _) _ _ _) _) _ _ _); refine MethodCall_ ?_) | ((with_reducible show wpAny _ _ (eval (Expr.Call _ _ _ _) _) _ _ _); refine Call_ ?_))
local macro_rules | `(tactic| walk_at "my test") => `(tactic| first | ((with_reducible refine wpAny_isTrue_Compare1 ?h ?he); (case he => with_unfolding_all rfl)) | with_reducible refine isTrue_not ?_ | with_reducible refine isTrue_or ?_ | with_reducible refine isTrue_and ?_ | with_reducible refine isTrue_or_nil ?_ | with_reducible refine isTrue_and_nil ?_ | with_reducible refine wpAny_truthy_bool ?_ | with_reducible refine ite_tt ?_ | with_reducible refine ite_ff ?_ | with_reducible refine ite_nt ?_ | with_reducible refine ite_nf ?_ | with_reducible refine ite_T ?_ | with_reducible refine ite_F ?_ | ((with_reducible show wpAny _ _ (PySem.isTrue _ _ _) _ _ _); refine isTrue_plain ?_))
local macro_rules | `(tactic| walk_at "my sub") => `(tactic| first | with_reducible assumption | with_reducible exact SubX.refl | with_reducible exact Sub.refl | ((with_reducible refine' SubX.new ?k1 ?k2); (case k2 => walk_at "my none"); (case k1 => walk_at "my sub")) | ((with_reducible refine' SubX.at ?k1 ?k2); (case k2 => simp); (case k1 => walk_at "my sub")) | ((with_reducible refine' Sub.new ?k1 ?k2); (case k2 => walk_at "my none"); (case k1 => walk_at "my sub")))
local macro_rules | `(tactic| walk_at "my St") => `(tactic| first | with_reducible assumption | ((with_reducible refine' St.sub' ?k1 ?k2); (case k1 => with_reducible assumption); (case k2 => walk_at "my sub")))
local macro_rules | `(tactic| walk_at "my same1") => `(tactic| first | with_reducible exact Same.rfl' | with_reducible exact Same.int | with_reducible exact Same.str | with_reducible exact Same.bytes | ((with_reducible refine' Same.list ?k1 ?k2 ?k3); (case k1 => walk_at "my heap"); (case k2 => walk_at "my heap"); (case k3 => walk_at "my same")))
local macro_rules | `(tactic| walk_at "my same") => `(tactic| first | (simp only [List.length_replicate, Int.toNat_natCast]; exact SameAll.refl) | with_reducible exact SameAll.refl | exact SameAll.refl | exact SameAll.nil | ((with_reducible refine SameAll.cons ?k1 ?k2); (case k1 => walk_at "my same1"); (case k2 => walk_at "my same")))
local macro_rules | `(tactic| walk_at "my op") => `(tactic| first | ((with_reducible refine' r_newList ?k1 ?h ?hz); (case k1 => walk_at "my asm"); (case hz => walk_at "my size"); intro a' s' n' S') | ((with_reducible refine' r_newTuple ?k1 ?h ?hz); (case k1 => walk_at "my asm"); (case hz => walk_at "my size"); intro a' s' n' S') | with_reducible refine r_is_nn ?_ | with_reducible refine r_is_rn ?_ | with_reducible refine r_isnot_nn ?_ | with_reducible refine r_isnot_rn ?_ | with_reducible refine wpAny_bindName ?_ | with_reducible refine wpAny_assign_Name ?_ | ((with_reducible refine' r_unpackItems ?k1 ?k2 ?k3 ?k4 ?h); (case k1 => walk_at "my asm"); (case k2 => walk_at "my asm"); (case k3 => walk_at "my heap"); (case k4 => exact rfl); intro s' S') | ((with_reducible refine' r_assign_tup ?k1 ?k2 ?k3 ?k4 ?k5 ?h); (case k1 => walk_at "my asm"); (case k2 => walk_at "my asm"); (case k3 => walk_at "my heap"); (case k4 => exact rfl); (case k5 => exact rfl); intro s' S') | ((with_reducible show wpAny _ _ (assignInOrder _ _) _ _ _); (show wpAny _ _ (assignInOrder (_ :: _) (_ :: _)) _ _ _); refine aio_cons ?_) | ((with_reducible show wpAny _ _ (assignInOrder _ _) _ _ _); (show wpAny _ _ (assignInOrder [] []) _ _ _); refine aio_nil ?_) | ((with_reducible refine' r_store ?k1 ?k2 ?h ?hl); (case k1 => walk_at "my asm"); (case k2 => walk_at "my asm"); (case hl => exact rfl); intro s' S') | ((with_reducible refine' r_cstore ?k0 ?k1 ?k2 ?h ?hk ?hl); (case k0 => walk_at "my asm"); (case k1 => walk_at "my asm"); (case k2 => walk_at "my asm"); (case hk => exact rfl); (case hl => exact rfl); intro o' s' O' S') | ((with_reducible refine' r_getm ?k0 ?k1 ?k2 ?k3 ?k4 ?k5 ?h); (case k0 => walk_at "my getter of"); (case k1 => walk_at "my asm"); (case k2 => walk_at "my B"); (case k3 => walk_at "my asm"); (case k4 => walk_at "my heap"); (case k5 => walk_at "my handed"); intro s' S'; (try dsimp only [Flds.get])) | ((with_reducible refine' r_setm ?k0 ?k1 ?k2 ?k3 ?k4 ?h ?he); (case k0 => walk_at "my setter of"); (case k1 => walk_at "my asm"); (case k2 => walk_at "my B"); (case k3 => walk_at "my asm"); (case k4 => walk_at "my heap"); (case he => rfl)) | ((with_reducible refine' AtSet.mk' ?k1 ?k2 ?h); (case k1 => walk_at "my asm"); (case k2 => walk_at "my heap"); intro s' S'; dsimp only [Flds.set] at S') | ((with_reducible refine' r_new0 ?k0 ?k1 ?k2 ?k3 ?h); (case k0 => with_reducible exact (by assumption : Lib _ _).init); (case k1 => walk_at "my asm"); (case k2 => walk_at "my B"); (case k3 => walk_at "my asm"); intro x' s' n' S') | ((with_reducible refine' r_new1 ?k0 ?k1 ?k2 ?k3 ?h ?he); (case k0 => with_reducible exact (by assumption : Lib _ _).init); (case k1 => walk_at "my asm"); (case k2 => walk_at "my B"); (case k3 => walk_at "my asm"); (case he => rfl)) | ((with_reducible refine' r_add ?k1 ?h); (case k1 => walk_at "my asm"); intro s' t' S') | ((with_reducible refine' r_sub ?k1 ?h); (case k1 => walk_at "my asm"); intro s' t' S') | ((with_reducible refine' r_mod ?k1 ?k2 ?h); (case k1 => walk_at "my asm"); (case k2 => decide); intro s' t' S') | ((with_reducible refine' r_fdiv ?k0 ?k1 ?k2 ?h); (case k0 => walk_at "my asm"); (case k1 => walk_at "my asm"); (case k2 => decide); intro s' t' S') | ((with_reducible refine' r_ne_lists (n := 3) ?k1 ?k2 ?k3 ?k4 ?k5 ?k6 ?h); (case k1 => walk_at "my asm"); (case k2 => walk_at "my asm"); (case k3 => walk_at "my heap"); (case k4 => walk_at "my heap"); (case k5 => walk_at "my same"); (case k6 => decide)) | ((with_reducible refine' r_eq_lists (n := 3) ?k1 ?k2 ?k3 ?k4 ?k5 ?k6 ?h); (case k1 => walk_at "my asm"); (case k2 => walk_at "my asm"); (case k3 => walk_at "my heap"); (case k4 => walk_at "my heap"); (case k5 => walk_at "my same"); (case k6 => decide)) | ((with_reducible refine' r_eq_nil ?k1 ?k2 ?k3 ?k4 ?h); (case k1 => walk_at "my asm"); (case k2 => walk_at "my asm"); (case k3 => walk_at "my heap"); (case k4 => walk_at "my heap")) | ((with_reducible refine' r_add_lists ?k1 ?k2 ?k3 ?k4 ?h); (case k1 => walk_at "my asm"); (case k2 => walk_at "my isl"); (case k3 => walk_at "my isl"); (case k4 => walk_at "my size"); intro a' s' n' S') | ((with_reducible refine' r_enum ?k1 ?k2 ?h); (case k1 => walk_at "my asm"); (case k2 => walk_at "my heap"); intro e' it' ob' s' n1' n2' n3' hi' S') | with_reducible refine wp_forIn_nil ?_ | with_reducible refine lt_int ?_ | with_reducible refine gt_int ?_ | with_reducible refine eq_int ?_ | with_reducible refine ne_int ?_ | ((with_reducible refine' r_lmeth1 PySem.F.slot_list_append PySem.F.type_list_append ?k1 ?k2 ?h ?he); (case k1 => walk_at "my asm"); (case k2 => walk_at "my heap"); (case he => rfl)) | ((with_reducible refine' r_lmeth1 PySem.F.slot_list_extend PySem.F.type_list_extend ?k1 ?k2 ?h ?he); (case k1 => walk_at "my asm"); (case k2 => walk_at "my heap"); (case he => rfl)) | ((with_reducible refine' r_lmeth1 PySem.F.slot_list_remove PySem.F.type_list_remove ?k1 ?k2 ?h ?he); (case k1 => walk_at "my asm"); (case k2 => walk_at "my heap"); (case he => rfl)) | ((with_reducible refine' r_append ?k1 ?k2 ?k3 ?h); (case k1 => walk_at "my asm"); (case k2 => walk_at "my heap"); (case k3 => walk_at "my size"); intro s' S') | ((with_reducible refine' r_extend ?k1 ?k2 ?k3 ?k4 ?h); (case k1 => walk_at "my asm"); (case k2 => walk_at "my heap"); (case k3 => walk_at "my heap"); (case k4 => walk_at "my size"); intro s' S') | ((with_reducible refine' r_mul_list ?k1 ?k2 ?k3 ?k4 ?h); (case k1 => walk_at "my asm"); (case k2 => walk_at "my heap"); (case k3 => walk_at "my size"); (case k4 => walk_at "my size"); intro a' s' n' S') | ((with_reducible refine' r_len ?k1 ?k2 ?k3 ?h); (case k1 => walk_at "my asm"); (case k2 => walk_at "my heap"); (case k3 => walk_at "my size"); intro s' t' S') | ((with_reducible show wpAny _ _ (callWith _ (Value.builtin _) _ _ _) _ _ _); (with_reducible refine callWith_builtin1 ?h ?he ?hp); (case he => rfl); (case hp => rfl)) | ((with_reducible show wpAny _ _ (callWith _ (Value.type _) _ _ _) _ _ _); (with_reducible refine callWith_type1 ?h ?he ?hp); (case he => rfl); (case hp => rfl)) | ((with_reducible refine' r_callK ?k1 ?k3 ?k2 ?h ?he ?hp); (case k1 => walk_at "my asm"); (case k3 => walk_at "my asm"); (case k2 => k_is); (case he => rfl); (case hp => rfl)) | ((with_reducible refine' calledWith ?k1 ?h); (case k1 => walk_at "my asm"); (try simp only [List.nil_append])) | ((with_reducible refine' AtNew.mk' ?k1 ?h); (case k1 => walk_at "my asm"); intro x' s' n' S'))
local macro_rules | `(tactic| walk_at "my step") => `(tactic| first | (k_unfold; (try dsimp only)) | walk_at "my stmt" | walk_at "my expr" | walk_at "my test" | walk_at "my op" | walk_at "my call" | dsimp only)

local macro_rules | `(tactic| walk_at "my arith") => `(tactic| first | with_reducible assumption | decide | omega)
local macro_rules | `(tactic| walk_at "my item") => `(tactic| first | with_reducible assumption | exact rfl)
local macro_rules | `(tactic| walk_at "my part") => `(tactic| first | with_reducible exact IsPart.none | with_reducible exact IsPart.int _ _)
local macro_rules | `(tactic| walk_at "my expr") => `(tactic| first | ((with_reducible refine' r_bytes ?k1 ?h); (case k1 => walk_at "my asm"); intro s' t' S') | ((with_reducible refine' r_sliceObj ?k1 ?h); (case k1 => walk_at "my asm")) | with_reducible refine evalPart_none_step ?_ | with_reducible refine evalPart_some_step ?_ | ((with_reducible refine' r_sliceMk ?k1 ?h); (case k1 => walk_at "my asm"); intro a' s' n' S'))
local macro_rules | `(tactic| walk_at "my test") => `(tactic| first | ((with_reducible refine' ite_yes ?k1 ?h); (case k1 => first | with_reducible assumption | decide)) | ((with_reducible refine' ite_no ?k1 ?h); (case k1 => first | with_reducible assumption | decide)))
local macro_rules | `(tactic| walk_at "my op") => `(tactic| first | ((with_reducible refine' r_range1 ?k1 ?h); (case k1 => walk_at "my asm"); intro a' s' t1' t2' n' S') | ((with_reducible refine' r_range2 ?k1 ?h); (case k1 => walk_at "my asm"); intro a' s' t1' n' S') | ((with_reducible refine' r_range3 ?k1 ?k2 ?k3 ?h); (case k1 => walk_at "my asm"); (case k2 => decide); (case k3 => decide); intro a' s' n' S') | ((with_reducible refine' r_fdiv' ?k1 ?k2 ?k3 ?h); (case k1 => walk_at "my asm"); (case k2 => walk_at "my arith"); (case k3 => walk_at "my arith"); intro s' t' S') | ((with_reducible refine' r_divmod ?k1 ?k2 ?k3 ?h); (case k1 => walk_at "my asm"); (case k2 => walk_at "my arith"); (case k3 => walk_at "my arith"); intro a' s' t1' t2' n' S') | ((with_reducible refine' r_sum ?k1 ?k2 ?k3 ?k4 ?h); (case k1 => walk_at "my asm"); (case k2 => walk_at "my asm"); (case k3 => walk_at "my heap"); (case k4 => walk_at "my asm"); intro s' t' S') | with_reducible refine r_is_rr ?_ | with_reducible refine r_isnot_rr ?_ | ((with_reducible refine' tail_get ?k1 ?k2 ?k3 ?k4 ?k5 ?h ?hs); (case k1 => walk_at "my asm"); (case k2 => walk_at "my heap"); (case k3 => walk_at "my arith"); (case k4 => walk_at "my arith"); (case k5 => walk_at "my item"); (case hs => exact rfl)) | ((with_reducible refine' r_slice_to ?k1 ?k2 ?k3 ?k4 ?k5 ?h ?hs); (case k1 => walk_at "my asm"); (case k2 => walk_at "my heap"); (case k3 => walk_at "my heap"); (case k4 => walk_at "my arith"); (case k5 => walk_at "my size"); (case hs => with_unfolding_all rfl); intro a' s' n' S'; (try simp only [Int.reduceToNat, List.take_succ_cons, List.take_zero, List.drop_succ_cons, List.drop_zero] at S')) | ((with_reducible refine' r_slice_from ?k1 ?k2 ?k3 ?k4 ?k5 ?h ?hs); (case k1 => walk_at "my asm"); (case k2 => walk_at "my heap"); (case k3 => walk_at "my heap"); (case k4 => walk_at "my arith"); (case k5 => walk_at "my size"); (case hs => with_unfolding_all rfl); intro a' s' n' S'; (try simp only [Int.reduceToNat, List.take_succ_cons, List.take_zero, List.drop_succ_cons, List.drop_zero] at S')))
local macro_rules | `(tactic| walk_at "my sub") => `(tactic| first | ((with_reducible refine' SubX.at ?k1 ?k2); (case k2 => with_reducible assumption); (case k1 => walk_at "my sub")) | fail "no")

local macro_rules | `(tactic| walk_at "my dlook") => `(tactic| first | with_reducible assumption | exact if_pos rfl | (refine (if_neg ?_).trans ?_ <;> with_reducible assumption))
local macro_rules | `(tactic| walk_at "my stmt") => `(tactic| first | ((with_reducible refine' wpAny_Assign_Subscript ?h ?hs); (case hs => rfl)) | fail "no")
local macro_rules | `(tactic| walk_at "my expr") => `(tactic| first | ((with_reducible refine' r_dict0 ?k1 ?k2 ?h); (case k1 => walk_at "my asm"); (case k2 => walk_at "my asm"); intro a' o' s' n' q' D' S') | ((with_reducible refine' r_dict1 ?k1 ?k2 ?h); (case k1 => walk_at "my asm"); (case k2 => walk_at "my asm"); intro a' o' s' t' n' q' D' S') | fail "no")
local macro_rules | `(tactic| walk_at "my op") => `(tactic| first | with_reducible refine r_ne_none ?_ | with_reducible refine r_is_in ?_ | with_reducible refine r_ne_bool ?_ | ((with_reducible refine' r_ditem ?k1 ?k2 ?k3 ?k4 ?h ?hs); (case k1 => walk_at "my asm"); (case k2 => walk_at "my heap"); (case k3 => walk_at "my asm"); (case k4 => walk_at "my dlook"); (case hs => with_unfolding_all rfl); intro s' S') | ((with_reducible refine' r_dmeth1 ?k1 ?k2 ?k3 ?h ?hs); (case k1 => walk_at "my asm"); (case k2 => walk_at "my heap"); (case k3 => walk_at "my asm"); (case hs => rfl)) | ((with_reducible refine' r_dmeth2 ?k1 ?k2 ?k3 ?h ?hs); (case k1 => walk_at "my asm"); (case k2 => walk_at "my heap"); (case k3 => walk_at "my asm"); (case hs => rfl)) | ((with_reducible refine' r_dget1 ?k1 ?k2 ?k3 ?k4 ?k5 ?h); (case k1 => walk_at "my asm"); (case k2 => walk_at "my heap"); (case k3 => walk_at "my asm"); (case k4 => walk_at "my asm"); (case k5 => first | with_reducible assumption | with_reducible exact getD_none' (by assumption) | with_reducible exact getD_some' (by assumption)); intro s' S') | ((with_reducible refine' r_dget2 ?k1 ?k2 ?k3 ?k4 ?k5 ?h); (case k1 => walk_at "my asm"); (case k2 => walk_at "my heap"); (case k3 => walk_at "my asm"); (case k4 => walk_at "my asm"); (case k5 => first | with_reducible assumption | with_reducible exact getD_none' (by assumption) | with_reducible exact getD_some' (by assumption)); intro s' S') | ((with_reducible refine' r_dset ?k1 ?k2 ?k3 ?k4 ?h); (case k1 => walk_at "my asm"); (case k2 => walk_at "my heap"); (case k3 => walk_at "my asm"); (case k4 => walk_at "my arith"); intro o' s' D' S') | ((with_reducible refine' r_lmeth1 PySem.F.slot_list_index PySem.F.type_list_index ?k1 ?k2 ?h ?he); (case k1 => walk_at "my asm"); (case k2 => walk_at "my heap"); (case he => rfl)) | fail "no")
local macro_rules | `(tactic| walk_at "my sub") => `(tactic| first | ((with_reducible refine' SubX.off ?k1 ?k2); (case k2 => with_reducible assumption); (case k1 => walk_at "my sub")) | ((with_reducible refine' Sub.off ?k1 ?k2); (case k2 => with_reducible assumption); (case k1 => walk_at "my sub")) | fail "no")

local macro_rules | `(tactic| walk_at "my expr") => `(tactic| first | with_reducible refine BoolOp_and ?_ | with_reducible refine BoolOp_one ?_ | fail "no")
local macro_rules | `(tactic| walk_at "my same1") => `(tactic| first | with_reducible exact Same0.up (by assumption) | fail "no")

local macro_rules | `(tactic| walk_at "my call told") => `(tactic| ((with_reducible refine' told05 ?k1 ?k2 ?k3 ?h0 ?h1 ?h2 ?h3 ?h4 ?h); (case k1 => walk_at "my asm"); (case k2 => walk_at "my asm"); (case k3 => walk_at "my heap"); (case h0 => walk_at "my handed"); (case h1 => walk_at "my handed"); (case h2 => walk_at "my handed"); (case h3 => walk_at "my handed"); (case h4 => walk_at "my handed"); intro a' s' n' S'; (try dsimp only at S')))
local macro_rules | `(tactic| walk_at "my call") => `(tactic| walk_at "my call told")
local macro_rules | `(tactic| walk_at "my call washed") => `(tactic| ((with_reducible refine' washed05 ?k1 ?k2 ?k3 ?h); (case k1 => walk_at "my asm"); (case k2 => walk_at "my asm"); (case k3 => walk_at "my heap"); intro s' S'))

local macro_rules | `(tactic| walk_at "my call") => `(tactic| first | walk_at "my call told" | walk_at "my call washed")
set_option maxHeartbeats 8000000 in
theorem law05 : PySem.Challenge.rw_dn0305_05.Holds := by
  refine hd05 (by
    k_go0
    all_goals try k_fold
    rename_i w _ s₁ _ _ _ _ _ _ _ _ _ _ _ _ _ _ _ _ _ _ _ _ _ _ _ _ _ ns hs0 hlay0 hL1 hr1 hl2 w4 w3 lA vs w5 hL ra w1 r0 hI hr hc1 hc2 K0 hD h₁ F N0
    have l := lib05 w rfl
    have hlen : vs.length ≤ 63 := by rw [ints_len hI]; omega
    have F' := fr_one F
    with_reducible refine' enter (C := 102) ?a1 ?a2 F' ?a3 ?a4 ?hQ ?k1 ?k2 ?k3 ?k4 ?k5
    case a1 => assumption
    case a2 => assumption
    case a3 => assumption
    case k1 => decide +kernel
    case k2 => rfl
    case k3 => rfl
    case k4 => rfl
    case k5 => rfl
    case hQ =>
      intro s' m' F2 hg hos
      refine goodW_bool F2 hg (raisesW_false ?_) ?_ hos
      · wrow_none_raised
      · kc_post
    intro s c S pr
    clear F F' N0 K0 hD hr r0 w1 ra
    repeat walk_at "my step"
    rename_i _ t1 S30 _ t2 S29 _ t3 S28 _ t4 S27 ls _ n10 S26 la _ n9 S25 x0 _ n8 S24 _ tp S23 _ _ n7 S22 _ S21 _ S20 _ S19 _ S18 _ S17 dt ot _ tt n6 q6 D6 S16 dc oc _ n5 q5 D5 S15 dn on _ n4 q4 D4 S14 _ tl S13 _ th S12 _ _ n3 S11 _ S10 _ S9 _ S8 _ S7 _ S6 _ S5 _ _ n2 S4 _ _ n1 S3 _ _ S2 _ _ n0 S1 _ S0
    clear S30 S29 S28 S27 S26 S25 S24 S23 S22 S21 S20 S19 S18 S17 S16 S15 S14 S13 S12 S11 S10 S9 S8 S7 S6 S5 S4 S3 S2 S1 S
    have hd1 : dt ≠ dc := ne_new n5 put_same
    have hd2 : dt ≠ dn := ne_new (o := .raw ot) n4 (by walk_at "my heap")
    have hd3 : dc ≠ dn := ne_new n4 put_same
    have hll : ls ≠ la := ne_new n9 put_same
    obtain ⟨Hx, ⟨i1, i2, i3, i4, i5, i6⟩, Sx⟩ := S0.name (P := fun H' => H' ls = some (.list (sgl t1 t2 t3 t4)) ∧ H' la = some (.list []) ∧ H' dt = some (.raw ot) ∧ H' dc = some (.raw oc) ∧ H' dn = some (.raw on) ∧ H' x0 = some (.src ⟨.none, .none, .none, .none, .none⟩))
      ⟨by (show _ = some (AObj.list [.none, .str "" t1, .str "a" t2, .str "A" t3, .str " a" t4])); walk_at "my heap", by walk_at "my heap", by walk_at "my heap", by walk_at "my heap", by walk_at "my heap", by walk_at "my heap"⟩
    clear n10 n9 n8 n7 n6 n5 n4 n3 n2 n1 n0 S0
    with_reducible refine' r_for_enum c Sx ?hfor ?k6 ?k7 ?k8
    case k6 => rfl
    case k7 => rfl
    case k8 => exact fun _ => rfl
    repeat walk_at "my step"
    rename_i ll _ nll _ lx _ nx Sy e it ob _ m1 m2 m3 hit Se
    refine ⟨e, it, lx, ob, _, _, _, _, fun i m' H' => ∃ X, J05 PySem.Challenge.rw_dn0305_05.row.prog w ls la dt dc dn t1 t2 t3 t4 i m' H' X, rfl, hit, m1, m2, m3, put_same, Se, ?_, ?_, ?_⟩
    · rw [del_put nx]
      refine ⟨⟨0, 0, 0, fun _ => x0, fun _ => 0, fun _ => none, fun _ => none, fun x => if x = 0 then some (.int 0 tt) else none, fun _ => none, fun _ => none, ot, oc, on, 0⟩,
        by walk_at "my look", by walk_at "my look", by walk_at "my look", ⟨_, by walk_at "my look"⟩, by walk_at "my look", by walk_at "my look", by walk_at "my look", ⟨_, by walk_at "my look"⟩, ⟨_, by walk_at "my look"⟩,
        put_new nll i1, put_new nll i2, Nat.zero_le _, put_new nll i3, put_new nll i4, put_new nll i5, D6, D5, D4, ?_, ?_, ?_, fun p => rfl, fun p => rfl, fun p _ => ⟨rfl, rfl⟩, Int.le_refl _, Int.le_refl _, Int.le_refl _, Int.le_refl _, by simp⟩
      · intro p h1 h2
        obtain rfl : p = 0 := by simp only at h1 h2; omega
        exact ⟨_, _, _, put_new nll i6, ⟨show 0 < 5 by decide, .inl ⟨rfl, rfl⟩⟩, rfl, rfl⟩
      · intro p q h1 h2 h3 h4 _
        simp only at h1 h2 h3 h4; omega
      · intro p h1 h2
        obtain rfl : p = 0 := by simp only at h1 h2; omega
        exact ⟨tt, rfl⟩
    · intro i v ti m₁ H₁ own₁ s₃ hv hJ S₃
      obtain ⟨⟨lo, hi, pl, A, sg, cn, tn, ft, fc, fn, ot, oc, on, n⟩, J⟩ := hJ
      obtain ⟨msg, man, mat, ⟨tpl, mpl⟩, mtp, mco, mtu, ⟨tlo, mlo⟩, ⟨thi, mhi⟩, hls, hla, few, hdt, hdc, hdn, dot, doc, don, row, inj, rt, rc, rn, out, l1, l2, z1, z2, wide⟩ := J
      simp only at *
      obtain ⟨x, tx, rfl⟩ := ints_at (ints_app (.cons _ _ (.cons _ _ (.cons _ _ (.cons _ _ (.cons _ _ (.cons _ _ (.cons _ _ (.cons _ _ (.cons _ _ (.cons _ _ .nil)))))))))) hI) i v hv
      have hi73 : i < 73 := by
        have := (List.getElem?_eq_some_iff.mp hv).1
        simp only [List.length_append, List.length_cons, List.length_nil] at this
        omega
      clear hv Se Sy Sx D6 D5 D4
      obtain ⟨vs0, vc, vt, hat, hvs, hvc, hvt⟩ := row pl l1 l2
      obtain ⟨tft, hft⟩ := rt pl l1 l2
      have hh1 := hvs.handed
      have hh2 := hvc.handed
      have hh3 : handedIn (if pl = lo then Value.none else .ref (A (pl - 1))) = true := by split <;> rfl
      have hh4 : handedIn (if pl = hi then Value.none else .ref (A (pl + 1))) = true := by split <;> rfl
      repeat walk_at "my step"
      rename_i Si
      have hsl : sg pl < (sgl t1 t2 t3 t4).length := hvs.1
      with_reducible refine' r_index (e := fun y => eqS y vs0) (j := sg pl) c Si ?x1 ?x2 ?x3 ?x4 ?x5 ?x6 ?x7
      case x1 => exact hls
      case x2 => exact hsl
      case x3 => exact (show 5 ≤ 100000 by decide)
      case x4 => exact eqS_hit hvs hsl
      case x5 => exact eqS_miss hvs
      case x6 => exact fun A' y hy => eqS_at hvs hy
      intro s₄ tsg S₄
      clear Si S₃
      repeat (fail_if_success (with_reducible show wpAny _ _ (PySem.isTrue _ _ _) _ _ _)); walk_at "my step"
      rename_i S₅
      with_reducible refine' wp_test false S₅ ?va ?vb
      case va =>
        have hq1 : ((sg pl : Int) != (sg pl : Int)) = false := by simp
        have hrc := rc pl
        cases hcn : cn pl with
        | none =>
          rw [hcn] at hrc hvc
          cases hvc
          have hrc' : fc pl = none := hrc
          repeat walk_at "my step"
          exact ⟨rfl, by assumption⟩
        | some k =>
          rw [hcn] at hrc hvc
          obtain ⟨tc, rfl⟩ := hvc
          obtain ⟨tc', hrc'⟩ := hrc
          have hq2 : (k != k) = false := by simp
          repeat walk_at "my step"
          exact ⟨rfl, by assumption⟩
      intro s₆ S₆
      clear S₄ S₅
      with_reducible refine' ite_ff ?_
      repeat (fail_if_success (with_reducible show wpAny _ _ (PySem.isTrue _ _ _) _ _ _)); walk_at "my step"
      with_reducible refine' wp_test false S₆ ?vc ?vd
      case vc =>
        by_cases h1 : pl = lo
        · have g1 : (!(true == (pl == lo))) = false := by simp [h1]
          rw [if_pos h1] at hat
          by_cases h2 : pl = hi
          · have g2 : (!(true == (pl == hi))) = false := by simp [h2]
            rw [if_pos h2] at hat
            repeat walk_at "my step"
            exact ⟨rfl, by assumption⟩
          · have g2 : (!(false == (pl == hi))) = false := by simp [h2]
            rw [if_neg h2] at hat
            repeat walk_at "my step"
            exact ⟨rfl, by assumption⟩
        · have g1 : (!(false == (pl == lo))) = false := by simp [h1]
          rw [if_neg h1] at hat
          by_cases h2 : pl = hi
          · have g2 : (!(true == (pl == hi))) = false := by simp [h2]
            rw [if_pos h2] at hat
            repeat walk_at "my step"
            exact ⟨rfl, by assumption⟩
          · have g2 : (!(false == (pl == hi))) = false := by simp [h2]
            rw [if_neg h2] at hat
            repeat walk_at "my step"
            exact ⟨rfl, by assumption⟩
      intro s₇ S₇
      clear S₆
      with_reducible refine' ite_ff ?_
      have hb1 : 2 * i + 1 ≤ 100000 := by omega
      have hb2 : i ≤ 100000 := by omega
      repeat (fail_if_success (with_reducible show wpAny _ _ (eval (Expr.BinOp (Expr.Call _ _ _ _) _ _ _) _) _ _ _)); walk_at "my step"
      rename_i tm1 _ ot1 _ Dt1 Sd
      have hcv : ∃ k, (cn pl).getD 0 + 1 = k := ⟨_, rfl⟩
      obtain ⟨kc, hkc⟩ := hcv
      with_reducible refine' wp_valueP (fun v => ∃ t, v = .int kc t) Sd ?ve ?vf
      case ve =>
        have hrc := rc pl
        cases hcn : cn pl with
        | none =>
          rw [hcn] at hrc hkc
          have hrc' : fc pl = none := hrc
          repeat walk_at "my step"
          exact ⟨⟨_, by rw [← hkc]; rfl⟩, by assumption⟩
        | some k =>
          rw [hcn] at hrc hkc
          obtain ⟨tc', hrc'⟩ := hrc
          repeat walk_at "my step"
          exact ⟨⟨_, by rw [← hkc]; rfl⟩, by assumption⟩
      rintro _ s₈ ⟨tk1, rfl⟩ S₈
      clear Sd S₇
      obtain ⟨sn, hsn5, hsx⟩ := mod5' ((sg pl : Int) + x)
      obtain ⟨vsn, hvg, hvsg, hvh⟩ := sgl_get (t1 := t1) (t2 := t2) (t3 := t3) (t4 := t4) hsn5
      have hg1 : (sgl t1 t2 t3 t4)[(((sg pl : Int) + x).fmod 5).toNat]? = some vsn := by rw [hsx, Int.toNat_natCast]; exact hvg
      have hx0 : 0 ≤ ((sg pl : Int) + x).fmod 5 := by omega
      have hx1 : ((sg pl : Int) + x).fmod 5 < 2 ^ 63 := by omega
      repeat (fail_if_success (with_reducible show wpAny _ _ (eval (Expr.IfExp _ _ _ _) _) _ _ _)); walk_at "my step"
      rename_i oc1 _ Dc1 _ on1 _ Dn1 _ _ Sf
      with_reducible refine' wp_valueP (fun v => ∃ t, v = .int kc t) Sf ?vg ?vh
      case vg =>
        cases hcn : cn pl with
        | none =>
          rw [hcn] at hvc hkc
          cases hvc
          repeat walk_at "my step"
          exact ⟨⟨_, by rw [← hkc]; rfl⟩, by assumption⟩
        | some k =>
          rw [hcn] at hvc hkc
          obtain ⟨tc, rfl⟩ := hvc
          repeat walk_at "my step"
          exact ⟨⟨_, by rw [← hkc]; rfl⟩, by assumption⟩
      rintro _ s₉ ⟨tk2, rfl⟩ S₉
      clear Sf S₈
      repeat walk_at "my step"
      rename_i tA _ _ _ _ lt _ nlt Sg
      have hpd : ∀ p, lo ≤ p → p ≤ hi → A p ≠ dt ∧ A p ≠ dc ∧ A p ≠ dn := fun p h1 h2 => by
        obtain ⟨_, _, _, e, _⟩ := row p h1 h2
        exact ⟨ne_kind e hdt (fun z => by cases z), ne_kind e hdc (fun z => by cases z), ne_kind e hdn (fun z => by cases z)⟩
      have hlsd : ls ≠ dt ∧ ls ≠ dc ∧ ls ≠ dn := ⟨ne_kind hls hdt (fun z => by cases z), ne_kind hls hdc (fun z => by cases z), ne_kind hls hdn (fun z => by cases z)⟩
      have hlad : la ≠ dt ∧ la ≠ dc ∧ la ≠ dn := ⟨ne_kind hla hdt (fun z => by cases z), ne_kind hla hdc (fun z => by cases z), ne_kind hla hdn (fun z => by cases z)⟩
      obtain ⟨Hw, ⟨g0, g1, g2, g3, g4⟩, Sw⟩ := Sg.name (P := fun H' => SubX [dt, dc, dn] H₁ H' ∧ H' dt = some (.raw ot1) ∧ H' dc = some (.raw oc1) ∧ H' dn = some (.raw on1) ∧ H' lt = some (.list [vsn, .int kc tk2, .int i ti]))
        ⟨by walk_at "my sub", by walk_at "my heap", by walk_at "my heap", by walk_at "my heap", by walk_at "my heap"⟩
      clear Sg S₉
      have upw : ∀ p, lo ≤ p → p ≤ hi → ∀ o, H₁ (A p) = some o → Hw (A p) = some o := fun p h1 h2 o e => g0 _ _ (by
        have := hpd p h1 h2
        simp [this.1, this.2.1, this.2.2]) e
      have hatw := upw pl l1 l2 _ hat
      have hlsw : Hw ls = _ := g0 _ _ (by simp [hlsd.1, hlsd.2.1, hlsd.2.2]) hls
      have hlaw : Hw la = _ := g0 _ _ (by simp [hlad.1, hlad.2.1, hlad.2.2]) hla
      with_reducible refine' write05 (x := A pl) (lt := lt) ?y1 ?y2 ?y3 ?y4 ?y5
      case y1 => exact c
      case y2 => exact Sw
      case y3 => exact hatw
      case y4 => exact g4
      intro r s₂ H₂ hr0 hr2 hA2 hs2 S₂
      have up2 : ∀ y o, y ≠ A pl → Hw y = some o → H₂ y = some o := fun y o h1 e => hs2 y o (by simpa using h1) e
      have hls2 := up2 _ _ (ne_kind hlsw hatw (fun z => by cases z)) hlsw
      have hla2 := up2 _ _ (ne_kind hlaw hatw (fun z => by cases z)) hlaw
      have hdt2 := up2 _ _ (hpd pl l1 l2).1.symm g1
      have hdc2 := up2 _ _ (hpd pl l1 l2).2.1.symm g2
      have hdn2 := up2 _ _ (hpd pl l1 l2).2.2.symm g3
      have hrla : r ≠ la := (ne_new hr0 hlaw).symm
      clear Sw
      repeat walk_at "my step"
      rename_i Sb
      have row3 : Row (put H₂ la (.list (List.replicate n .none ++ [.none, .none, .none]))) lo hi A (fun p => if p = pl then sn else sg p) (fun p => if p = pl then some kc else cn p) (fun p => if p = pl then some (i : Int) else tn p) := by
        intro p h1 h2
        by_cases hp : p = pl
        · subst hp
          simp only [if_true]
          exact ⟨_, _, _, put_off (ne_kind hA2 hla2 (fun z => by cases z)) hA2, hvsg, ⟨_, rfl⟩, ⟨_, rfl⟩⟩
        · simp only [if_neg hp]
          obtain ⟨a1, a2, a3, e, q1, q2, q3⟩ := row p h1 h2
          have e2 := up2 _ _ (fun z => hp (inj p pl h1 h2 l1 l2 z)) (upw p h1 h2 _ e)
          exact ⟨a1, a2, a3, put_off (ne_kind e2 hla2 (fun z => by cases z)) e2, q1, q2, q3⟩
      have rt3 : ∀ p, lo ≤ p → p ≤ hi → ∃ t, (fun x_1 => if x_1 = pl then some (Value.int (((sg pl : Int) + x).fmod 5) tm1) else ft x_1) p = some (.int ((fun p => if p = pl then sn else sg p) p : Nat) t) := by
        intro p h1 h2
        simp only
        by_cases z : p = pl
        · simp only [if_pos z]; exact ⟨tm1, by rw [hsx]⟩
        · simp only [if_neg z]; exact rt p h1 h2
      have out3 : ∀ p, p < lo ∨ hi < p → (fun p => if p = pl then some kc else cn p) p = none ∧ (fun p => if p = pl then some (i : Int) else tn p) p = none := by
        intro p hp
        have z : ¬ p = pl := by omega
        simp only [if_neg z]; exact out p hp
      obtain ⟨H₃, W3, Sc⟩ := Sb.name (P := fun H' => W5 PySem.Challenge.rw_dn0305_05.row.prog w ls la dt dc dn t1 t2 t3 t4 (12 * i + 3) (2 * i + 2) (i + 1) i H' ⟨lo, hi, pl, A, fun p => if p = pl then sn else sg p, fun p => if p = pl then some kc else cn p, fun p => if p = pl then some (i : Int) else tn p,
          fun x_1 => if x_1 = pl then some (Value.int (((sg pl : Int) + x).fmod 5) tm1) else ft x_1, fun x_1 => if x_1 = pl then some (Value.int kc tk1) else fc x_1, fun x_1 => if x_1 = pl then some (Value.int (i : Int) ti) else fn x_1, ot1, oc1, on1, n + 3⟩)
        ⟨put_off hll hls2, put_same.trans (congrArg (fun q => some (AObj.list q)) (List.replicate_append_replicate (n := n) (m := 3))), by simp only; omega, put_off hlad.1.symm hdt2, put_off hlad.2.1.symm hdc2, put_off hlad.2.2.symm hdn2, Dt1, Dc1, Dn1, row3, inj, rt3, rc.set _ _ _, rn.set _ _ _, out3, l1, l2, z1, z2, wide⟩
      clear Sb S₂ row3 up2 upw hatw hlsw hlaw hls2 hla2 hdt2 hdc2 hdn2 hr2 hA2 hs2 hr0 g0 g1 g2 g3 g4 Dt1 Dc1 Dn1 hls hla hdt hdc hdn dot doc don row rt rc rn out hat rt3 out3 hft hvs hvc hvt
      generalize (fun p => if p = pl then sn else sg p) = sg1 at W3
      generalize (fun p => if p = pl then some kc else cn p) = cn1 at W3
      generalize (fun p => if p = pl then some (i : Int) else tn p) = tn1 at W3
      generalize (fun x_1 => if x_1 = pl then some (Value.int (((sg pl : Int) + x).fmod 5) tm1) else ft x_1) = ft1 at W3
      generalize (fun x_1 => if x_1 = pl then some (Value.int kc tk1) else fc x_1) = fc1 at W3
      generalize (fun x_1 => if x_1 = pl then some (Value.int (i : Int) ti) else fn x_1) = fn1 at W3
      have few3 : n + 3 ≤ 12 * i + 3 := W3.few
      have hls3 : H₃ ls = some (.list (sgl t1 t2 t3 t4)) := W3.hls
      have hla3 : H₃ la = some (.list (List.replicate (n + 3) .none)) := W3.hla
      have hdt3 : H₃ dt = some (.raw ot1) := W3.hdt
      have hdc3 : H₃ dc = some (.raw oc1) := W3.hdc
      have hdn3 : H₃ dn = some (.raw on1) := W3.hdn
      have dot3 : DObj PySem.Challenge.rw_dn0305_05.row.prog w ft1 (2 * i + 2) ot1 := W3.dot
      obtain ⟨b1, b2, b3, hat3, hb4, hb5, hb6⟩ := W3.row pl l1 l2
      simp only at hat3 hb4 hb5 hb6
      refine ite_b (fun hbr => ?_) (fun hbr => ?_)
      · repeat walk_at "my step"
        refine ite_b (fun hpl => ?_) (fun hpl => ?_)
        · have hpl' : pl = lo := by simpa using hpl
          subst hpl'
          repeat walk_at "my step"
          rename_i _ t9 S9 ot2 _ D2 S10
          have hAdt : A pl ≠ dt := ne_kind hat3 hdt3 (fun z => by cases z)
          with_reducible refine' endL05 (x := A pl) ?y6 ?y7 ?y8 ?y9
          case y6 => exact c
          case y7 => exact S10
          case y8 => exact put_off hAdt hat3
          intro r y s₂ H₄ hr0 hy0 hr4 hy4 hA4 hs4 S₂
          have hy3 : H₃ y = none := by rwa [put_ne (fun z => by rw [z, put_same] at hy0; cases hy0)] at hy0
          have up4 : ∀ a o, a ≠ A pl → a ≠ dt → H₃ a = some o → H₄ a = some o := fun a o h1 h2 e => hs4 a o (by simpa using h1) (put_off h2 e)
          have hla4 := up4 _ _ (ne_kind hla3 hat3 (fun z => by cases z)) (ne_kind hla3 hdt3 (fun z => by cases z)) hla3
          have hdt4 := hs4 dt (.raw ot2) (by simpa using hAdt.symm) put_same
          have hrla : r ≠ la := (ne_new hr0 (put_off hlad.1 hla3)).symm
          clear S9 S10 Sc
          repeat walk_at "my step"
          rename_i nT _ _ _ _ _ _ SF
          refine TurnQ.mk' SF ⟨_, by walk_at "my look", by walk_at "my look", (by (show _ = some (Value.ref (if pl - 1 = pl - 1 then y else A (pl - 1)))); rw [if_pos rfl]; walk_at "my look"), ⟨_, by walk_at "my look"⟩, by walk_at "my look", by walk_at "my look", by walk_at "my look", ⟨_, by walk_at "my look"⟩, ⟨_, by walk_at "my look"⟩,
            (W5.endL W3 rfl hat3 hy3 (put_off hll (up4 _ _ (ne_kind hls3 hat3 (fun z => by cases z)) hlsd.1 hls3)) ?_ (put_off hlad.1.symm hdt4) (put_off hlad.2.1.symm (up4 _ _ (ne_kind hdc3 hat3 (fun z => by cases z)) hd1.symm hdc3)) (put_off hlad.2.2.symm (up4 _ _ (ne_kind hdn3 hat3 (fun z => by cases z)) hd2.symm hdn3)) D2 (put_off (ne_kind hy4 hla4 (fun z => by cases z)) hy4) (put_off (ne_kind hA4 hla4 (fun z => by cases z)) hA4) ?_).mono (by omega) (by omega) (by omega) (by omega) |>.sub (Sub.refl.new nT)⟩
          · exact put_same.trans (congrArg (fun q => some (AObj.list q)) (List.replicate_append_replicate (n := n + 3) (m := 9)))
          · intro a F h1 e
            have e4 := up4 a _ h1 (ne_kind e hdt3 (fun z => by cases z)) e
            exact put_off (ne_kind e4 hla4 (fun z => by cases z)) e4
        · have hne : pl ≠ lo := by simpa using hpl
          rw [if_neg hne] at hat3
          repeat walk_at "my step"
          rename_i nT _ _ _ _ _ _ SF
          refine TurnQ.mk' SF ⟨_, by walk_at "my look", by walk_at "my look", by walk_at "my look", ⟨_, by walk_at "my look"⟩, by walk_at "my look", by walk_at "my look", by walk_at "my look", ⟨_, by walk_at "my look"⟩, ⟨_, by walk_at "my look"⟩, (W3.go (pl - 1) (by simp only; omega) (by simp only; omega)).mono (by omega) (by omega) (by omega) (by omega) |>.sub (Sub.refl.new nT)⟩
      · repeat walk_at "my step"
        refine ite_b (fun hpl => ?_) (fun hpl => ?_)
        · have hpl' : pl = hi := by simpa using hpl
          subst hpl'
          repeat walk_at "my step"
          rename_i _ t9 S9 ot2 _ D2 S10
          have hAdt : A pl ≠ dt := ne_kind hat3 hdt3 (fun z => by cases z)
          with_reducible refine' endR05 (x := A pl) ?y16 ?y17 ?y18 ?y19
          case y16 => exact c
          case y17 => exact S10
          case y18 => exact put_off hAdt hat3
          rintro r y s₂ H₄ hr0 hy0 hr4 ⟨ty, hy4⟩ hA4 hs4 S₂
          have hy3 : H₃ y = none := by rwa [put_ne (fun z => by rw [z, put_same] at hy0; cases hy0)] at hy0
          have up4 : ∀ a o, a ≠ A pl → a ≠ dt → H₃ a = some o → H₄ a = some o := fun a o h1 h2 e => hs4 a o (by simpa using h1) (put_off h2 e)
          have hla4 := up4 _ _ (ne_kind hla3 hat3 (fun z => by cases z)) (ne_kind hla3 hdt3 (fun z => by cases z)) hla3
          have hdt4 := hs4 dt (.raw ot2) (by simpa using hAdt.symm) put_same
          have hrla : r ≠ la := (ne_new hr0 (put_off hlad.1 hla3)).symm
          clear S9 S10 Sc
          repeat walk_at "my step"
          rename_i nT _ _ _ _ _ _ SF
          refine TurnQ.mk' SF ⟨_, by walk_at "my look", by walk_at "my look", (by (show _ = some (Value.ref (if pl + 1 = pl + 1 then y else A (pl + 1)))); rw [if_pos rfl]; walk_at "my look"), ⟨_, by walk_at "my look"⟩, by walk_at "my look", by walk_at "my look", by walk_at "my look", ⟨_, by walk_at "my look"⟩, ⟨_, by walk_at "my look"⟩,
            (W5.endR W3 rfl hat3 hy3 (put_off hll (up4 _ _ (ne_kind hls3 hat3 (fun z => by cases z)) hlsd.1 hls3)) ?_ (put_off hlad.1.symm hdt4) (put_off hlad.2.1.symm (up4 _ _ (ne_kind hdc3 hat3 (fun z => by cases z)) hd1.symm hdc3)) (put_off hlad.2.2.symm (up4 _ _ (ne_kind hdn3 hat3 (fun z => by cases z)) hd2.symm hdn3)) D2 (put_off (ne_kind hy4 hla4 (fun z => by cases z)) hy4) (put_off (ne_kind hA4 hla4 (fun z => by cases z)) hA4) ?_).mono (by omega) (by omega) (by omega) (by omega) |>.sub (Sub.refl.new nT)⟩
          · exact put_same.trans (congrArg (fun q => some (AObj.list q)) (List.replicate_append_replicate (n := n + 3) (m := 9)))
          · intro a F h1 e
            have e4 := up4 a _ h1 (ne_kind e hdt3 (fun z => by cases z)) e
            exact put_off (ne_kind e4 hla4 (fun z => by cases z)) e4
        · have hne : pl ≠ hi := by simpa using hpl
          rw [if_neg hne] at hat3
          repeat walk_at "my step"
          rename_i nT _ _ _ _ _ _ SF
          refine TurnQ.mk' SF ⟨_, by walk_at "my look", by walk_at "my look", by walk_at "my look", ⟨_, by walk_at "my look"⟩, by walk_at "my look", by walk_at "my look", by walk_at "my look", ⟨_, by walk_at "my look"⟩, ⟨_, by walk_at "my look"⟩, (W3.go (pl + 1) (by simp only; omega) (by simp only; omega)).mono (by omega) (by omega) (by omega) (by omega) |>.sub (Sub.refl.new nT)⟩
    · intro m₁ H₁ s₃ hJ S₃
      obtain ⟨⟨lo, hi, pl, A, sg, cn, tn, ft, fc, fn, ot, oc, on, n⟩, J⟩ := hJ
      obtain ⟨msg, man, mat, ⟨tpl, mpl⟩, mtp, mco, mtu, ⟨tlo, mlo⟩, ⟨thi, mhi⟩, hls, hla, few, hdt, hdc, hdn, dot, doc, don, row, inj, rt, rc, rn, out, l1, l2, z1, z2, wide⟩ := J
      simp only [List.length_append, List.length_cons, List.length_nil] at *
      generalize hN : 0 + 1 + 1 + 1 + 1 + 1 + 1 + 1 + 1 + 1 + 1 + vs.length = N at *
      have hN73 : N ≤ 73 := by omega
      clear Se Sy Sx D6 D5 D4
      walk_at "my step"
      with_reducible refine' r_while S₃ (fun k m' H' => ∃ q, J5w ls la dt dc dn lo hi A q m' ∧ lo ≤ q ∧ q ≤ hi ∧ k = (q - lo).toNat ∧ Sub H₁ H') (pl - lo).toNat ?w0 ?w1
      case w0 => exact ⟨pl, ⟨msg, man, mat, ⟨_, mpl⟩, mtp, mco, mtu, ⟨_, mlo⟩, ⟨_, mhi⟩⟩, l1, l2, rfl, Sub.refl⟩
      rintro k m₂ H₂ s₄ ⟨q, ⟨msg, man, mat, ⟨tpl, mpl⟩, mtp, mco, mtu, ⟨tlo, mlo⟩, ⟨thi, mhi⟩⟩, q1, q2, rfl, hs2⟩ S₄
      clear S₃
      obtain ⟨b1, b2, b3, hat3, hb4, hb5, hb6⟩ := row q q1 q2
      have hat4 := hs2 _ _ hat3
      repeat walk_at "my step"
      refine ite_b (fun hq => ?_) (fun hq => ?_)
      · have hq' : lo < q := by simpa using hq
        have hne : q ≠ lo := by omega
        rw [if_neg hne] at hat4
        repeat walk_at "my step"
        rename_i nT _ _ _ _ _ _ SF
        refine WhileQ.mk' (n' := (q - 1 - lo).toNat) SF (by omega) ⟨q - 1, ⟨by walk_at "my look", by walk_at "my look", by walk_at "my look", ⟨_, by walk_at "my look"⟩, by walk_at "my look", by walk_at "my look", by walk_at "my look", ⟨_, by walk_at "my look"⟩, ⟨_, by walk_at "my look"⟩⟩, by omega, by omega, rfl, hs2.new nT⟩
      · have hq' : q = lo := by
          have : ¬ lo < q := by simpa using hq
          omega
        subst hq'
        clear hat3 hat4 hb4 hb5 hb6
        repeat walk_at "my step"
        rename_i S₅
        with_reducible refine' r_for_range c S₅ ?hfor2 ?k1 ?k2
        case k1 => rfl
        case k2 => exact fun _ => rfl
        repeat walk_at "my step"
        rename_i lr _ _ nlr Sr
        refine ⟨lr, q, hi + 1, 1, _, _, _, (hi + 1 - q).toNat, _, _, _, fun i m' H' => J5f ls la dt dc dn q hi A i m' ∧ Sub H₁ H', rfl, Sr, put_same, small_one (by omega) (by omega) (by omega) (by omega), rangeSize_nat _ _, ?_, ?_, ?_⟩
        · refine ⟨⟨by walk_at "my look", by walk_at "my look", ?_, by walk_at "my look", by walk_at "my look", by walk_at "my look", ?_⟩, hs2.new nlr⟩
          · rw [if_pos (by simp only [Int.natCast_zero]; omega), show q + ((0 : Nat) : Int) = q from by simp]; walk_at "my look"
          · rw [if_pos rfl]; walk_at "my look"
        · intro i ti m₃ H₃ own₃ s₅ hi3 hJ S₆
          obtain ⟨⟨msg, man, mat, mtp, mco, mtu, mle⟩, hs3⟩ := hJ
          clear Sr S₅ S₄
          have hp2 : q + (i : Int) ≤ hi := by omega
          have hp1 : q ≤ q + (i : Int) := by omega
          rw [if_pos hp2] at mat
          rw [show q + (i : Int) * 1 = q + (i : Int) from by omega] at S₆
          obtain ⟨u1, u2, u3, hat3, hb4, hb5, hb6⟩ := row _ hp1 hp2
          obtain ⟨tft, hft⟩ := rt _ hp1 hp2
          obtain ⟨v1, hv1, hv1g, hv1h⟩ := sgl_get (t1 := t1) (t2 := t2) (t3 := t3) (t4 := t4) hb4.1
          obtain ⟨v2, hv2, hv2o⟩ := rc.isO (q + (i : Int))
          obtain ⟨v3, hv3, hv3o⟩ := rn.isO (q + (i : Int))
          have hg1 : (sgl t1 t2 t3 t4)[((sg (q + (i : Int)) : Nat) : Int).toNat]? = some v1 := by rw [Int.toNat_natCast]; exact hv1
          have hx0 : 0 ≤ ((sg (q + (i : Int)) : Nat) : Int) := by omega
          have hx1 : ((sg (q + (i : Int)) : Nat) : Int) < 2 ^ 63 := by have := hb4.1; omega
          have hat4 := hs3 _ _ hat3
          have hh1 := hb4.handed
          have hh2 := hb5.handed
          have hh3 := hb6.handed
          have sm1 := sg_same hb4 hv1g
          have sm2 := o_same hb5 hv2o
          have sm3 := o_same hb6 hv3o
          have hc : (if q + (i : Int) = hi then Value.none else .ref (A (q + (i : Int) + 1))) = (if q + ((i + 1 : Nat) : Int) ≤ hi then .ref (A (q + ((i + 1 : Nat) : Int))) else .none) := by
            by_cases z : q + (i : Int) = hi
            · rw [if_pos z, if_neg (by omega)]
            · rw [if_neg z, if_pos (by omega), show q + ((i + 1 : Nat) : Int) = q + (i : Int) + 1 from by omega]
          rw [hc] at hat4
          have hh5 : handedIn (if q + ((i + 1 : Nat) : Int) ≤ hi then Value.ref (A (q + ((i + 1 : Nat) : Int))) else .none) = true := by split <;> rfl
          have hh4 : handedIn (if q + (i : Int) = q then Value.none else .ref (A (q + (i : Int) - 1))) = true := by split <;> rfl
          have hls3 := hs3 _ _ hls
          have hdt3 := hs3 _ _ hdt
          have hdc3 := hs3 _ _ hdc
          have hdn3 := hs3 _ _ hdn
          repeat (fail_if_success (with_reducible show wpAny _ _ (PySem.isTrue _ _ _) _ _ _)); walk_at "my step"
          with_reducible refine' wp_test false S₆ ?ta ?tb
          case ta =>
            by_cases z : i = 0
            · rw [if_pos z] at mle
              rw [if_pos (by omega)] at hat4
              repeat walk_at "my step"
              exact ⟨rfl, by assumption⟩
            · rw [if_neg z] at mle
              rw [if_neg (by omega)] at hat4
              repeat walk_at "my step"
              exact ⟨rfl, by assumption⟩
          intro s₇ S₇
          clear S₆
          with_reducible refine' ite_ff ?_
          repeat walk_at "my step"
          rename_i nT _ _ _ _ _ _ SF
          refine TurnQ.mk' SF ⟨⟨by walk_at "my look", by walk_at "my look", by walk_at "my look", by walk_at "my look", by walk_at "my look", by walk_at "my look", ?_⟩, by walk_at "my sub"⟩
          rw [if_neg (Nat.succ_ne_zero _), show q + ((i + 1 : Nat) : Int) - 1 = q + (i : Int) from by omega]
          walk_at "my look"
        · intro m₃ H₃ s₅ hJ S₆
          obtain ⟨⟨msg, man, mat, mtp, mco, mtu, mle⟩, hs3⟩ := hJ
          rw [if_neg (by omega)] at mat
          have hla3 := hs3 _ _ hla
          clear Sr S₅ S₄
          repeat walk_at "my step"
          exact LawQ.mk' (by assumption) rfl)
end Mine

end
theorem PySem.Challenge.cw_dn0305_05_holds : PySem.Challenge.rw_dn0305_05.Holds :=
  Mine.law05
