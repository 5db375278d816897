import PyProof.Rows.All
import Wide.All
import OpenK.AllK
import Wide.FinOn
import PySem.Challenge.RW_dn0305_06
set_option Elab.async false
section
open PySem PySem.W PySem.Calls PyProof.Rows PySem.Spec
set_option Elab.async false
set_option maxRecDepth 100000
namespace Mine

/-! Part 1: the abstract heap, the relation to the model's heap, the state predicate -/
structure Flds where
  sys : Value
  pub : Value
  enc : Value
  byt : Value
  chr : Value

inductive AObj where
  | src (f : Flds)
  | list (vs : List Value)
  | raw (o : Obj)

abbrev AH := Addr → Option AObj
def put (H : AH) (a : Addr) (o : AObj) : AH := fun b => if b = a then some o else H b
def del (H : AH) (a : Addr) : AH := fun b => if b = a then none else H b
theorem put_same {H : AH} {a : Addr} {o : AObj} : put H a o a = some o := if_pos rfl
theorem put_ne {H : AH} {a b : Addr} {o : AObj} (h : b ≠ a) : put H a o b = H b := if_neg h
theorem del_same {H : AH} {a : Addr} : del H a a = none := if_pos rfl
theorem del_ne {H : AH} {a b : Addr} (h : b ≠ a) : del H a b = H b := if_neg h

abbrev listObj (vs : List Value) (n : Nat) : Obj := { cls := .type "list", data := .seq vs.toArray n }
abbrev nSys : Str := "_InputSource__system_id"
abbrev nPub : Str := "_InputSource__public_id"
abbrev nEnc : Str := "_InputSource__encoding"
abbrev nByt : Str := "_InputSource__bytefile"
abbrev nChr : Str := "_InputSource__charfile"
def srcEs (ks : Nat → Int) (ts : Nat → Tok) (f : Flds) : List DictEntry :=
  [⟨ks 0, .str nSys (ts 0), f.sys⟩, ⟨ks 1, .str nPub (ts 1), f.pub⟩, ⟨ks 2, .str nEnc (ts 2), f.enc⟩, ⟨ks 3, .str nByt (ts 3), f.byt⟩, ⟨ks 4, .str nChr (ts 4), f.chr⟩]

def Real (C : Addr) (h : Heap) (d a : Addr) : AObj → Prop
  | .src f => h.get? a = some (instObj C d) ∧ ∃ ks ts, h.get? d = some (dictOf (srcEs ks ts f) 5)
  | .list vs => ∃ n, h.get? a = some (listObj vs n)
  | .raw o => h.get? a = some o

theorem Real.there {C : Addr} {h : Heap} {d a : Addr} {o : AObj} (r : Real C h d a o) : ∃ ob, h.get? a = some ob := by
  cases o with
  | src f => exact ⟨_, r.1⟩
  | list vs => obtain ⟨n, e⟩ := r; exact ⟨_, e⟩
  | raw o => exact ⟨_, r⟩

structure Rep (C : Addr) (h₀ : Heap) (L : Addr) (own : List (Addr × Obj)) (h : Heap) (H : AH) (δ : Addr → Addr) : Prop where
  real : ∀ a o, H a = some o → Real C h (δ a) a o
  new : ∀ a o, H a = some o → a ≠ L ∧ h₀.get? a = none
  dnew : ∀ a f, H a = some (.src f) → δ a ≠ L ∧ h₀.get? (δ a) = none
  doff : ∀ a f, H a = some (.src f) → H (δ a) = none
  dinj : ∀ a b f g, H a = some (.src f) → H b = some (.src g) → δ a = δ b → a = b
  news : News h₀ L h own
  ownH : ∀ p ∈ own, H p.1 = none
  ownd : ∀ p ∈ own, ∀ a f, H a = some (.src f) → δ a ≠ p.1

section
variable {C : Addr} {h₀ : Heap} {L : Addr} {own : List (Addr × Obj)} {h h' : Heap} {H : AH} {δ : Addr → Addr}

theorem Rep.there (R : Rep C h₀ L own h H δ) {a : Addr} {o : AObj} (e : H a = some o) : ∃ ob, h.get? a = some ob := (R.real a o e).there
theorem Rep.dthere (R : Rep C h₀ L own h H δ) {a : Addr} {f : Flds} (e : H a = some (.src f)) : ∃ ob, h.get? (δ a) = some ob := by
  obtain ⟨_, ks, ts, q⟩ := R.real a _ e; exact ⟨_, q⟩

/-- what is fresh for the heap is fresh for all -/
theorem Rep.fresh (R : Rep C h₀ L own h H δ) {a : Addr} (e : h.get? a = none) : H a = none ∧ (∀ p ∈ own, p.1 ≠ a) ∧ ∀ b f, H b = some (.src f) → δ b ≠ a := by
  refine ⟨?_, fun p hp q => ?_, fun b f hb q => ?_⟩
  · cases q : H a with
    | none => rfl
    | some o => obtain ⟨ob, x⟩ := R.there q; rw [e] at x; cases x
  · have := (R.news p hp).1; rw [q, e] at this; cases this
  · obtain ⟨ob, x⟩ := R.dthere hb; rw [q, e] at x; cases x

theorem Real.keep {d a : Addr} {o : AObj} (r : Real C h d a o) (k : ∀ b ob, (b = a ∨ ((∃ f, o = .src f) ∧ b = d)) → h.get? b = some ob → h'.get? b = some ob) : Real C h' d a o := by
  cases o with
  | src f => obtain ⟨e, ks, ts, q⟩ := r; exact ⟨k _ _ (.inl rfl) e, ks, ts, k _ _ (.inr ⟨⟨f, rfl⟩, rfl⟩) q⟩
  | list vs => obtain ⟨n, e⟩ := r; exact ⟨n, k _ _ (.inl rfl) e⟩
  | raw o => exact k _ _ (.inl rfl) r

theorem Rep.keep (R : Rep C h₀ L own h H δ) (k : ∀ b o, b ≠ L → h₀.get? b = none → h.get? b = some o → h'.get? b = some o) : Rep C h₀ L own h' H δ where
  real := fun a o e => (R.real a o e).keep fun b ob hb q => by
    rcases hb with rfl | ⟨⟨f, rfl⟩, rfl⟩
    · exact k _ _ (R.new _ _ e).1 (R.new _ _ e).2 q
    · exact k _ _ (R.dnew _ _ e).1 (R.dnew _ _ e).2 q
  new := R.new
  dnew := R.dnew
  doff := R.doff
  dinj := R.dinj
  news := fun p hp => ⟨k _ _ (R.news p hp).2.1 (R.news p hp).2.2 (R.news p hp).1, (R.news p hp).2⟩
  ownH := R.ownH
  ownd := R.ownd

/-- an entry that is no source: laid anew, or changed -/
theorem Rep.put (R : Rep C h₀ L own h H δ) {a : Addr} {o : AObj} (hns : ∀ f, o ≠ .src f) (hold : ∀ f, H a ≠ some (.src f))
    (k : ∀ b ob, b ≠ a → b ≠ L → h₀.get? b = none → h.get? b = some ob → h'.get? b = some ob) (hr : Real C h' (δ a) a o) (hL : a ≠ L) (h0 : h₀.get? a = none)
    (hown : ∀ p ∈ own, p.1 ≠ a) (hd : ∀ b f, H b = some (.src f) → δ b ≠ a) : Rep C h₀ L own h' (put H a o) δ where
  real := fun b ob e => by
    unfold Mine.put at e
    split at e
    · rename_i q; subst q; cases e; exact hr
    · rename_i q
      refine (R.real b ob e).keep fun c oc hc hq => ?_
      rcases hc with rfl | ⟨⟨f, rfl⟩, rfl⟩
      · exact k _ _ q (R.new _ _ e).1 (R.new _ _ e).2 hq
      · exact k _ _ (hd _ _ e) (R.dnew _ _ e).1 (R.dnew _ _ e).2 hq
  new := fun b ob e => by
    unfold Mine.put at e
    split at e
    · rename_i q; subst q; exact ⟨hL, h0⟩
    · exact R.new _ _ e
  dnew := fun b f e => by
    unfold Mine.put at e
    split at e
    · cases e; exact absurd rfl (hns _)
    · exact R.dnew _ _ e
  doff := fun b f e => by
    unfold Mine.put at e
    split at e
    · cases e; exact absurd rfl (hns _)
    · rw [put_ne (hd _ _ e)]; exact R.doff _ _ e
  dinj := fun b c f g e1 e2 => by
    unfold Mine.put at e1 e2
    split at e1
    · cases e1; exact absurd rfl (hns _)
    · split at e2
      · cases e2; exact absurd rfl (hns _)
      · exact R.dinj _ _ _ _ e1 e2
  news := fun p hp => ⟨k _ _ (hown p hp) (R.news p hp).2.1 (R.news p hp).2.2 (R.news p hp).1, (R.news p hp).2⟩
  ownH := fun p hp => by rw [put_ne (hown p hp)]; exact R.ownH p hp
  ownd := fun p hp b f e => by
    unfold Mine.put at e
    split at e
    · cases e; exact absurd rfl (hns _)
    · exact R.ownd p hp _ _ e

/-- an entry changed -/
theorem Rep.change (R : Rep C h₀ L own h H δ) {a : Addr} {o o' : AObj} (e : H a = some o) (hos : ∀ f, o ≠ .src f) (hns : ∀ f, o' ≠ .src f)
    (k : ∀ b ob, b ≠ a → b ≠ L → h₀.get? b = none → h.get? b = some ob → h'.get? b = some ob) (hr : Real C h' (δ a) a o') : Rep C h₀ L own h' (Mine.put H a o') δ :=
  R.put hns (fun f q => hos f (by rw [e] at q; exact Option.some.inj q)) k hr (R.new _ _ e).1 (R.new _ _ e).2 (fun p hp q => by have := R.ownH p hp; rw [q, e] at this; cases this)
    fun b f hb q => by have := R.doff _ _ hb; rw [q, e] at this; cases this

/-- a source's field stored -/
theorem Rep.fld (R : Rep C h₀ L own h H δ) {a : Addr} {f f' : Flds} (e : H a = some (.src f))
    (k : ∀ b ob, b ≠ δ a → b ≠ L → h₀.get? b = none → h.get? b = some ob → h'.get? b = some ob) {ks : Nat → Int} {ts : Nat → Tok} (hr : h'.get? (δ a) = some (dictOf (srcEs ks ts f') 5)) :
    Rep C h₀ L own h' (Mine.put H a (.src f')) δ where
  real := fun b ob q => by
    unfold Mine.put at q
    split at q
    · rename_i z; subst z; cases q
      have hne : b ≠ δ b := fun z => by have := R.doff _ _ e; rw [← z, e] at this; cases this
      exact ⟨k _ _ hne (R.new _ _ e).1 (R.new _ _ e).2 (R.real _ _ e).1, ks, ts, hr⟩
    · rename_i z
      refine (R.real b ob q).keep fun c oc hc hq => ?_
      rcases hc with rfl | ⟨⟨g, rfl⟩, rfl⟩
      · exact k _ _ (fun y => by have := R.doff _ _ e; rw [← y, q] at this; cases this) (R.new _ _ q).1 (R.new _ _ q).2 hq
      · exact k _ _ (fun y => z (R.dinj _ _ _ _ q e y)) (R.dnew _ _ q).1 (R.dnew _ _ q).2 hq
  new := fun b ob q => by
    unfold Mine.put at q
    split at q
    · rename_i z; subst z; exact R.new _ _ e
    · exact R.new _ _ q
  dnew := fun b g q => by
    unfold Mine.put at q
    split at q
    · rename_i z; subst z; exact R.dnew _ _ e
    · exact R.dnew _ _ q
  doff := fun b g q => by
    have hb : ∃ g', H b = some (.src g') := by
      unfold Mine.put at q
      split at q
      · rename_i z; subst z; exact ⟨_, e⟩
      · exact ⟨_, q⟩
    obtain ⟨g', hb⟩ := hb
    rw [put_ne (fun z => by have := R.doff _ _ hb; rw [z, e] at this; cases this)]
    exact R.doff _ _ hb
  dinj := fun b c f1 f2 e1 e2 => by
    have hs : ∀ x f1, Mine.put H a (.src f') x = some (.src f1) → ∃ g', H x = some (.src g') := fun x f1 q => by
      unfold Mine.put at q
      split at q
      · rename_i z; subst z; exact ⟨_, e⟩
      · exact ⟨_, q⟩
    obtain ⟨g1, h1⟩ := hs _ _ e1
    obtain ⟨g2, h2⟩ := hs _ _ e2
    exact R.dinj _ _ _ _ h1 h2
  news := fun p hp => ⟨k _ _ (fun z => R.ownd p hp _ _ e z.symm) (R.news p hp).2.1 (R.news p hp).2.2 (R.news p hp).1, (R.news p hp).2⟩
  ownH := fun p hp => by
    rw [put_ne (fun z => by have := R.ownH p hp; rw [z, e] at this; cases this)]; exact R.ownH p hp
  ownd := fun p hp b g q => by
    unfold Mine.put at q
    split at q
    · rename_i z; subst z; exact R.ownd p hp _ _ e
    · exact R.ownd p hp _ _ q

/-- a new source -/
theorem Rep.newSrc (R : Rep C h₀ L own h H δ) {x d : Addr} {f : Flds} (hx : h.get? x = none) (hd : h.get? d = none) (hxd : x ≠ d)
    (k : ∀ b ob, b ≠ L → h₀.get? b = none → h.get? b = some ob → h'.get? b = some ob) (hxL : x ≠ L) (hx0 : h₀.get? x = none) (hdL : d ≠ L) (hd0 : h₀.get? d = none)
    (hi : h'.get? x = some (instObj C d)) {ks : Nat → Int} {ts : Nat → Tok} (hr : h'.get? d = some (dictOf (srcEs ks ts f) 5)) :
    Rep C h₀ L own h' (Mine.put H x (.src f)) (fun b => if b = x then d else δ b) := by
  obtain ⟨fx1, fx2, fx3⟩ := R.fresh hx
  obtain ⟨fd1, fd2, fd3⟩ := R.fresh hd
  have hs : ∀ {b o}, b ≠ x → Mine.put H x (.src f) b = some o → H b = some o := fun z q => by rwa [put_ne z] at q
  refine ⟨fun b ob q => ?_, fun b ob q => ?_, fun b g q => ?_, fun b g q => ?_, fun b c f1 f2 e1 e2 q => ?_, fun p hp => ?_, fun p hp => ?_, fun p hp b g q => ?_⟩
  · by_cases z : b = x
    · subst z; rw [put_same] at q; cases q
      simp only [if_true]
      exact ⟨hi, ks, ts, hr⟩
    · simp only [if_neg z]
      have q := hs z q
      refine (R.real b ob q).keep fun c oc hc hq => ?_
      rcases hc with rfl | ⟨⟨g, rfl⟩, rfl⟩
      · exact k _ _ (R.new _ _ q).1 (R.new _ _ q).2 hq
      · exact k _ _ (R.dnew _ _ q).1 (R.dnew _ _ q).2 hq
  · by_cases z : b = x
    · subst z; exact ⟨hxL, hx0⟩
    · exact R.new _ _ (hs z q)
  · by_cases z : b = x
    · simp only [if_pos z]; exact ⟨hdL, hd0⟩
    · simp only [if_neg z]; exact R.dnew _ _ (hs z q)
  · by_cases z : b = x
    · simp only [if_pos z]; rw [put_ne hxd.symm]; exact fd1
    · simp only [if_neg z]; rw [put_ne (fx3 _ _ (hs z q))]; exact R.doff _ _ (hs z q)
  · by_cases z : b = x
    · by_cases y : c = x
      · rw [z, y]
      · simp only [if_pos z, if_neg y] at q; exact absurd q.symm (fd3 _ _ (hs y e2))
    · by_cases y : c = x
      · simp only [if_neg z, if_pos y] at q; exact absurd q (fd3 _ _ (hs z e1))
      · simp only [if_neg z, if_neg y] at q; exact R.dinj _ _ _ _ (hs z e1) (hs y e2) q
  · exact ⟨k _ _ (R.news p hp).2.1 (R.news p hp).2.2 (R.news p hp).1, (R.news p hp).2⟩
  · rw [put_ne (fx2 p hp)]; exact R.ownH p hp
  · by_cases z : b = x
    · simp only [if_pos z]; exact fun y => fd2 p hp y.symm
    · simp only [if_neg z]; exact R.ownd p hp _ _ (hs z q)

/-- an entry that is no source goes over to what is held as it lies -/
theorem Rep.hold (R : Rep C h₀ L own h H δ) {a : Addr} {o : AObj} (e : H a = some o) (hos : ∀ f, o ≠ .src f) {ob : Obj} (hob : h.get? a = some ob) : Rep C h₀ L ((a, ob) :: own) h (del H a) δ := by
  have hs : ∀ {b o}, del H a b = some o → H b = some o := fun {b o} q => by
    unfold del at q; split at q; cases q; exact q
  have hn : ∀ {b}, H b = none → del H a b = none := fun {b} q => by unfold del; split; rfl; exact q
  refine ⟨fun b ob q => R.real _ _ (hs q), fun b ob q => R.new _ _ (hs q), fun b f q => R.dnew _ _ (hs q), fun b f q => hn (R.doff _ _ (hs q)), fun b c f g q1 q2 => R.dinj _ _ _ _ (hs q1) (hs q2), fun p hp => ?_, fun p hp => ?_, fun p hp b f q => ?_⟩
  · rcases List.mem_cons.mp hp with rfl | hp
    · exact ⟨hob, R.new _ _ e⟩
    · exact R.news p hp
  · rcases List.mem_cons.mp hp with rfl | hp
    · exact del_same
    · exact hn (R.ownH p hp)
  · rcases List.mem_cons.mp hp with rfl | hp
    · exact fun z => by have := R.doff _ _ (hs q); rw [z, e] at this; cases this
    · exact R.ownd p hp _ _ (hs q)

/-- what is held is let go -/
theorem Rep.drop {p : Addr × Obj} (R : Rep C h₀ L (p :: own) h H δ) : Rep C h₀ L own h H δ where
  real := R.real
  new := R.new
  dnew := R.dnew
  doff := R.doff
  dinj := R.dinj
  news := fun q hq => R.news q (.tail _ hq)
  ownH := fun q hq => R.ownH q (.tail _ hq)
  ownd := fun q hq => R.ownd q (.tail _ hq)

/-- a heap that forgets entries -/
theorem Rep.sub {H' : AH} (R : Rep C h₀ L own h H δ) (hs : ∀ a o, H' a = some o → H a = some o) : Rep C h₀ L own h H' δ := by
  have hn : ∀ {b}, H b = none → H' b = none := fun {b} q => by
    cases z : H' b with
    | none => rfl
    | some o => rw [hs _ _ z] at q; cases q
  exact ⟨fun a o q => R.real _ _ (hs _ _ q), fun a o q => R.new _ _ (hs _ _ q), fun a f q => R.dnew _ _ (hs _ _ q), fun a f q => hn (R.doff _ _ (hs _ _ q)), fun b c f g q1 q2 => R.dinj _ _ _ _ (hs _ _ q1) (hs _ _ q2), R.news,
    fun p hp => hn (R.ownH p hp), fun p hp a f q => R.ownd p hp _ _ (hs _ _ q)⟩
end

/-! the whole ledger -/
def full (h₀ : Heap) (L : Addr) (h : Heap) : List (Addr × Obj) :=
  (List.range h.objs.size).filterMap fun a => match h.get? a, h₀.get? a with
    | some o, none => if a = L then none else some (a, o)
    | _, _ => none
theorem mem_full {h₀ : Heap} {L : Addr} {h : Heap} {a : Addr} {o : Obj} : (a, o) ∈ full h₀ L h ↔ h.get? a = some o ∧ a ≠ L ∧ h₀.get? a = none := by
  unfold full
  rw [List.mem_filterMap]
  constructor
  · rintro ⟨b, _, e⟩
    split at e
    · rename_i o' h1 h2
      split at e
      · cases e
      · rename_i q; cases e; exact ⟨h1, q, h2⟩
    · cases e
  · rintro ⟨h1, h2, h3⟩
    refine ⟨a, List.mem_range.mpr (Heap.lt_size h1), ?_⟩
    rw [h1, h3]
    exact if_neg h2
theorem news_full (h₀ : Heap) (L : Addr) (h : Heap) : News h₀ L h (full h₀ L h) := fun p hp => mem_full.mp hp
theorem full_inj {h₀ : Heap} {L : Addr} {h : Heap} {a : Addr} {o : Obj} (e : (a, o) ∈ full h₀ L h) : ∃ pre post, full h₀ L h = pre ++ (a, o) :: post ∧ (∀ p ∈ pre, p.1 ≠ a) ∧ ∀ p ∈ post, p.1 ≠ a := by
  have nd : ((full h₀ L h).map (·.1)).Nodup := by
    unfold full
    rw [List.map_filterMap]
    have : ∀ l : List Nat, l.Nodup → (l.filterMap fun x => Option.map (fun y : Addr × Obj => y.1) (match h.get? x, h₀.get? x with | some o, none => if x = L then none else some (x, o) | _, _ => none)).Nodup := by
      intro l
      induction l with
      | nil => intro _; exact List.nodup_nil
      | cons b r ih =>
        intro hn
        rw [List.nodup_cons] at hn
        rw [List.filterMap_cons]
        have ihr := ih hn.2
        split
        · exact ihr
        · rename_i v hv
          rw [List.nodup_cons]
          refine ⟨fun hm => ?_, ihr⟩
          obtain ⟨c, hc, e⟩ := List.mem_filterMap.mp hm
          have key : ∀ {c v}, Option.map (fun y : Addr × Obj => y.1) (match h.get? c, h₀.get? c with | some o, none => if c = L then none else some (c, o) | _, _ => none) = some v → v = c := by
            intro c v e
            split at e
            · split at e
              · cases e
              · cases e; rfl
            · cases e
          have h1 := key e
          have h2 := key hv
          exact hn.1 (by rw [← h2, h1]; exact hc)
    exact this _ List.nodup_range
  obtain ⟨pre, post, q⟩ := List.append_of_mem e
  refine ⟨pre, post, q, fun p hp z => ?_, fun p hp z => ?_⟩
  · rw [q, List.map_append, List.nodup_append] at nd
    exact nd.2.2 p.1 (List.mem_map_of_mem hp) a (by simp) z
  · rw [q, List.map_append, List.nodup_append] at nd
    have := nd.2.1
    rw [List.map_cons, List.nodup_cons] at this
    exact this.1 (List.mem_map.mpr ⟨p, hp, z⟩)

def upd (m : Str → Option Value) (x : Str) (v : Value) : Str → Option Value := fun y => if y = x then some v else m y
theorem upd_same {m : Str → Option Value} {x : Str} {v : Value} : upd m x v x = some v := if_pos rfl
theorem upd_look {m : Str → Option Value} {x y : Str} {v u : Value} (h : y ≠ x) (e : m y = some u) : upd m x v y = some u := (if_neg h).trans e

structure St (C : Addr) (s₀ : Shared) (h₀ : Heap) (L : Addr) (own : List (Addr × Obj)) (s : Shared) (m : Str → Option Value) (H : AH) : Prop where
  fr : Fr h₀ L s.heap m
  rep : ∃ δ, Rep C h₀ L own s.heap H δ
  gens : s.gens = s₀.gens
  drawn : s.drawn = s₀.drawn
  os : s.os = s₀.os

section
variable {C : Addr} {s₀ : Shared} {h₀ : Heap} {L : Addr} {own : List (Addr × Obj)} {s : Shared} {m : Str → Option Value} {H : AH}

theorem St.tok (S : St C s₀ h₀ L own s m H) (tk : Nat) : St C s₀ h₀ L own { s with toks := tk } m H := ⟨S.fr, S.rep, S.gens, S.drawn, S.os⟩
theorem St.keep (S : St C s₀ h₀ L own s m H) {h' : Heap} {tk : Nat} {m' : Str → Option Value} (F : Fr h₀ L h' m') (k : ∀ b o, b ≠ L → h₀.get? b = none → s.heap.get? b = some o → h'.get? b = some o) :
    St C s₀ h₀ L own { s with heap := h', toks := tk } m' H := ⟨F, let ⟨_, R⟩ := S.rep; ⟨_, R.keep k⟩, S.gens, S.drawn, S.os⟩
theorem St.of_same (S : St C s₀ h₀ L own s m H) {h' : Heap} {tk : Nat} {m' : Str → Option Value} (hn : h'.Ns L m') (hs : Heap.SameBut L s.heap h') : St C s₀ h₀ L own { s with heap := h', toks := tk } m' H :=
  S.keep (S.fr.set hn hs) fun b o hb _ e => (hs.2 b hb).trans e
theorem St.hold (S : St C s₀ h₀ L own s m H) {a : Addr} {o : AObj} (e : H a = some o) (hos : ∀ f, o ≠ .src f) : ∃ ob, s.heap.get? a = some ob ∧ St C s₀ h₀ L ((a, ob) :: own) s m (del H a) := by
  obtain ⟨δ, R⟩ := S.rep
  obtain ⟨ob, q⟩ := R.there e
  exact ⟨ob, q, S.fr, ⟨δ, R.hold e hos q⟩, S.gens, S.drawn, S.os⟩
theorem St.drop {p : Addr × Obj} (S : St C s₀ h₀ L (p :: own) s m H) : St C s₀ h₀ L own s m H := ⟨S.fr, let ⟨_, R⟩ := S.rep; ⟨_, R.drop⟩, S.gens, S.drawn, S.os⟩
theorem St.sub {H' : AH} (S : St C s₀ h₀ L own s m H) (hs : ∀ a o, H' a = some o → H a = some o) : St C s₀ h₀ L own s m H' := ⟨S.fr, let ⟨_, R⟩ := S.rep; ⟨_, R.sub hs⟩, S.gens, S.drawn, S.os⟩
theorem St.list (S : St C s₀ h₀ L own s m H) {a : Addr} {vs : List Value} (e : H a = some (.list vs)) : s.heap.PlainList a vs.toArray := by
  obtain ⟨δ, R⟩ := S.rep; exact R.real _ _ e
theorem St.isList (S : St C s₀ h₀ L own s m H) {a : Addr} {vs : List Value} (e : H a = some (.list vs)) : s.heap.IsList a vs.toArray := (S.list e).isList
theorem St.raw (S : St C s₀ h₀ L own s m H) {a : Addr} {o : Obj} (e : H a = some (.raw o)) : s.heap.get? a = some o := by
  obtain ⟨δ, R⟩ := S.rep; exact R.real _ _ e
theorem St.at_new (S : St C s₀ h₀ L own s m H) : s.heap.objs.size ≠ L ∧ h₀.get? s.heap.objs.size = none ∧ s.heap.get? s.heap.objs.size = none := by
  have hn : s.heap.get? s.heap.objs.size = none := by
    cases q : s.heap.get? s.heap.objs.size with
    | none => rfl
    | some o => exact absurd (Heap.lt_size q) (Nat.lt_irrefl _)
  refine ⟨Nat.ne_of_gt S.fr.ns.lt, ?_, hn⟩
  cases q : h₀.get? s.heap.objs.size with
  | none => rfl
  | some o => have := S.fr.keep _ _ q; rw [hn] at this; cases this

/-- an entry that is no source, at a place that is new -/
theorem St.add (S : St C s₀ h₀ L own s m H) {h' : Heap} {tk : Nat} {a : Addr} {o : AObj} (F : Fr h₀ L h' m) (hns : ∀ f, o ≠ .src f) (ha : s.heap.get? a = none) (hL : a ≠ L) (h0 : h₀.get? a = none)
    (k : ∀ b ob, b ≠ L → h₀.get? b = none → s.heap.get? b = some ob → h'.get? b = some ob) (hr : ∀ d, Real C h' d a o) : H a = none ∧ St C s₀ h₀ L own { s with heap := h', toks := tk } m (put H a o) := by
  obtain ⟨δ, R⟩ := S.rep
  obtain ⟨f1, f2, f3⟩ := R.fresh ha
  exact ⟨f1, F, ⟨δ, R.put hns (fun f q => by rw [f1] at q; cases q) (fun b ob _ => k b ob) (hr _) hL h0 f2 f3⟩, S.gens, S.drawn, S.os⟩
theorem St.change (S : St C s₀ h₀ L own s m H) {h' : Heap} {tk : Nat} {a : Addr} {o o' : AObj} (F : Fr h₀ L h' m) (e : H a = some o) (hos : ∀ f, o ≠ .src f) (hns : ∀ f, o' ≠ .src f)
    (k : ∀ b ob, b ≠ a → b ≠ L → h₀.get? b = none → s.heap.get? b = some ob → h'.get? b = some ob) (hr : ∀ d, Real C h' d a o') : St C s₀ h₀ L own { s with heap := h', toks := tk } m (put H a o') := by
  obtain ⟨δ, R⟩ := S.rep
  exact ⟨F, ⟨δ, R.change e hos hns k (hr _)⟩, S.gens, S.drawn, S.os⟩
theorem St.ne_L (S : St C s₀ h₀ L own s m H) {a : Addr} {o : AObj} (e : H a = some o) : a ≠ L ∧ h₀.get? a = none := by
  obtain ⟨δ, R⟩ := S.rep; exact R.new _ _ e
theorem Fr.of_but {h h' : Heap} {a : Addr} (F : Fr h₀ L h m) (hL : a ≠ L) (h0 : h₀.get? a = none) (k : ∀ b ob, b ≠ a → h.get? b = some ob → h'.get? b = some ob) : Fr h₀ L h' m := by
  refine ⟨F.ns.at' fun o e => k _ _ hL.symm e, fun b o e => k _ _ (fun z => ?_) (F.keep b o e), F.above⟩
  rw [z, h0] at e; cases e
theorem Fr.of_ext {h h' : Heap} (F : Fr h₀ L h m) (k : ∀ b ob, h.get? b = some ob → h'.get? b = some ob) : Fr h₀ L h' m := ⟨F.ns.keeps k, fun b o e => k _ _ (F.keep b o e), F.above⟩
/-- a list changed: the common case -/
theorem St.setList (S : St C s₀ h₀ L own s m H) {h' : Heap} {tk : Nat} {a : Addr} {vs vs' : List Value} (e : H a = some (.list vs)) (hs : Heap.SameBut a s.heap h') (hr : h'.PlainList a vs'.toArray) :
    St C s₀ h₀ L own { s with heap := h', toks := tk } m (put H a (.list vs')) :=
  S.change (Fr.of_but S.fr (S.ne_L e).1 (S.ne_L e).2 fun b ob hb q => (hs.2 b hb).trans q) e (fun _ q => by cases q) (fun _ q => by cases q) (fun b ob hb _ _ q => (hs.2 b hb).trans q) fun _ => hr
end

end Mine

end
section
open PySem PySem.W PySem.Calls PyProof.Rows PySem.Spec
set_option Elab.async false
set_option maxRecDepth 100000
namespace Mine

def NoE : Value → Shared → Prop := fun _ _ => False
theorem wp_noE {α : Type} {M : Model} {A : Around} {t : Sem α} {Q : α → Shared → Prop} {E : Value → Shared → Prop} {s : Shared} (h : wpAny M A t Q NoE s) : wpAny M A t Q E s :=
  wpAny_mono h (fun _ _ x => x) fun _ _ x => x.elim

structure Cx (K : Frag) (p : Program) (loose : List Str) (mean : ExcName → Option Value) (mg mb : Str → Option Value) (A : Around) (env : Env) (h₀ : Heap) (L : Addr) (d : Nat) : Prop where
  below : ∃ A₀ base outer, Below A₀ base outer h₀ ∧ A.frames = some (env :: outer)
  X : K.In h₀
  T : Top p loose mean mg mb h₀
  frame : env.frame = some L
  kind : env.scope.kind = .function
  loc : env.locals = L
  glb : env.globals = mainGlobals
  blt : env.builtins = builtinsNs
  handled : A.handled = none
  room : A.depth + d < recursionLimit
  units : A.units + 8 * d + 64 < cLine

def retOf : Flow → Value
  | .ret v => v
  | _ => .none
def Back (C : Addr) (s₀ : Shared) (h₀ : Heap) (L : Addr) (own : List (Addr × Obj)) (m : Str → Option Value) (g : Heap) (L' : Addr) (Q : Value → Shared → Prop) (v : Value) (s' : Shared) : Prop :=
  ∃ m' H', St C s₀ g L' own s' m' H' ∧ (St C s₀ h₀ L own s' m H' → Q v s')

theorem Rep.move {C : Addr} {h₀ g : Heap} {L L' : Addr} {own : List (Addr × Obj)} {h h' : Heap} {H : AH} {δ : Addr → Addr} (R : Rep C h₀ L own h H δ)
    (k : ∀ a o, h.get? a = some o → a ≠ L → h₀.get? a = none → h'.get? a = some o ∧ a ≠ L' ∧ g.get? a = none) : Rep C g L' own h' H δ where
  real := fun a o e => (R.real a o e).keep fun b ob hb q => by
    rcases hb with rfl | ⟨⟨f, rfl⟩, rfl⟩
    · exact (k _ _ q (R.new _ _ e).1 (R.new _ _ e).2).1
    · exact (k _ _ q (R.dnew _ _ e).1 (R.dnew _ _ e).2).1
  new := fun a o e => by
    obtain ⟨ob, q⟩ := R.there e
    exact (k _ _ q (R.new _ _ e).1 (R.new _ _ e).2).2
  dnew := fun a f e => by
    obtain ⟨ob, q⟩ := R.dthere e
    exact (k _ _ q (R.dnew _ _ e).1 (R.dnew _ _ e).2).2
  doff := R.doff
  dinj := R.dinj
  news := fun p hp => k _ _ (R.news p hp).1 (R.news p hp).2.1 (R.news p hp).2.2
  ownH := R.ownH
  ownd := R.ownd

def bindM (bs : List (Str × Value)) : Str → Option Value := bs.foldl (fun m b => upd m b.1 b.2) fun _ => none
theorem bindM_eq (bs : List (Str × Value)) : (fun y => bs.reverse.lookup y) = bindM bs := by
  have key : ∀ (bs : List (Str × Value)) (m : Str → Option Value) (y : Str), bs.foldl (fun m b => upd m b.1 b.2) m y = ((bs.reverse.lookup y).or (m y)) := by
    intro bs
    induction bs with
    | nil => intro m y; rfl
    | cons b r ih =>
      intro m y
      rw [List.foldl_cons, ih, List.reverse_cons, List.lookup_append]
      cases r.reverse.lookup y with
      | some v => rfl
      | none =>
        show upd m b.1 b.2 y = ((List.lookup y [b]).or (m y))
        unfold upd
        rw [List.lookup_cons]
        by_cases q : y = b.1
        · rw [if_pos q, q, beq_self_eq_true]; rfl
        · rw [if_neg q, beq_false_of_ne q]; rfl
  funext y
  unfold bindM
  rw [key]
  cases bs.reverse.lookup y <;> rfl

section
variable {K : Frag} {p : Program} {loose : List Str} {mean : ExcName → Option Value} {mg mb : Str → Option Value} {A : Around} {env : Env} {h₀ : Heap} {L : Addr} {d : Nat}
variable {prog : Program} {w : World} {C : Addr} {s₀ s : Shared} {own : List (Addr × Obj)} {m : Str → Option Value} {H : AH} {Q : Value → Shared → Prop} {E : Value → Shared → Prop}

theorem Cx.less (c : Cx K p loose mean mg mb A env h₀ L (d + 1)) : Cx K p loose mean mg mb A env h₀ L d :=
  ⟨c.below, c.X, c.T, c.frame, c.kind, c.loc, c.glb, c.blt, c.handled, by have := c.room; omega, by have := c.units; omega⟩
theorem Cx.in (c : Cx K p loose mean mg mb A env h₀ L d) (S : St C s₀ h₀ L own s m H) : K.In s.heap := c.X.keeps S.fr.keep

/-- the call of a def of the text's own, as code under any surrounding of the same frames -/
theorem code_fn {A₁ : Around} {d₁ : Nat} {R : Result → Shared → Prop} {name qual : Str} {params : Arguments} {body : List Stmt} {scope : Scope} {dV kV doc pm cdv ct oc : Value} {an od : Option Addr} {osl : Array (Option Value)} {f : Addr} {args : Args} {binds : List (Str × Value)}
    (c : Cx K p loose mean mg mb A env h₀ L d) (S : St C s₀ h₀ L own s m H)
    (hfr : A₁.frames = A.frames) (hhd : A₁.handled = A.handled) (hrm : A₁.depth + (d₁ + 1) < recursionLimit) (hun : A₁.units + 8 * (d₁ + 1) + 64 < cLine)
    (ho : K.lookup f = some ⟨oc, od, .func (fnOf name qual params body scope dV kV doc pm an cdv ct), osl⟩) (hcd : codeIn K cdv qual = true)
    (hbind : BindsTo s (fnOf name qual params body scope dV kV doc pm an cdv ct) args binds) (hloc : ∀ y ∈ binds, scope.names.lookup y.1 = some .local)
    (h : ∀ g L' s₁, Cx K p loose mean mg mb (A₁.deeper (envOf qual scope L' f cdv)) (envOf qual scope L' f cdv) g L' d₁ → St C s₀ g L' own s₁ (bindM binds) H →
      wpAny (model prog w) (A₁.deeper (envOf qual scope L' f cdv)) (execs body (envOf qual scope L' f cdv)) (fun fl s' => Back C s₀ h₀ L own m g L' (fun v s' => R (.ok (.ret v)) s') (retOf fl) s') NoE s₁)
    (hco : scope.isCoroutine = false) (hgen : scope.isGenerator = false) (hk : scope.kind = .function) (hcell : ∀ x ∈ scope.names, x.2 ≠ .cell) :
    codeAny (model prog w) A₁ (.call (.ref f) args) R s := by
  obtain ⟨A₀, base, outer, B, hA⟩ := c.below
  obtain ⟨δ, RR⟩ := S.rep
  refine code_def (news := full h₀ L s.heap) B S.fr c.X (news_full _ _ _) c.T (hfr.trans hA) c.frame c.kind ho hcd (by omega) hbind hloc (fun g L' h₁ FG F' N' B' X' T' => ?_) hco hgen hk hcell
  have S' : St C s₀ g L' own { s with heap := h₁, toks := s.toks + binds.length } (bindM binds) H :=
    ⟨bindM_eq binds ▸ F', ⟨δ, RR.move fun a o e hL h0 => N' (a, o) (mem_full.mpr ⟨e, hL, h0⟩)⟩, S.gens, S.drawn, S.os⟩
  have c' : Cx K p loose mean mg mb (A₁.deeper (envOf qual scope L' f cdv)) (envOf qual scope L' f cdv) g L' d₁ :=
    ⟨⟨A₁, base, env :: outer, B', Around.frames_deeper (hfr.trans hA)⟩, X', T', rfl, hk, rfl, rfl, rfl, hhd.trans c.handled, by rw [depth_deeper]; omega, by rw [units_deeper]; omega⟩
  refine wpAny_mono (h g L' _ c' S') (fun fl s' hb => ?_) fun _ _ x => x.elim
  obtain ⟨m', H', S₂, k⟩ := hb
  have e : ∀ fl : Flow, LeaveK h₀ L m g R (retOf fl) s' → LeaveK h₀ L m g R (match fl with | .ret v => v | _ => Value.none) s' := fun fl x => by cases fl <;> exact x
  refine e fl ?_
  refine ⟨L', m', full g L' s'.heap, S₂.fr, news_full _ _ _, fun F₂ N₂ => k ⟨F₂, ?_, S₂.gens, S₂.drawn, S₂.os⟩⟩
  obtain ⟨δ', R₂⟩ := S₂.rep
  exact ⟨δ', R₂.move fun a o e hL h0 => N₂ (a, o) (mem_full.mpr ⟨e, hL, h0⟩)⟩

theorem call_fn {name qual : Str} {params : Arguments} {body : List Stmt} {scope : Scope} {dV kV doc pm cdv ct oc : Value} {an od : Option Addr} {osl : Array (Option Value)} {f : Addr} {args : List Value} {binds : List (Str × Value)}
    (c : Cx K p loose mean mg mb A env h₀ L (d + 1)) (S : St C s₀ h₀ L own s m H)
    (ho : K.lookup f = some ⟨oc, od, .func (fnOf name qual params body scope dV kV doc pm an cdv ct), osl⟩) (hcd : codeIn K cdv qual = true)
    (hbind : BindsTo s (fnOf name qual params body scope dV kV doc pm an cdv ct) ⟨args, []⟩ binds) (hloc : ∀ y ∈ binds, scope.names.lookup y.1 = some .local)
    (h : ∀ g L' s₁, Cx K p loose mean mg mb (A.deeper (envOf qual scope L' f cdv)) (envOf qual scope L' f cdv) g L' d → St C s₀ g L' own s₁ (bindM binds) H →
      wpAny (model prog w) (A.deeper (envOf qual scope L' f cdv)) (execs body (envOf qual scope L' f cdv)) (fun fl s' => Back C s₀ h₀ L own m g L' Q (retOf fl) s') NoE s₁)
    (hco : scope.isCoroutine = false) (hgen : scope.isGenerator = false) (hk : scope.kind = .function) (hcell : ∀ x ∈ scope.names, x.2 ≠ .cell) :
    wpAny (model prog w) A (call (.ref f) args) Q E s :=
  wpAny_call (code_fn c S rfl rfl c.room c.units ho hcd hbind hloc h hco hgen hk hcell)

/-- the facts of the class InputSource -/
structure SrcCls (K : Frag) (C : Addr) : Prop where
  setattr : findIn K (.ref C) "__setattr__" = some (some (.builtin "object.__setattr__"))
  over : plainOver K C = true
  has : hasDictIn K C = true
  makes : makesIn K C = true
  t0 : takerIn K C nSys = some none
  t1 : takerIn K C nPub = some none
  t2 : takerIn K C nEnc = some none
  t3 : takerIn K C nByt = some none
  t4 : takerIn K C nChr = some none
  g0 : plainGet K C nSys = true
  f0 : findIn K (.ref C) nSys = some none
  f1 : findIn K (.ref C) nPub = some none
  f2 : findIn K (.ref C) nEnc = some none
  f3 : findIn K (.ref C) nByt = some none
  f4 : findIn K (.ref C) nChr = some none

theorem St.inst (S : St C s₀ h₀ L own s m H) {x : Addr} {f : Flds} (e : H x = some (.src f)) : ∃ dx ks ts, InstAt s.heap x (instObj C dx) C (some (dictOf (srcEs ks ts f) 5)) := by
  obtain ⟨δ, R⟩ := S.rep
  obtain ⟨q, ks, ts, z⟩ := R.real _ _ e
  exact ⟨δ x, ks, ts, q, rfl, rfl, z⟩

inductive Fd where
  | sys | pub | enc | byt | chr
@[reducible] def Fd.nm : Fd → Str
  | .sys => nSys
  | .pub => nPub
  | .enc => nEnc
  | .byt => nByt
  | .chr => nChr
@[reducible] def Flds.get (f : Flds) : Fd → Value
  | .sys => f.sys
  | .pub => f.pub
  | .enc => f.enc
  | .byt => f.byt
  | .chr => f.chr
@[reducible] def Flds.set (f : Flds) : Fd → Value → Flds
  | .sys, v => { f with sys := v }
  | .pub, v => { f with pub := v }
  | .enc, v => { f with enc := v }
  | .byt, v => { f with byt := v }
  | .chr, v => { f with chr := v }

theorem getL_src {n : Fd} {ks : Nat → Int} {ts : Nat → Tok} {f : Flds} : getL n.nm (srcEs ks ts f) = some (some (f.get n)) := by
  cases n <;> rfl
theorem putL_src {n : Fd} {v : Value} {ks : Nat → Int} {ts : Nat → Tok} {f : Flds} {k : Int} {key : Value} : putL n.nm k key v (srcEs ks ts f) = srcEs ks ts (f.set n v) := by
  cases n <;> rfl
theorem putN_src {n : Fd} {ks : Nat → Int} {ts : Nat → Tok} {f : Flds} : putN n.nm (srcEs ks ts f) 5 = 5 := by
  cases n <;> rfl

/-- an attribute of a source is read -/
theorem get_attr {x : Addr} {f : Flds} {n : Fd} {expr : Bool} (c : Cx K p loose mean mg mb A env h₀ L d) (B : SrcCls K C) (S : St C s₀ h₀ L own s m H) (hx : H x = some (.src f)) (hv : handedIn (f.get n) = true)
    (h : ∀ s', St C s₀ h₀ L own s' m H → Q (f.get n) s') : wpAny (model prog w) A (getAttr (.ref x) n.nm expr) Q E s := by
  obtain ⟨dx, ks, ts, I⟩ := S.inst hx
  have hf : findIn K (.ref C) n.nm = some none := by
    cases n
    · exact B.f0
    · exact B.f1
    · exact B.f2
    · exact B.f3
    · exact B.f4
  exact get_own S.fr c.X I (show plainGet K C n.nm = true from B.g0) B.has hf rfl getL_src hv (h _ (S.tok _))

/-- an attribute of a source is stored -/
theorem set_attr {x : Addr} {f : Flds} {n : Fd} {v : Value} {Q : Unit → Shared → Prop} (c : Cx K p loose mean mg mb A env h₀ L d) (B : SrcCls K C) (S : St C s₀ h₀ L own s m H) (hx : H x = some (.src f))
    (h : ∀ s', St C s₀ h₀ L own s' m (put H x (.src (f.set n v))) → Q () s') : wpAny (model prog w) A (setAttr (.ref x) n.nm v) Q E s := by
  obtain ⟨δ, R⟩ := S.rep
  obtain ⟨q, ks, ts, z⟩ := R.real _ _ hx
  have ht : takerIn K C n.nm = some none := by
    cases n
    · exact B.t0
    · exact B.t1
    · exact B.t2
    · exact B.t3
    · exact B.t4
  have hmem : (δ x, dictOf (srcEs ks ts f) 5) ∈ full h₀ L s.heap := mem_full.mpr ⟨z, (R.dnew _ _ hx).1, (R.dnew _ _ hx).2⟩
  obtain ⟨pre, post, e, h1, h2⟩ := full_inj hmem
  have U : Upd (δ x) (dictOf (srcEs ks ts f) 5) (dictOf (srcEs ks ts (f.set n v)) 5) (full h₀ L s.heap) (pre ++ (δ x, dictOf (srcEs ks ts (f.set n v)) 5) :: post) := by
    rw [e]
    clear e
    induction pre with
    | nil => exact .head h2
    | cons b r ih => exact .tail (h1 b (.head _)) (ih fun p hp => h1 p (.tail _ hp))
  have hl : (getL n.nm (srcEs ks ts f)).isSome = true := by rw [getL_src]; rfl
  refine set_dict S.fr c.X (news_full _ _ _) ⟨q, rfl, rfl, z⟩ rfl B.setattr B.over ht B.has hl (Prod.ext putL_src putN_src) U (by show (5 : Nat) ≤ 1000; decide) fun h' F' N' => h _ ?_
  have k : ∀ b ob, b ≠ δ x → b ≠ L → h₀.get? b = none → s.heap.get? b = some ob → h'.get? b = some ob := fun b ob hb hL h0 hq => by
    have hm : (b, ob) ∈ full h₀ L s.heap := mem_full.mpr ⟨hq, hL, h0⟩
    rw [e] at hm
    refine (N' (b, ob) ?_).1
    rcases List.mem_append.mp hm with hm | hm
    · exact List.mem_append_left _ hm
    · rcases List.mem_cons.mp hm with hm | hm
      · exact absurd (congrArg Prod.fst hm) hb
      · exact List.mem_append_right _ (.tail _ hm)
  exact ⟨F', ⟨δ, R.fld hx k (N' _ (List.mem_append_right _ (.head _))).1⟩, S.gens, S.drawn, S.os⟩

theorem units_make (A : Around) (C : Addr) (vals : List Value) (kw : List (Str × Value)) : (A.under (.builtin "type.__call__" ⟨.ref C :: vals, kw⟩)).units = A.units + 1 := rfl
theorem frames_make (A : Around) (C : Addr) (vals : List Value) (kw : List (Str × Value)) : (A.under (.builtin "type.__call__" ⟨.ref C :: vals, kw⟩)).frames = A.frames := rfl
end
end Mine

end
section
open PySem PySem.W PySem.Calls PyProof.Rows PySem.Spec
set_option Elab.async false
set_option maxRecDepth 100000
namespace Mine

section
variable {K : Frag} {p : Program} {loose : List Str} {mean : ExcName → Option Value} {mg mb : Str → Option Value} {A : Around} {env : Env} {h₀ : Heap} {L : Addr} {d : Nat}
variable {prog : Program} {w : World} {C : Addr} {s₀ s : Shared} {own : List (Addr × Obj)} {m : Str → Option Value} {H : AH} {Q : Value → Shared → Prop} {E : Value → Shared → Prop}

/-- a local name is loaded -/
theorem ev_name {cn : Str} {cs : Scope} {a : Addr} {ccd : Value} {x : Str} {pos : Pos} {v : Value} (S : St C s₀ h₀ L own s m H) (hv : m x = some v) (h : Q v s)
    (hk : cs.kind = .function) (hl : cs.names.lookup x = some .local) (hd : (x == ("__debug__" : Str)) = false) : wpAny (model prog w) A (eval (.Name x pos) (envOf cn cs L a ccd)) Q E s :=
  ld S.fr hv h hk hl hd
theorem st_name {cn : Str} {cs : Scope} {a : Addr} {ccd : Value} {x : Str} {v : Value} {Q : Unit → Shared → Prop} (S : St C s₀ h₀ L own s m H) (h : ∀ s', St C s₀ h₀ L own s' (upd m x v) H → Q () s')
    (hk : cs.kind = .function) (hl : cs.names.lookup x = some .local) : wpAny (model prog w) A (storeName (envOf cn cs L a ccd) x v) Q E s :=
  wpAny_storeName_local (env := envOf cn cs L a ccd) hl S.fr.ns (fun h' hn hs => h _ (S.of_same hn hs)) (by show (cs.kind == .class || (cs.kind == .module && L != mainGlobals)) = false; rw [hk]; rfl)

abbrev nSelf : Str := "self"
abbrev nSid : Str := "system_id"
abbrev oneArg (a : Str) (pa : Pos) : Arguments := { posonlyargs := [], args := [{ arg := a, annotation := none, pos := pa }], vararg := none, kwonlyargs := [], kw_defaults := [], kwarg := none, defaults := [] }
abbrev twoArgs (a b : Str) (pa pb : Pos) : Arguments := { posonlyargs := [], args := [{ arg := a, annotation := none, pos := pa }, { arg := b, annotation := none, pos := pb }], vararg := none, kwonlyargs := [], kw_defaults := [], kwarg := none, defaults := [] }

/-- a getter of a source -/
theorem getter {name qual : Str} {scope : Scope} {dV kV doc pm cdv ct oc : Value} {an od : Option Addr} {osl : Array (Option Value)} {f x : Addr} {fl : Fd} {pa p1 p2 p3 : Pos} {F : Flds}
    (c : Cx K p loose mean mg mb A env h₀ L (d + 1)) (B : SrcCls K C) (S : St C s₀ h₀ L own s m H) (hx : H x = some (.src F)) (hv : handedIn (F.get fl) = true)
    (ho : K.lookup f = some ⟨oc, od, .func (fnOf name qual (oneArg "self" pa) [.Return (some (.Attribute (.Name "self" p1) fl.nm p2)) p3] scope dV kV doc pm an cdv ct), osl⟩) (hcd : codeIn K cdv qual = true)
    (hself : scope.names.lookup nSelf = some .local) (hco : scope.isCoroutine = false) (hgen : scope.isGenerator = false) (hk : scope.kind = .function) (hcell : ∀ x ∈ scope.names, x.2 ≠ .cell)
    (hbind : bindArgs (fnOf name qual (oneArg "self" pa) [.Return (some (.Attribute (.Name "self" p1) fl.nm p2)) p3] scope dV kV doc pm an cdv ct) ⟨[.ref x], []⟩ = pure [(nSelf, .ref x)])
    (h : ∀ s', St C s₀ h₀ L own s' m H → Q (F.get fl) s') : wpAny (model prog w) A (call (.ref f) [.ref x]) Q E s := by
  refine call_fn (binds := [(nSelf, .ref x)]) c S ho hcd (BindsTo.of_eq hbind) (fun y hy => ?_) (fun g L' s₁ c' S' => ?_) hco hgen hk hcell
  · rcases List.mem_singleton.mp hy with rfl; exact hself
  · refine wpAny_execs_cons (wpAny_Return_some (Attribute_Name_ (ev_name S' rfl ?_ hk hself (by decide))))
    exact get_attr c' B S' hx hv fun s' S₂ => ⟨_, _, S₂, h s'⟩

/-- a setter of a source -/
theorem setter {name qual : Str} {scope : Scope} {dV kV doc pm cdv ct oc : Value} {an od : Option Addr} {osl : Array (Option Value)} {f x : Addr} {fl : Fd} {arg : Str} {pa pb p1 p2 p3 p4 : Pos} {F : Flds} {v : Value}
    (c : Cx K p loose mean mg mb A env h₀ L (d + 1)) (B : SrcCls K C) (S : St C s₀ h₀ L own s m H) (hx : H x = some (.src F))
    (ho : K.lookup f = some ⟨oc, od, .func (fnOf name qual (twoArgs "self" arg pa pb) [.Assign [.Attribute (.Name "self" p1) fl.nm p2] (.Name arg p3) p4] scope dV kV doc pm an cdv ct), osl⟩) (hcd : codeIn K cdv qual = true)
    (hself : scope.names.lookup nSelf = some .local) (harg : scope.names.lookup arg = some .local) (hne : nSelf ≠ arg) (hdb : (arg == ("__debug__" : Str)) = false)
    (hco : scope.isCoroutine = false) (hgen : scope.isGenerator = false) (hk : scope.kind = .function) (hcell : ∀ x ∈ scope.names, x.2 ≠ .cell)
    (hbind : bindArgs (fnOf name qual (twoArgs "self" arg pa pb) [.Assign [.Attribute (.Name "self" p1) fl.nm p2] (.Name arg p3) p4] scope dV kV doc pm an cdv ct) ⟨[.ref x, v], []⟩ = pure [(nSelf, .ref x), (arg, v)])
    (h : ∀ s', St C s₀ h₀ L own s' m (put H x (.src (F.set fl v))) → Q .none s') : wpAny (model prog w) A (call (.ref f) [.ref x, v]) Q E s := by
  refine call_fn (binds := [(nSelf, .ref x), (arg, v)]) c S ho hcd (BindsTo.of_eq hbind) (fun y hy => ?_) (fun g L' s₁ c' S' => ?_) hco hgen hk hcell
  · rcases List.mem_cons.mp hy with rfl | hy
    · exact hself
    · rcases List.mem_singleton.mp hy with rfl; exact harg
  · have e1 : bindM [(nSelf, Value.ref x), (arg, v)] arg = some v := upd_same
    have e2 : bindM [(nSelf, Value.ref x), (arg, v)] nSelf = some (.ref x) := upd_look hne upd_same
    refine wpAny_execs_cons (plainObj_wpAny_Assign_Attribute (ev_name S' e1 (ev_name S' e2 ?_ hk hself (by decide)) hk harg hdb))
    exact set_attr c' B S' hx fun s' S₂ => wpAny_execs_nil ⟨_, _, S₂, h s'⟩

/-- a raw object's dict is stored into -/
theorem set_raw {x dx : Addr} {n : Fd} {v : Value} {es : List DictEntry} {k : Nat} {Q : Unit → Shared → Prop} (c : Cx K p loose mean mg mb A env h₀ L d) (B : SrcCls K C) (S : St C s₀ h₀ L own s m H)
    (hx : H x = some (.raw (instObj C dx))) (hd : H dx = some (.raw (dictOf es k))) (hl : (getL n.nm es).isSome = true)
    (hz : ∀ tk, (putL n.nm (PyData.keyHash w.params n.nm) (.str n.nm tk) v es).length ≤ 1000)
    (h : ∀ s' tk, St C s₀ h₀ L own s' m (put H dx (.raw (dictOf (putL n.nm (PyData.keyHash w.params n.nm) (.str n.nm tk) v es) (putN n.nm es k)))) → Q () s') : wpAny (model prog w) A (setAttr (.ref x) n.nm v) Q E s := by
  obtain ⟨δ, R⟩ := S.rep
  have q := R.real _ _ hx
  have z := R.real _ _ hd
  have ht : takerIn K C n.nm = some none := by
    cases n
    · exact B.t0
    · exact B.t1
    · exact B.t2
    · exact B.t3
    · exact B.t4
  have hmem : (dx, dictOf es k) ∈ full h₀ L s.heap := mem_full.mpr ⟨z, (R.new _ _ hd).1, (R.new _ _ hd).2⟩
  obtain ⟨pre, post, e, h1, h2⟩ := full_inj hmem
  have U : ∀ o', Upd dx (dictOf es k) o' (full h₀ L s.heap) (pre ++ (dx, o') :: post) := fun o' => by
    rw [e]
    clear e
    induction pre with
    | nil => exact .head h2
    | cons b r ih => exact .tail (h1 b (.head _)) (ih fun p hp => h1 p (.tail _ hp))
  refine set_dict S.fr c.X (news_full _ _ _) ⟨q, rfl, rfl, z⟩ rfl B.setattr B.over ht B.has hl rfl (U _) (hz _) fun h' F' N' => h _ (s.toks + 1) ?_
  refine S.change F' hd (fun _ x => by cases x) (fun _ x => by cases x) (fun b ob hb hL h0 hq => ?_) fun _ => (N' _ (List.mem_append_right _ (.head _))).1
  have hm : (b, ob) ∈ full h₀ L s.heap := mem_full.mpr ⟨hq, hL, h0⟩
  rw [e] at hm
  refine (N' (b, ob) ?_).1
  rcases List.mem_append.mp hm with hm | hm
  · exact List.mem_append_left _ hm
  · rcases List.mem_cons.mp hm with hm | hm
    · exact absurd (congrArg Prod.fst hm) hb
    · exact List.mem_append_right _ (.tail _ hm)

/-- the raw pair becomes a source -/
theorem St.seal {x dx : Addr} {ks : Nat → Int} {ts : Nat → Tok} {f : Flds} (S : St C s₀ h₀ L own s m H) (hxd : x ≠ dx) (hx : H x = some (.raw (instObj C dx))) (hd : H dx = some (.raw (dictOf (srcEs ks ts f) 5))) :
    St C s₀ h₀ L own s m (put (del H dx) x (.src f)) := by
  obtain ⟨δ, R⟩ := S.rep
  refine ⟨S.fr, ⟨fun b => if b = x then dx else δ b, ?_⟩, S.gens, S.drawn, S.os⟩
  have hs : ∀ {b o}, b ≠ x → put (del H dx) x (.src f) b = some o → b ≠ dx ∧ H b = some o := fun {b o} z q => by
    rw [put_ne z] at q
    by_cases y : b = dx
    · rw [y, del_same] at q; cases q
    · rw [del_ne y] at q; exact ⟨y, q⟩
  have hn : ∀ {b}, b ≠ x → H b = none → put (del H dx) x (.src f) b = none := fun {b} z q => by
    rw [put_ne z]; unfold del; split; rfl; exact q
  refine ⟨fun b ob q => ?_, fun b ob q => ?_, fun b g q => ?_, fun b g q => ?_, fun b c f1 f2 e1 e2 q => ?_, R.news, fun p hp => ?_, fun p hp b g q => ?_⟩
  · by_cases z : b = x
    · subst z; rw [put_same] at q; cases q
      simp only [if_true]
      exact ⟨R.real _ _ hx, ks, ts, R.real _ _ hd⟩
    · simp only [if_neg z]; exact R.real _ _ (hs z q).2
  · by_cases z : b = x
    · subst z; exact R.new _ _ hx
    · exact R.new _ _ (hs z q).2
  · by_cases z : b = x
    · simp only [if_pos z]; exact R.new _ _ hd
    · simp only [if_neg z]; exact R.dnew _ _ (hs z q).2
  · by_cases z : b = x
    · simp only [if_pos z]; rw [put_ne hxd.symm]; exact del_same
    · simp only [if_neg z]
      refine hn (fun y => ?_) (R.doff _ _ (hs z q).2)
      have := R.doff _ _ (hs z q).2; rw [y, hx] at this; cases this
  · have off : ∀ y g, H y = some (.src g) → δ y ≠ dx := fun y g hy z => by have := R.doff _ _ hy; rw [z, hd] at this; cases this
    by_cases z : b = x
    · by_cases y : c = x
      · rw [z, y]
      · simp only [if_pos z, if_neg y] at q; exact absurd q.symm (off _ _ (hs y e2).2)
    · by_cases y : c = x
      · simp only [if_neg z, if_pos y] at q; exact absurd q (off _ _ (hs z e1).2)
      · simp only [if_neg z, if_neg y] at q; exact R.dinj _ _ _ _ (hs z e1).2 (hs y e2).2 q
  · exact hn (fun y => by have := R.ownH p hp; rw [y, hx] at this; cases this) (R.ownH p hp)
  · by_cases z : b = x
    · simp only [if_pos z]; exact fun y => by have := R.ownH p hp; rw [← y, hd] at this; cases this
    · simp only [if_neg z]; exact R.ownd p hp _ _ (hs z q).2

abbrev initBody (q : Nat → Pos) : List Stmt :=
  [.Assign [.Attribute (.Name "self" (q 0)) nSys (q 1)] (.Name "system_id" (q 2)) (q 3),
   .Assign [.Attribute (.Name "self" (q 4)) nPub (q 5)] (.Constant .none 0 (q 6)) (q 7),
   .Assign [.Attribute (.Name "self" (q 8)) nEnc (q 9)] (.Constant .none 0 (q 10)) (q 11),
   .Assign [.Attribute (.Name "self" (q 12)) nByt (q 13)] (.Constant .none 0 (q 14)) (q 15),
   .Assign [.Attribute (.Name "self" (q 16)) nChr (q 17)] (.Constant .none 0 (q 18)) (q 19)]

/-- a new source -/
theorem new_src {name qual : Str} {params : Arguments} {body : List Stmt} {q : Nat → Pos} {scope : Scope} {dV kV doc pm cdv ct oc : Value} {an od : Option Addr} {osl : Array (Option Value)} {fI : Addr} {args : List Value} {v : Value}
    (c : Cx K p loose mean mg mb A env h₀ L (d + 2)) (B : SrcCls K C) (S : St C s₀ h₀ L own s m H) (hi : findIn K (.ref C) "__init__" = some (some (.ref fI))) (hf : isFn K (.ref fI) = true)
    (ho : K.lookup fI = some ⟨oc, od, .func (fnOf name qual params body scope dV kV doc pm an cdv ct), osl⟩) (hcd : codeIn K cdv qual = true) (hbody : body = initBody q)
    (hbind : ∀ (s : Shared) (x : Addr), K.In s.heap → BindsTo s (fnOf name qual params body scope dV kV doc pm an cdv ct) ⟨.ref x :: args, []⟩ [(nSelf, .ref x), (nSid, v)])
    (hself : scope.names.lookup nSelf = some .local) (harg : scope.names.lookup nSid = some .local)
    (hco : scope.isCoroutine = false) (hgen : scope.isGenerator = false) (hk : scope.kind = .function) (hcell : ∀ x ∈ scope.names, x.2 ≠ .cell)
    (h : ∀ x s', H x = none → St C s₀ h₀ L own s' m (put H x (.src ⟨v, .none, .none, .none, .none⟩)) → Q (.ref x) s') : wpAny (model prog w) A (call (.ref C) args) Q E s := by
  obtain ⟨δ, R⟩ := S.rep
  refine call_cls S.fr c.X (news_full h₀ L s.heap) B.makes hi hf fun x dx h' F' N' l1 l2 => ?_
  have k : ∀ b ob, b ≠ L → h₀.get? b = none → s.heap.get? b = some ob → h'.get? b = some ob := fun b ob hL h0 hq => (N' (b, ob) (.tail _ (.tail _ (mem_full.mpr ⟨hq, hL, h0⟩)))).1
  have Nx := N' _ (.head _)
  have Nd := N' _ (.tail _ (.head _))
  have fresh : ∀ a, a ≠ L → h₀.get? a = none → dx ≤ a → s.heap.get? a = none := fun a hL h0 hle => by
    cases e : s.heap.get? a with
    | none => rfl
    | some o => exact absurd (l1 _ (mem_full.mpr ⟨e, hL, h0⟩)) (Nat.not_lt.mpr hle)
  have hxd : x ≠ dx := Nat.ne_of_gt l2
  have hHx := (R.fresh (fresh x Nx.2.1 Nx.2.2 (Nat.le_of_lt l2))).1
  have hHd := (R.fresh (fresh dx Nd.2.1 Nd.2.2 (Nat.le_refl _))).1
  have R1 : Rep C h₀ L own h' (put H dx (.raw (dictOf [] 0))) δ := by
    obtain ⟨f1, f2, f3⟩ := R.fresh (fresh dx Nd.2.1 Nd.2.2 (Nat.le_refl _))
    exact R.put (fun _ x => by cases x) (fun _ x => by rw [hHd] at x; cases x) (fun b ob _ => k b ob) Nd.1 Nd.2.1 Nd.2.2 f2 f3
  have R2 : Rep C h₀ L own h' (put (put H dx (.raw (dictOf [] 0))) x (.raw (instObj C dx))) δ := by
    obtain ⟨f1, f2, f3⟩ := R.fresh (fresh x Nx.2.1 Nx.2.2 (Nat.le_of_lt l2))
    refine R1.put (fun _ x => by cases x) (fun _ y => by rw [put_ne hxd, hHx] at y; cases y) (fun b ob _ _ _ e => e) Nx.1 Nx.2.1 Nx.2.2 f2 fun b f hb => ?_
    by_cases z : b = dx
    · rw [z, put_same] at hb; cases hb
    · rw [put_ne z] at hb; exact f3 _ _ hb
  have S' : St C s₀ h₀ L own { s with heap := h' } m (put (put H dx (.raw (dictOf [] 0))) x (.raw (instObj C dx))) := ⟨F', ⟨δ, R2⟩, S.gens, S.drawn, S.os⟩
  have cr := c.room
  have cu := c.units
  refine code_fn (d₁ := d) c S' (frames_make _ _ _ _) rfl (by rw [depth_under_kw]; omega) (by rw [units_make]; omega) ho hcd (hbind _ _ (c.X.keeps F'.keep)) (fun y hy => ?_) (fun g L' s₁ c' S₁ => ?_) hco hgen hk hcell
  · rcases List.mem_cons.mp hy with rfl | hy
    · exact hself
    · rcases List.mem_singleton.mp hy with rfl; exact harg
  · subst hbody
    have e1 : bindM [(nSelf, Value.ref x), (nSid, v)] nSelf = some (.ref x) := rfl
    have e2 : bindM [(nSelf, Value.ref x), (nSid, v)] nSid = some v := rfl
    have hx0 : ∀ (o : Obj), put (put H dx (.raw o)) x (.raw (instObj C dx)) x = some (.raw (instObj C dx)) := fun _ => put_same
    have hd0 : ∀ (o : Obj), put (put H dx (.raw o)) x (.raw (instObj C dx)) dx = some (.raw o) := fun _ => (put_ne hxd.symm).trans put_same
    have sw : ∀ (o o' : Obj), put (put (put H dx (.raw o)) x (.raw (instObj C dx))) dx (.raw o') = put (put H dx (.raw o')) x (.raw (instObj C dx)) := fun o o' => by
      funext b
      unfold put
      by_cases z : b = dx
      · simp [z, hxd.symm]
      · simp [z]
    refine wpAny_execs_cons (plainObj_wpAny_Assign_Attribute (ev_name S₁ e2 (ev_name S₁ e1 ?_ hk hself (by decide)) hk harg (by decide)))
    refine set_raw (n := .sys) c' B S₁ (hx0 _) (hd0 _) rfl (fun _ => by show (1 : Nat) ≤ 1000; decide) fun s₂ t1 S₂ => ?_
    rw [sw] at S₂
    refine wpAny_execs_cons (plainObj_wpAny_Assign_Attribute (wpAny_Constant_none (ev_name S₂ e1 ?_ hk hself (by decide))))
    refine set_raw (n := .pub) c' B S₂ (hx0 _) (hd0 _) rfl (fun _ => by show (2 : Nat) ≤ 1000; decide) fun s₃ t2 S₃ => ?_
    rw [sw] at S₃
    refine wpAny_execs_cons (plainObj_wpAny_Assign_Attribute (wpAny_Constant_none (ev_name S₃ e1 ?_ hk hself (by decide))))
    refine set_raw (n := .enc) c' B S₃ (hx0 _) (hd0 _) rfl (fun _ => by show (3 : Nat) ≤ 1000; decide) fun s₄ t3 S₄ => ?_
    rw [sw] at S₄
    refine wpAny_execs_cons (plainObj_wpAny_Assign_Attribute (wpAny_Constant_none (ev_name S₄ e1 ?_ hk hself (by decide))))
    refine set_raw (n := .byt) c' B S₄ (hx0 _) (hd0 _) rfl (fun _ => by show (4 : Nat) ≤ 1000; decide) fun s₅ t4 S₅ => ?_
    rw [sw] at S₅
    refine wpAny_execs_cons (plainObj_wpAny_Assign_Attribute (wpAny_Constant_none (ev_name S₅ e1 ?_ hk hself (by decide))))
    refine set_raw (n := .chr) c' B S₅ (hx0 _) (hd0 _) rfl (fun _ => by show (5 : Nat) ≤ 1000; decide) fun s₆ t5 S₆ => ?_
    rw [sw] at S₆
    have S₇ := St.seal (ks := fun i => if i = 0 then PyData.keyHash w.params nSys else if i = 1 then PyData.keyHash w.params nPub else if i = 2 then PyData.keyHash w.params nEnc else if i = 3 then PyData.keyHash w.params nByt else PyData.keyHash w.params nChr)
      (ts := fun i => if i = 0 then t1 else if i = 1 then t2 else if i = 2 then t3 else if i = 3 then t4 else t5) (f := ⟨v, .none, .none, .none, .none⟩) S₆ hxd (hx0 _) (hd0 _)
    have e3 : ∀ o, put (del (put (put H dx (.raw o)) x (.raw (instObj C dx))) dx) x (.src ⟨v, .none, .none, .none, .none⟩) = put H x (.src ⟨v, .none, .none, .none, .none⟩) := fun o => by
      funext b
      unfold put del
      by_cases z : b = x
      · simp [z]
      · by_cases y : b = dx
        · simp [y, hHd]
        · simp [z, y]
    rw [e3] at S₇
    exact wpAny_execs_nil ⟨_, _, S₇, fun S₈ => ⟨rfl, h _ _ hHx S₈⟩⟩
end
end Mine

end
section
open PySem PySem.W PySem.Calls PyProof.Rows PySem.Spec
set_option Elab.async false
set_option maxRecDepth 100000
namespace Mine

section
variable {K : Frag} {p : Program} {loose : List Str} {mean : ExcName → Option Value} {mg mb : Str → Option Value} {A : Around} {env : Env} {h₀ : Heap} {L : Addr} {d : Nat}
variable {prog : Program} {w : World} {C : Addr} {s₀ s : Shared} {own : List (Addr × Obj)} {m : Str → Option Value} {H : AH} {Q : Value → Shared → Prop} {E : Value → Shared → Prop}

/-! names -/
theorem r_local {x : Str} {pos : Pos} {v : Value} (c : Cx K p loose mean mg mb A env h₀ L d) (S : St C s₀ h₀ L own s m H) (hv : m x = some v) (h : Q v s)
    (hl : env.kindOf x = some .local := by rfl) (hd : (x == ("__debug__" : Str)) = false := by decide) : wpAny (model prog w) A (eval (.Name x pos) env) Q E s :=
  wpAny_Name (wpAny_loadName_local c.kind hl (c.loc ▸ S.fr.ns) hv h) hd
theorem r_glob {env' : Env} {x : Str} {pos : Pos} {v : Value} (c : Cx K p loose mean mg mb A env h₀ L d) (S : St C s₀ h₀ L own s m H) (e : nsIn K mainGlobals x = some (some v)) (h : Q v s)
    (hx : env'.kindOf x = some .globalImplicit := by rfl) (hd : (x == ("__debug__" : Str)) = false := by decide) (hk : env'.scope.kind = .function := by rfl) (hg : env'.globals = mainGlobals := by rfl) : wpAny (model prog w) A (eval (.Name x pos) env') Q E s :=
  Name_function_global hk hx (loadGlobal_global (by rw [hg]; exact c.T.g.keeps S.fr.keep) (mg_of c.X c.T.g e) h) hd
theorem r_blt {env' : Env} {x : Str} {pos : Pos} {v : Value} (c : Cx K p loose mean mg mb A env h₀ L d) (S : St C s₀ h₀ L own s m H) (e : nsIn K mainGlobals x = some none) (hb : bootBuiltins x = some v) (hn : x ≠ "__name__") (h : Q v s)
    (hx : env'.kindOf x = some .globalImplicit := by rfl) (hd : (x == ("__debug__" : Str)) = false := by decide) (hk : env'.scope.kind = .function := by rfl) (hg : env'.globals = mainGlobals := by rfl) (hbl : env'.builtins = builtinsNs := by rfl) : wpAny (model prog w) A (eval (.Name x pos) env') Q E s :=
  Name_function_global hk hx (loadGlobal_builtin (by rw [hg]; exact c.T.g.keeps S.fr.keep) (mg_none_of c.X c.T.g e) (by rw [hbl]; exact c.T.b.keeps S.fr.keep) ((c.T.builtins x hn).trans hb) h) hd
theorem r_store {x : Str} {v : Value} {Q : Unit → Shared → Prop} (c : Cx K p loose mean mg mb A env h₀ L d) (S : St C s₀ h₀ L own s m H) (h : ∀ s', St C s₀ h₀ L own s' (upd m x v) H → Q () s')
    (hl : env.kindOf x = some .local := by rfl) : wpAny (model prog w) A (storeName env x v) Q E s :=
  wpAny_storeName_local hl (c.loc ▸ S.fr.ns) (fun h' hn hs => h _ (S.of_same (c.loc ▸ hn) (c.loc ▸ hs))) (by rw [c.kind]; rfl)

/-! constants -/
theorem r_int {i : Int} {k : Nat} {pos : Pos} (S : St C s₀ h₀ L own s m H) (h : ∀ s' t, St C s₀ h₀ L own s' m H → Q (.int i t) s') : wpAny (model prog w) A (eval (.Constant (.int i) k pos) env) Q E s :=
  wpAny_Constant_int (h _ _ (S.tok _))
theorem r_str {x : Str} {k : Nat} {pos : Pos} (S : St C s₀ h₀ L own s m H) (h : ∀ s' t, St C s₀ h₀ L own s' m H → Q (.str x t) s') : wpAny (model prog w) A (eval (.Constant (.str x) k pos) env) Q E s :=
  wpAny_Constant_str (h _ _ (S.tok _))

/-! new objects -/
theorem St.pushed (S : St C s₀ h₀ L own s m H) {o : Obj} {ao : AObj} {tk : Nat} (hns : ∀ f, ao ≠ .src f) (hf : o.isFreed = false) (hr : ∀ (h : Heap) d, h.get? s.heap.objs.size = some o → Real C h d s.heap.objs.size ao) :
    H s.heap.objs.size = none ∧ St C s₀ h₀ L own { s with heap := s.heap.push o, toks := tk } m (put H s.heap.objs.size ao) :=
  S.add (S.fr.push o) hns S.at_new.2.2 S.at_new.1 S.at_new.2.1 (fun _ _ _ _ e => Heap.get?_push_of_some _ e) fun d => hr _ d (Heap.get?_push_size _ hf)
abbrev tupObj (vs : List Value) : Obj := { cls := .type "tuple", data := .seq vs.toArray }
theorem r_newList {vs : List Value} (S : St C s₀ h₀ L own s m H) (h : ∀ a s', H a = none → St C s₀ h₀ L own s' m (put H a (.list vs)) → Q (.ref a) s') (hsz : vs.length ≤ sizeLine := by size_fits) :
    wpAny (model prog w) A (newList vs) Q E s :=
  wpAny_newObj_type (by
    obtain ⟨q, S'⟩ := S.pushed (o := listObj vs 0) (ao := .list vs) (tk := s.toks) (fun _ x => by cases x) rfl fun h d e => ⟨0, e⟩
    exact h _ _ q S') (by show vs.toArray.size ≤ sizeLine; rw [List.size_toArray]; exact hsz)
theorem r_newTuple {vs : List Value} (S : St C s₀ h₀ L own s m H) (h : ∀ a s', H a = none → St C s₀ h₀ L own s' m (put H a (.raw (tupObj vs))) → Q (.ref a) s') (hsz : vs.length ≤ sizeLine := by size_fits) :
    wpAny (model prog w) A (newTuple vs) Q E s :=
  wpAny_newObj_type (by
    obtain ⟨q, S'⟩ := S.pushed (o := tupObj vs) (ao := .raw (tupObj vs)) (tk := s.toks) (fun _ x => by cases x) rfl fun h d e => e
    exact h _ _ q S') (by show vs.toArray.size ≤ sizeLine; rw [List.size_toArray]; exact hsz)

/-! methods of sources -/
structure IsMeth (K : Frag) (C : Addr) (name : Str) (f : Addr) : Prop where
  find : findIn K (.ref C) name = some (some (.ref f))
  fn : isFn K (.ref f) = true
  keep : keepIn K (.ref f) = true
  get : plainGet K C name = true
  off : ∀ ks ts F, getL name (srcEs ks ts F) = some none
def IsGetter (K : Frag) (C : Addr) (nm : Str) (fl : Fd) : Prop :=
  ∃ (f : Addr) (name qual : Str) (scope : Scope) (dV kV doc pm cdv ct oc : Value) (an od : Option Addr) (osl : Array (Option Value)) (pa p1 p2 p3 : Pos), IsMeth K C nm f ∧
    K.lookup f = some ⟨oc, od, .func (fnOf name qual (oneArg "self" pa) [.Return (some (.Attribute (.Name "self" p1) fl.nm p2)) p3] scope dV kV doc pm an cdv ct), osl⟩ ∧ codeIn K cdv qual = true ∧
    scope.names.lookup nSelf = some .local ∧ scope.isCoroutine = false ∧ scope.isGenerator = false ∧ scope.kind = .function ∧ (∀ x ∈ scope.names, x.2 ≠ .cell) ∧
    ∀ x, bindArgs (fnOf name qual (oneArg "self" pa) [.Return (some (.Attribute (.Name "self" p1) fl.nm p2)) p3] scope dV kV doc pm an cdv ct) ⟨[.ref x], []⟩ = pure [(nSelf, .ref x)]
def IsSetter (K : Frag) (C : Addr) (nm : Str) (fl : Fd) : Prop :=
  ∃ (f : Addr) (name qual arg : Str) (scope : Scope) (dV kV doc pm cdv ct oc : Value) (an od : Option Addr) (osl : Array (Option Value)) (pa pb p1 p2 p3 p4 : Pos), IsMeth K C nm f ∧
    K.lookup f = some ⟨oc, od, .func (fnOf name qual (twoArgs "self" arg pa pb) [.Assign [.Attribute (.Name "self" p1) fl.nm p2] (.Name arg p3) p4] scope dV kV doc pm an cdv ct), osl⟩ ∧ codeIn K cdv qual = true ∧
    scope.names.lookup nSelf = some .local ∧ scope.names.lookup arg = some .local ∧ nSelf ≠ arg ∧ (arg == ("__debug__" : Str)) = false ∧ scope.isCoroutine = false ∧ scope.isGenerator = false ∧ scope.kind = .function ∧ (∀ x ∈ scope.names, x.2 ≠ .cell) ∧
    ∀ x v, bindArgs (fnOf name qual (twoArgs "self" arg pa pb) [.Assign [.Attribute (.Name "self" p1) fl.nm p2] (.Name arg p3) p4] scope dV kV doc pm an cdv ct) ⟨[.ref x, v], []⟩ = pure [(nSelf, .ref x), (arg, v)]
def IsInit (K : Frag) (C : Addr) : Prop :=
  ∃ (fI : Addr) (name qual : Str) (params : Arguments) (q : Nat → Pos) (scope : Scope) (dV kV doc pm cdv ct oc : Value) (an od : Option Addr) (osl : Array (Option Value)), findIn K (.ref C) "__init__" = some (some (.ref fI)) ∧ isFn K (.ref fI) = true ∧
    K.lookup fI = some ⟨oc, od, .func (fnOf name qual params (initBody q) scope dV kV doc pm an cdv ct), osl⟩ ∧ codeIn K cdv qual = true ∧ keepIn K (.ref C) = true ∧
    (∀ (s : Shared) (x : Addr), K.In s.heap → BindsTo s (fnOf name qual params (initBody q) scope dV kV doc pm an cdv ct) ⟨[.ref x], []⟩ [(nSelf, .ref x), (nSid, .none)]) ∧
    (∀ (s : Shared) (x : Addr) (v : Value), K.In s.heap → BindsTo s (fnOf name qual params (initBody q) scope dV kV doc pm an cdv ct) ⟨[.ref x, v], []⟩ [(nSelf, .ref x), (nSid, v)]) ∧
    scope.names.lookup nSelf = some .local ∧ scope.names.lookup nSid = some .local ∧ scope.isCoroutine = false ∧ scope.isGenerator = false ∧ scope.kind = .function ∧ ∀ x ∈ scope.names, x.2 ≠ .cell

theorem IsGetter.intro {f : Addr} {nm : Str} {fl : Fd} {name qual : Str} {scope : Scope} {dV kV doc pm cdv ct oc : Value} {an od : Option Addr} {osl : Array (Option Value)} {pa p1 p2 p3 : Pos}
    (k1 : findIn K (.ref C) nm = some (some (.ref f))) (k2 : isFn K (.ref f) = true) (k3 : keepIn K (.ref f) = true) (k4 : plainGet K C nm = true) (k5 : ∀ ks ts F, getL nm (srcEs ks ts F) = some none)
    (ho : K.lookup f = some ⟨oc, od, .func (fnOf name qual (oneArg "self" pa) [.Return (some (.Attribute (.Name "self" p1) fl.nm p2)) p3] scope dV kV doc pm an cdv ct), osl⟩) (hcd : codeIn K cdv qual = true)
    (h1 : scope.names.lookup nSelf = some .local) (h2 : scope.isCoroutine = false) (h3 : scope.isGenerator = false) (h4 : scope.kind = .function) (h5 : ∀ x ∈ scope.names, x.2 ≠ .cell)
    (hb : ∀ x, bindArgs (fnOf name qual (oneArg "self" pa) [.Return (some (.Attribute (.Name "self" p1) fl.nm p2)) p3] scope dV kV doc pm an cdv ct) ⟨[.ref x], []⟩ = pure [(nSelf, .ref x)]) : IsGetter K C nm fl :=
  ⟨_, _, _, _, _, _, _, _, _, _, _, _, _, _, _, _, _, _, ⟨k1, k2, k3, k4, k5⟩, ho, hcd, h1, h2, h3, h4, h5, hb⟩
theorem IsSetter.intro {f : Addr} {nm : Str} {fl : Fd} {name qual arg : Str} {scope : Scope} {dV kV doc pm cdv ct oc : Value} {an od : Option Addr} {osl : Array (Option Value)} {pa pb p1 p2 p3 p4 : Pos}
    (k1 : findIn K (.ref C) nm = some (some (.ref f))) (k2 : isFn K (.ref f) = true) (k3 : keepIn K (.ref f) = true) (k4 : plainGet K C nm = true) (k5 : ∀ ks ts F, getL nm (srcEs ks ts F) = some none)
    (ho : K.lookup f = some ⟨oc, od, .func (fnOf name qual (twoArgs "self" arg pa pb) [.Assign [.Attribute (.Name "self" p1) fl.nm p2] (.Name arg p3) p4] scope dV kV doc pm an cdv ct), osl⟩) (hcd : codeIn K cdv qual = true)
    (h1 : scope.names.lookup nSelf = some .local) (h1' : scope.names.lookup arg = some .local) (hne : nSelf ≠ arg) (hdb : (arg == ("__debug__" : Str)) = false) (h2 : scope.isCoroutine = false) (h3 : scope.isGenerator = false) (h4 : scope.kind = .function) (h5 : ∀ x ∈ scope.names, x.2 ≠ .cell)
    (hb : ∀ x v, bindArgs (fnOf name qual (twoArgs "self" arg pa pb) [.Assign [.Attribute (.Name "self" p1) fl.nm p2] (.Name arg p3) p4] scope dV kV doc pm an cdv ct) ⟨[.ref x, v], []⟩ = pure [(nSelf, .ref x), (arg, v)]) : IsSetter K C nm fl :=
  ⟨_, _, _, _, _, _, _, _, _, _, _, _, _, _, _, _, _, _, _, _, _, ⟨k1, k2, k3, k4, k5⟩, ho, hcd, h1, h1', hne, hdb, h2, h3, h4, h5, hb⟩
theorem IsInit.intro {fI : Addr} {name qual : Str} {params : Arguments} (q : Nat → Pos) {scope : Scope} {dV kV doc pm cdv ct oc : Value} {an od : Option Addr} {osl : Array (Option Value)}
    (k1 : findIn K (.ref C) "__init__" = some (some (.ref fI))) (k2 : isFn K (.ref fI) = true) (ho : K.lookup fI = some ⟨oc, od, .func (fnOf name qual params (initBody q) scope dV kV doc pm an cdv ct), osl⟩) (hcd : codeIn K cdv qual = true) (k3 : keepIn K (.ref C) = true)
    (b0 : ∀ (s : Shared) (x : Addr), K.In s.heap → BindsTo s (fnOf name qual params (initBody q) scope dV kV doc pm an cdv ct) ⟨[.ref x], []⟩ [(nSelf, .ref x), (nSid, .none)])
    (b1 : ∀ (s : Shared) (x : Addr) (v : Value), K.In s.heap → BindsTo s (fnOf name qual params (initBody q) scope dV kV doc pm an cdv ct) ⟨[.ref x, v], []⟩ [(nSelf, .ref x), (nSid, v)])
    (h1 : scope.names.lookup nSelf = some .local) (h1' : scope.names.lookup nSid = some .local) (h2 : scope.isCoroutine = false) (h3 : scope.isGenerator = false) (h4 : scope.kind = .function) (h5 : ∀ x ∈ scope.names, x.2 ≠ .cell) : IsInit K C :=
  ⟨_, _, _, _, _, _, _, _, _, _, _, _, _, _, _, _, k1, k2, ho, hcd, k3, b0, b1, h1, h1', h2, h3, h4, h5⟩

theorem r_getm {env' : Env} {x : Addr} {F : Flds} {nm : Str} {fl : Fd} {pos : Pos} {pl : Sem Bool} (g : IsGetter K C nm fl) (c : Cx K p loose mean mg mb A env h₀ L (d + 1)) (B : SrcCls K C) (S : St C s₀ h₀ L own s m H)
    (hx : H x = some (.src F)) (hv : handedIn (F.get fl) = true) (h : ∀ s', St C s₀ h₀ L own s' m H → Q (F.get fl) s') :
    wpAny (model prog w) A (getMethod (.ref x) nm pl) (fun fx s₂ => wpAny (model prog w) A (callWith pos fx.1 fx.2 (backTo pos (starEach [] env')) []) Q E s₂) E s := by
  obtain ⟨f, name, qual, scope, dV, kV, doc, pm, cdv, ct, oc, an, od, osl, pa, p1, p2, p3, M, ho, hcd, h1, h2, h3, h4, h5, hb⟩ := g
  obtain ⟨dx, ks, ts, I⟩ := S.inst hx
  refine method_inst S.fr c.X I M.get M.find M.fn (M.off _ _ _) (callWith_K0 (c.in S) M.keep ?_)
  exact getter c B S hx hv ho hcd h1 h2 h3 h4 h5 (hb _) h

def AtSet (C : Addr) (s₀ : Shared) (h₀ : Heap) (L : Addr) (own : List (Addr × Obj)) (x : Addr) (fl : Fd) (Q : Value → Shared → Prop) (v : Value) (s : Shared) : Prop :=
  ∃ m H F, St C s₀ h₀ L own s m H ∧ H x = some (.src F) ∧ ∀ s', St C s₀ h₀ L own s' m (put H x (.src (F.set fl v))) → Q .none s'
theorem r_setm {env' : Env} {x : Addr} {F : Flds} {nm : Str} {fl : Fd} {pos : Pos} {pl : Sem Bool} {e : Expr} (g : IsSetter K C nm fl) (c : Cx K p loose mean mg mb A env h₀ L (d + 1)) (B : SrcCls K C) (S : St C s₀ h₀ L own s m H)
    (hx : H x = some (.src F)) (h : wpAny (model prog w) A (eval e env') (AtSet C s₀ h₀ L own x fl Q) E s) (he : starEach (e :: []) env' = (false, eval e env') :: starEach [] env' := by rfl) :
    wpAny (model prog w) A (getMethod (.ref x) nm pl) (fun fx s₂ => wpAny (model prog w) A (callWith pos fx.1 fx.2 (backTo pos (starEach [e] env')) []) Q E s₂) E s := by
  obtain ⟨f, name, qual, arg, scope, dV, kV, doc, pm, cdv, ct, oc, an, od, osl, pa, pb, p1, p2, p3, p4, M, ho, hcd, h1, h1', hne, hdb, h2, h3, h4, h5, hb⟩ := g
  obtain ⟨dx, ks, ts, I⟩ := S.inst hx
  refine method_inst S.fr c.X I M.get M.find M.fn (M.off _ _ _) (callWith_K c.X M.keep (args_cons (wpAny_mono h (fun v s₁ ha => args_nil ?_) fun _ _ y => y) he) he)
  obtain ⟨m₁, H₁, F₁, S₁, hx₁, k⟩ := ha
  exact ⟨c.in S₁, setter c B S₁ hx₁ ho hcd h1 h1' hne hdb h2 h3 h4 h5 (hb _ _) k⟩

theorem r_new0 {env' : Env} (i : IsInit K C) (c : Cx K p loose mean mg mb A env h₀ L (d + 2)) (B : SrcCls K C) (S : St C s₀ h₀ L own s m H) {pos : Pos}
    (h : ∀ x s', H x = none → St C s₀ h₀ L own s' m (put H x (.src ⟨.none, .none, .none, .none, .none⟩)) → Q (.ref x) s') :
    wpAny (model prog w) A (callWith pos (.ref C) [] (backTo pos (starEach [] env')) []) Q E s := by
  obtain ⟨fI, name, qual, params, q, scope, dV, kV, doc, pm, cdv, ct, oc, an, od, osl, hi, hf, ho, hcd, hkp, hb0, hb1, h1, h1', h2, h3, h4, h5⟩ := i
  exact callWith_K0 (c.in S) hkp (new_src c B S hi hf ho hcd rfl (fun s x X => hb0 s x X) h1 h1' h2 h3 h4 h5 h)
def AtNew (C : Addr) (s₀ : Shared) (h₀ : Heap) (L : Addr) (own : List (Addr × Obj)) (Q : Value → Shared → Prop) (v : Value) (s : Shared) : Prop :=
  ∃ m H, St C s₀ h₀ L own s m H ∧ ∀ x s', H x = none → St C s₀ h₀ L own s' m (put H x (.src ⟨v, .none, .none, .none, .none⟩)) → Q (.ref x) s'
theorem r_new1 {env' : Env} (i : IsInit K C) (c : Cx K p loose mean mg mb A env h₀ L (d + 2)) (B : SrcCls K C) (_S : St C s₀ h₀ L own s m H) {pos : Pos} {e : Expr}
    (h : wpAny (model prog w) A (eval e env') (AtNew C s₀ h₀ L own Q) E s) (he : starEach (e :: []) env' = (false, eval e env') :: starEach [] env' := by rfl) :
    wpAny (model prog w) A (callWith pos (.ref C) [] (backTo pos (starEach [e] env')) []) Q E s := by
  obtain ⟨fI, name, qual, params, q, scope, dV, kV, doc, pm, cdv, ct, oc, an, od, osl, hi, hf, ho, hcd, hkp, hb0, hb1, h1, h1', h2, h3, h4, h5⟩ := i
  refine callWith_K c.X hkp (args_cons (wpAny_mono h (fun v s₁ ha => args_nil ?_) fun _ _ y => y) he) he
  obtain ⟨m₁, H₁, S₁, k⟩ := ha
  exact ⟨c.in S₁, new_src c B S₁ hi hf ho hcd rfl (fun s x X => hb1 s x v X) h1 h1' h2 h3 h4 h5 k⟩

/-! the call of a def of the text's -/
theorem r_callK {env' : Env} {f : Value} {pos : Pos} {e : Expr} {rest : List Expr} {first : List Value} (c : Cx K p loose mean mg mb A env h₀ L d) (_S : St C s₀ h₀ L own s m H) (hk : keepIn K f = true)
    (h : wpAny (model prog w) A (spliced (backTo pos (starEach (e :: rest) env'))) (fun vs s₁ => (∃ m H, St C s₀ h₀ L own s₁ m H) ∧ wpAny (model prog w) A (call f (first ++ vs)) Q E s₁) E s)
    (he : starEach (e :: rest) env' = (false, eval e env') :: starEach rest env' := by rfl) (hplain : (backTo pos (starEach rest env')).any (·.1) = false := by rfl) :
    wpAny (model prog w) A (callWith pos f first (backTo pos (starEach (e :: rest) env')) []) Q E s :=
  callWith_K c.X hk (wpAny_mono h (fun vs s₁ ha => ⟨let ⟨⟨_, _, S⟩, _⟩ := ha; c.in S, ha.2⟩) fun _ _ y => y) he hplain
end
structure Lib (K : Frag) (C : Addr) : Prop where
  B : SrcCls K C
  init : IsInit K C
  g0 : IsGetter K C "getSystemId" .sys
  g1 : IsGetter K C "getPublicId" .pub
  g2 : IsGetter K C "getEncoding" .enc
  g3 : IsGetter K C "getByteStream" .byt
  g4 : IsGetter K C "getCharacterStream" .chr
  s0 : IsSetter K C "setSystemId" .sys
  s1 : IsSetter K C "setPublicId" .pub
  s2 : IsSetter K C "setEncoding" .enc
  s3 : IsSetter K C "setByteStream" .byt
  s4 : IsSetter K C "setCharacterStream" .chr
  nm : nsIn K mainGlobals "InputSource" = some (some (.ref C))

/-! looking up in a heap that was changed -/
theorem put_new {H : AH} {a b : Addr} {o o' : AObj} (hc : H b = none) (e : H a = some o) : put H b o' a = some o := by
  rw [put_ne (fun z => by rw [z, hc] at e; cases e)]; exact e
theorem put_off {H : AH} {a b : Addr} {o o' : AObj} (hne : a ≠ b) (e : H a = some o) : put H b o' a = some o := (put_ne hne).trans e
theorem put_src_list {H : AH} {a b : Addr} {f : Flds} {vs : List Value} {o' : AObj} (hb : H b = some (.src f)) (e : H a = some (.list vs)) : put H b o' a = some (.list vs) := put_off (fun z => by rw [z, hb] at e; cases e) e
theorem put_list_src {H : AH} {a b : Addr} {f : Flds} {vs : List Value} {o' : AObj} (hb : H b = some (.list vs)) (e : H a = some (.src f)) : put H b o' a = some (.src f) := put_off (fun z => by rw [z, hb] at e; cases e) e
theorem put_raw_src {H : AH} {a b : Addr} {f : Flds} {ob : Obj} {o' : AObj} (hb : H b = some (.raw ob)) (e : H a = some (.src f)) : put H b o' a = some (.src f) := put_off (fun z => by rw [z, hb] at e; cases e) e
theorem put_src_raw {H : AH} {a b : Addr} {f : Flds} {ob : Obj} {o' : AObj} (hb : H b = some (.src f)) (e : H a = some (.raw ob)) : put H b o' a = some (.raw ob) := put_off (fun z => by rw [z, hb] at e; cases e) e
theorem put_list_raw {H : AH} {a b : Addr} {vs : List Value} {ob : Obj} {o' : AObj} (hb : H b = some (.list vs)) (e : H a = some (.raw ob)) : put H b o' a = some (.raw ob) := put_off (fun z => by rw [z, hb] at e; cases e) e
theorem put_raw_list {H : AH} {a b : Addr} {vs : List Value} {ob : Obj} {o' : AObj} (hb : H b = some (.raw ob)) (e : H a = some (.list vs)) : put H b o' a = some (.list vs) := put_off (fun z => by rw [z, hb] at e; cases e) e
end Mine

end
section
open PySem PySem.W PySem.Calls PyProof.Rows PySem.Spec
set_option Elab.async false
set_option maxRecDepth 100000
namespace Mine

section
variable {C : Addr} {h₀ : Heap} {L : Addr} {own P P' : List (Addr × Obj)} {h h' : Heap} {H : AH} {δ : Addr → Addr}

/-- what is held changes -/
theorem Rep.reheld (R : Rep C h₀ L (P ++ own) h H δ) (k : ∀ b o, (∀ p ∈ P, p.1 ≠ b) → b ≠ L → h₀.get? b = none → h.get? b = some o → h'.get? b = some o)
    (hP : ∀ p ∈ P', h'.get? p.1 = some p.2 ∧ ∃ q ∈ P, q.1 = p.1) (hd : ∀ p ∈ P, ∀ q ∈ own, p.1 ≠ q.1) : Rep C h₀ L (P' ++ own) h' H δ where
  real := fun a o e => (R.real a o e).keep fun b ob hb q => by
    rcases hb with rfl | ⟨⟨f, rfl⟩, rfl⟩
    · exact k _ _ (fun p hp z => by have := R.ownH p (List.mem_append_left _ hp); rw [z, e] at this; cases this) (R.new _ _ e).1 (R.new _ _ e).2 q
    · exact k _ _ (fun p hp z => R.ownd p (List.mem_append_left _ hp) _ _ e z.symm) (R.dnew _ _ e).1 (R.dnew _ _ e).2 q
  new := R.new
  dnew := R.dnew
  doff := R.doff
  dinj := R.dinj
  news := fun p hp => by
    rcases List.mem_append.mp hp with hp | hp
    · obtain ⟨e, q, hq, z⟩ := hP p hp
      have := R.news q (List.mem_append_left _ hq)
      exact ⟨e, z ▸ this.2.1, z ▸ this.2.2⟩
    · have := R.news p (List.mem_append_right _ hp)
      exact ⟨k _ _ (fun q hq => hd q hq p hp) this.2.1 this.2.2 this.1, this.2⟩
  ownH := fun p hp => by
    rcases List.mem_append.mp hp with hp | hp
    · obtain ⟨e, q, hq, z⟩ := hP p hp; rw [← z]; exact R.ownH q (List.mem_append_left _ hq)
    · exact R.ownH p (List.mem_append_right _ hp)
  ownd := fun p hp => by
    rcases List.mem_append.mp hp with hp | hp
    · obtain ⟨e, q, hq, z⟩ := hP p hp; rw [← z]; exact R.ownd q (List.mem_append_left _ hq)
    · exact R.ownd p (List.mem_append_right _ hp)
end

section
variable {K : Frag} {p : Program} {loose : List Str} {mean : ExcName → Option Value} {mg mb : Str → Option Value} {A : Around} {env : Env} {h₀ : Heap} {L : Addr} {d : Nat}
variable {prog : Program} {w : World} {C : Addr} {s₀ s : Shared} {own P : List (Addr × Obj)} {m : Str → Option Value} {H : AH} {R : Result → Shared → Prop}

theorem St.dropAll : ∀ {P : List (Addr × Obj)}, St C s₀ h₀ L (P ++ own) s m H → St C s₀ h₀ L own s m H
  | [], S => S
  | _ :: _, S => dropAll (P := _) S.drop

theorem fm_congr {α β : Type} {f g : α → Option β} : ∀ {l : List α}, (∀ x ∈ l, f x = g x) → l.filterMap f = l.filterMap g
  | [], _ => rfl
  | a :: r, h => by rw [List.filterMap_cons, List.filterMap_cons, h a (.head _), fm_congr fun x hx => h x (.tail _ hx)]
/-- the turn's end -/
def Turn (C : Addr) (s₀ : Shared) (h₀ : Heap) (L : Addr) (own : List (Addr × Obj)) (J : (Str → Option Value) → AH → Prop) (R : Result → Shared → Prop) (f : Flow) (s : Shared) : Prop :=
  match f with
  | .ret v => R (.ok (.ret v)) s
  | .brk => R (.ok .next) s
  | _ => ∃ m H, St C s₀ h₀ L own s m H ∧ J m H

/-- the walk goes on: what it holds is held anew -/
theorem St.rehold {fp wr : List Addr} {h' : Heap} {tk : Nat} {m₂ : Str → Option Value} (S : St C s₀ h₀ L (P ++ own) s m H) (hL : L ∉ fp) (hsub : ∀ b ∈ wr, b ∈ fp) (hwr : ∀ b ∈ wr, h₀.get? b = none)
    (hPf : ∀ q ∈ P, q.1 ∈ fp) (hP : ∀ b ∈ fp, h₀.get? b = none → ∃ o, (b, o) ∈ P) (hd : ∀ b ∈ fp, ∀ q ∈ own, b ≠ q.1)
    (k : ∀ b o, b ∉ wr → b ≠ L → s.heap.get? b = some o → h'.get? b = some o) (hn : h'.Ns L m₂) (fp' : List Addr) (hfp : ∀ b ∈ fp', b ∈ fp) : St C s₀ h₀ L (ownOf h₀ fp' h' ++ own) { s with heap := h', toks := tk } m₂ H := by
  obtain ⟨δ, R₁⟩ := S.rep
  refine ⟨⟨hn, fun b o e => k b o (fun z => by rw [hwr b z] at e; cases e) (Nat.ne_of_lt (Nat.lt_of_lt_of_le (Heap.lt_size e) S.fr.above)) (S.fr.keep b o e), S.fr.above⟩,
    ⟨δ, R₁.reheld (fun b o hb hbL h0 e => k b o (fun z => ?_) hbL e) (fun q hq => ?_) fun q hq r hr => hd _ (hPf q hq) r hr⟩, S.gens, S.drawn, S.os⟩
  · obtain ⟨o', ho'⟩ := hP b (hsub _ z) h0
    exact hb _ ho' rfl
  · have hnw := news_ownOf (L := L) (fun z => hL (hfp _ z)) q hq
    obtain ⟨o', ho'⟩ := hP q.1 (hfp _ (ownOf_sub q hq)) hnw.2.2
    exact ⟨hnw.1, _, ho', rfl⟩

theorem code_for1 {x : Str} {px : Pos} {body : List Stmt} {I : Addr} {fp wr : List Addr} {n : Nat} {Pv : Nat → Value → Prop} {Sw : Nat → Heap → Prop}
    (W : Walks prog w A I fp wr n Pv Sw) (hex : ∀ i h, Sw i h → ∀ b ∈ fp, ∃ o, h.get? b = some o) (c : Cx K p loose mean mg mb A env h₀ L d) (hx : env.kindOf x = some .local)
    (S : St C s₀ h₀ L (P ++ own) s m H) (hst : Sw 0 s.heap) (hL : L ∉ fp) (hwr : ∀ b ∈ wr, h₀.get? b = none) (hP : ∀ b ∈ fp, h₀.get? b = none → ∃ o, (b, o) ∈ P) (hPf : ∀ p ∈ P, p.1 ∈ fp) (hd : ∀ b ∈ fp, ∀ q ∈ own, b ≠ q.1)
    (J : Nat → (Str → Option Value) → AH → Prop) (h0 : J 0 m H)
    (step : ∀ i v m₁ H₁ P₁ s₁, i < n → Pv i v → J i m₁ H₁ → St C s₀ h₀ L (P₁ ++ own) s₁ (upd m₁ x v) H₁ → wpAny (model prog w) A (execs body env) (Turn C s₀ h₀ L (P₁ ++ own) (J (i + 1)) R) NoE s₁)
    (done : ∀ m₁ H₁ s₁, J n m₁ H₁ → St C s₀ h₀ L (ownOf h₀ (fp.filter (· ∉ wr)) s.heap ++ own) s₁ m₁ H₁ → R (.ok .next) s₁) :
    codeAny (model prog w) A (.forLoop (.Name x px) (.ref I) body [] env) R s := by
  have hLw : L ∉ wr := fun z => hL (W.sub _ z)
  have hpk : (env.scope.kind == .class || (env.scope.kind == .module && env.locals != env.globals)) = false := by rw [c.kind]; rfl
  refine codeAny_forLoop (fun k s' => ∃ i m' H' P', St C s₀ h₀ L (P' ++ own) s' m' H' ∧ Sw i s'.heap ∧ (∀ q ∈ P', q.1 ∈ fp) ∧ (∀ b ∈ fp, h₀.get? b = none → ∃ o, (b, o) ∈ P') ∧ J i m' H' ∧ i ≤ n ∧ k = n + 1 - i ∧
      (∀ b o, b ∈ fp → b ∉ wr → h₀.get? b = none → s.heap.get? b = some o → s'.heap.get? b = some o)) ?_ (n + 1)
    ⟨0, m, H, P, S, hst, hPf, hP, h0, Nat.zero_le _, rfl, fun _ _ _ _ _ e => e⟩
  rintro k s' ⟨i, m', H', P', S', hst', hPf', hP', hJ, hi, rfl, hsame⟩
  by_cases hlt : i < n
  · refine W.item i _ _ _ hlt hst' fun v h₁ tk₁ hPv hst₁ hk₁ => ?_
    refine wpAny_assign_Name (wpAny_storeName_local hx (m := m') (c.loc ▸ S'.fr.ns.at' fun o e => hk₁ _ o hLw e) (fun h₂ hn₂ hs₂ => ?_) hpk)
    rw [c.loc] at hn₂ hs₂
    have hst₂ : Sw (i + 1) h₂ := W.frame _ _ _ hst₁ fun b hb o e => (hs₂.2 b fun q => hL (q ▸ hb)).trans e
    have S₂ := S'.rehold (fp := fp) (wr := wr) (h' := h₂) (tk := tk₁ + 1) hL W.sub hwr hPf' hP' hd (fun b o hb hbL e => (hs₂.2 b hbL).trans (hk₁ b o hb e)) hn₂ fp (fun _ z => z)
    have hfull : ∀ b ∈ fp, h₀.get? b = none → ∃ o, (b, o) ∈ ownOf h₀ fp h₂ := fun b hb h0 => by
      obtain ⟨o, ho⟩ := hex _ _ hst₂ b hb
      exact ⟨o, mem_ownOf hb h0 ho⟩
    refine wpAny_mono (step i v m' H' _ _ hlt hPv hJ S₂) (fun f s₃ h₃ => ?_) fun _ _ x => x.elim
    have fin : (∃ m H, St C s₀ h₀ L (ownOf h₀ fp h₂ ++ own) s₃ m H ∧ J (i + 1) m H) → ∃ k, k < n + 1 - i ∧ ∃ i m' H' P', St C s₀ h₀ L (P' ++ own) s₃ m' H' ∧ Sw i s₃.heap ∧ (∀ q ∈ P', q.1 ∈ fp) ∧ (∀ b ∈ fp, h₀.get? b = none → ∃ o, (b, o) ∈ P') ∧ J i m' H' ∧ i ≤ n ∧ k = n + 1 - i ∧
        (∀ b o, b ∈ fp → b ∉ wr → h₀.get? b = none → s.heap.get? b = some o → s₃.heap.get? b = some o) := by
      rintro ⟨m₃, H₃, S₃, hJ₃⟩
      obtain ⟨δ₃, R₃⟩ := S₃.rep
      have kept : ∀ b ∈ fp, ∀ o, h₂.get? b = some o → s₃.heap.get? b = some o := fun b hb o e => by
        cases hn : h₀.get? b with
        | some o₀ =>
          have : o₀ = o := by have := S₂.fr.keep b o₀ hn; rw [show h₂.get? b = some o from e] at this; exact (Option.some.inj this).symm
          exact this ▸ S₃.fr.keep b o₀ hn
        | none => exact (R₃.news _ (List.mem_append_left _ (mem_ownOf hb hn e))).1
      refine ⟨n + 1 - (i + 1), by omega, i + 1, m₃, H₃, _, S₃, W.frame _ _ _ hst₂ kept, ownOf_sub, hfull, hJ₃, hlt, rfl, fun b o hb hw hn e => kept b hb o ?_⟩
      exact (hs₂.2 b fun q => hL (q ▸ hb)).trans (hk₁ b o hw (hsame b o hb hw hn e))
    cases f with
    | ret v => exact h₃
    | brk => exact h₃
    | next => exact fin h₃
    | cont => exact fin h₃
  · have hin : i = n := by omega
    subst hin
    refine W.done _ _ _ hst' fun h₁ tk₁ hk₁ => wpAny_execs_nil ?_
    have S₁ := S'.rehold (fp := fp) (wr := wr) (h' := h₁) (tk := tk₁) hL W.sub hwr hPf' hP' hd (fun b o hb _ e => hk₁ b o hb e) (S'.fr.ns.at' fun o e => hk₁ _ o hLw e) (fp.filter (· ∉ wr)) (fun _ z => (List.mem_filter.mp z).1)
    have e : ownOf h₀ (fp.filter (· ∉ wr)) h₁ = ownOf h₀ (fp.filter (· ∉ wr)) s.heap := by
      unfold PyProof.Rows.ownOf
      refine fm_congr fun b hb => ?_
      obtain ⟨hb1, hb2⟩ := List.mem_filter.mp hb
      have hbw : b ∉ wr := by simpa using hb2
      cases hn : h₀.get? b with
      | some o => rfl
      | none =>
        obtain ⟨o, ho⟩ := hex _ _ hst b hb1
        have := hk₁ b o hbw (hsame b o hb1 hbw hn ho)
        simp only [this, ho]
    rw [e] at S₁
    exact done _ _ _ hJ S₁

theorem code_for2 {xi xc : Str} {pk pv pt : Pos} {x1 : Nat} {body : List Stmt} {I : Addr} {fp wr : List Addr} {n : Nat} {Pt : Nat → Array Value → Prop} {Sw : Nat → Heap → Prop} {Mid : Nat → Addr → Heap → Prop}
    (W : WalksU prog w A I fp wr n Pt Sw Mid) (hex : ∀ i h, Sw i h → ∀ b ∈ fp, ∃ o, h.get? b = some o) (P2 : Nat → Value → Value → Prop) (h2 : ∀ i vals, Pt i vals → ∃ v0 v1, vals = #[v0, v1] ∧ P2 i v0 v1)
    (c : Cx K p loose mean mg mb A env h₀ L d) (hxi : env.kindOf xi = some .local) (hxc : env.kindOf xc = some .local)
    (S : St C s₀ h₀ L (P ++ own) s m H) (hst : Sw 0 s.heap) (hL : L ∉ fp) (hwr : ∀ b ∈ wr, h₀.get? b = none) (hP : ∀ b ∈ fp, h₀.get? b = none → ∃ o, (b, o) ∈ P) (hPf : ∀ p ∈ P, p.1 ∈ fp) (hd : ∀ b ∈ fp, ∀ q ∈ own, b ≠ q.1)
    (J : Nat → (Str → Option Value) → AH → Prop) (h0 : J 0 m H)
    (step : ∀ i v0 v1 m₁ H₁ P₁ s₁, i < n → P2 i v0 v1 → J i m₁ H₁ → St C s₀ h₀ L (P₁ ++ own) s₁ (upd (upd m₁ xi v0) xc v1) H₁ → wpAny (model prog w) A (execs body env) (Turn C s₀ h₀ L (P₁ ++ own) (J (i + 1)) R) NoE s₁)
    (done : ∀ m₁ H₁ s₁, J n m₁ H₁ → St C s₀ h₀ L (ownOf h₀ (fp.filter (· ∉ wr)) s.heap ++ own) s₁ m₁ H₁ → R (.ok .next) s₁) :
    codeAny (model prog w) A (.forLoop (.Tuple [.Name xi pk, .Name xc pv] x1 pt) (.ref I) body [] env) R s := by
  have hLw : L ∉ wr := fun z => hL (W.sub _ z)
  have hpk : (env.scope.kind == .class || (env.scope.kind == .module && env.locals != env.globals)) = false := by rw [c.kind]; rfl
  refine codeAny_forLoop_any (fun k s' => ∃ i m' H' P', St C s₀ h₀ L (P' ++ own) s' m' H' ∧ Sw i s'.heap ∧ (∀ q ∈ P', q.1 ∈ fp) ∧ (∀ b ∈ fp, h₀.get? b = none → ∃ o, (b, o) ∈ P') ∧ J i m' H' ∧ i ≤ n ∧ k = n + 1 - i ∧
      (∀ b o, b ∈ fp → b ∉ wr → h₀.get? b = none → s.heap.get? b = some o → s'.heap.get? b = some o)) ?_ (n + 1)
    ⟨0, m, H, P, S, hst, hPf, hP, h0, Nat.zero_le _, rfl, fun _ _ _ _ _ e => e⟩
  rintro k s' ⟨i, m', H', P', S', hst', hPf', hP', hJ, hi, rfl, hsame⟩
  by_cases hlt : i < n
  · refine W.item i _ _ _ hlt hst' fun T vals h₁ tk₁ hPt hT hMid hk₁ => ?_
    obtain ⟨v0, v1, rfl, hP2⟩ := h2 i vals hPt
    refine W.go _ x1 pt i T _ _ _ hMid fun h₂ hst₂ hk₂ => ?_
    have ht₂ : h₂.IsTuple T #[v0, v1] := hT.at fun o e => hk₂ T o (W.apart i T h₁ hMid) e
    refine wpAny_assign_Tuple c.handled ht₂ rfl rfl fun h₃ hx₃ => ?_
    replace hx₃ : Heap.ExtBut h₂.objs.size h₂ h₃ := hx₃
    have up₃ : ∀ b o, h₂.get? b = some o → h₃.get? b = some o := fun b o x => hx₃ b o (Nat.ne_of_lt (Heap.lt_size x)) x
    have hn₃ : h₃.Ns L m' := S'.fr.ns.at' fun o e => up₃ _ o (hk₂ _ o hLw (hk₁ _ o hLw e))
    show wpAny _ A (do holding [v1] (assign (.Name xi pk) env v0); do holding [] (assign (.Name xc pv) env v1); pure ()) _ _ _
    refine wpAny_bind (wpAny_holding (wpAny_assign_Name (wpAny_storeName_local hxi (c.loc ▸ hn₃) (fun h₄ hn₄ hs₄ => ?_) hpk)))
    refine wpAny_bind (wpAny_holding (wpAny_assign_Name (wpAny_storeName_local hxc hn₄ (fun h₅ hn₅ hs₅ => wpAny_pure ?_) hpk)))
    replace hs₄ : Heap.SameBut env.locals h₃ h₄ := hs₄
    replace hs₅ : Heap.SameBut env.locals h₄ h₅ := hs₅
    rw [c.loc] at hn₅ hs₄ hs₅
    have up₅ : ∀ b o, b ≠ L → h₂.get? b = some o → h₅.get? b = some o := fun b o hb e => (hs₅.2 b hb).trans ((hs₄.2 b hb).trans (up₃ b o e))
    have hst₅ : Sw (i + 1) h₅ := W.frame _ _ _ hst₂ fun b hb o e => up₅ b o (fun q => hL (q ▸ hb)) e
    have S₂ := S'.rehold (fp := fp) (wr := wr) (h' := h₅) (tk := tk₁ + 1 + 1) (m₂ := upd (upd m' xi v0) xc v1) hL W.sub hwr hPf' hP' hd (fun b o hb hbL e => up₅ b o hbL (hk₂ b o hb (hk₁ b o hb e))) hn₅ fp (fun _ z => z)
    have hfull : ∀ b ∈ fp, h₀.get? b = none → ∃ o, (b, o) ∈ ownOf h₀ fp h₅ := fun b hb h0 => by
      obtain ⟨o, ho⟩ := hex _ _ hst₅ b hb
      exact ⟨o, mem_ownOf hb h0 ho⟩
    refine wpAny_mono (step i v0 v1 m' H' _ _ hlt hP2 hJ S₂) (fun f s₃ h₃ => ?_) fun _ _ x => x.elim
    have fin : (∃ m H, St C s₀ h₀ L (ownOf h₀ fp h₅ ++ own) s₃ m H ∧ J (i + 1) m H) → ∃ k, k < n + 1 - i ∧ ∃ i m' H' P', St C s₀ h₀ L (P' ++ own) s₃ m' H' ∧ Sw i s₃.heap ∧ (∀ q ∈ P', q.1 ∈ fp) ∧ (∀ b ∈ fp, h₀.get? b = none → ∃ o, (b, o) ∈ P') ∧ J i m' H' ∧ i ≤ n ∧ k = n + 1 - i ∧
        (∀ b o, b ∈ fp → b ∉ wr → h₀.get? b = none → s.heap.get? b = some o → s₃.heap.get? b = some o) := by
      rintro ⟨m₃, H₃, S₃, hJ₃⟩
      obtain ⟨δ₃, R₃⟩ := S₃.rep
      have kept : ∀ b ∈ fp, ∀ o, h₅.get? b = some o → s₃.heap.get? b = some o := fun b hb o e => by
        cases hn : h₀.get? b with
        | some o₀ =>
          have : o₀ = o := by have := S₂.fr.keep b o₀ hn; rw [show h₅.get? b = some o from e] at this; exact (Option.some.inj this).symm
          exact this ▸ S₃.fr.keep b o₀ hn
        | none => exact (R₃.news _ (List.mem_append_left _ (mem_ownOf hb hn e))).1
      refine ⟨n + 1 - (i + 1), by omega, i + 1, m₃, H₃, _, S₃, W.frame _ _ _ hst₅ kept, ownOf_sub, hfull, hJ₃, hlt, rfl, fun b o hb hw hn e => kept b hb o ?_⟩
      exact up₅ b o (fun q => hL (q ▸ hb)) (hk₂ b o hw (hk₁ b o hw (hsame b o hb hw hn e)))
    cases f with
    | ret v => exact h₃
    | brk => exact h₃
    | next => exact fin h₃
    | cont => exact fin h₃
  · have hin : i = n := by omega
    subst hin
    refine W.done _ _ _ hst' fun h₁ tk₁ hk₁ => wpAny_execs_nil ?_
    have S₁ := S'.rehold (fp := fp) (wr := wr) (h' := h₁) (tk := tk₁) hL W.sub hwr hPf' hP' hd (fun b o hb _ e => hk₁ b o hb e) (S'.fr.ns.at' fun o e => hk₁ _ o hLw e) (fp.filter (· ∉ wr)) (fun _ z => (List.mem_filter.mp z).1)
    have e : ownOf h₀ (fp.filter (· ∉ wr)) h₁ = ownOf h₀ (fp.filter (· ∉ wr)) s.heap := by
      unfold PyProof.Rows.ownOf
      refine fm_congr fun b hb => ?_
      obtain ⟨hb1, hb2⟩ := List.mem_filter.mp hb
      have hbw : b ∉ wr := by simpa using hb2
      cases hn : h₀.get? b with
      | some o => rfl
      | none =>
        obtain ⟨o, ho⟩ := hex _ _ hst b hb1
        have := hk₁ b o hbw (hsame b o hb1 hbw hn ho)
        simp only [this, ho]
    rw [e] at S₁
    exact done _ _ _ hJ S₁
end
end Mine

end
section
open PySem PySem.W PySem.Calls PyProof.Rows PySem.Spec
set_option Elab.async false
set_option maxRecDepth 100000
namespace Mine

section
variable {K : Frag} {p : Program} {loose : List Str} {mean : ExcName → Option Value} {mg mb : Str → Option Value} {A : Around} {env : Env} {h₀ : Heap} {L : Addr} {d : Nat}
variable {prog : Program} {w : World} {C : Addr} {s₀ s : Shared} {own P : List (Addr × Obj)} {m : Str → Option Value} {H : AH}

/-- what was held comes back as an entry -/
theorem St.unhold {a : Addr} {ob : Obj} {o : AObj} (S : St C s₀ h₀ L ((a, ob) :: own) s m H) (hns : ∀ f, o ≠ .src f) (hr : ∀ (h : Heap) d, h.get? a = some ob → Real C h d a o) (hd : ∀ q ∈ own, q.1 ≠ a) :
    H a = none ∧ St C s₀ h₀ L own s m (put H a o) := by
  obtain ⟨δ, R⟩ := S.rep
  have hn := R.news _ (.head _)
  have h1 : H a = none := R.ownH (a, ob) (.head _)
  exact ⟨h1, S.fr, ⟨δ, R.drop.put hns (fun f q => by rw [h1] at q; cases q) (fun _ _ _ _ _ e => e) (hr _ _ hn.1) hn.2.1 hn.2.2 hd fun b f hb => R.ownd _ (.head _) b f hb⟩, S.gens, S.drawn, S.os⟩
theorem St.own_ne (S : St C s₀ h₀ L own s m H) {a : Addr} {o : AObj} (e : H a = some o) : ∀ q ∈ own, q.1 ≠ a := fun q hq z => by
  obtain ⟨δ, R⟩ := S.rep
  have := R.ownH q hq; rw [z, e] at this; cases this
theorem St.own_new (S : St C s₀ h₀ L own s m H) {a : Addr} (e : s.heap.get? a = none) : ∀ q ∈ own, q.1 ≠ a := fun q hq z => by
  obtain ⟨δ, R⟩ := S.rep
  have := (R.news q hq).1; rw [z, e] at this; cases this

def TurnQ (C : Addr) (s₀ : Shared) (h₀ : Heap) (L : Addr) (own : List (Addr × Obj)) (J : (Str → Option Value) → AH → Prop) (Q : Flow → Shared → Prop) (f : Flow) (s : Shared) : Prop :=
  match f with
  | .ret v => Q (.ret v) s
  | .brk => Q .next s
  | _ => ∃ m H, St C s₀ h₀ L own s m H ∧ J m H

/-- a loop over a list -/
def ForL (prog : Program) (w : World) (A : Around) (C : Addr) (s₀ : Shared) (h₀ : Heap) (L : Addr) (env : Env) (x : Str) (body : List Stmt) (Q : Flow → Shared → Prop) (xv : Value) (s : Shared) : Prop :=
  ∃ (l : Addr) (vs : List Value) (own : List (Addr × Obj)) (m : Str → Option Value) (H : AH) (J : Nat → (Str → Option Value) → AH → Prop), xv = .ref l ∧ St C s₀ h₀ L own s m H ∧ H l = some (.list vs) ∧ J 0 m (del H l) ∧
    (∀ i v m₁ H₁ own₁ s₁, vs[i]? = some v → J i m₁ H₁ → St C s₀ h₀ L own₁ s₁ (upd m₁ x v) H₁ → wpAny (model prog w) A (execs body env) (TurnQ C s₀ h₀ L own₁ (J (i + 1)) Q) NoE s₁) ∧
    ∀ m₁ H₁ s₁, J vs.length m₁ H₁ → H₁ l = none → St C s₀ h₀ L own s₁ m₁ (put H₁ l (.list vs)) → Q .next s₁
theorem r_for_list {x : Str} {px pos : Pos} {iter : Expr} {body : List Stmt} {Q : Flow → Shared → Prop} (c : Cx K p loose mean mg mb A env h₀ L d) (_S : St C s₀ h₀ L own s m H)
    (h : wpAny (model prog w) A (eval iter env) (ForL prog w A C s₀ h₀ L env x body Q) NoE s) (hx : env.kindOf x = some .local) (hs : ∀ x, foldedSetIterable iter env x = pure x) :
    wpAny (model prog w) A (exec (.For (.Name x px) iter body [] pos) env) Q NoE s := by
  refine wpAny_For (wpAny_mono h (fun xv s₁ hf => ?_) fun _ _ y => y) hs
  obtain ⟨l, vs, own, m, H, J, rfl, S, hl, h0, step, done⟩ := hf
  refine wpAny_pyIter_list (S.isList hl) ?_
  obtain ⟨hi, S₁⟩ := S.pushed (o := { cls := .type "list_iterator", data := .fields #[.ref l, .int 0 0] }) (ao := .raw _) (tk := s₁.toks) (fun _ x => by cases x) rfl fun h d e => e
  have hlI : l ≠ s₁.heap.objs.size := fun z => by rw [← z, hl] at hi; cases hi
  obtain ⟨ol, hol, S₂⟩ := S₁.hold (a := l) (o := .list vs) (put_off hlI hl) (fun _ x => by cases x)
  have hI2 : del (put H s₁.heap.objs.size (.raw { cls := .type "list_iterator", data := .fields #[.ref l, .int 0 0] })) l s₁.heap.objs.size = some (.raw { cls := .type "list_iterator", data := .fields #[.ref l, .int 0 0] }) := (del_ne hlI.symm).trans put_same
  obtain ⟨oi, hoi, S₃⟩ := S₂.hold hI2 (fun _ x => by cases x)
  have eH : del (del (put H s₁.heap.objs.size (.raw { cls := .type "list_iterator", data := .fields #[.ref l, .int 0 0] })) l) s₁.heap.objs.size = del H l := by
    funext b
    unfold del put
    by_cases z : b = s₁.heap.objs.size
    · simp only [z, if_true, if_neg hlI.symm, hi]
    · simp only [if_neg z]
  rw [eH] at S₃
  have hL1 := S.ne_L hl
  have hnew := S.at_new
  have W := Walks.list (prog := prog) (w := w) (A := A) c.handled s₁.heap.objs.size l hlI vs.toArray
  have hIget : (s₁.heap.push { cls := .type "list_iterator", data := .fields #[.ref l, .int 0 0] }).IsListIter s₁.heap.objs.size l 0 := ⟨_, Heap.get?_push_size _ rfl, rfl, rfl⟩
  have hlget : (s₁.heap.push { cls := .type "list_iterator", data := .fields #[.ref l, .int 0 0] }).IsList l vs.toArray := (S.isList hl).push _
  obtain ⟨nn, hln⟩ := S.list hl
  have hol' : ol = listObj vs nn := by
    have : (s₁.heap.push { cls := .type "list_iterator", data := .fields #[.ref l, .int 0 0] }).get? l = some ol := hol
    rw [Heap.get?_push_of_some _ hln] at this; exact (Option.some.inj this).symm
  refine code_for1 (P := [(s₁.heap.objs.size, oi), (l, ol)]) (own := own) W (fun i h hw b hb => ?_) c hx S₃ ⟨hIget, hlget⟩ (fun z => ?_) (fun b hb => ?_) (fun b hb _ => ?_) (fun q hq => ?_) (fun b hb q hq => ?_) J h0 (fun i v m₁ H₁ P₁ s₂ hin hv hJ S₄ => ?_) fun m₁ H₁ s₂ hJ S₄ => ?_
  · rcases List.mem_cons.mp hb with rfl | hb
    · obtain ⟨⟨o, ho, _⟩, _⟩ := hw; exact ⟨o, ho⟩
    · rcases List.mem_singleton.mp hb with rfl; obtain ⟨_, ⟨o, ho, _⟩⟩ := hw; exact ⟨o, ho⟩
  · rcases List.mem_cons.mp z with z | z
    · exact hnew.1 z.symm
    · exact hL1.1 (List.mem_singleton.mp z).symm
  · rcases List.mem_singleton.mp hb with rfl; exact hnew.2.1
  · rcases List.mem_cons.mp hb with rfl | hb
    · exact ⟨oi, .head _⟩
    · rcases List.mem_singleton.mp hb with rfl; exact ⟨ol, .tail _ (.head _)⟩
  · rcases List.mem_cons.mp hq with rfl | hq
    · exact .head _
    · rcases List.mem_singleton.mp hq with rfl; exact .tail _ (.head _)
  · rcases List.mem_cons.mp hb with rfl | hb
    · exact fun z => S.own_new hnew.2.2 q hq z.symm
    · rcases List.mem_singleton.mp hb with rfl; exact fun z => S.own_ne hl q hq z.symm
  · exact wpAny_mono (step i v m₁ H₁ _ s₂ (by simpa using hv) hJ S₄) (fun f s₅ h₅ => by cases f <;> exact h₅) fun _ _ y => y
  · have hJ' : J vs.length m₁ H₁ := by simpa using hJ
    have e1 : ([s₁.heap.objs.size, l] : List Addr).filter (· ∉ [s₁.heap.objs.size]) = [l] := by simp [hlI]
    have hln' : (s₁.heap.push { cls := .type "list_iterator", data := .fields #[.ref l, .int 0 0] }).get? l = some (listObj vs nn) := Heap.get?_push_of_some _ hln
    have e2 : PyProof.Rows.ownOf h₀ [l] (s₁.heap.push { cls := .type "list_iterator", data := .fields #[.ref l, .int 0 0] }) = [(l, listObj vs nn)] := by
      unfold PyProof.Rows.ownOf
      simp only [List.filterMap_cons, List.filterMap_nil, hL1.2, hln', Option.isNone_none, if_true, Option.map_some]
    rw [e1] at S₄
    have S₄' : St C s₀ h₀ L (PyProof.Rows.ownOf h₀ [l] (s₁.heap.push { cls := .type "list_iterator", data := .fields #[.ref l, .int 0 0] }) ++ own) s₂ m₁ H₁ := S₄
    rw [e2] at S₄'
    obtain ⟨z1, z2⟩ := S₄'.unhold (o := .list vs) (fun _ x => by cases x) (fun h d e => ⟨nn, e⟩) (S.own_ne hl)
    exact done m₁ H₁ s₂ hJ' z1 z2

/-- enumerate of a list -/
abbrev enumObj (it : Addr) : Obj := { cls := .type "enumerate", dict := none, data := .fields #[.none, .bool false, .ref it, rawInt 0, .none, .none], slots := #[] }
theorem r_enum {l : Addr} {vs : List Value} {Q : Value → Shared → Prop} {E : Value → Shared → Prop} (S : St C s₀ h₀ L own s m H) (hl : H l = some (.list vs))
    (h : ∀ e it ob s', H it = none → H e = none → e ≠ it → s'.heap.IsListIter it l 0 → St C s₀ h₀ L own s' m (put (put H it (.raw ob)) e (.raw (enumObj it))) → Q (.ref e) s') : wpAny (model prog w) A (call (.type "enumerate") [.ref l]) Q E s := by
  obtain ⟨n, hn⟩ := S.list hl
  refine call_enumerate_1 hn fun h' he hit hsz hk => ?_
  obtain ⟨oi, hoi, hic, hid⟩ := id hit
  have hnew := S.at_new
  have hnew1 : s.heap.get? (s.heap.objs.size + 1) = none := by
    cases q : s.heap.get? (s.heap.objs.size + 1) with
    | none => rfl
    | some o => exact absurd (Heap.lt_size q) (Nat.not_lt.mpr (Nat.le_succ _))
  have hnewL1 : s.heap.objs.size + 1 ≠ L := fun z => absurd S.fr.ns.lt (by rw [← z]; exact Nat.not_lt.mpr (Nat.le_succ _))
  have hnew01 : h₀.get? (s.heap.objs.size + 1) = none := by
    cases q : h₀.get? (s.heap.objs.size + 1) with
    | none => rfl
    | some o => have := S.fr.keep _ _ q; rw [hnew1] at this; cases this
  have F' : Fr h₀ L h' m := Fr.of_ext S.fr hk
  obtain ⟨δ, R⟩ := S.rep
  obtain ⟨f1, f2, f3⟩ := R.fresh hnew.2.2
  obtain ⟨g1, g2, g3⟩ := R.fresh hnew1
  have R1 := R.put (a := s.heap.objs.size) (o := .raw oi) (h' := h') (fun _ x => by cases x) (fun f q => by rw [f1] at q; cases q) (fun b ob _ _ _ e => hk b ob e) hoi hnew.1 hnew.2.1 f2 f3
  have hne : s.heap.objs.size + 1 ≠ s.heap.objs.size := Nat.succ_ne_self _
  have R2 := R1.put (a := s.heap.objs.size + 1) (o := .raw (enumObj s.heap.objs.size)) (h' := h') (fun _ x => by cases x) (fun f q => by rw [put_ne hne, g1] at q; cases q) (fun b ob _ _ _ e => e) he hnewL1 hnew01 g2 (fun b f hb => by
    by_cases z : b = s.heap.objs.size
    · rw [z, put_same] at hb; cases hb
    · rw [put_ne z] at hb; exact g3 _ _ hb)
  exact h _ _ oi _ f1 g1 hne hit ⟨F', ⟨δ, R2⟩, S.gens, S.drawn, S.os⟩

/-- a loop over enumerate of a list -/
def ForE (prog : Program) (w : World) (A : Around) (C : Addr) (s₀ : Shared) (h₀ : Heap) (L : Addr) (env : Env) (xi xc : Str) (body : List Stmt) (Q : Flow → Shared → Prop) (xv : Value) (s : Shared) : Prop :=
  ∃ (e it l : Addr) (ob : Obj) (vs : List Value) (own : List (Addr × Obj)) (m : Str → Option Value) (H : AH) (J : Nat → (Str → Option Value) → AH → Prop), xv = .ref e ∧ s.heap.IsListIter it l 0 ∧ H it = none ∧ H e = none ∧ e ≠ it ∧ H l = some (.list vs) ∧
    St C s₀ h₀ L own s m (put (put H it (.raw ob)) e (.raw (enumObj it))) ∧ J 0 m (del H l) ∧
    (∀ (i : Nat) v t m₁ H₁ own₁ s₁, vs[i]? = some v → J i m₁ H₁ → St C s₀ h₀ L own₁ s₁ (upd (upd m₁ xi (.int i t)) xc v) H₁ → wpAny (model prog w) A (execs body env) (TurnQ C s₀ h₀ L own₁ (J (i + 1)) Q) NoE s₁) ∧
    ∀ m₁ H₁ s₁, J vs.length m₁ H₁ → St C s₀ h₀ L own s₁ m₁ H₁ → Q .next s₁
theorem r_for_enum {xi xc : Str} {pk pv pt pos : Pos} {x1 : Nat} {iter : Expr} {body : List Stmt} {Q : Flow → Shared → Prop} (c : Cx K p loose mean mg mb A env h₀ L d) (_S : St C s₀ h₀ L own s m H)
    (h : wpAny (model prog w) A (eval iter env) (ForE prog w A C s₀ h₀ L env xi xc body Q) NoE s) (hxi : env.kindOf xi = some .local) (hxc : env.kindOf xc = some .local) (hs : ∀ x, foldedSetIterable iter env x = pure x) :
    wpAny (model prog w) A (exec (.For (.Tuple [.Name xi pk, .Name xc pv] x1 pt) iter body [] pos) env) Q NoE s := by
  refine wpAny_For (wpAny_mono h (fun xv s₁ hf => ?_) fun _ _ y => y) hs
  obtain ⟨e, it, l, ob, vs, own, m, H, J, rfl, hit, fit, fe, hei, hl, S, h0, step, done⟩ := hf
  have he : IsEnum s₁.heap e it 0 .none := S.raw put_same
  refine wpAny_pyIter_enum he ?_
  have hlit : l ≠ it := fun z => by rw [z, fit] at hl; cases hl
  have hle : l ≠ e := fun z => by rw [z, fe] at hl; cases hl
  have hl' : put (put H it (.raw ob)) e (.raw (enumObj it)) l = some (.list vs) := put_off hle (put_off hlit hl)
  obtain ⟨o1, ho1, S1⟩ := S.hold (a := e) put_same (fun _ x => by cases x)
  have hit1 : del (put (put H it (.raw ob)) e (.raw (enumObj it))) e it = some (.raw ob) := (del_ne hei.symm).trans ((put_ne hei.symm).trans put_same)
  obtain ⟨o2, ho2, S2⟩ := S1.hold hit1 (fun _ x => by cases x)
  have hl2 : del (del (put (put H it (.raw ob)) e (.raw (enumObj it))) e) it l = some (.list vs) := (del_ne hlit).trans ((del_ne hle).trans hl')
  obtain ⟨o3, ho3, S3⟩ := S2.hold hl2 (fun _ x => by cases x)
  have eH : del (del (del (put (put H it (.raw ob)) e (.raw (enumObj it))) e) it) l = del H l := by
    funext b
    unfold del put
    by_cases z : b = l
    · simp [z]
    · by_cases y : b = it
      · simp [y, fit]
      · by_cases u : b = e
        · simp [u, fe]
        · simp [z, y, u]
  rw [eH] at S3
  have hLl := S.ne_L hl'
  have hLe := S.ne_L (a := e) put_same
  have hLi := S.ne_L (a := it) ((put_ne hei.symm).trans put_same)
  have W := (WalksT.enumerate (prog := prog) (w := w) (A := A) c.handled e it l hei hle hlit vs.toArray).toU
  refine code_for2 (P := [(l, o3), (it, o2), (e, o1)]) (own := own) W (fun i h hw b hb => ?_) (fun i v0 v1 => ∃ t, v0 = .int i t ∧ vs[i]? = some v1) (fun i vals hv => ?_) c hxi hxc S3 ⟨⟨_, he⟩, hit, S.isList hl'⟩ (fun z => ?_) (fun b hb => ?_) (fun b hb _ => ?_) (fun q hq => ?_) (fun b hb q hq => ?_) J h0 (fun i v0 v1 m₁ H₁ P₁ s₂ hin hv hJ S₄ => ?_) fun m₁ H₁ s₂ hJ S₄ => ?_
  · obtain ⟨⟨_, w1⟩, ⟨_, w2, _⟩, ⟨_, w3, _⟩⟩ := hw
    rcases List.mem_cons.mp hb with rfl | hb
    · exact ⟨_, w1⟩
    · rcases List.mem_cons.mp hb with rfl | hb
      · exact ⟨_, w2⟩
      · rcases List.mem_singleton.mp hb with rfl; exact ⟨_, w3⟩
  · obtain ⟨t, x, hx, rfl⟩ := hv
    exact ⟨_, _, rfl, t, rfl, by simpa using hx⟩
  · rcases List.mem_cons.mp z with z | z
    · exact hLe.1 z.symm
    · rcases List.mem_cons.mp z with z | z
      · exact hLi.1 z.symm
      · exact hLl.1 (List.mem_singleton.mp z).symm
  · rcases List.mem_cons.mp hb with rfl | hb
    · exact hLe.2
    · rcases List.mem_singleton.mp hb with rfl; exact hLi.2
  · rcases List.mem_cons.mp hb with rfl | hb
    · exact ⟨o1, by simp⟩
    · rcases List.mem_cons.mp hb with rfl | hb
      · exact ⟨o2, by simp⟩
      · rcases List.mem_singleton.mp hb with rfl; exact ⟨o3, by simp⟩
  · rcases List.mem_cons.mp hq with rfl | hq
    · simp
    · rcases List.mem_cons.mp hq with rfl | hq
      · simp
      · rcases List.mem_singleton.mp hq with rfl; simp
  · rcases List.mem_cons.mp hb with rfl | hb
    · exact fun z => S.own_ne put_same q hq z.symm
    · rcases List.mem_cons.mp hb with rfl | hb
      · exact fun z => S.own_ne ((put_ne hei.symm).trans put_same) q hq z.symm
      · rcases List.mem_singleton.mp hb with rfl; exact fun z => S.own_ne hl' q hq z.symm
  · obtain ⟨t, rfl, hv⟩ := hv
    exact wpAny_mono (step i v1 t m₁ H₁ _ s₂ hv hJ S₄) (fun f s₅ h₅ => by cases f <;> exact h₅) fun _ _ y => y
  · exact done m₁ H₁ s₂ (by simpa using hJ) S₄.dropAll
end
end Mine

end
section
open PySem PySem.W PySem.Calls PyProof.Rows PySem.Spec PySem.SeqAt
set_option Elab.async false
set_option maxRecDepth 100000
namespace Mine

/-! equality of what the abstract heap bears -/
def Same0 (v u : Value) : Prop := v = u ∨ (∃ i t t', v = .int i t ∧ u = .int i t') ∨ (∃ x t t', v = .str x t ∧ u = .str x t') ∨ ∃ x t t', v = .bytes x t ∧ u = .bytes x t'
def Same (H : AH) : Nat → Value → Value → Prop
  | 0, v, u => Same0 v u
  | n + 1, v, u => Same0 v u ∨ ∃ (a b : Addr) (vs us : List Value), v = .ref a ∧ u = .ref b ∧ ((H a = some (.list vs) ∧ H b = some (.list us)) ∨ (H a = some (.raw (tupObj vs)) ∧ H b = some (.raw (tupObj us)))) ∧ vs.length = us.length ∧
      ∀ (j : Nat) x y, vs[j]? = some x → us[j]? = some y → Same H n x y
theorem Same0.up {H : AH} {n : Nat} {v u : Value} (h : Same0 v u) : Same H n v u := by
  cases n with
  | zero => exact h
  | succ n => exact .inl h
theorem Same.rfl' {H : AH} {n : Nat} {v : Value} : Same H n v v := Same0.up (.inl rfl)
theorem Same.int {H : AH} {n : Nat} {i : Int} {t u : Tok} : Same H n (.int i t) (.int i u) := Same0.up (.inr (.inl ⟨_, _, _, rfl, rfl⟩))
theorem Same.str {H : AH} {n : Nat} {i : Str} {t u : Tok} : Same H n (.str i t) (.str i u) := Same0.up (.inr (.inr (.inl ⟨_, _, _, rfl, rfl⟩)))
theorem Same.bytes {H : AH} {n : Nat} {i : Array UInt8} {t u : Tok} : Same H n (.bytes i t) (.bytes i u) := Same0.up (.inr (.inr (.inr ⟨_, _, _, rfl, rfl⟩)))
inductive SameAll (H : AH) (n : Nat) : List Value → List Value → Prop
  | nil : SameAll H n [] []
  | cons {v u vs us} : Same H n v u → SameAll H n vs us → SameAll H n (v :: vs) (u :: us)
theorem SameAll.len {H : AH} {n : Nat} {vs us : List Value} (h : SameAll H n vs us) : vs.length = us.length := by
  induction h with
  | nil => rfl
  | cons _ _ ih => simp [ih]
theorem SameAll.get {H : AH} {n : Nat} {vs us : List Value} (h : SameAll H n vs us) : ∀ (j : Nat) x y, vs[j]? = some x → us[j]? = some y → Same H n x y := by
  induction h with
  | nil => intro j x y e; simp at e
  | cons hd _ ih =>
    intro j x y e1 e2
    cases j with
    | zero => simp at e1 e2; rw [← e1, ← e2]; exact hd
    | succ j => simp at e1 e2; exact ih j x y e1 e2
theorem SameAll.refl {H : AH} {n : Nat} : ∀ {vs : List Value}, SameAll H n vs vs
  | [] => .nil
  | _ :: _ => .cons Same.rfl' SameAll.refl
theorem SameAll.append {H : AH} {n : Nat} {vs us vs' us' : List Value} (h : SameAll H n vs us) (h' : SameAll H n vs' us') : SameAll H n (vs ++ vs') (us ++ us') := by
  induction h with
  | nil => exact h'
  | cons a _ ih => exact .cons a ih
theorem SameAll.of_get {H : AH} {n : Nat} : ∀ {vs us : List Value}, vs.length = us.length → (∀ (j : Nat) x y, vs[j]? = some x → us[j]? = some y → Same H n x y) → SameAll H n vs us
  | [], [], _, _ => .nil
  | v :: vs, u :: us, hl, h => .cons (h 0 v u rfl rfl) (SameAll.of_get (by simpa using hl) fun j x y a b => h (j + 1) x y (by simpa using a) (by simpa using b))
theorem Same.list {H : AH} {n : Nat} {a b : Addr} {vs us : List Value} (ha : H a = some (.list vs)) (hb : H b = some (.list us)) (h : SameAll H n vs us) : Same H (n + 1) (.ref a) (.ref b) :=
  .inr ⟨a, b, vs, us, rfl, rfl, .inl ⟨ha, hb⟩, h.len, h.get⟩
theorem Same.tup {H : AH} {n : Nat} {a b : Addr} {vs us : List Value} (ha : H a = some (.raw (tupObj vs))) (hb : H b = some (.raw (tupObj us))) (h : SameAll H n vs us) : Same H (n + 1) (.ref a) (.ref b) :=
  .inr ⟨a, b, vs, us, rfl, rfl, .inr ⟨ha, hb⟩, h.len, h.get⟩

theorem EqAt_bytes (A : Around) (s : Shared) (x : Array UInt8) (t u : Tok) : EqAt A s (.bytes x t) (.bytes x u) true := fun prog w E Q h => by
  unfold eqBool
  refine wpAny_holding ?_
  refine wpAny_ite_split (fun _ => wpAny_bind (wpAny_rule (wpAny_pure h))) (fun hab => ?_)
  refine wpAny_bind (eq_bytes (b := x) (c := x) (t := t) (u := u) ?_)
  rw [beq_self_eq_true]
  exact wpAny_truthy_bool h
theorem Same0.eqAt {v u : Value} (h : Same0 v u) (A : Around) (s : Shared) : EqAt A s v u true := by
  rcases h with rfl | ⟨i, t, t', rfl, rfl⟩ | ⟨i, t, t', rfl, rfl⟩ | ⟨i, t, t', rfl, rfl⟩
  · exact EqAt.same _
  · have := EqAt.int_int (A := A) (s := s) i t i t'; rwa [beq_self_eq_true] at this
  · have := EqAt.str_str (A := A) (s := s) i t i t'; rwa [beq_self_eq_true] at this
  · exact EqAt_bytes A s i t t'

section
variable {K : Frag} {p : Program} {loose : List Str} {mean : ExcName → Option Value} {mg mb : Str → Option Value} {A : Around} {env : Env} {h₀ : Heap} {L : Addr} {d : Nat}
variable {prog : Program} {w : World} {C : Addr} {s₀ s : Shared} {own P : List (Addr × Obj)} {m : Str → Option Value} {H : AH} {Q : Value → Shared → Prop} {E : Value → Shared → Prop}

theorem St.grown (S : St C s₀ h₀ L own s m H) {h' : Heap} {tk : Nat} (k : ∀ b o, s.heap.get? b = some o → h'.get? b = some o) : St C s₀ h₀ L own { s with heap := h', toks := tk } m H :=
  S.keep (Fr.of_ext S.fr k) fun b o _ _ e => k b o e
theorem St.of_news1 (S : St C s₀ h₀ L own s m H) {h' : Heap} {tk : Nat} {o : Obj} {ao : AObj} (F' : Fr h₀ L h' m) (N' : News h₀ L h' ((s.heap.objs.size, o) :: full h₀ L s.heap)) (hns : ∀ f, ao ≠ .src f)
    (hr : ∀ (h : Heap) d, h.get? s.heap.objs.size = some o → Real C h d s.heap.objs.size ao) : H s.heap.objs.size = none ∧ St C s₀ h₀ L own { s with heap := h', toks := tk } m (put H s.heap.objs.size ao) :=
  S.add F' hns S.at_new.2.2 S.at_new.1 S.at_new.2.1 (fun b ob hL h0 e => (N' (b, ob) (.tail _ (mem_full.mpr ⟨e, hL, h0⟩))).1) fun d => hr _ d (N' _ (.head _)).1
theorem St.isTuple (S : St C s₀ h₀ L own s m H) {a : Addr} {vs : List Value} (e : H a = some (.raw (tupObj vs))) : s.heap.IsTuple a vs.toArray := ⟨_, S.raw e, rfl, 0, rfl⟩

theorem all_true (n : Nat) : ((List.range n).all fun _ => true) = true := by rw [List.all_eq_true]; intro _ _; rfl
theorem Same.eqAt (S : St C s₀ h₀ L own s m H) : ∀ (n : Nat) {A : Around} {v u : Value}, Same H n v u → A.units + n < cLine → EqAt A s v u true := by
  intro n
  induction n with
  | zero => intro A v u h _; exact Same0.eqAt h A s
  | succ n ih =>
    intro A v u h hu
    rcases h with h | ⟨a, b, vs, us, rfl, rfl, hab, hlen, hall⟩
    · exact Same0.eqAt h A s
    · by_cases z : a = b
      · subst z; exact EqAt.same _
      · refine .of_refs z ?_
        have he : ∀ (j : Nat) (h1 : j < vs.toArray.size) (h2 : j < us.toArray.size), EqAt A.in1 s vs.toArray[j] us.toArray[j] ((fun _ => true) j) := fun j h1 h2 =>
          ih (hall j _ _ (by simpa using List.getElem?_eq_getElem (by simpa using h1)) (by simpa using List.getElem?_eq_getElem (by simpa using h2))) (by rw [units_in1]; omega)
        rcases hab with ⟨ha, hb⟩ | ⟨ha, hb⟩
        · have := RcAt.lists (e := fun _ => true) (S.isList ha) (S.isList hb) (by simpa using hlen) (by omega : A.units < cLine) he
          rwa [all_true] at this
        · have := RcAt.tuples (e := fun _ => true) (S.isTuple ha) (S.isTuple hb) (by omega : A.units < cLine) he
          rw [all_true] at this
          simpa [hlen] using this
theorem r_eq_lists {n : Nat} {a b : Addr} {vs us : List Value} (c : Cx K p loose mean mg mb A env h₀ L d) (S : St C s₀ h₀ L own s m H) (ha : H a = some (.list vs)) (hb : H b = some (.list us)) (h : SameAll H n vs us) (hn : n < 40) (hq : Q (.bool true) s) :
    wpAny (model prog w) A (compareOp .Eq (.ref a) (.ref b)) Q E s := by
  have cu := c.units
  refine eq_listAt (e := fun _ => true) (S.isList ha) (S.isList hb) (by simpa using h.len) (by omega) (fun j h1 h2 => ?_) (by rw [all_true]; exact hq)
  exact Same.eqAt S n (h.get j _ _ (by simpa using List.getElem?_eq_getElem (by simpa using h1)) (by simpa using List.getElem?_eq_getElem (by simpa using h2))) (by rw [units_in1]; omega)
theorem r_ne_lists {n : Nat} {a b : Addr} {vs us : List Value} (c : Cx K p loose mean mg mb A env h₀ L d) (S : St C s₀ h₀ L own s m H) (ha : H a = some (.list vs)) (hb : H b = some (.list us)) (h : SameAll H n vs us) (hn : n < 40) (hq : Q (.bool false) s) :
    wpAny (model prog w) A (compareOp .NotEq (.ref a) (.ref b)) Q E s := by
  have cu := c.units
  refine RcNeAt.lists (e := fun _ => true) (S.isList ha) (S.isList hb) (by simpa using h.len) (by omega) (fun j h1 h2 => ?_) prog w E Q (by rw [all_true]; exact hq)
  exact Same.eqAt S n (h.get j _ _ (by simpa using List.getElem?_eq_getElem (by simpa using h1)) (by simpa using List.getElem?_eq_getElem (by simpa using h2))) (by rw [units_in1]; omega)
theorem r_eq_nil {a b : Addr} {vs : List Value} (c : Cx K p loose mean mg mb A env h₀ L d) (S : St C s₀ h₀ L own s m H) (ha : H a = some (.list vs)) (hb : H b = some (.list [])) (hq : Q (.bool vs.isEmpty) s) :
    wpAny (model prog w) A (compareOp .Eq (.ref a) (.ref b)) Q E s := by
  cases vs with
  | nil => exact r_eq_lists (n := 0) c S ha hb .nil (by decide) hq
  | cons v r => exact eq_list_lengthsAt (S.isList ha) (S.isList hb) rfl (by have := c.units; omega) hq

/-! lists -/
theorem r_lmeth1 {l : Addr} {vs : List Value} {nm : Str} {id : String} {pos : Pos} {pl : Sem Bool} {e : Expr} (slot : Slot "list" nm id) (hty : typeOf (.builtin id) = pure (.type "method_descriptor")) (S : St C s₀ h₀ L own s m H) (hl : H l = some (.list vs))
    (h : wpAny (model prog w) A (eval e env) (fun v s₁ => wpAny (model prog w) A (call (.builtin id) [.ref l, v]) Q E s₁) E s) (he : starEach (e :: []) env = (false, eval e env) :: starEach [] env := by rfl) :
    wpAny (model prog w) A (getMethod (.ref l) nm pl) (fun fx s₂ => wpAny (model prog w) A (callWith pos fx.1 fx.2 (backTo pos (starEach [e] env)) []) Q E s₂) E s := by
  obtain ⟨n, hn⟩ := S.list hl
  refine getMethod_list_of slot hty (S.isList hl) ⟨_, hn, rfl⟩ ?_
  rw [he]
  exact callWith_builtin rfl (evalArgs_plain (spliced_cons (wpAny_mono h (fun v s₁ h₁ => spliced_nil h₁) fun _ _ y => y)))
theorem r_append {l : Addr} {vs : List Value} {v : Value} (S : St C s₀ h₀ L own s m H) (hl : H l = some (.list vs)) (hsz : vs.length ≤ 100000) (h : ∀ s', St C s₀ h₀ L own s' m (put H l (.list (vs ++ [v]))) → Q .none s') :
    wpAny (model prog w) A (call (.builtin "list.append") [.ref l, v]) Q E s :=
  wpAny_list_append_plain (S.list hl) (fun h' hp hs => h _ (S.setList hl hs (by simpa using hp))) (by rw [List.size_toArray, sizeLine_eq]; omega)
theorem r_extend {l b : Addr} {vs us : List Value} (S : St C s₀ h₀ L own s m H) (hl : H l = some (.list vs)) (hb : H b = some (.list us)) (hsz : vs.length + us.length ≤ 100000) (h : ∀ s', St C s₀ h₀ L own s' m (put H l (.list (vs ++ us))) → Q .none s') :
    wpAny (model prog w) A (call (.builtin "list.extend") [.ref l, .ref b]) Q E s := by
  obtain ⟨n, hn⟩ := S.list hl
  obtain ⟨n2, hn2⟩ := S.list hb
  have hsz' : vs.toArray.size + us.toArray.size ≤ sizeLine := by rw [List.size_toArray, List.size_toArray, sizeLine_eq]; omega
  refine call_meets PySem.F.slot_list_extend ⟨_, hn, rfl⟩ PySem.F.entry_list_extend (PySem.F.args_list_extend_2 _ _) (AutoSeq1.list_extend_list_list_0 l vs.toArray n b us.toArray n2 (extend_door hsz') (Nat.le_trans (Nat.le_add_right _ _) hsz') (Nat.le_succ_of_le hsz')) ⟨hn, hn2, h _ ?_⟩
  refine S.setList (tk := s.toks) hl (Heap.SameBut.update ..) ?_
  have e : vs.toArray ++ us.toArray = (vs ++ us).toArray := by simp
  exact ⟨_, by rw [Heap.get?_update_self _ hn (by rw [mapSeq_app]; rfl), mapSeq_app, e]⟩
theorem r_len {l : Addr} {vs : List Value} (S : St C s₀ h₀ L own s m H) (hl : H l = some (.list vs)) (hsz : vs.length ≤ 100000) (h : ∀ s' t, St C s₀ h₀ L own s' m H → Q (.int vs.length t) s') :
    wpAny (model prog w) A (call (.builtin "len") [.ref l]) Q E s := by
  refine len_list (S.isList hl) (by rw [List.size_toArray]; omega) ?_
  rw [List.size_toArray]
  exact h _ _ (S.tok _)
theorem r_add_lists {a b : Addr} {vs us : List Value} (S : St C s₀ h₀ L own s m H) (ha : s.heap.IsList a vs.toArray) (hb : s.heap.IsList b us.toArray) (hsz : vs.length + us.length ≤ 100000) (h : ∀ l s', H l = none → St C s₀ h₀ L own s' m (put H l (.list (vs ++ us))) → Q (.ref l) s') :
    wpAny (model prog w) A (binaryOp .Add (.ref a) (.ref b)) Q E s := by
  refine add_lists S.fr (news_full _ _ _) ha hb (fun h' F' N' => ?_) (by rw [sizeLine_eq]; omega)
  obtain ⟨q, S'⟩ := S.of_news1 (ao := .list (vs ++ us)) (tk := s.toks) F' N' (fun _ x => by cases x) fun h d e => ⟨0, e⟩
  exact h _ _ q S'
theorem foldl_rep (v : Value) (n : Nat) : List.foldl (fun x1 x2 => x1 ++ x2) #[] (List.replicate n #[v]) = (List.replicate n v).toArray := by
  have key : ∀ (n : Nat) (acc : List Value), List.foldl (fun x1 x2 => x1 ++ x2) acc.toArray (List.replicate n #[v]) = (acc ++ List.replicate n v).toArray := by
    intro n
    induction n with
    | zero => intro acc; simp
    | succ n ih =>
      intro acc
      rw [List.replicate_succ, List.foldl_cons, show acc.toArray ++ #[v] = (acc ++ [v]).toArray from by simp, ih, List.replicate_succ]
      simp
  simpa using key n []
theorem r_mul_list {l : Addr} {v : Value} {x : Int} {t : Tok} (S : St C s₀ h₀ L own s m H) (hl : H l = some (.list [v])) (h0 : 0 ≤ x) (hx : x ≤ 100000) (h : ∀ a s', H a = none → St C s₀ h₀ L own s' m (put H a (.list (List.replicate x.toNat v))) → Q (.ref a) s') :
    wpAny (model prog w) A (binaryOp .Mult (.ref l) (.int x t)) Q E s := by
  obtain ⟨n, hn⟩ := S.list hl
  refine PyProof.Rows.mul_list S.fr (news_full _ _ _) hn (by omega) (by omega) (by show 1 * x.toNat ≤ 2 ^ 24; omega) fun h' F' N' => ?_
  have e : List.foldl (fun x1 x2 => x1 ++ x2) #[] (List.replicate (if [v].toArray.isEmpty = true then 0 else x.toNat) [v].toArray) = (List.replicate x.toNat v).toArray := foldl_rep v x.toNat
  rw [e] at N'
  obtain ⟨q, S'⟩ := S.of_news1 (ao := .list (List.replicate x.toNat v)) (tk := s.toks) F' N' (fun _ x => by cases x) fun h d e => ⟨0, e⟩
  exact h _ _ q S'
theorem r_min {l : Addr} {vs : List Value} {ns : List Int} (c : Cx K p loose mean mg mb A env h₀ L d) (S : St C s₀ h₀ L own s m H) (hl : H l = some (.list vs)) (hi : IntsAre vs ns) (hne : 0 < ns.length)
    (h : ∀ s' M t, M ∈ ns → (∀ a ∈ ns, M ≤ a) → St C s₀ h₀ L own s' m H → Q (.int M t) s') : wpAny (model prog w) A (call (.builtin "min") [.ref l]) Q E s := by
  refine min_list_N c.handled S.fr (news_full h₀ L s.heap) (S.isList hl) hi hne fun h' M t tk F' N' hM hmin => h _ M t hM hmin ?_
  exact S.keep F' fun b o hL h0 e => (N' (b, o) (mem_full.mpr ⟨e, hL, h0⟩)).1

theorem tail_get {value slice : Expr} {l : Addr} {vs : List Value} {k : Int} {t : Tok} {v : Value} (S : St C s₀ h₀ L own s m H) (hl : H l = some (.list vs)) (h0 : 0 ≤ k) (hk : k < 2 ^ 63) (e : vs[k.toNat]? = some v) (hq : Q v s)
    (hs : subscripted slice false (.ref l) (.int k t) = operate [.ref l, .int k t] (getItem (.ref l) (.int k t)) := by rfl) :
    wpAny (model prog w) A (subscriptTail value slice (.ref l) (.int k t)) Q E s :=
  tail_any (S.isList hl).typeIs slot_list_getitem.lookup (wpAny_getItem_list (S.isList hl) h0 hk (by simpa using e) hq) hs
end
end Mine

end
section
open PySem PySem.W PySem.Calls PyProof.Rows PySem.Spec PySem.SeqAt
set_option Elab.async false
set_option maxRecDepth 100000
namespace Mine

/-! heaps that grow -/
def Sub (H H' : AH) : Prop := ∀ a o, H a = some o → H' a = some o
def SubX (X : List Addr) (H H' : AH) : Prop := ∀ a o, a ∉ X → H a = some o → H' a = some o
theorem Sub.refl {H : AH} : Sub H H := fun _ _ e => e
theorem Sub.trans {H H' H'' : AH} (h : Sub H H') (h' : Sub H' H'') : Sub H H'' := fun a o e => h' a o (h a o e)
theorem Sub.new {H H' : AH} {b : Addr} {o : AObj} (h : Sub H H') (hb : H' b = none) : Sub H (put H' b o) := fun _ _ e => put_new hb (h _ _ e)
theorem Sub.both {H H' : AH} {b : Addr} {o : AObj} (h : Sub H H') : Sub (put H b o) (put H' b o) := fun a ob e => by
  by_cases z : a = b
  · rw [z, put_same] at e ⊢; exact e
  · rw [put_ne z] at e ⊢; exact h _ _ e
theorem SubX.refl {X : List Addr} {H : AH} : SubX X H H := fun _ _ _ e => e
theorem SubX.new {X : List Addr} {H H' : AH} {b : Addr} {o : AObj} (h : SubX X H H') (hb : H' b = none) : SubX X H (put H' b o) := fun _ _ n e => put_new hb (h _ _ n e)
theorem SubX.at {X : List Addr} {H H' : AH} {b : Addr} {o : AObj} (h : SubX X H H') (hb : b ∈ X) : SubX X H (put H' b o) := fun _ _ n e => put_off (fun z => n (z ▸ hb)) (h _ _ n e)
theorem SubX.put {H H' : AH} {b : Addr} {o : AObj} (h : SubX [b] H H') (e : H' b = some o) : Sub (Mine.put H b o) H' := fun a ob q => by
  by_cases z : a = b
  · rw [z, put_same] at q; cases q; rw [z]; exact e
  · rw [put_ne z] at q; exact h _ _ (by simp [z]) q
theorem SubX.del {H H' : AH} {b : Addr} (h : SubX [b] H H') : Sub (Mine.del H b) H' := fun a ob q => by
  by_cases z : a = b
  · rw [z, del_same] at q; cases q
  · rw [del_ne z] at q; exact h _ _ (by simp [z]) q
theorem SubX.trans {X : List Addr} {H H' H'' : AH} (h : SubX X H H') (h' : SubX X H' H'') : SubX X H H'' := fun a o n e => h' a o n (h a o n e)
theorem Sub.toX {X : List Addr} {H H' : AH} (h : Sub H H') : SubX X H H' := fun a o _ e => h a o e
theorem Sub.none {H H' : AH} {a : Addr} (h : Sub H H') (e : H' a = none) : H a = none := by
  cases q : H a with
  | none => rfl
  | some o => rw [h a o q] at e; cases e
theorem del_none {H : AH} {a b : Addr} (h : H b = none) : del H a b = none := by unfold del; split; rfl; exact h

section
variable {K : Frag} {p : Program} {loose : List Str} {mean : ExcName → Option Value} {mg mb : Str → Option Value} {A : Around} {env : Env} {h₀ : Heap} {L : Addr} {d : Nat}
variable {prog : Program} {w : World} {C : Addr} {s₀ s : Shared} {own P : List (Addr × Obj)} {m : Str → Option Value} {H : AH} {Q : Value → Shared → Prop} {E : Value → Shared → Prop}

theorem r_add {a b : Int} {t u : Tok} (S : St C s₀ h₀ L own s m H) (h : ∀ s' t, St C s₀ h₀ L own s' m H → Q (.int (a + b) t) s') : wpAny (model prog w) A (binaryOp .Add (.int a t) (.int b u)) Q E s := add_int (h _ _ (S.tok _))
theorem r_sub {a b : Int} {t u : Tok} (S : St C s₀ h₀ L own s m H) (h : ∀ s' t, St C s₀ h₀ L own s' m H → Q (.int (a - b) t) s') : wpAny (model prog w) A (binaryOp .Sub (.int a t) (.int b u)) Q E s := sub_int (h _ _ (S.tok _))
theorem r_mod {a b : Int} {t u : Tok} (S : St C s₀ h₀ L own s m H) (hb : b ≠ 0) (h : ∀ s' t, St C s₀ h₀ L own s' m H → Q (.int (a.fmod b) t) s') : wpAny (model prog w) A (binaryOp .Mod (.int a t) (.int b u)) Q E s := mod_int' hb (h _ _ (S.tok _))
def Pyl (prog : Program) (w : World) (A : Around) (h₀ : Heap) : Prop := ∀ s : Shared, (∀ b o, h₀.get? b = some o → s.heap.get? b = some o) → PylongRoom (model prog w) A s
theorem r_fdiv {a b : Int} {t u : Tok} (pr : Pyl prog w A h₀) (S : St C s₀ h₀ L own s m H) (hb : b ≠ 0) (h : ∀ s' t, St C s₀ h₀ L own s' m H → Q (.int (a.fdiv b) t) s') : wpAny (model prog w) A (binaryOp .FloorDiv (.int a t) (.int b u)) Q E s :=
  floordiv_int hb (h _ _ (S.tok _)) (.inr (pr s S.fr.keep))
theorem r_neg {a : Int} {t : Tok} (S : St C s₀ h₀ L own s m H) (h : ∀ s' t, St C s₀ h₀ L own s' m H → Q (.int (-a) t) s') : wpAny (model prog w) A (unaryOp .USub (.int a t)) Q E s := neg_int (h _ _ (S.tok _))
theorem r_is_none {v : Value} (hv : v = .none ∨ ∃ a, v = .ref a) (h : Q (.bool (v == .none)) s) : wpAny (model prog w) A (compareOp .Is v .none) Q E s := by
  rcases hv with rfl | ⟨a, rfl⟩
  · exact wpAny_is_plain rfl h
  · exact wpAny_is_plain rfl h
theorem r_isnot_none {v : Value} (hv : v = .none ∨ ∃ a, v = .ref a) (h : Q (.bool (!(v == .none))) s) : wpAny (model prog w) A (compareOp .IsNot v .none) Q E s := by
  rcases hv with rfl | ⟨a, rfl⟩
  · exact wpAny_isNot_plain rfl h
  · exact wpAny_isNot_plain rfl h
theorem AtSet.mk' {x : Addr} {F : Flds} {fl : Fd} {v : Value} (S : St C s₀ h₀ L own s m H) (hx : H x = some (.src F)) (h : ∀ s', St C s₀ h₀ L own s' m (put H x (.src (F.set fl v))) → Q .none s') : AtSet C s₀ h₀ L own x fl Q v s := ⟨m, H, F, S, hx, h⟩
theorem AtNew.mk' {v : Value} (S : St C s₀ h₀ L own s m H) (h : ∀ x s', H x = none → St C s₀ h₀ L own s' m (put H x (.src ⟨v, .none, .none, .none, .none⟩)) → Q (.ref x) s') : AtNew C s₀ h₀ L own Q v s := ⟨m, H, S, h⟩
theorem Back.mk' {g : Heap} {L' : Addr} {m' : Str → Option Value} {H' H'' : AH} {v : Value} (S : St C s₀ g L' own s m' H') (hs : Sub H'' H') (h : St C s₀ h₀ L own s m H'' → Q v s) : Back C s₀ h₀ L own m g L' Q v s := ⟨m', H'', S.sub hs, h⟩
theorem calledWith {f : Value} {vs first : List Value} (S : St C s₀ h₀ L own s m H) (h : wpAny (model prog w) A (call f (first ++ vs)) Q E s) : (∃ m H, St C s₀ h₀ L own s m H) ∧ wpAny (model prog w) A (call f (first ++ vs)) Q E s := ⟨⟨m, H, S⟩, h⟩
theorem TurnQ.mk' {J : (Str → Option Value) → AH → Prop} {Q : Flow → Shared → Prop} (S : St C s₀ h₀ L own s m H) (j : J m H) : TurnQ C s₀ h₀ L own J Q .next s := ⟨m, H, S, j⟩
theorem St.sub' {H' : AH} (S : St C s₀ h₀ L own s m H) (h : Sub H' H) : St C s₀ h₀ L own s m H' := S.sub h
theorem ite_b {b : Bool} {P Q : Prop} (ht : b = true → P) (hf : b = false → Q) : if b = true then P else Q := by cases b <;> simp_all
end
end Mine

end
section
open PySem PySem.W PySem.Calls PyProof.Rows PySem.Spec PySem.SeqAt
set_option Elab.async false
set_option maxRecDepth 100000
namespace Mine

section
variable {K : Frag} {p : Program} {loose : List Str} {mean : ExcName → Option Value} {mg mb : Str → Option Value} {A : Around} {env : Env} {h₀ : Heap} {L : Addr} {d : Nat}
variable {prog : Program} {w : World} {C : Addr} {s₀ s : Shared} {own P : List (Addr × Obj)} {m : Str → Option Value} {H : AH} {Q : Value → Shared → Prop} {E : Value → Shared → Prop}

/-! tuples taken apart -/
theorem r_unpackItems {t : Addr} {vs : List Value} {n : Nat} {Q : List Value → Shared → Prop} (c : Cx K p loose mean mg mb A env h₀ L d) (S : St C s₀ h₀ L own s m H) (ht : H t = some (.raw (tupObj vs))) (hn : n = vs.length) (h : ∀ s', St C s₀ h₀ L own s' m H → Q vs s') :
    wpAny (model prog w) A (unpackItems (.ref t) n none) Q E s := by
  subst hn
  refine wpAny_unpackItems_tuple c.handled (S.isTuple ht) fun h' hx => h _ (S.grown fun b o e => hx b o (Nat.ne_of_lt (Heap.lt_size e)) e)
theorem r_assign_tup {env' : Env} {elts : List Expr} {x1 : Nat} {pos : Pos} {t : Addr} {vs : List Value} {Q : Unit → Shared → Prop} (c : Cx K p loose mean mg mb A env h₀ L d) (S : St C s₀ h₀ L own s m H) (ht : H t = some (.raw (tupObj vs)))
    (hn : (assignEach elts env').length = vs.length) (hstar : (assignEach elts env').findIdx? (·.1) = none) (h : ∀ s', St C s₀ h₀ L own s' m H → wpAny (model prog w) A (assignInOrder ((assignEach elts env').map (·.2)) vs) Q E s') :
    wpAny (model prog w) A (assign (.Tuple elts x1 pos) env' (.ref t)) Q E s :=
  wpAny_assign_Tuple c.handled (S.isTuple ht) (by simpa using hn) hstar fun h' hx => h _ (S.grown fun b o e => hx b o (Nat.ne_of_lt (Heap.lt_size e)) e)
theorem aio_cons {t : Value → Sem Unit} {ts : List (Value → Sem Unit)} {x : Value} {xs : List Value} {Q : Unit → Shared → Prop} (h : wpAny (model prog w) A (t x) (fun _ s' => wpAny (model prog w) A (assignInOrder ts xs) Q E s') E s) :
    wpAny (model prog w) A (assignInOrder (t :: ts) (x :: xs)) Q E s := wpAny_bind (wpAny_holding h)
theorem aio_nil {Q : Unit → Shared → Prop} (h : Q () s) : wpAny (model prog w) A (assignInOrder [] []) Q E s := wpAny_pure h
theorem r_is_nn (h : Q (.bool true) s) : wpAny (model prog w) A (compareOp .Is .none .none) Q E s := wpAny_is_self rfl h
theorem r_is_rn {a : Addr} (h : Q (.bool false) s) : wpAny (model prog w) A (compareOp .Is (.ref a) .none) Q E s := wpAny_is_other rfl (fun x => by cases x) h
theorem r_isnot_nn (h : Q (.bool false) s) : wpAny (model prog w) A (compareOp .IsNot .none .none) Q E s := wpAny_isNot_self rfl h
theorem r_isnot_rn {a : Addr} (h : Q (.bool true) s) : wpAny (model prog w) A (compareOp .IsNot (.ref a) .none) Q E s := wpAny_isNot_other rfl (fun x => by cases x) h
end

/-! more depth than is asked -/
theorem Cx.le {K : Frag} {p : Program} {loose : List Str} {mean : ExcName → Option Value} {mg mb : Str → Option Value} {A : Around} {env : Env} {h₀ : Heap} {L : Addr} {d d' : Nat} (c : Cx K p loose mean mg mb A env h₀ L d) (h : d' ≤ d) : Cx K p loose mean mg mb A env h₀ L d' :=
  ⟨c.below, c.X, c.T, c.frame, c.kind, c.loc, c.glb, c.blt, c.handled, by have := c.room; omega, by have := c.units; omega⟩
end Mine

end
section
open PySem PySem.W PySem.Calls PyProof.Rows PySem.Spec PySem.SeqAt
set_option Elab.async false
set_option maxRecDepth 100000
namespace Mine

/-! comprehensions -/
def ObjNs (o : Obj) (mc : Str → Option Value) : Prop := ∃ es ep, o.data = .dict es ep ∧ StrKeys es ∧ ∀ name, nsFind es name = mc name
theorem ObjNs.ns {o : Obj} {mc : Str → Option Value} {h : Heap} {a : Addr} (x : ObjNs o mc) (e : h.get? a = some o) : h.Ns a mc := let ⟨es, ep, r⟩ := x; ⟨o, es, ep, e, r⟩
theorem ns_obj {h : Heap} {a : Addr} {mc : Str → Option Value} (x : h.Ns a mc) : ∃ o, h.get? a = some o ∧ ObjNs o mc := let ⟨o, es, ep, e, r⟩ := x; ⟨o, e, es, ep, r⟩

section
variable {C : Addr} {s₀ : Shared} {h₀ : Heap} {L : Addr} {own P P' : List (Addr × Obj)} {s : Shared} {m : Str → Option Value} {H : AH}
theorem St.reheld (S : St C s₀ h₀ L (P ++ own) s m H) {h' : Heap} {tk : Nat} (F : Fr h₀ L h' m) (k : ∀ b o, (∀ p ∈ P, p.1 ≠ b) → b ≠ L → h₀.get? b = none → s.heap.get? b = some o → h'.get? b = some o)
    (hP : ∀ p ∈ P', h'.get? p.1 = some p.2 ∧ ∃ q ∈ P, q.1 = p.1) (hd : ∀ p ∈ P, ∀ q ∈ own, p.1 ≠ q.1) : St C s₀ h₀ L (P' ++ own) { s with heap := h', toks := tk } m H :=
  ⟨F, let ⟨δ, R⟩ := S.rep; ⟨δ, R.reheld k hP hd⟩, S.gens, S.drawn, S.os⟩
theorem St.held (S : St C s₀ h₀ L P s m H) {q : Addr × Obj} (hq : q ∈ P) : s.heap.get? q.1 = some q.2 ∧ q.1 ≠ L ∧ h₀.get? q.1 = none := let ⟨_, R⟩ := S.rep; R.news q hq
theorem St.perm (S : St C s₀ h₀ L P s m H) (h : ∀ q ∈ P', q ∈ P) : St C s₀ h₀ L P' s m H :=
  ⟨S.fr, let ⟨δ, R⟩ := S.rep; ⟨δ, R.real, R.new, R.dnew, R.doff, R.dinj, fun q hq => R.news q (h q hq), fun q hq => R.ownH q (h q hq), fun q hq => R.ownd q (h q hq)⟩, S.gens, S.drawn, S.os⟩
/-- one thing that is held changes -/
theorem St.held_set (S : St C s₀ h₀ L P s m H) {h' : Heap} {tk : Nat} {a : Addr} {o o' : Obj} {A B : List (Addr × Obj)} (hP : P = A ++ (a, o) :: B) (hA : ∀ q ∈ A, q.1 ≠ a) (hB : ∀ q ∈ B, q.1 ≠ a) (hs : Heap.SameBut a s.heap h') (hg : h'.get? a = some o') :
    St C s₀ h₀ L (A ++ (a, o') :: B) { s with heap := h', toks := tk } m H := by
  subst hP
  have ha := S.held (q := (a, o)) (List.mem_append_right _ (.head _))
  have S1 : St C s₀ h₀ L ([(a, o)] ++ (A ++ B)) s m H := S.perm fun q hq => by
    rcases List.mem_append.mp hq with hq | hq
    · rw [List.mem_singleton.mp hq]; exact List.mem_append_right _ (.head _)
    · rcases List.mem_append.mp hq with hq | hq
      · exact List.mem_append_left _ hq
      · exact List.mem_append_right _ (.tail _ hq)
  have S2 := S1.reheld (P' := [(a, o')]) (tk := tk) (Fr.of_but S.fr ha.2.1 ha.2.2 fun b ob hb e => (hs.2 b hb).trans e) (fun b ob hb _ _ e => (hs.2 b (fun z => hb (a, o) (.head _) z.symm)).trans e) (fun q hq => by rw [List.mem_singleton.mp hq]; exact ⟨hg, (a, o), .head _, rfl⟩)
    (fun q hq r hr => by
      rw [List.mem_singleton.mp hq]
      rcases List.mem_append.mp hr with hr | hr
      · exact (hA r hr).symm
      · exact (hB r hr).symm)
  refine S2.perm fun q hq => ?_
  rcases List.mem_append.mp hq with hq | hq
  · exact List.mem_append_right _ (List.mem_append_left _ hq)
  · rcases List.mem_cons.mp hq with hq | hq
    · rw [hq]; exact .head _
    · exact List.mem_append_right _ (List.mem_append_right _ hq)
end

section
variable {prog : Program} {w : World} {A : Around} {E : Value → Shared → Prop} {R : Result → Shared → Prop} {s : Shared}
theorem code_compLoop {elt target iter : Expr} {ifs : List Expr} {scope : Scope} {pos : Pos} {it acc : Value} {env : Env} (I : Nat → Shared → Prop)
    (turn : ∀ n s, I n s → wpAny (model prog w) A (pyNext it) (fun r s₁ => match r with
      | none => R (.ok .next) s₁
      | some v => wpAny (model prog w) A (letOwnedTupleGo target it v) (fun _ s₁' => wpAny (model prog w) A (assign target env v) (fun _ s₂ =>
          wpAny (model prog w) A (forIn ifs true fun c r => if r = true then do let ok ← isTrue c env (eval c env); pure (ForInStep.yield ok) else pure (ForInStep.yield r)) (fun ok s₃ =>
            if ok = true then wpAny (model prog w) A (eval elt env) (fun x s₄ => wpAny (model prog w) A (call (.builtin "list.append") [acc, x]) (fun _ s₅ => ∃ m, m < n ∧ I m s₅) NoE s₄) NoE s₃
            else ∃ m, m < n ∧ I m s₃) NoE s₂) NoE s₁') NoE s₁) NoE s)
    (n : Nat) (h : I n s) : codeAny (model prog w) A (.compLoop (.ListComp elt [⟨target, iter, ifs, 0⟩] scope pos) 0 it acc env) R s := by
  refine codeAny_loop rfl I (fun n s hI => ?_) n h
  show wpAny _ A ((compTurn (.ListComp elt [⟨target, iter, ifs, 0⟩] scope pos) 0 it acc env).onRaise (fun x => do noteFrame x env; theTreesLotGoes x)) _ _ s
  refine wpAny_noted (wp_noE ?_)
  rw [compTurn_list]
  refine wpAny_bind (wpAny_standAt (wpAny_bind (wpAny_mono (turn n s hI) (fun r s₁ h₁ => ?_) fun _ _ y => y)))
  cases r with
  | none => exact wpAny_pure h₁
  | some v =>
    refine wpAny_bind (wpAny_mono h₁ (fun _ s₁' h₁' => wpAny_bind (wpAny_mono h₁' (fun _ s₂ h₂ => wpAny_bind (wpAny_mono h₂ (fun ok s₃ h₃ => ?_) fun _ _ y => y)) fun _ _ y => y)) fun _ _ y => y)
    cases ok with
    | false => exact wpAny_pure ⟨rfl, h₃⟩
    | true => exact wpAny_bind (wpAny_bind (wpAny_mono h₃ (fun x s₄ h₄ => wpAny_bind (wpAny_mono h₄ (fun _ s₅ h₅ => wpAny_pure (wpAny_pure ⟨rfl, h₅⟩)) fun _ _ y => y)) fun _ _ y => y))

theorem letGo_list {target : Expr} {I l : Addr} {i : Nat} {v : Value} {Q : Unit → Shared → Prop} (hI : s.heap.IsListIter I l i) (h : Q () s) : wpAny (model prog w) A (letOwnedTupleGo target (.ref I) v) Q E s := by
  obtain ⟨o, ho, hc, hd⟩ := hI
  unfold letOwnedTupleGo
  have key : wpAny (model prog w) A (do
    let (.ref r, .ref a) := (Value.ref I, v) | return
    let o ← load r
    match o.cls, o.data with
    | .type n, .fields vs =>
      if ["enumerate", "zip", "dict_itemiterator", "dict_reverseitemiterator", "odict_iterator", "itertools.zip_longest", "itertools.pairwise"].contains n && vs[0]? == some (rawInt a) then
        rule "for.unpacks-the-owned-tuple"
        setField (.ref r) 0 .none
    | _, _ => pure ()) Q E s := by
    cases v with
    | ref a =>
      refine wpAny_bind (wpAny_load ho ?_)
      rw [hc, hd]
      exact wpAny_pure h
    | _ => exact wpAny_pure h
  cases target <;> first | exact key | exact wpAny_pure h
end

section
variable {K : Frag} {p : Program} {loose : List Str} {mean : ExcName → Option Value} {mg mb : Str → Option Value} {A : Around} {env : Env} {h₀ : Heap} {L : Addr} {d : Nat}
variable {prog : Program} {w : World} {C : Addr} {s₀ s : Shared} {own : List (Addr × Obj)} {m : Str → Option Value} {H : AH} {E : Value → Shared → Prop}

/-- an element was reckoned -/
def CompPut (C : Addr) (s₀ : Shared) (h₀ : Heap) (L : Addr) (own : List (Addr × Obj)) (Cc : Addr) (m : Str → Option Value) (J : List Value → AH → Prop) (ys : List Value) (y : Value) (s : Shared) : Prop :=
  ∃ o mc H, ObjNs o mc ∧ St C s₀ h₀ L ((Cc, o) :: own) s m H ∧ J (ys ++ [y]) H
def CompSkip (C : Addr) (s₀ : Shared) (h₀ : Heap) (L : Addr) (own : List (Addr × Obj)) (Cc : Addr) (m : Str → Option Value) (J : List Value → AH → Prop) (ys : List Value) (s : Shared) : Prop :=
  ∃ o mc H, ObjNs o mc ∧ St C s₀ h₀ L ((Cc, o) :: own) s m H ∧ J ys H
def CompStep (prog : Program) (w : World) (A : Around) (C : Addr) (s₀ : Shared) (h₀ : Heap) (L : Addr) (env : Env) (scope : Scope) (cl : List (Str × Addr)) (target : Expr) (ifs : List Expr) (elt : Expr) (m : Str → Option Value) (vs : List Value) (J : Nat → List Value → AH → Prop) : Prop :=
  ∀ i v ys H₁ Cc o mc own₁ s₁, vs[i]? = some v → J i ys H₁ → ObjNs o mc → (∀ q ∈ own₁, q.1 ≠ Cc) → St C s₀ h₀ L ((Cc, o) :: own₁) s₁ m H₁ →
    wpAny (model prog w) A (assign target (compEnvC scope cl Cc env) v) (fun _ s₂ =>
      wpAny (model prog w) A (forIn ifs true fun c r => if r = true then do let ok ← isTrue c (compEnvC scope cl Cc env) (eval c (compEnvC scope cl Cc env)); pure (ForInStep.yield ok) else pure (ForInStep.yield r)) (fun ok s₃ =>
        if ok = true then wpAny (model prog w) A (eval elt (compEnvC scope cl Cc env)) (CompPut C s₀ h₀ L own₁ Cc m (J (i + 1)) ys) NoE s₃ else CompSkip C s₀ h₀ L own₁ Cc m (J (i + 1)) ys s₃) NoE s₂) NoE s₁

theorem code_comp {elt target iter : Expr} {ifs : List Expr} {scope : Scope} {cl : List (Str × Addr)} {pos : Pos} {l : Addr} {vs : List Value} {J : Nat → List Value → AH → Prop} {RR : Value → Addr → Result → Shared → Prop}
    (c : Cx K p loose mean mg mb A env h₀ L d) (S : St C s₀ h₀ L own s m H) (hl : H l = some (.list vs)) (hsz : vs.length ≤ 10000) (h0 : J 0 [] (del H l)) (hJ : ∀ i ys H, J i ys H → ys.length ≤ i)
    (step : CompStep prog w A C s₀ h₀ L env scope cl target ifs elt m vs J) (hcell : ∀ y ∈ scope.names, y.2 ≠ .cell) (hkind : scope.kind = .function)
    (hRR : ∀ D Cc o mc ys H₁ s₁, J vs.length ys H₁ → H₁ l = none → H₁ D = none → D ≠ l → ObjNs o mc → (∀ q ∈ own, q.1 ≠ Cc) → St C s₀ h₀ L ((Cc, o) :: own) s₁ m (put (put H₁ l (.list vs)) D (.list ys)) → RR (.ref D) Cc (.ok .next) s₁) :
    wpAny (model prog w) A (pyIter (.ref l)) (fun it s₂ => wpAny (model prog w) A (newList []) (fun acc s₃ => wpAny (model prog w) A (newFunctionEnv scope env.globals cl [] env.qual none .none (some env)) (fun cenv s₄ =>
      codeAny (model prog w) A (.compStart (.ListComp elt [⟨target, iter, ifs, 0⟩] scope pos) 0 it acc { cenv with scope := relabel scope env }) (RR acc cenv.locals) s₄) E s₃) E s₂) E s := by
  refine wpAny_pyIter_list (S.isList hl) ?_
  -- the iterator, the new list, the new names
  obtain ⟨hi, S1⟩ := S.pushed (o := { cls := .type "list_iterator", data := .fields #[.ref l, .int 0 0] }) (ao := .raw { cls := .type "list_iterator", data := .fields #[.ref l, .int 0 0] }) (tk := s.toks) (fun _ x => by cases x) rfl fun h d e => e
  generalize hIa : s.heap.objs.size = I at *
  have hlI : l ≠ I := fun z => by rw [z, hi] at hl; cases hl
  refine r_newList S1 (fun D s2 hD S2 => ?_) (by rw [sizeLine_eq]; decide)
  have hDI : D ≠ I := fun z => by rw [z, put_same] at hD; cases hD
  have hHD : H D = none := by rwa [put_ne hDI] at hD
  have hDl : D ≠ l := fun z => by rw [z, hl] at hHD; cases hHD
  refine wpAny_newFunctionEnv hcell (by intro y hy; simp at hy) (fun h₁ hns₁ hsb₁ => ?_) hkind
  have hnew := S2.at_new
  have hC1 : s2.heap.get? s2.heap.objs.size = none := hnew.2.2
  generalize hCa : s2.heap.objs.size = Cc at *
  obtain ⟨oc, hoc, hON⟩ := ns_obj hns₁
  have k1 : ∀ b o, s2.heap.get? b = some o → h₁.get? b = some o := fun b o e => by
    refine (hsb₁.2 b (fun z => by rw [z, hC1] at e; cases e)).trans ?_
    exact Heap.get?_push_of_some _ e
  obtain ⟨hHC, S3⟩ := S2.add (tk := s2.toks + ([] : List (Str × Value)).length) (o := .raw oc) (Fr.of_ext S2.fr k1) (fun _ x => by cases x) hC1 hnew.1 hnew.2.1 (fun b ob _ _ e => k1 b ob e) (fun d => hoc)
  -- all are held
  have e1 : put (put (put H I (.raw { cls := .type "list_iterator", data := .fields #[.ref l, .int 0 0] })) D (.list [])) Cc (.raw oc) l = some (.list vs) := put_new hHC (put_off hDl.symm (put_off hlI hl))
  have hCl : Cc ≠ l := fun z => by rw [z] at hHC; rw [put_off hDl.symm (put_off hlI hl)] at hHC; cases hHC
  have hCD : Cc ≠ D := fun z => by rw [z, put_same] at hHC; cases hHC
  have hCI : Cc ≠ I := fun z => by rw [z, put_off hDI.symm put_same] at hHC; cases hHC
  have hHCc : H Cc = none := by rw [put_ne hCD, put_ne hCI] at hHC; exact hHC
  obtain ⟨o1, ho1, T1⟩ := S3.hold e1 (fun _ x => by cases x)
  obtain ⟨o2, ho2, T2⟩ := T1.hold (a := I) ((del_ne hlI.symm).trans ((put_ne hCI.symm).trans ((put_ne hDI.symm).trans put_same))) (fun _ x => by cases x)
  obtain ⟨o3, ho3, T3⟩ := T2.hold (a := D) ((del_ne hDI).trans ((del_ne hDl).trans ((put_ne hCD.symm).trans put_same))) (fun _ x => by cases x)
  obtain ⟨o4, ho4, T4⟩ := T3.hold (a := Cc) ((del_ne hCD).trans ((del_ne hCI).trans ((del_ne hCl).trans put_same))) (fun _ x => by cases x)
  have eH : del (del (del (del (put (put (put H I (.raw { cls := .type "list_iterator", data := .fields #[.ref l, .int 0 0] })) D (.list [])) Cc (.raw oc)) l) I) D) Cc = del H l := by
    funext b
    unfold del put
    by_cases z1 : b = l
    · simp [z1]
    · by_cases z2 : b = I
      · simp [z2, hi]
      · by_cases z3 : b = D
        · simp [z3, hHD]
        · by_cases z4 : b = Cc
          · simp [z4, hHCc]
          · simp [z1, z2, z3, z4]
  rw [eH] at T4
  have hl1 : h₁.IsList l vs.toArray := S3.isList e1
  obtain ⟨nn, hnn⟩ := S3.list e1
  have ho1' : o1 = listObj vs nn := by
    have q : h₁.get? l = some o1 := ho1
    have q2 : h₁.get? l = some (listObj vs nn) := hnn
    rw [q2] at q; exact (Option.some.inj q).symm
  have ho4' : o4 = oc := by
    have q : h₁.get? Cc = some o4 := ho4
    rw [hoc] at q; exact (Option.some.inj q).symm
  have hI1 : h₁.IsListIter I l 0 := by
    have q : h₁.get? I = some { cls := .type "list_iterator", data := .fields #[.ref l, .int 0 0] } := S3.raw ((put_ne hCI.symm).trans ((put_ne hDI.symm).trans put_same))
    exact ⟨_, q, rfl, rfl⟩
  obtain ⟨n3, hn3⟩ := S3.list (a := D) (vs := []) ((put_ne hCD.symm).trans put_same)
  have ho3' : o3 = listObj [] n3 := by
    have q : h₁.get? D = some o3 := ho3
    have q2 : h₁.get? D = some (listObj [] n3) := hn3
    rw [q2] at q; exact (Option.some.inj q).symm
  subst ho1' ho4' ho3'
  have W := Walks.list (prog := prog) (w := w) (A := A) c.handled I l hlI vs.toArray
  have hl3 : ∀ q ∈ own, q.1 ≠ l := S3.own_ne e1
  have hI3 : ∀ q ∈ own, q.1 ≠ I := S3.own_ne ((put_ne hCI.symm).trans ((put_ne hDI.symm).trans put_same))
  have hD3 : ∀ q ∈ own, q.1 ≠ D := S3.own_ne ((put_ne hCD.symm).trans put_same)
  have hC3 : ∀ q ∈ own, q.1 ≠ Cc := S3.own_ne put_same
  have loop : ∀ s₃ : Shared, s₃ = { s2 with heap := h₁, toks := s2.toks + ([] : List (Str × Value)).length } →
      codeAny (model prog w) A (.compLoop (.ListComp elt [⟨target, iter, ifs, 0⟩] scope pos) 0 (.ref I) (.ref D) (compEnvC scope cl Cc env)) (RR (.ref D) Cc) s₃ := by
    rintro s₃ rfl
    refine code_compLoop (fun k s' => ∃ i ys H' o oi nD mc, St C s₀ h₀ L ((Cc, o) :: (D, listObj ys nD) :: (I, oi) :: (l, listObj vs nn) :: own) s' m H' ∧ ObjNs o mc ∧ s'.heap.IsListIter I l i ∧ J i ys H' ∧ i ≤ vs.length ∧ k = vs.length + 1 - i) ?_ (vs.length + 1)
      ⟨0, [], del H l, _, o2, n3, _, T4, hON, hI1, h0, Nat.zero_le _, rfl⟩
    rintro k s' ⟨i, ys, H', o, oi, nD, mc, S', hO, hit, hJi, hile, rfl⟩
    have hl' : s'.heap.IsList l vs.toArray := ⟨_, (S'.held (q := (l, listObj vs nn)) (by simp)).1, rfl, nn, rfl⟩
    by_cases hlt : i < vs.length
    · have hx : vs.toArray[i]? = some vs[i] := by simp [hlt]
      refine wpAny_pyNext_list_item hit hl' hx fun h' hit' hs' => ?_
      obtain ⟨oi', hoi', hic', hid'⟩ := id hit'
      have S5 := S'.held_set (tk := s'.toks) (A := [(Cc, o), (D, listObj ys nD)]) (B := (l, listObj vs nn) :: own) (a := I) (o := oi) (o' := oi') rfl
        (fun q hq => by
          rcases List.mem_cons.mp hq with rfl | hq
          · exact hCI
          · rw [List.mem_singleton.mp hq]; exact hDI)
        (fun q hq => by
          rcases List.mem_cons.mp hq with rfl | hq
          · exact hlI
          · exact hI3 q hq) hs' hoi'
      have hC9 : ∀ q ∈ (D, listObj ys nD) :: (I, oi') :: (l, listObj vs nn) :: own, q.1 ≠ Cc := fun q hq => by
        rcases List.mem_cons.mp hq with rfl | hq
        · exact hCD.symm
        · rcases List.mem_cons.mp hq with rfl | hq
          · exact hCI.symm
          · rcases List.mem_cons.mp hq with rfl | hq
            · exact hCl.symm
            · exact hC3 q hq
      refine letGo_list hit' ?_
      refine wpAny_mono (step i vs[i] ys H' Cc o mc _ _ (by simp [hlt]) hJi hO hC9 S5) (fun _ s₂ h₂ => wpAny_mono h₂ (fun ok s₃ h₃ => ?_) fun _ _ y => y) fun _ _ y => y
      have itn : ∀ {s₄ : Shared} {P}, St C s₀ h₀ L P s₄ m H' ∨ (∃ H₂, St C s₀ h₀ L P s₄ m H₂) → (I, oi') ∈ P → s₄.heap.IsListIter I l (i + 1) := fun hS hP => by
        rcases hS with hS | ⟨H₂, hS⟩
        · exact ⟨oi', (hS.held hP).1, hic', hid'⟩
        · exact ⟨oi', (hS.held hP).1, hic', hid'⟩
      cases ok with
      | false =>
        obtain ⟨o', mc', H₂, hO', S₃, hJ₃⟩ := h₃
        exact ⟨vs.length + 1 - (i + 1), by omega, i + 1, ys, H₂, o', oi', nD, mc', S₃, hO', itn (.inr ⟨_, S₃⟩) (by simp), hJ₃, hlt, rfl⟩
      | true =>
        refine wpAny_mono h₃ (fun y s₄ h₄ => ?_) fun _ _ y => y
        obtain ⟨o', mc', H₂, hO', S₄, hJ₄⟩ := h₄
        have hDl4 : s₄.heap.PlainList D ys.toArray := ⟨nD, (S₄.held (q := (D, listObj ys nD)) (by simp)).1⟩
        have hys := hJ _ _ _ hJi
        refine wpAny_list_append_plain hDl4 (fun h5 hp5 hs5 => ?_) (by rw [List.size_toArray, sizeLine_eq]; omega)
        obtain ⟨n5, hn5⟩ := hp5
        have S5 := S₄.held_set (tk := s₄.toks) (A := [(Cc, o')]) (B := (I, oi') :: (l, listObj vs nn) :: own) (a := D) (o := listObj ys nD) (o' := listObj (ys ++ [y]) n5) rfl
          (fun q hq => by rw [List.mem_singleton.mp hq]; exact hCD)
          (fun q hq => by
            rcases List.mem_cons.mp hq with rfl | hq
            · exact hDI.symm
            · rcases List.mem_cons.mp hq with rfl | hq
              · exact hDl.symm
              · exact hD3 q hq) hs5 (by rw [hn5]; simp)
        exact ⟨vs.length + 1 - (i + 1), by omega, i + 1, ys ++ [y], H₂, o', oi', n5, mc', S5, hO', itn (.inr ⟨_, S5⟩) (by simp), hJ₄, hlt, rfl⟩
    · have hin : i = vs.length := by omega
      subst hin
      refine wpAny_pyNext_list_end c.handled hit hl' (by simp) fun h' hx => ?_
      have S5 : St C s₀ h₀ L ([(I, oi)] ++ ((l, listObj vs nn) :: (D, listObj ys nD) :: (Cc, o) :: own)) s' m H' := S'.perm fun q hq => by
        simp only [List.singleton_append, List.mem_cons] at hq ⊢
        rcases hq with h | h | h | h | h
        · exact .inr (.inr (.inl h))
        · exact .inr (.inr (.inr (.inl h)))
        · exact .inr (.inl h)
        · exact .inl h
        · exact .inr (.inr (.inr (.inr h)))
      have hIh := S'.held (q := (I, oi)) (by simp)
      have S6 := S5.reheld (P' := []) (tk := s'.toks) (Fr.of_but S'.fr hIh.2.1 hIh.2.2 fun b ob hb e => hx b ob hb e) (fun b ob hb _ _ e => hx b ob (fun z => hb (I, oi) (.head _) z.symm) e) (fun q hq => by cases hq)
        (fun q hq r hr => by
          rw [List.mem_singleton.mp hq]
          rcases List.mem_cons.mp hr with rfl | hr
          · exact hlI.symm
          · rcases List.mem_cons.mp hr with rfl | hr
            · exact hDI.symm
            · rcases List.mem_cons.mp hr with rfl | hr
              · exact hCI.symm
              · exact (hI3 r hr).symm)
      have S6' : St C s₀ h₀ L ((l, listObj vs nn) :: (D, listObj ys nD) :: (Cc, o) :: own) { s' with heap := h', toks := s'.toks } m H' := S6
      obtain ⟨q1, S7⟩ := S6'.unhold (o := .list vs) (fun _ x => by cases x) (fun h d e => ⟨nn, e⟩) (fun q hq => by
        rcases List.mem_cons.mp hq with rfl | hq
        · exact hDl
        · rcases List.mem_cons.mp hq with rfl | hq
          · exact hCl
          · exact hl3 q hq)
      obtain ⟨q2, S8⟩ := S7.unhold (o := .list ys) (fun _ x => by cases x) (fun h d e => ⟨nD, e⟩) (fun q hq => by
        rcases List.mem_cons.mp hq with rfl | hq
        · exact hCD
        · exact hD3 q hq)
      exact hRR D Cc o mc ys H' _ hJi q1 (by rwa [put_ne hDl] at q2) hDl hO hC3 S8
  exact codeAny_compStart_list (loop _ rfl) (wpAny_pyIter_listiter hI1 (loop _ rfl))

/-- a comprehension, reckoned -/
def CompL (prog : Program) (w : World) (A : Around) (C : Addr) (s₀ : Shared) (h₀ : Heap) (L : Addr) (own : List (Addr × Obj)) (env : Env) (scope : Scope) (cl : List (Str × Addr)) (target : Expr) (ifs : List Expr) (elt : Expr) (Q : Value → Shared → Prop) (xv : Value) (s : Shared) : Prop :=
  ∃ (l : Addr) (vs : List Value) (m : Str → Option Value) (H : AH) (J : Nat → List Value → AH → Prop), xv = .ref l ∧ St C s₀ h₀ L own s m H ∧ H l = some (.list vs) ∧ vs.length ≤ 10000 ∧ J 0 [] (del H l) ∧ (∀ i ys H, J i ys H → ys.length ≤ i) ∧
    CompStep prog w A C s₀ h₀ L env scope cl target ifs elt m vs J ∧
    ∀ D ys H₁ s₁, J vs.length ys H₁ → H₁ l = none → H₁ D = none → D ≠ l → St C s₀ h₀ L own s₁ m (put (put H₁ l (.list vs)) D (.list ys)) → Q (.ref D) s₁
theorem St.sameC {Cc : Addr} {o : Obj} {h' : Heap} (S : St C s₀ h₀ L ((Cc, o) :: own) s m H) (hC : ∀ q ∈ own, q.1 ≠ Cc) (hs : Heap.SameBut Cc s.heap h') : St C s₀ h₀ L own { s with heap := h' } m H := by
  have hh := S.held (q := (Cc, o)) (.head _)
  have S' : St C s₀ h₀ L ([(Cc, o)] ++ own) s m H := S
  exact S'.reheld (P' := []) (tk := s.toks) (Fr.of_but S.fr hh.2.1 hh.2.2 fun b ob hb e => (hs.2 b hb).trans e) (fun b ob hb _ _ e => (hs.2 b (fun z => hb (Cc, o) (.head _) z.symm)).trans e) (fun q hq => by cases hq)
    (fun q hq r hr => by rw [List.mem_singleton.mp hq]; exact (hC r hr).symm)
theorem r_comp {elt target iter : Expr} {ifs : List Expr} {scope : Scope} {cl : List (Str × Addr)} {pos : Pos} {Q : Value → Shared → Prop} (c : Cx K p loose mean mg mb A env h₀ L d) (_S : St C s₀ h₀ L own s m H)
    (h : wpAny (model prog w) A (eval iter env) (CompL prog w A C s₀ h₀ L own env scope cl target ifs elt Q) NoE s)
    (hclos : closureFor scope env = pure cl) (hcell : ∀ y ∈ scope.names, y.2 ≠ .cell) (hkind : scope.kind = .function) (hnames : ∀ y ∈ scope.names, y.2 = .local → scope.names.lookup y.1 = some .local) (hs : ∀ x, foldedSetIterable iter env x = pure x) :
    wpAny (model prog w) A (eval (.ListComp elt [⟨target, iter, ifs, 0⟩] scope pos) env) Q NoE s := by
  rw [eval_ListComp]
  refine wpAny_comprehension_free rfl hs hclos hkind hnames (wpAny_mono h (fun xv s₁ hf => ?_) fun _ _ y => y)
  obtain ⟨l, vs, m, H, J, rfl, S, hl, hsz, h0, hJ, step, done⟩ := hf
  refine code_comp (RR := fun acc Cc r s' => compPost (model prog w) A NoE none Q acc Cc r s') c S hl hsz h0 hJ step hcell hkind fun D Cc o mc ys H₁ s₁ hj q1 q2 q3 hO hC S₁ => ?_
  exact ⟨mc, hO.ns (S₁.held (q := (Cc, o)) (.head _)).1, fun h' hs' => done D ys H₁ _ hj q1 q2 q3 (S₁.sameC hC hs')⟩
/-- a comprehension, bound to a name -/
def CompA (prog : Program) (w : World) (A : Around) (C : Addr) (s₀ : Shared) (h₀ : Heap) (L : Addr) (own : List (Addr × Obj)) (env : Env) (scope : Scope) (cl : List (Str × Addr)) (target : Expr) (ifs : List Expr) (elt : Expr) (y : Str) (Q : Flow → Shared → Prop) (xv : Value) (s : Shared) : Prop :=
  ∃ (l : Addr) (vs : List Value) (m : Str → Option Value) (H : AH) (J : Nat → List Value → AH → Prop), xv = .ref l ∧ St C s₀ h₀ L own s m H ∧ H l = some (.list vs) ∧ vs.length ≤ 10000 ∧ J 0 [] (del H l) ∧ (∀ i ys H, J i ys H → ys.length ≤ i) ∧
    CompStep prog w A C s₀ h₀ L env scope cl target ifs elt m vs J ∧
    ∀ D ys H₁ s₁, J vs.length ys H₁ → H₁ l = none → H₁ D = none → D ≠ l → St C s₀ h₀ L own s₁ (upd m y (.ref D)) (put (put H₁ l (.list vs)) D (.list ys)) → Q .next s₁
theorem r_assign_comp {elt target iter : Expr} {ifs : List Expr} {scope : Scope} {cl : List (Str × Addr)} {pos spos py : Pos} {y : Str} {Q : Flow → Shared → Prop} (c : Cx K p loose mean mg mb A env h₀ L d) (_S : St C s₀ h₀ L own s m H)
    (h : wpAny (model prog w) A (eval iter env) (CompA prog w A C s₀ h₀ L own env scope cl target ifs elt y Q) NoE s) (hsw : swapsWith (.ListComp elt [⟨target, iter, ifs, 0⟩] scope pos) (some (.Name y py)) spos.line env = pure true)
    (hclos : closureFor scope env = pure cl) (hcell : ∀ y ∈ scope.names, y.2 ≠ .cell) (hkind : scope.kind = .function) (hnames : ∀ y ∈ scope.names, y.2 = .local → scope.names.lookup y.1 = some .local) (hs : ∀ x, foldedSetIterable iter env x = pure x)
    (hy : env.kindOf y = some .local) : wpAny (model prog w) A (exec (.Assign [.Name y py] (.ListComp elt [⟨target, iter, ifs, 0⟩] scope pos) spos) env) Q NoE s := by
  rw [exec_Assign_Name_used _ _ _ _ hsw]
  refine wpAny_bind (wpAny_standAt (wpAny_bind ?_))
  show wpAny _ A (do let _ ← comprehension (.ListComp elt [⟨target, iter, ifs, 0⟩] scope pos) scope env _ (newList []) false (eval iter env) (some (assign (.Name y py) env))) _ _ s
  refine wpAny_bind (wpAny_mono (wpAny_comprehension_free (Q := fun _ s' => Q .next s') rfl hs hclos hkind hnames (wpAny_mono h (fun xv s₁ hf => ?_) fun _ _ y => y)) (fun _ s' hq => wpAny_pure (wpAny_pure hq)) fun _ _ e => e)
  obtain ⟨l, vs, m, H, J, rfl, S, hl, hsz, h0, hJ, step, done⟩ := hf
  refine code_comp (RR := fun acc Cc r s' => compPost (model prog w) A NoE (some (assign (.Name y py) env)) (fun _ s' => Q .next s') acc Cc r s') c S hl hsz h0 hJ step hcell hkind fun D Cc o mc ys H₁ s₁ hj q1 q2 q3 hO hC S₁ => ?_
  show wpAny _ _ (assign (.Name y py) env (.ref D)) _ _ _
  refine wpAny_assign_Name (r_store c S₁ (fun s₂ S₂ => ?_) hy)
  exact ⟨mc, hO.ns (S₂.held (q := (Cc, o)) (.head _)).1, fun h' hs' => done D ys H₁ _ hj q1 q2 q3 (S₂.sameC hC hs')⟩

/-! names of a comprehension -/
theorem r_cname {scope : Scope} {cl : List (Str × Addr)} {Cc : Addr} {o : Obj} {mc : Str → Option Value} {x : Str} {pos : Pos} {v : Value} {Q : Value → Shared → Prop} (S : St C s₀ h₀ L ((Cc, o) :: own) s m H) (hO : ObjNs o mc) (hv : mc x = some v) (h : Q v s)
    (hk : (compEnvC scope cl Cc env).scope.kind = .function := by rfl) (hl : (compEnvC scope cl Cc env).kindOf x = some .local := by rfl) (hd : (x == ("__debug__" : Str)) = false := by decide) : wpAny (model prog w) A (eval (.Name x pos) (compEnvC scope cl Cc env)) Q E s :=
  wpAny_Name (wpAny_loadName_local hk hl (hO.ns (S.held (q := (Cc, o)) (.head _)).1) hv h) hd
theorem r_cstore {scope : Scope} {cl : List (Str × Addr)} {Cc : Addr} {o : Obj} {mc : Str → Option Value} {x : Str} {v : Value} {Q : Unit → Shared → Prop} (hC : ∀ q ∈ own, q.1 ≠ Cc) (S : St C s₀ h₀ L ((Cc, o) :: own) s m H) (hO : ObjNs o mc)
    (h : ∀ o' s', ObjNs o' (upd mc x v) → St C s₀ h₀ L ((Cc, o') :: own) s' m H → Q () s')
    (hk : (compEnvC scope cl Cc env).scope.kind = .function := by rfl) (hl : (compEnvC scope cl Cc env).kindOf x = some .local := by rfl) : wpAny (model prog w) A (storeName (compEnvC scope cl Cc env) x v) Q E s := by
  refine wpAny_storeName_local hl (hO.ns (S.held (q := (Cc, o)) (.head _)).1) (fun h' hn hs => ?_) (by rw [hk]; rfl)
  obtain ⟨o', ho', hO'⟩ := ns_obj hn
  exact h o' _ hO' (S.held_set (A := []) (B := own) (a := Cc) (o := o) (o' := o') rfl (fun q hq => by cases hq) hC hs ho')
end
end Mine

end
section
open PySem PySem.W PySem.Calls PyProof.Rows PySem.Spec PySem.SeqAt
set_option Elab.async false
set_option maxRecDepth 100000
namespace Mine

/-! list.remove where the items' equality hangs on the heap -/
theorem remove_at (l : Addr) (its : Array Value) (n : Nat) (x : Value) (e : Value → Bool) (j : Nat) (hj : j < its.size) (hit : e its[j] = true) (hs1 : its.size ≤ sizeLine) :
    ∀ (k i : Nat), j - i = k → i ≤ j → (∀ q (hq : q < its.size), i ≤ q → q < j → e its[q] = false) → Meets (Builtin.«list.remove.loop» ⟨[.ref l, x, rawInt i], []⟩)
      (fun A R s => s.heap.get? l = some { cls := .type "list", dict := none, data := .seq its n, slots := #[] } ∧ (∀ y, y ∈ its → EqAt A.in1 s y x (e y)) ∧ R (.ok (.ret .none)) { s with heap := s.heap.update l (Obj.mapSeq fun xs => xs.eraseIdxIfInBounds j) }) := by
  intro k
  induction k with
  | zero =>
    intro i hk hij hno prog w A R s h
    obtain ⟨hp, g, d, tk, os⟩ := s
    obtain ⟨hl, he, h⟩ := h
    obtain rfl : i = j := by omega
    wp_walk using AutoSeq1.wpAny_loadPart' hl
    rw [show its[((i : Nat) : Int).toNat]? = some its[i] from by simp [hj]]
    refine wpAny_bind (he _ (Array.getElem_mem hj) prog w _ _ ?_)
    rw [hit]
    have hz' : (its.eraseIdxIfInBounds i).size ≤ sizeLine + 1 := by
      refine Nat.le_trans ?_ (Nat.le_succ_of_le hs1)
      unfold Array.eraseIdxIfInBounds
      split
      · rw [Array.size_eraseIdx]; omega
      · omega
    wp_walk using (wpAny_updateSeq hl rfl (hz := hs1) (_hz' := hz')), AutoSeq1.wpAny_loadPart' hl
    simpa using h
  | succ k ih =>
    intro i hk hij hno prog w A R s h
    obtain ⟨hp, g, d, tk, os⟩ := s
    obtain ⟨hl, he, h⟩ := h
    have hlt : i < its.size := by omega
    wp_walk using AutoSeq1.wpAny_loadPart' hl
    rw [show its[((i : Nat) : Int).toNat]? = some its[i] from by simp [hlt]]
    refine wpAny_bind (he _ (Array.getElem_mem hlt) prog w _ _ ?_)
    rw [hno i hlt (Nat.le_refl _) (by omega)]
    wp_walk
    rw [show ((i : Int) + 1) = ((i + 1 : Nat) : Int) from by push_cast; rfl]
    exact ⟨plainId_quiet MeetsSeq.plain_remove_loop _, codeAny_builtin MeetsSeq.entry_remove_loop (by
      rw [Around.under_plainId MeetsSeq.plain_remove_loop _]
      exact ih (i + 1) (by omega) (by omega) (fun q hq h1 h2 => hno q hq (by omega) h2) prog w A R _ ⟨hl, he, h⟩)⟩
theorem remove_meets (l : Addr) (its : Array Value) (n : Nat) (x : Value) (e : Value → Bool) (j : Nat) (hj : j < its.size) (hit : e its[j] = true) (hno : ∀ q (hq : q < its.size), q < j → e its[q] = false) (hs1 : its.size ≤ sizeLine) :
    Meets (Builtin.«list.remove» ⟨[.ref l, x], []⟩)
      (fun A R s => s.heap.get? l = some { cls := .type "list", dict := none, data := .seq its n, slots := #[] } ∧ (∀ y, y ∈ its → EqAt A.in1 s y x (e y)) ∧ R (.ok (.ret .none)) { s with heap := s.heap.update l (Obj.mapSeq fun xs => xs.eraseIdxIfInBounds j) }) := by
  intro prog w A R s h
  obtain ⟨hp, g, d, tk, os⟩ := s
  obtain ⟨hl, he, h⟩ := h
  wp_walk using AutoSeq1.wpAny_loadPart' hl
  exact ⟨plainId_quiet MeetsSeq.plain_remove_loop _, codeAny_builtin MeetsSeq.entry_remove_loop (by
    rw [Around.under_plainId MeetsSeq.plain_remove_loop _]
    exact remove_at l its n x e j hj hit hs1 _ 0 rfl (Nat.zero_le _) (fun q hq _ h2 => hno q hq h2) prog w A R _ ⟨hl, he, h⟩)⟩

/-! lists of pairs of ints -/
inductive Pairs (H : AH) : List Value → List (Int × Int) → Prop
  | nil : Pairs H [] []
  | cons {a : Addr} {k u : Int} {t t' : Tok} {ws : List Value} {ps : List (Int × Int)} : H a = some (.raw (tupObj [.int k t, .int u t'])) → Pairs H ws ps → Pairs H (.ref a :: ws) ((k, u) :: ps)
theorem Pairs.len {H : AH} {ws : List Value} {ps : List (Int × Int)} (h : Pairs H ws ps) : ws.length = ps.length := by
  induction h with
  | nil => rfl
  | cons _ _ ih => simp [ih]
theorem Pairs.mono {H H' : AH} {ws : List Value} {ps : List (Int × Int)} (h : Pairs H ws ps) (hs : ∀ a o, H a = some (.raw o) → H' a = some (.raw o)) : Pairs H' ws ps := by
  induction h with
  | nil => exact .nil
  | cons e _ ih => exact .cons (hs _ _ e) ih
theorem Pairs.append {H : AH} {ws ws' : List Value} {ps ps' : List (Int × Int)} (h : Pairs H ws ps) (h' : Pairs H ws' ps') : Pairs H (ws ++ ws') (ps ++ ps') := by
  induction h with
  | nil => exact h'
  | cons e _ ih => exact .cons e ih
theorem Pairs.get {H : AH} {ws : List Value} {ps : List (Int × Int)} (h : Pairs H ws ps) : ∀ (j : Nat) x, ws[j]? = some x → ∃ a k u t t', x = .ref a ∧ H a = some (.raw (tupObj [.int k t, .int u t'])) ∧ ps[j]? = some (k, u) := by
  induction h with
  | nil => intro j x e; simp at e
  | cons e _ ih =>
    intro j x q
    cases j with
    | zero => simp at q; exact ⟨_, _, _, _, _, q.symm, e, rfl⟩
    | succ j => simp at q; simpa using ih j x q
theorem Pairs.erase {H : AH} {ws : List Value} {ps : List (Int × Int)} (h : Pairs H ws ps) : ∀ j, Pairs H (ws.eraseIdx j) (ps.eraseIdx j) := by
  induction h with
  | nil => intro j; simpa using Pairs.nil
  | cons e h' ih =>
    intro j
    cases j with
    | zero => simpa using h'
    | succ j => simpa using Pairs.cons e (ih j)

open Classical in
noncomputable def isPair (H : AH) (k u : Int) (y : Value) : Bool := decide (∃ a t t', y = .ref a ∧ H a = some (.raw (tupObj [.int k t, .int u t'])))
theorem isPair_iff {H : AH} {k u k' u' : Int} {a : Addr} {t t' : Tok} (e : H a = some (.raw (tupObj [.int k' t, .int u' t']))) : isPair H k u (.ref a) = (k' == k && u' == u) := by
  unfold isPair
  by_cases h : k' = k ∧ u' = u
  · obtain ⟨rfl, rfl⟩ := h
    simp only [beq_self_eq_true, Bool.and_self, decide_eq_true_eq]
    exact ⟨a, t, t', rfl, e⟩
  · have : (k' == k && u' == u) = false := by
      rw [Bool.and_eq_false_iff]
      by_cases z : k' = k
      · right; simpa using fun y => h ⟨z, y⟩
      · left; simpa using z
    rw [this, decide_eq_false_iff_not]
    rintro ⟨b, t2, t3, q, q2⟩
    cases q
    rw [e] at q2
    simp only [Option.some.injEq, AObj.raw.injEq] at q2
    injection q2 with _ _ q3 _
    injection q3 with q4 _
    simp at q4
    exact h ⟨q4.1.1, q4.2.1⟩
theorem Pairs.any {H : AH} {ws : List Value} {ps : List (Int × Int)} {k u : Int} (h : Pairs H ws ps) : ws.any (isPair H k u) = decide ((k, u) ∈ ps) := by
  induction h with
  | nil => simp
  | @cons a k' u' t t' ws ps e _ ih =>
    rw [List.any_cons, ih, isPair_iff e]
    rw [Bool.eq_iff_iff]
    simp only [Bool.or_eq_true, Bool.and_eq_true, beq_iff_eq, decide_eq_true_eq, List.mem_cons, Prod.mk.injEq]
    constructor
    · rintro (⟨h1, h2⟩ | h)
      · exact .inl ⟨h1.symm, h2.symm⟩
      · exact .inr h
    · rintro (⟨h1, h2⟩ | h)
      · exact .inl ⟨h1.symm, h2.symm⟩
      · exact .inr h

section
variable {K : Frag} {p : Program} {loose : List Str} {mean : ExcName → Option Value} {mg mb : Str → Option Value} {A : Around} {env : Env} {h₀ : Heap} {L : Addr} {d : Nat}
variable {prog : Program} {w : World} {C : Addr} {s₀ s : Shared} {own : List (Addr × Obj)} {m : Str → Option Value} {H : AH} {Q : Value → Shared → Prop} {E : Value → Shared → Prop}

theorem eqAt_pair {a b : Addr} {k u k' u' : Int} {t t' t2 t3 : Tok} (S : St C s₀ h₀ L own s m H) (ha : H a = some (.raw (tupObj [.int k' t, .int u' t']))) (hb : H b = some (.raw (tupObj [.int k t2, .int u t3]))) (hu : A.units < cLine) :
    EqAt A s (.ref a) (.ref b) (isPair H k u (.ref a)) := by
  rw [isPair_iff ha]
  by_cases z : a = b
  · subst z
    rw [ha] at hb
    simp only [Option.some.injEq, AObj.raw.injEq] at hb
    injection hb with _ _ q3 _
    injection q3 with q4 _
    simp at q4
    obtain ⟨⟨rfl, _⟩, rfl, _⟩ := q4
    simpa using EqAt.same _
  · refine .of_refs z ?_
    have := RcAt.tuples (e := fun j => if j = 0 then k' == k else u' == u) (S.isTuple ha) (S.isTuple hb) hu (fun j h1 h2 => ?_)
    · simpa [List.range, List.range.loop] using this
    · rcases j with _ | _ | j
      · exact EqAt.int_int k' t k t2
      · exact EqAt.int_int u' t' u t3
      · simp at h1; omega
theorem r_notin_pairs {b l : Addr} {ws : List Value} {ps : List (Int × Int)} {k u : Int} {t t' : Tok} (c : Cx K p loose mean mg mb A env h₀ L d) (S : St C s₀ h₀ L own s m H) (hl : H l = some (.list ws)) (hp : Pairs H ws ps) (hb : H b = some (.raw (tupObj [.int k t, .int u t'])))
    (hq : Q (.bool (!decide ((k, u) ∈ ps))) s) : wpAny (model prog w) A (compareOp .NotIn (.ref b) (.ref l)) Q E s := by
  refine notIn_listAt (isPair H k u) (S.isList hl) (fun y hy => ?_) (by rw [List.any_toArray, hp.any]; exact hq)
  have hy' : y ∈ ws := by simpa using hy
  obtain ⟨j, hj, rfl⟩ := List.mem_iff_getElem.mp hy'
  obtain ⟨a, k', u', t1, t2, e1, e2, _⟩ := hp.get j _ (List.getElem?_eq_getElem hj)
  rw [e1]
  exact eqAt_pair S e2 hb (by rw [units_in1]; have := c.units; omega)
theorem r_remove_pair {b l : Addr} {ws : List Value} {ps : List (Int × Int)} {k u : Int} {t t' : Tok} (c : Cx K p loose mean mg mb A env h₀ L d) (S : St C s₀ h₀ L own s m H) (hl : H l = some (.list ws)) (hp : Pairs H ws ps) (hb : H b = some (.raw (tupObj [.int k t, .int u t']))) (hm : (k, u) ∈ ps)
    (hsz : ws.length ≤ 100000) (h : ∀ s' ws', Pairs H ws' (ps.erase (k, u)) → St C s₀ h₀ L own s' m (put H l (.list ws')) → Q .none s') : wpAny (model prog w) A (call (.builtin "list.remove") [.ref l, .ref b]) Q E s := by
  obtain ⟨n, hn⟩ := S.list hl
  have hlen := hp.len
  have hjl : ps.idxOf (k, u) < ps.length := List.idxOf_lt_length_iff.mpr hm
  have hj : ps.idxOf (k, u) < ws.toArray.size := by rw [List.size_toArray, hlen]; exact hjl
  have key : ∀ q (hq : q < ws.toArray.size), isPair H k u ws.toArray[q] = decide (ps[q]? = some (k, u)) := fun q hq => by
    have hq' : q < ws.length := by simpa using hq
    obtain ⟨a, k', u', t1, t2, e1, e2, e3⟩ := hp.get q _ (List.getElem?_eq_getElem hq')
    have : ws.toArray[q] = .ref a := by simpa using e1
    rw [this, isPair_iff e2, e3]
    by_cases h1 : k' = k <;> by_cases h2 : u' = u <;> simp [h1, h2]
  refine call_meets PySem.F.slot_list_remove ⟨_, hn, rfl⟩ PySem.F.entry_list_remove (PySem.F.args_list_remove_2 _ _)
    (remove_meets l ws.toArray n (.ref b) (isPair H k u) (ps.idxOf (k, u)) hj ?_ (fun q hq h2 => ?_) (by rw [List.size_toArray, sizeLine_eq]; omega)) ⟨hn, fun y hy => ?_, h _ (ws.eraseIdx (ps.idxOf (k, u))) ?_ ?_⟩
  · rw [key, decide_eq_true_eq, List.getElem?_eq_getElem hjl, List.getElem_idxOf]
  · rw [key, decide_eq_false_iff_not]
    intro z
    have hq' : q < ps.length := by rw [← hlen]; simpa using hq
    rw [List.getElem?_eq_getElem hq'] at z
    have := List.not_of_lt_findIdx (p := (· == (k, u))) (xs := ps) h2
    rw [Option.some.inj z] at this
    simp at this
  · have hy' : y ∈ ws := by simpa using hy
    obtain ⟨j, hj', rfl⟩ := List.mem_iff_getElem.mp hy'
    obtain ⟨a, k', u', t1, t2, e1, e2, _⟩ := hp.get j _ (List.getElem?_eq_getElem hj')
    rw [e1]
    exact eqAt_pair S e2 hb (by rw [units_in1]; have := c.units; omega)
  · rw [List.erase_eq_eraseIdx_of_idxOf rfl]
    exact hp.erase _
  · refine S.setList (tk := s.toks) hl (Heap.SameBut.update ..) ⟨if ((ws.toArray.eraseIdxIfInBounds (ps.idxOf (k, u))).size == ws.toArray.size) = true then n else n + 1, ?_⟩
    · rw [Heap.get?_update_self _ hn (by rfl)]
      have hj2 : ps.idxOf (k, u) < ws.length := by simpa using hj
      simp [Obj.mapSeq, Array.eraseIdxIfInBounds]
      intro z
      omega
end
end Mine

end
section
open PySem PySem.W PySem.Calls PyProof.Rows PySem.Spec PySem.SeqAt
set_option Elab.async false
set_option maxRecDepth 100000
namespace Mine

/-! the way into a law, and out of it -/
def LawQ (C : Addr) (s₀ : Shared) (h₀ : Heap) (L : Addr) (f : Flow) (s : Shared) : Prop := f = .ret (.bool true) ∧ ∃ own m H, St C s₀ h₀ L own s m H
theorem LawQ.mk' {C : Addr} {s₀ : Shared} {h₀ : Heap} {L : Addr} {s : Shared} {own : List (Addr × Obj)} {m : Str → Option Value} {H : AH} {b : Bool} (S : St C s₀ h₀ L own s m H) (hb : b = true) : LawQ C s₀ h₀ L (.ret (.bool b)) s := ⟨by rw [hb], own, m, H, S⟩

theorem enter {prog : Program} {w : World} {K : Frag} {p : Program} {loose : List Str} {mean : ExcName → Option Value} {mg mb : Str → Option Value} {C : Addr} {s₁ : Shared} {h₁ : Heap} {m : Str → Option Value} {qual : Str} {scope : Scope} {fa : Addr} {cd : Value} {tk : Nat}
    {body : List Stmt} {Q : Flow → Shared → Prop} {E : Value → Shared → Prop} (KX : K.In s₁.heap) (T : Top p loose mean mg mb s₁.heap) (F : Fr s₁.heap s₁.heap.objs.size h₁ m) (hgens : s₁.gens = #[])
    (h : ∀ s, Cx K p loose mean mg mb (callerA.deeper (envOf qual scope s₁.heap.objs.size fa cd)) (envOf qual scope s₁.heap.objs.size fa cd) s₁.heap s₁.heap.objs.size 300 → St C s₁ s₁.heap s₁.heap.objs.size [] s m (fun _ => none) →
      Pyl prog w (callerA.deeper (envOf qual scope s₁.heap.objs.size fa cd)) s₁.heap →
      wpAny (model prog w) (callerA.deeper (envOf qual scope s₁.heap.objs.size fa cd)) (execs body (envOf qual scope s₁.heap.objs.size fa cd)) (LawQ C s₁ s₁.heap s₁.heap.objs.size) NoE s)
    (hQ : ∀ s' m', Fr s₁.heap s₁.heap.objs.size s'.heap m' → s'.gens = #[] → s'.os = s₁.os → Q (.ret (.bool true)) s')
    (hs : importsNone p = true) (htree : prog.given.tree = none) (hk : scope.kind = .function) (hg : scope.isGenerator = false) (hco : scope.isCoroutine = false) :
    wpAny (model prog w) (callerA.deeper (envOf qual scope s₁.heap.objs.size fa cd)) (execs body (envOf qual scope s₁.heap.objs.size fa cd)) Q E { heap := h₁, gens := s₁.gens, drawn := s₁.drawn, toks := tk, os := s₁.os } := by
  have B := below_caller s₁.heap
  refine wpAny_mono (h _ ⟨⟨callerA, s₁.heap, [], B, Around.frames_deeper B.stack⟩, KX, T, rfl, hk, rfl, rfl, rfl, rfl, ?_, ?_⟩ ⟨F, ⟨fun a => a, ?_⟩, rfl, rfl, rfl⟩ ?_) (fun f s' hf => ?_) fun _ _ x => x.elim
  · rw [depth_deeper]; decide
  · rw [units_deeper]; decide
  · exact ⟨fun a o e => (nomatch e), fun a o e => (nomatch e), fun a f e => (nomatch e), fun a f e => (nomatch e), fun a b f g e => (nomatch e), fun q hq => (nomatch hq), fun q hq => (nomatch hq), fun q hq => (nomatch hq)⟩
  · intro s hk'
    exact PylongRoom.of (T.nolimit.keeps hk') (by rw [depth_deeper]; decide) (SeerAt.of ((T.seer hs).keeps hk') htree (Around.frames_deeper B.stack) hg hco rfl rfl)
  · obtain ⟨rfl, own, m', H, S⟩ := hf
    exact hQ s' m' S.fr (S.gens.trans hgens) S.os
/-! looking an object up -/
theorem put_step {H : AH} {a b : Addr} {o ob : AObj} (e : H a = some o) (n : H a = some o → a ≠ b) : put H b ob a = some o := put_off (n e) e
theorem ne_new {H : AH} {a b : Addr} {o : AObj} (hb : H b = none) (e : H a = some o) : a ≠ b := fun z => by rw [z, hb] at e; cases e
theorem ne_kind {H : AH} {a b : Addr} {o o' : AObj} (e : H a = some o) (hb : H b = some o') (h : o ≠ o') : a ≠ b := fun z => by rw [z, hb] at e; cases e; exact h rfl
theorem SubX.of {C : Addr} {s₀ : Shared} {h₀ : Heap} {L : Addr} {s : Shared} {own : List (Addr × Obj)} {m : Str → Option Value} {X : List Addr} {H H' : AH} (_S : St C s₀ h₀ L own s m H') (h : SubX X H H') : SubX X H H' := h
theorem wp_forIn_nil {α β : Type} {M : Model} {A : Around} {E : Value → Shared → Prop} {s : Shared} {b : β} {f : α → β → Sem (ForInStep β)} {Q : β → Shared → Prop} (h : Q b s) : wpAny M A (forIn ([] : List α) b f) Q E s := wpAny_pure h
theorem CompPut.mk' {C : Addr} {s₀ : Shared} {h₀ : Heap} {L : Addr} {s : Shared} {own : List (Addr × Obj)} {m : Str → Option Value} {H : AH} {Cc : Addr} {o : Obj} {mc : Str → Option Value} {J : List Value → AH → Prop} {ys : List Value} {y : Value} (O : ObjNs o mc) (S : St C s₀ h₀ L ((Cc, o) :: own) s m H) (j : J (ys ++ [y]) H) :
    CompPut C s₀ h₀ L own Cc m J ys y s := ⟨o, mc, H, O, S, j⟩
theorem St.name {C : Addr} {s₀ : Shared} {h₀ : Heap} {L : Addr} {s : Shared} {own : List (Addr × Obj)} {m : Str → Option Value} {H : AH} (S : St C s₀ h₀ L own s m H) {P : AH → Prop} (h : P H) : ∃ H', P H' ∧ St C s₀ h₀ L own s m H' := ⟨H, h, S⟩
theorem SubX.back {H H' : AH} {b D : Addr} {o o' : AObj} (h : SubX [b] H H') (e : H b = some o) (hD : H' D = none) (hn : D ≠ b) : Sub H (Mine.put (Mine.put H' b o) D o') := fun a q hq => by
  have h1 : Mine.put H' b o a = some q := by
    by_cases z : a = b
    · rw [z, e] at hq; cases hq; rw [z]; exact put_same
    · exact put_off z (h a q (by simpa using z) hq)
  exact put_new ((put_ne hn).trans hD) h1
theorem one_arg (x : Str) (v : Value) : (fun y => List.lookup y [(x, v)].reverse) = upd (fun _ => none) x v := by
  funext y
  unfold upd
  by_cases h : y = x
  · simp [h]
  · have : (y == x) = false := by simpa using h
    simp [List.lookup, this, h]
theorem fr_one {h₀ h : Heap} {L : Addr} {x : Str} {v : Value} (F : Fr h₀ L h (fun y => List.lookup y [(x, v)].reverse)) : Fr h₀ L h (upd (fun _ => none) x v) := by
  rw [← one_arg]; exact F
theorem ints_at {vs : List Value} {ns : List Int} (h : IntsAre vs ns) : ∀ (i : Nat) (v : Value), vs[i]? = some v → ∃ x tk, v = Value.int x tk := by
  induction h with
  | nil => intro i v e; simp at e
  | cons n t _ ih =>
    intro i v e
    cases i with
    | zero => simp at e; exact ⟨_, _, e.symm⟩
    | succ i => simp at e; exact ih i v e
theorem ints_app {vs us : List Value} {ns ms : List Int} (h : IntsAre vs ns) (h' : IntsAre us ms) : IntsAre (vs ++ us) (ns ++ ms) := by
  induction h with
  | nil => exact h'
  | cons n t _ ih => exact .cons n t ih
theorem ints_rep (x : Int) (t : Tok) : ∀ n, IntsAre (List.replicate n (.int x t)) (List.replicate n x)
  | 0 => .nil
  | n + 1 => by rw [List.replicate_succ, List.replicate_succ]; exact .cons _ _ (ints_rep x t n)
theorem ints_len {vs : List Value} {ns : List Int} (h : IntsAre vs ns) : vs.length = ns.length := by
  induction h with
  | nil => rfl
  | cons n t _ ih => simp [ih]
theorem del_put {H : AH} {a : Addr} {o : AObj} (h : H a = none) : del (put H a o) a = H := by
  funext b
  unfold del put
  by_cases z : b = a
  · simp [z, h]
  · simp [z]
theorem SubX.del1 {H : AH} {a : Addr} : SubX [a] H (Mine.del H a) := fun b o hb e => by
  have : b ≠ a := fun z => hb (by simp [z])
  exact (del_ne this).trans e
theorem ite_nt {P Q : Prop} (h : Q) : if (!true) = true then P else Q := h
theorem ite_nf {P Q : Prop} (h : P) : if (!false) = true then P else Q := h
theorem ite_T {P Q : Prop} (h : P) : if True then P else Q := by rw [if_pos trivial]; exact h
theorem ite_F {P Q : Prop} (h : Q) : if False then P else Q := by rw [if_neg id]; exact h
theorem St.given {C : Addr} {s₀ : Shared} {h₀ : Heap} {L : Addr} {s : Shared} {own : List (Addr × Obj)} {m : Str → Option Value} {H : AH} {l : Addr} {xs : Array Value} (S : St C s₀ h₀ L own s m H) (h : h₀.IsList l xs) : s.heap.IsList l xs := by
  obtain ⟨o, a, r⟩ := h
  exact ⟨o, S.fr.keep _ _ a, r⟩
end Mine

end
section
open PySem PySem.W PySem.Calls PyProof.Rows PySem.Spec PySem.SeqAt
set_option Elab.async false
set_option maxRecDepth 100000
namespace Mine

section
variable {K : Frag} {p : Program} {loose : List Str} {mean : ExcName → Option Value} {mg mb : Str → Option Value} {A : Around} {env : Env} {h₀ : Heap} {L : Addr} {d : Nat}
variable {prog : Program} {w : World} {C : Addr} {s₀ s : Shared} {own : List (Addr × Obj)} {m : Str → Option Value} {H : AH} {Q : Value → Shared → Prop} {E : Value → Shared → Prop}

/-! ranges -/
abbrev rangeObj (a b c : Int) (t u v : Tok) : Obj := { cls := .type "range", data := .fields #[.int a t, .int b u, .int c v] }
theorem r_range1 {n : Int} {t : Tok} (S : St C s₀ h₀ L own s m H) (h : ∀ r s' t1 t2, H r = none → St C s₀ h₀ L own s' m (put H r (.raw (rangeObj 0 n 1 t1 t t2))) → Q (.ref r) s') : wpAny (model prog w) A (call (.type "range") [.int n t]) Q E s :=
  call_range_1 (by
    obtain ⟨q, S'⟩ := S.pushed (o := rangeObj 0 n 1 s.toks t (s.toks + 1)) (ao := .raw (rangeObj 0 n 1 s.toks t (s.toks + 1))) (tk := s.toks + 1 + 1) (fun _ x => by cases x) rfl fun h d e => e
    exact h _ _ _ _ q S')
theorem r_range2 {a n : Int} {t u : Tok} (S : St C s₀ h₀ L own s m H) (h : ∀ r s' t2, H r = none → St C s₀ h₀ L own s' m (put H r (.raw (rangeObj a n 1 t u t2))) → Q (.ref r) s') : wpAny (model prog w) A (call (.type "range") [.int a t, .int n u]) Q E s :=
  call_range_2 (by
    obtain ⟨q, S'⟩ := S.pushed (o := rangeObj a n 1 t u s.toks) (ao := .raw (rangeObj a n 1 t u s.toks)) (tk := s.toks + 1) (fun _ x => by cases x) rfl fun h d e => e
    exact h _ _ _ q S')
theorem r_range3 {a n k : Int} {t u v : Tok} (S : St C s₀ h₀ L own s m H) (hk : k ≠ 0) (hk2 : k.natAbs < 1073741824) (h : ∀ r s', H r = none → St C s₀ h₀ L own s' m (put H r (.raw (rangeObj a n k t u v))) → Q (.ref r) s') : wpAny (model prog w) A (call (.type "range") [.int a t, .int n u, .int k v]) Q E s :=
  call_range_3 hk (by
    obtain ⟨q, S'⟩ := S.pushed (o := rangeObj a n k t u v) (ao := .raw (rangeObj a n k t u v)) (tk := s.toks) (fun _ x => by cases x) rfl fun h d e => e
    exact h _ _ q S') (.inl (PyProof.noPylong_small hk2))

def ForR (prog : Program) (w : World) (A : Around) (C : Addr) (s₀ : Shared) (h₀ : Heap) (L : Addr) (env : Env) (x : Str) (body : List Stmt) (Q : Flow → Shared → Prop) (xv : Value) (s : Shared) : Prop :=
  ∃ (r : Addr) (a b c : Int) (t u v : Tok) (n : Nat) (own : List (Addr × Obj)) (m : Str → Option Value) (H : AH) (J : Nat → (Str → Option Value) → AH → Prop), xv = .ref r ∧ St C s₀ h₀ L own s m H ∧ H r = some (.raw (rangeObj a b c t u v)) ∧
    Builtin.Range.small a b c = true ∧ Builtin.Range.rangeSize a b c = n ∧ J 0 m H ∧
    (∀ (i : Nat) t m₁ H₁ own₁ s₁, i < n → J i m₁ H₁ → St C s₀ h₀ L own₁ s₁ (upd m₁ x (.int (a + i * c) t)) H₁ → wpAny (model prog w) A (execs body env) (TurnQ C s₀ h₀ L own₁ (J (i + 1)) Q) NoE s₁) ∧
    ∀ m₁ H₁ s₁, J n m₁ H₁ → St C s₀ h₀ L own s₁ m₁ H₁ → Q .next s₁
theorem r_for_range {x : Str} {px pos : Pos} {iter : Expr} {body : List Stmt} {Q : Flow → Shared → Prop} (c : Cx K p loose mean mg mb A env h₀ L d) (_S : St C s₀ h₀ L own s m H)
    (h : wpAny (model prog w) A (eval iter env) (ForR prog w A C s₀ h₀ L env x body Q) NoE s) (hx : env.kindOf x = some .local) (hs : ∀ x, foldedSetIterable iter env x = pure x) :
    wpAny (model prog w) A (exec (.For (.Name x px) iter body [] pos) env) Q NoE s := by
  refine wpAny_For (wpAny_mono h (fun xv s₁ hf => ?_) fun _ _ y => y) hs
  obtain ⟨r, a, b, cc, t, u, v, n, own, m, H, J, rfl, S, hr, hsm, hn, h0, step, done⟩ := hf
  refine wpAny_pyIter_range (S.raw hr) hsm ?_
  rw [hn]
  obtain ⟨hi, S₁⟩ := S.pushed (o := { cls := .type "range_iterator", data := .fields #[rawInt a, rawInt (n : Int), rawInt cc] }) (ao := .raw { cls := .type "range_iterator", data := .fields #[rawInt a, rawInt (n : Int), rawInt cc] }) (tk := s₁.toks) (fun _ x => by cases x) rfl fun h d e => e
  obtain ⟨oi, hoi, S₂⟩ := S₁.hold (a := s₁.heap.objs.size) put_same (fun _ x => by cases x)
  rw [del_put hi] at S₂
  have hnew := S.at_new
  have W := Walks.range (prog := prog) (w := w) (A := A) c.handled s₁.heap.objs.size a cc n
  have hI : IsRangeIter (s₁.heap.push { cls := .type "range_iterator", data := .fields #[rawInt a, rawInt (n : Int), rawInt cc] }) s₁.heap.objs.size a (n : Int) cc := Heap.get?_push_size _ rfl
  refine code_for1 (P := [(s₁.heap.objs.size, oi)]) (own := own) W (fun i h hw b hb => ?_) c hx S₂ ?_ (fun z => ?_) (fun b hb => ?_) (fun b hb _ => ?_) (fun q hq => ?_) (fun b hb q hq => ?_) J h0 (fun i v m₁ H₁ P₁ s₂ hin hv hJ S₄ => ?_) fun m₁ H₁ s₂ hJ S₄ => ?_
  · rcases List.mem_singleton.mp hb with rfl; exact ⟨_, hw⟩
  · simpa using hI
  · exact hnew.1 (List.mem_singleton.mp z).symm
  · rcases List.mem_singleton.mp hb with rfl; exact hnew.2.1
  · rcases List.mem_singleton.mp hb with rfl; exact ⟨oi, .head _⟩
  · rcases List.mem_singleton.mp hq with rfl; exact .head _
  · rcases List.mem_singleton.mp hb with rfl
    exact fun z => S.own_new hnew.2.2 q hq z.symm
  · obtain ⟨tt, rfl⟩ := hv
    exact wpAny_mono (step i tt m₁ H₁ _ s₂ hin hJ S₄) (fun f s₅ h₅ => by cases f <;> exact h₅) fun _ _ y => y
  · exact done m₁ H₁ s₂ hJ S₄.dropAll

/-! while -/
def WhileQ (C : Addr) (s₀ : Shared) (h₀ : Heap) (L : Addr) (own : List (Addr × Obj)) (J : Nat → (Str → Option Value) → AH → Prop) (Q : Flow → Shared → Prop) (n : Nat) (f : Flow) (s : Shared) : Prop :=
  match f with
  | .ret v => Q (.ret v) s
  | .brk => Q .next s
  | _ => ∃ n' m H, n' < n ∧ St C s₀ h₀ L own s m H ∧ J n' m H
theorem WhileQ.mk' {J : Nat → (Str → Option Value) → AH → Prop} {Q : Flow → Shared → Prop} {n n' : Nat} (S : St C s₀ h₀ L own s m H) (hn : n' < n) (j : J n' m H) : WhileQ C s₀ h₀ L own J Q n .next s := ⟨n', m, H, hn, S, j⟩
theorem r_while {test : Expr} {body : List Stmt} {pos : Pos} {Q : Flow → Shared → Prop} (S : St C s₀ h₀ L own s m H) (J : Nat → (Str → Option Value) → AH → Prop) (n₀ : Nat) (h0 : J n₀ m H)
    (turn : ∀ n m₁ H₁ s₁, J n m₁ H₁ → St C s₀ h₀ L own s₁ m₁ H₁ → wpAny (model prog w) A (PySem.isTrue test env (eval test env)) (fun b s₂ => if b = true then wpAny (model prog w) A (execs body env) (WhileQ C s₀ h₀ L own J Q n) NoE s₂ else Q .next s₂) NoE s₁) :
    wpAny (model prog w) A (exec (.While test body [] pos) env) Q NoE s := by
  refine wpAny_While (codeAny_whileLoop (fun n s' => ∃ m₁ H₁, St C s₀ h₀ L own s' m₁ H₁ ∧ J n m₁ H₁) ?_ n₀ ⟨m, H, S, h0⟩)
  rintro n s' ⟨m₁, H₁, S₁, J₁⟩
  refine wpAny_mono (turn n m₁ H₁ s' J₁ S₁) (fun b s₂ h₂ => ?_) fun _ _ x => x.elim
  cases b with
  | false =>
    simp only [Bool.false_eq_true, if_false] at h₂ ⊢
    exact wpAny_execs_nil h₂
  | true =>
    simp only [if_true] at h₂ ⊢
    refine wpAny_mono h₂ (fun f s₃ h₃ => ?_) fun _ _ x => x.elim
    cases f with
    | next => obtain ⟨n', m₂, H₂, hn, S₂, J₂⟩ := h₃; exact ⟨n', hn, m₂, H₂, S₂, J₂⟩
    | cont => obtain ⟨n', m₂, H₂, hn, S₂, J₂⟩ := h₃; exact ⟨n', hn, m₂, H₂, S₂, J₂⟩
    | brk => exact h₃
    | ret v => exact h₃

/-! numbers -/
theorem r_divmod {a b : Int} {t u : Tok} (S : St C s₀ h₀ L own s m H) (hb : b ≠ 0) (hb2 : b.natAbs < 1073741824)
    (h : ∀ x s' t1 t2, H x = none → St C s₀ h₀ L own s' m (put H x (.raw (tupObj [.int (a.fdiv b) t1, .int (a.fmod b) t2]))) → Q (.ref x) s') : wpAny (model prog w) A (call (.builtin "divmod") [.int a t, .int b u]) Q E s :=
  divmod_int hb (by
    obtain ⟨q, S'⟩ := S.pushed (o := tupObj [.int (a.fdiv b) s.toks, .int (a.fmod b) (s.toks + 1)]) (ao := .raw (tupObj [.int (a.fdiv b) s.toks, .int (a.fmod b) (s.toks + 1)])) (tk := s.toks + 1 + 1) (fun _ x => by cases x) rfl fun h d e => e
    exact h _ _ _ _ q S') (.inl (PyProof.noPylong_small hb2))
theorem r_fdiv' {a b : Int} {t u : Tok} (S : St C s₀ h₀ L own s m H) (hb : b ≠ 0) (hb2 : b.natAbs < 1073741824) (h : ∀ s' t, St C s₀ h₀ L own s' m H → Q (.int (a.fdiv b) t) s') : wpAny (model prog w) A (binaryOp .FloorDiv (.int a t) (.int b u)) Q E s :=
  floordiv_int hb (h _ _ (S.tok _)) (.inl (PyProof.noPylong_small hb2))
theorem r_sum {l : Addr} {vs : List Value} {ns : List Int} (c : Cx K p loose mean mg mb A env h₀ L d) (S : St C s₀ h₀ L own s m H) (hl : H l = some (.list vs)) (hi : IntsAre vs ns) (h : ∀ s' t, St C s₀ h₀ L own s' m H → Q (.int ns.sum t) s') :
    wpAny (model prog w) A (call (.builtin "sum") [.ref l]) Q E s := by
  refine LSm.sum_ints S.fr (news_full h₀ L s.heap) c.handled (S.isList hl) hi fun h' tk t' F' N' => h _ t' ?_
  exact S.keep F' fun b o hL h0 e => (N' (b, o) (mem_full.mpr ⟨e, hL, h0⟩)).1

/-! constants, is -/
theorem r_bytes {x : List UInt8} {k : Nat} {pos : Pos} (S : St C s₀ h₀ L own s m H) (h : ∀ s' t, St C s₀ h₀ L own s' m H → Q (.bytes x.toArray t) s') : wpAny (model prog w) A (eval (.Constant (.bytes x) k pos) env) Q E s := by
  have : ∀ s', s' = { s with toks := s.toks + 1 } → Q (.bytes x.toArray s.toks) s' := fun s' e => e ▸ h _ _ (S.tok _)
  exact fun _ _ _ => this _ rfl
theorem r_is_rr {a : Addr} (h : Q (.bool true) s) : wpAny (model prog w) A (compareOp .Is (.ref a) (.ref a)) Q E s := by
  refine wpAny_bind (wpAny_isSame_ref_self ?_)
  exact wpAny_pure h
theorem r_isnot_rr {a : Addr} (h : Q (.bool false) s) : wpAny (model prog w) A (compareOp .IsNot (.ref a) (.ref a)) Q E s := by
  refine wpAny_bind (wpAny_isSame_ref_self ?_)
  exact wpAny_pure h

/-! slices -/
abbrev sliceObj (lo hi : Value) : Obj := { cls := .type "slice", data := .fields #[lo, hi, .none] }
def SliceMk (C : Addr) (s₀ : Shared) (h₀ : Heap) (L : Addr) (Q : Value → Shared → Prop) (l u : Value) (s : Shared) : Prop := ∃ own m H, St C s₀ h₀ L own s m H ∧ ∀ a s', H a = none → St C s₀ h₀ L own s' m (put H a (.raw (sliceObj l u))) → Q (.ref a) s'
theorem r_sliceObj {lower upper : Option Expr} {p : Pos} (_S : St C s₀ h₀ L own s m H)
    (h : wpAny (model prog w) A (evalPart lower env) (fun l s₁ => wpAny (model prog w) A (evalPart upper env) (SliceMk C s₀ h₀ L Q l) E s₁) E s) :
    wpAny (model prog w) A (eval (.Slice lower upper none p) env) Q E s := by
  refine wpAny_Slice (wpAny_mono h (fun l s₁ h₁ => wpAny_mono h₁ (fun u s₂ h₂ => ?_) fun _ _ y => y) fun _ _ y => y)
  obtain ⟨own, m, H, S, k⟩ := h₂
  refine evalPart_none_step ?_
  obtain ⟨q, S'⟩ := S.pushed (o := sliceObj l u) (ao := .raw (sliceObj l u)) (tk := s₂.toks) (fun _ x => by cases x) rfl fun h d e => e
  exact k _ _ q S'
theorem r_sliceMk {own : List (Addr × Obj)} {m : Str → Option Value} {H : AH} {l u : Value} {Q : Value → Shared → Prop} (S : St C s₀ h₀ L own s m H) (h : ∀ a s', H a = none → St C s₀ h₀ L own s' m (put H a (.raw (sliceObj l u))) → Q (.ref a) s') :
    SliceMk C s₀ h₀ L Q l u s := ⟨own, m, H, S, h⟩
theorem r_getslice {value slice : Expr} {l sl : Addr} {vs : List Value} {vl vu : Value} {lo hi : Option Int} (S : St C s₀ h₀ L own s m H) (hl : H l = some (.list vs)) (hsl : H sl = some (.raw (sliceObj vl vu))) (pl : IsPart vl lo) (pu : IsPart vu hi) (hsz : vs.length ≤ 10000)
    (h : ∀ a s', H a = none → St C s₀ h₀ L own s' m (put H a (.list (slicePick vs.toArray lo hi none).toList)) → Q (.ref a) s')
    (hs : subscripted slice false (.ref l) (.ref sl) = operate [.ref sl, .ref l] (getItem (.ref l) (.ref sl)) := by with_unfolding_all rfl) :
    wpAny (model prog w) A (subscriptTail value slice (.ref l) (.ref sl)) Q E s := by
  have hsz' : vs.toArray.size ≤ sizeLine := by rw [List.size_toArray, sizeLine_eq]; omega
  refine tail_any (S.isList hl).typeIs slot_list_getitem.lookup (wpAny_getItem_list_slice (S.isList hl) ⟨_, S.raw hsl, rfl, rfl⟩ pl pu .none (by simp) ?_ hsz') hs
  obtain ⟨q, S'⟩ := S.pushed (o := listObj (slicePick vs.toArray lo hi none).toList 0) (ao := .list (slicePick vs.toArray lo hi none).toList) (tk := s.toks) (fun _ x => by cases x) rfl fun h d e => ⟨0, e⟩
  refine h _ _ q ?_
  simpa using S'
theorem r_slice_to {value slice : Expr} {l sl : Addr} {vs : List Value} {b : Int} {tb : Tok} (S : St C s₀ h₀ L own s m H) (hl : H l = some (.list vs)) (hsl : H sl = some (.raw (sliceObj .none (.int b tb)))) (hb : 0 ≤ b) (hsz : vs.length ≤ 10000)
    (h : ∀ a s', H a = none → St C s₀ h₀ L own s' m (put H a (.list (vs.take b.toNat))) → Q (.ref a) s')
    (hs : subscripted slice false (.ref l) (.ref sl) = operate [.ref sl, .ref l] (getItem (.ref l) (.ref sl)) := by with_unfolding_all rfl) :
    wpAny (model prog w) A (subscriptTail value slice (.ref l) (.ref sl)) Q E s := by
  refine r_getslice S hl hsl .none (.int _ _) hsz (fun a s' ha S' => h a s' ha ?_) hs
  have := slicePick_upto' vs.toArray b.toNat
  rw [Int.toNat_of_nonneg hb] at this
  rw [this] at S'
  exact S'
theorem r_slice_from {value slice : Expr} {l sl : Addr} {vs : List Value} {b : Int} {tb : Tok} (S : St C s₀ h₀ L own s m H) (hl : H l = some (.list vs)) (hsl : H sl = some (.raw (sliceObj (.int b tb) .none))) (hb : 0 ≤ b) (hsz : vs.length ≤ 10000)
    (h : ∀ a s', H a = none → St C s₀ h₀ L own s' m (put H a (.list (vs.drop b.toNat))) → Q (.ref a) s')
    (hs : subscripted slice false (.ref l) (.ref sl) = operate [.ref sl, .ref l] (getItem (.ref l) (.ref sl)) := by with_unfolding_all rfl) :
    wpAny (model prog w) A (subscriptTail value slice (.ref l) (.ref sl)) Q E s := by
  refine r_getslice S hl hsl (.int _ _) .none hsz (fun a s' ha S' => h a s' ha ?_) hs
  have := slicePick_from' vs.toArray b.toNat
  rw [Int.toNat_of_nonneg hb] at this
  rw [this] at S'
  exact S'
theorem pick_upto (vs : List Value) (b : Nat) : (slicePick vs.toArray none (some (b : Int)) none).toList = vs.take b := by rw [slicePick_upto']
theorem pick_from (vs : List Value) (a : Nat) : (slicePick vs.toArray (some (a : Int)) none none).toList = vs.drop a := by rw [slicePick_from']
theorem pick_butLast (vs : List Value) : (slicePick vs.toArray none (some (-1)) none).toList = vs.take (vs.length - 1) := by
  have := slicePick_butLast vs.toArray 1 (by decide)
  rw [show (-((1 : Nat) : Int)) = -1 from rfl] at this
  rw [this]; simp
end
end Mine
namespace Mine
theorem ite_yes {b : Bool} {P Q : Prop} (hb : b = true) (h : P) : if b = true then P else Q := by rw [if_pos hb]; exact h
theorem ite_no {b : Bool} {P Q : Prop} (hb : b = false) (h : Q) : if b = true then P else Q := by rw [if_neg (by rw [hb]; exact Bool.false_ne_true)]; exact h
section
variable {C : Addr} {s₀ : Shared} {h₀ : Heap} {L : Addr} {s : Shared} {own : List (Addr × Obj)} {m : Str → Option Value} {H : AH}
theorem St.srcAt (_S : St C s₀ h₀ L own s m H) {a : Addr} {F : Flds} (e : H a = some (.src F)) : H a = some (.src F) := e
theorem St.listAt (_S : St C s₀ h₀ L own s m H) {a : Addr} {vs : List Value} (e : H a = some (.list vs)) : H a = some (.list vs) := e
theorem St.keptAt (_S : St C s₀ h₀ L own s m H) {a : Addr} {o : AObj} (e : H a = some o) : H a = some o := e
end
section
variable {prog : Program} {w : World} {A : Around} {C : Addr} {s₀ : Shared} {h₀ : Heap} {L : Addr} {s : Shared} {own : List (Addr × Obj)} {m : Str → Option Value} {H : AH} {Q : Value → Shared → Prop}
theorem wp_value (v0 : Value) {t : Sem Value} (_S : St C s₀ h₀ L own s m H) (h1 : wpAny (model prog w) A t (fun v s' => v = v0 ∧ St C s₀ h₀ L own s' m H) NoE s) (h2 : ∀ s', St C s₀ h₀ L own s' m H → Q v0 s') : wpAny (model prog w) A t Q NoE s :=
  wpAny_mono h1 (fun v s' h => by rw [h.1]; exact h2 s' h.2) fun _ _ x => x
theorem wp_test {t : Sem Bool} {Q : Bool → Shared → Prop} (b0 : Bool) (_S : St C s₀ h₀ L own s m H) (h1 : wpAny (model prog w) A t (fun v s' => v = b0 ∧ St C s₀ h₀ L own s' m H) NoE s) (h2 : ∀ s', St C s₀ h₀ L own s' m H → Q b0 s') : wpAny (model prog w) A t Q NoE s :=
  wpAny_mono h1 (fun v s' h => by rw [h.1]; exact h2 s' h.2) fun _ _ x => x
end
theorem ints_same {H : AH} {n : Nat} {vs us : List Value} {ns : List Int} (h : IntsAre vs ns) : IntsAre us ns → SameAll H n vs us := by
  induction h generalizing us with
  | nil => intro h'; cases h'; exact .nil
  | cons k t _ ih => intro h'; cases h' with | cons _ t' h'' => exact .cons Same.int (ih h'')
def fdn : Nat → Fd
  | 0 => .sys
  | 1 => .pub
  | 2 => .enc
  | 3 => .byt
  | _ => .chr
end Mine

end
section
open PySem PySem.W PySem.Calls PyProof.Rows PySem.Spec PySem.SeqAt
set_option Elab.async false
set_option maxRecDepth 100000
namespace Mine

/-! dicts with int keys -/
def DObj (prog : Program) (w : World) (f : Int → Option Value) (n : Nat) (o : Obj) : Prop := ∃ kvs : List (Int × Value), o.IsDictOf (intKind prog w) kvs ∧ kvs.length ≤ n ∧ ∀ k, valueAt kvs k = f k
theorem valueAt_stored {kvs : List (Int × Value)} {k x : Int} {v : Value} : valueAt (stored kvs k v) x = if x = k then some v else valueAt kvs x := by
  unfold stored
  by_cases hany : (kvs.any fun kv => decide (kv.1 = k)) = true
  · rw [if_pos hany]
    induction kvs with
    | nil => simp at hany
    | cons a r ih =>
      unfold valueAt at ih ⊢
      rw [List.map_cons, List.find?_cons]
      by_cases h1 : a.1 = k
      · simp only [h1, if_true]
        by_cases h2 : k = x
        · simp [h2]
        · simp only [h2, decide_false]
          rw [if_neg (fun z => h2 z.symm)]
          rw [List.find?_cons]
          simp only [h1, h2, decide_false]
          clear ih hany
          induction r with
          | nil => rfl
          | cons b r ih2 =>
            rw [List.map_cons, List.find?_cons, List.find?_cons]
            by_cases h3 : b.1 = k
            · simp only [h3, if_true, h2, decide_false]; exact ih2
            · simp only [h3, if_false]
              by_cases h4 : b.1 = x
              · simp [h4]
              · simp only [h4, decide_false]; exact ih2
      · simp only [h1, if_false]
        have hany' : (r.any fun kv => decide (kv.1 = k)) = true := by simpa [h1] using hany
        by_cases h2 : a.1 = x
        · have : x ≠ k := fun z => h1 (h2.trans z)
          simp [h2, this]
        · simp only [h2, decide_false]
          rw [ih hany', List.find?_cons]
          simp [h2]
  · rw [if_neg hany]
    unfold valueAt
    rw [List.find?_append]
    by_cases h1 : x = k
    · subst h1
      have : kvs.find? (fun kv => decide (kv.1 = x)) = none := by
        rw [List.find?_eq_none]
        intro a ha z
        exact hany (List.any_eq_true.mpr ⟨a, ha, z⟩)
      rw [this]
      simp
    · have h2 : ¬ k = x := fun z => h1 z.symm
      simp only [List.find?_cons, List.find?_nil, h2, decide_false, Option.or_none, if_neg h1]

section
variable {K : Frag} {p : Program} {loose : List Str} {mean : ExcName → Option Value} {mg mb : Str → Option Value} {A : Around} {env : Env} {h₀ : Heap} {L : Addr} {d : Nat}
variable {prog : Program} {w : World} {C : Addr} {s₀ s : Shared} {own : List (Addr × Obj)} {m : Str → Option Value} {H : AH} {Q : Value → Shared → Prop} {E : Value → Shared → Prop}

theorem St.notMod (c : Cx K p loose mean mg mb A env h₀ L d) (S : St C s₀ h₀ L own s m H) : (s.heap.objs.size == sysModules) = false := S.fr.notModules (modules_low c.T.nolimit)
theorem r_dict0 {env' : Env} {pos : Pos} (c : Cx K p loose mean mg mb A env h₀ L d) (S : St C s₀ h₀ L own s m H) (h : ∀ a o s', H a = none → (a == sysModules) = false → DObj prog w (fun _ => none) 0 o → St C s₀ h₀ L own s' m (put H a (.raw o)) → Q (.ref a) s') :
    wpAny (model prog w) A (eval (.Dict [] [] pos) env') Q E s := by
  refine wpAny_Dict_empty ?_
  obtain ⟨q, S'⟩ := S.pushed (o := { cls := .type "dict", data := .dict #[] }) (ao := .raw { cls := .type "dict", data := .dict #[] }) (tk := s.toks) (fun _ x => by cases x) rfl fun h d e => e
  refine h _ _ _ q (S.notMod c) ⟨[], ?_, Nat.le_refl _, fun _ => rfl⟩ S'
  obtain ⟨o, ho, hd⟩ := Heap.dictOf_iff.mp (Heap.DictOf.new (knd := intKind prog w) s.heap)
  rw [Heap.get?_push_size _ rfl] at ho
  exact (Option.some.inj ho) ▸ hd

theorem r_dict1 {env' : Env} {pos p1 p2 : Pos} {k v : Int} {n1 n2 : Nat} (c : Cx K p loose mean mg mb A env h₀ L d) (S : St C s₀ h₀ L own s m H) (h : ∀ a o s' t, H a = none → (a == sysModules) = false → DObj prog w (fun x => if x = k then some (.int v t) else none) 1 o → St C s₀ h₀ L own s' m (put H a (.raw o)) → Q (.ref a) s') :
    wpAny (model prog w) A (eval (.Dict [some (.Constant (.int k) n1 p1)] [.Constant (.int v) n2 p2] pos) env') Q E s := by
  refine Dict_made_int rfl S.fr rfl rfl (by simp) (by simp) fun F' => ?_
  refine pairTrees_cons_walk (wpAny_Constant_int (wpAny_Constant_int (pairTrees_nil_walk ?_)))
  refine ⟨[(k, .int v (s.toks + 1))], ?_, Heap.DictOf.new _, fun h' hd hs => ?_⟩
  · exact ⟨intKind_is _ _ _ _, rfl, trivial⟩
  · obtain ⟨o, ho, hd'⟩ := Heap.dictOf_iff.mp hd
    have k1 : ∀ b ob, s.heap.get? b = some ob → h'.get? b = some ob := fun b ob e => (hs.2 b (Nat.ne_of_lt (Heap.lt_size e))).trans (Heap.get?_push_of_some _ e)
    obtain ⟨q, S'⟩ := S.add (tk := s.toks + 1 + 1 + 1) (o := .raw o) (Fr.of_ext S.fr k1) (fun _ x => by cases x) S.at_new.2.2 S.at_new.1 S.at_new.2.1 (fun b ob _ _ e => k1 b ob e) (fun d => ho)
    refine h _ o _ (s.toks + 1) q (S.notMod c) ⟨_, hd', by simp [merged, stored], fun x => ?_⟩ S'
    simp only [merged, List.foldl_cons, List.foldl_nil]
    rw [valueAt_stored]
    rfl

theorem DObj.map {a : Addr} {f : Int → Option Value} {n : Nat} {o : Obj} {h : Heap} (D : DObj prog w f n o) (e : h.get? a = some o) : h.MapOf (intKind prog w) a f := by
  obtain ⟨kvs, hd, _, hf⟩ := D
  have := (Heap.dictOf_iff.mpr ⟨o, e, hd⟩ : h.DictOf (intKind prog w) a kvs).mapOf
  rwa [show valueAt kvs = f from funext hf] at this
theorem r_ditem {value slice : Expr} {a : Addr} {o : Obj} {f : Int → Option Value} {n : Nat} {k : Int} {t : Tok} {v : Value} (S : St C s₀ h₀ L own s m H) (ha : H a = some (.raw o)) (D : DObj prog w f n o) (hk : f k = some v) (h : ∀ s', St C s₀ h₀ L own s' m H → Q v s')
    (hs : subscripted slice false (.ref a) (.int k t) = operate [.ref a, .int k t] (getItem (.ref a) (.int k t)) := by with_unfolding_all rfl) :
    wpAny (model prog w) A (subscriptTail value slice (.ref a) (.int k t)) Q E s := by
  have M := D.map (S.raw ha)
  exact tail_any M.typeIs slot_dict_getitem.lookup (wpAny_getItem_of (intKind_is prog w k t) M hk (h _ (S.tok _))) hs
theorem r_dmeth {a : Addr} {o : Obj} {f : Int → Option Value} {n : Nat} {pl : Sem Bool} {Q : Value × List Value → Shared → Prop} (S : St C s₀ h₀ L own s m H) (ha : H a = some (.raw o)) (D : DObj prog w f n o) (h : Q (.builtin "dict.get", [.ref a]) s) :
    wpAny (model prog w) A (getMethod (.ref a) "get" pl) Q E s := by
  have M := D.map (S.raw ha)
  exact getMethod_builtin M.typeIs PySem.F.plainAttrs_dict PySem.F.slot_dict_get PySem.F.type_dict_get M.noDict h
theorem r_dget1 {a : Addr} {o : Obj} {f : Int → Option Value} {n : Nat} {k : Int} {t : Tok} (S : St C s₀ h₀ L own s m H) (ha : H a = some (.raw o)) (hm : (a == sysModules) = false) (D : DObj prog w f n o) {u : Value} (hu : (f k).getD .none = u) (h : ∀ s', St C s₀ h₀ L own s' m H → Q u s') :
    wpAny (model prog w) A (call (.builtin "dict.get") [.ref a, .int k t]) Q E s := by
  subst hu
  have M := D.map (S.raw ha)
  exact call_meetsIn PySem.F.slot_dict_get M.typeIs PySem.F.entry_dict_get (PySem.F.args_dict_get_2 _ _) (meets_dict_get _ a (intKind_is prog w k t) hm) ⟨_, M, h _ (S.tok _)⟩
theorem r_dget2 {a : Addr} {o : Obj} {f : Int → Option Value} {n : Nat} {k : Int} {t : Tok} {v : Value} (S : St C s₀ h₀ L own s m H) (ha : H a = some (.raw o)) (hm : (a == sysModules) = false) (D : DObj prog w f n o) {u : Value} (hu : (f k).getD v = u) (h : ∀ s', St C s₀ h₀ L own s' m H → Q u s') :
    wpAny (model prog w) A (call (.builtin "dict.get") [.ref a, .int k t, v]) Q E s := by
  subst hu
  have M := D.map (S.raw ha)
  exact call_meetsIn PySem.F.slot_dict_get M.typeIs PySem.F.entry_dict_get (PySem.F.args_dict_get_3 _ _ _) (meets_dict_get_default _ a (intKind_is prog w k t) hm _) ⟨_, M, h _ (S.tok _)⟩
theorem r_dset {a : Addr} {o : Obj} {f : Int → Option Value} {n : Nat} {k : Int} {t : Tok} {v : Value} {Q : Unit → Shared → Prop} (S : St C s₀ h₀ L own s m H) (ha : H a = some (.raw o)) (D : DObj prog w f n o) (hn : n ≤ 100000)
    (h : ∀ o' s', DObj prog w (fun x => if x = k then some v else f x) (n + 1) o' → St C s₀ h₀ L own s' m (put H a (.raw o')) → Q () s') : wpAny (model prog w) A (setItem (.ref a) (.int k t) v) Q E s := by
  obtain ⟨kvs, hd, hl, hf⟩ := D
  refine wpAny_setItem_pairs (intKind_is prog w k t) (Heap.dictOf_iff.mpr ⟨o, S.raw ha, hd⟩) (fun h' hm hs => ?_) (by rw [sizeLine_eq]; omega)
  obtain ⟨o', ho', hd'⟩ := Heap.dictOf_iff.mp hm
  refine h o' _ ⟨_, hd', Nat.le_trans (stored_length_le _ _ _) (by omega), fun x => by rw [valueAt_stored, hf]⟩ ?_
  exact S.change (Fr.of_but S.fr (S.ne_L ha).1 (S.ne_L ha).2 fun b ob hb q => (hs.2 b hb).trans q) ha (fun _ q => by cases q) (fun _ q => by cases q) (fun b ob hb _ _ q => (hs.2 b hb).trans q) fun _ => ho'

/-! list.index -/
theorem r_index {l : Addr} {vs : List Value} {x : Value} {e : Value → Bool} {j : Nat} (_c : Cx K p loose mean mg mb A env h₀ L d) (S : St C s₀ h₀ L own s m H) (hl : H l = some (.list vs)) (hj : j < vs.length) (hs : vs.length ≤ 100000) (hit : e vs[j] = true) (hno : ∀ q (hq : q < vs.length), q < j → e vs[q] = false)
    (he : ∀ A' y, y ∈ vs → EqAt A' s y x (e y)) (h : ∀ s' t, St C s₀ h₀ L own s' m H → Q (.int j t) s') : wpAny (model prog w) A (call (.builtin "list.index") [.ref l, x]) Q E s := by
  obtain ⟨n, hn⟩ := S.list hl
  refine call_meets PySem.F.slot_list_index ⟨_, hn, rfl⟩ PySem.F.entry_list_index (PySem.F.args_list_index_2 _ _) (list_indexAt l vs.toArray n none #[] x e j (by simpa using hj) (by omega) (by simpa using hit) fun q hq h2 => by simpa using hno q (by simpa using hq) h2)
    ⟨hn, fun y hy => he _ y (by simpa using hy), h _ _ (S.tok _)⟩

/-! comparisons -/
theorem r_ne_none (h : Q (.bool false) s) : wpAny (model prog w) A (compareOp .NotEq .none .none) Q E s := RcNeAt.none_none prog w E Q h
theorem r_ne_bool {a b : Bool} (h : Q (.bool (!(a == b))) s) : wpAny (model prog w) A (compareOp .NotEq (.bool a) (.bool b)) Q E s := RcNeAt.bool_bool a b prog w E Q h
end
end Mine
namespace Mine
section
variable {prog : Program} {w : World} {A : Around} {env : Env} {h₀ : Heap} {L : Addr} {C : Addr} {s₀ s : Shared} {own : List (Addr × Obj)} {m : Str → Option Value} {H : AH} {Q : Value → Shared → Prop} {E : Value → Shared → Prop}
theorem r_dmeth1 {a : Addr} {o : Obj} {f : Int → Option Value} {n : Nat} {pos : Pos} {pl : Sem Bool} {e : Expr} (S : St C s₀ h₀ L own s m H) (ha : H a = some (.raw o)) (D : DObj prog w f n o)
    (h : wpAny (model prog w) A (eval e env) (fun v s₁ => wpAny (model prog w) A (call (.builtin "dict.get") [.ref a, v]) Q E s₁) E s) (he : starEach (e :: []) env = (false, eval e env) :: starEach [] env := by rfl) :
    wpAny (model prog w) A (getMethod (.ref a) "get" pl) (fun fx s₂ => wpAny (model prog w) A (callWith pos fx.1 fx.2 (backTo pos (starEach [e] env)) []) Q E s₂) E s := by
  refine r_dmeth S ha D ?_
  rw [he]
  exact callWith_builtin rfl (evalArgs_plain (spliced_cons (wpAny_mono h (fun v s₁ h₁ => spliced_nil h₁) fun _ _ y => y)))
theorem r_dmeth2 {a : Addr} {o : Obj} {f : Int → Option Value} {n : Nat} {pos : Pos} {pl : Sem Bool} {e e2 : Expr} (S : St C s₀ h₀ L own s m H) (ha : H a = some (.raw o)) (D : DObj prog w f n o)
    (h : wpAny (model prog w) A (eval e env) (fun v s₁ => wpAny (model prog w) A (eval e2 env) (fun v2 s₂ => wpAny (model prog w) A (call (.builtin "dict.get") [.ref a, v, v2]) Q E s₂) E s₁) E s)
    (he : starEach (e :: [e2]) env = (false, eval e env) :: (false, eval e2 env) :: starEach [] env := by rfl) :
    wpAny (model prog w) A (getMethod (.ref a) "get" pl) (fun fx s₂ => wpAny (model prog w) A (callWith pos fx.1 fx.2 (backTo pos (starEach [e, e2] env)) []) Q E s₂) E s := by
  refine r_dmeth S ha D ?_
  rw [he]
  exact callWith_builtin rfl (evalArgs_plain (spliced_cons (wpAny_mono h (fun v s₁ h₁ => spliced_cons (wpAny_mono h₁ (fun v2 s₂ h₂ => spliced_nil h₂) fun _ _ y => y)) fun _ _ y => y)))
end
end Mine
namespace Mine
theorem Sub.off {H H' : AH} {b : Addr} {o : AObj} (h : Sub H H') (hb : H b = Option.none) : Sub H (Mine.put H' b o) := fun a ob e => put_off (fun z => by rw [z, hb] at e; cases e) (h a ob e)
theorem SubX.off {X : List Addr} {H H' : AH} {b : Addr} {o : AObj} (h : SubX X H H') (hb : H b = Option.none) : SubX X H (Mine.put H' b o) := fun a ob hx e => put_off (fun z => by rw [z, hb] at e; cases e) (h a ob hx e)
theorem SubX.none {H H' : AH} {x r : Addr} {o : AObj} (h : SubX [x] H H') (e : H' x = some o) (hr : H' r = Option.none) : H r = Option.none := by
  cases q : H r with
  | none => rfl
  | some ob =>
    by_cases z : r = x
    · rw [z, e] at hr; cases hr
    · rw [h r ob (by simpa using z) q] at hr; cases hr
end Mine
namespace Mine
theorem getD_none' {o : Option Value} {v : Value} (h : o = none) : o.getD v = v := by rw [h]; rfl
theorem getD_some' {o : Option Value} {u v : Value} (h : o = some u) : o.getD v = u := by rw [h]; rfl
section
variable {prog : Program} {w : World} {A : Around} {C : Addr} {s₀ : Shared} {h₀ : Heap} {L : Addr} {s : Shared} {own : List (Addr × Obj)} {m : Str → Option Value} {H : AH} {Q : Value → Shared → Prop}
theorem wp_valueP (P : Value → Prop) {t : Sem Value} (_S : St C s₀ h₀ L own s m H) (h1 : wpAny (model prog w) A t (fun v s' => P v ∧ St C s₀ h₀ L own s' m H) NoE s) (h2 : ∀ v s', P v → St C s₀ h₀ L own s' m H → Q v s') : wpAny (model prog w) A t Q NoE s :=
  wpAny_mono h1 (fun v s' h => h2 v s' h.1 h.2) fun _ _ x => x
end
end Mine
namespace Mine
section
variable {prog : Program} {w : World} {A : Around} {s : Shared} {Q : Value → Shared → Prop} {E : Value → Shared → Prop}
theorem r_is_in {i : Int} {t : Tok} (h : Q (.bool false) s) : wpAny (model prog w) A (compareOp .Is (.int i t) .none) Q E s := wpAny_is_other rfl (fun x => by cases x) h
end
end Mine

end
section
open PySem PySem.W PySem.Calls PyProof.Rows PySem.Spec PySem.SeqAt
set_option Elab.async false
set_option maxRecDepth 100000
namespace Mine

/-! texts -/
section
variable {K : Frag} {p : Program} {loose : List Str} {mean : ExcName → Option Value} {mg mb : Str → Option Value} {A : Around} {env : Env} {h₀ : Heap} {L : Addr} {d : Nat}
variable {prog : Program} {w : World} {C : Addr} {s₀ s : Shared} {own : List (Addr × Obj)} {m : Str → Option Value} {H : AH} {Q : Value → Shared → Prop} {E : Value → Shared → Prop}

theorem r_add_str {x y : Str} {t u : Tok} (S : St C s₀ h₀ L own s m H) (hsz : x.length + y.length ≤ 100000) (h : ∀ s' t', St C s₀ h₀ L own s' m H → Q (.str (x ++ y) t') s') : wpAny (model prog w) A (binaryOp .Add (.str x t) (.str y u)) Q E s :=
  PyProof.Rows.add_str (fun t' tk => h _ t' (S.tok tk)) (by rw [sizeLine_eq]; omega)
theorem r_smeth1 {x : Str} {t : Tok} {nm : Str} {id : String} {pos : Pos} {pl : Sem Bool} {e : Expr} (slot : Slot "str" nm id) (hty : typeOf (.builtin id) = pure (.type "method_descriptor"))
    (h : wpAny (model prog w) A (eval e env) (fun v s₁ => wpAny (model prog w) A (call (.builtin id) [.str x t, v]) Q E s₁) E s) (he : starEach (e :: []) env = (false, eval e env) :: starEach [] env := by rfl) :
    wpAny (model prog w) A (getMethod (.str x t) nm pl) (fun fx s₂ => wpAny (model prog w) A (callWith pos fx.1 fx.2 (backTo pos (starEach [e] env)) []) Q E s₂) E s := by
  refine GM.of (.str x t) (typeIs_str _ _ _) slot hty GM.noRef ?_
  rw [he]
  exact callWith_builtin rfl (evalArgs_plain (spliced_cons (wpAny_mono h (fun v s₁ h₁ => spliced_nil h₁) fun _ _ y => y)))
theorem r_rfind {x y : Str} {t u : Tok} (S : St C s₀ h₀ L own s m H) (h : ∀ s' t', St C s₀ h₀ L own s' m H → Q (.int (Txt.rfind x y) t') s') : wpAny (model prog w) A (call (.builtin "str.rfind") [.str x t, .str y u]) Q E s :=
  SC.rfind (h _ _ (S.tok _))
inductive StrsAre : List Value → List Str → Prop
  | nil : StrsAre [] []
  | cons (x : Str) (t : Tok) {vs : List Value} {xs : List Str} : StrsAre vs xs → StrsAre (.str x t :: vs) (x :: xs)
theorem StrsAre.vals {vs : List Value} {xs : List Str} (h : StrsAre vs xs) : ∃ l : List (Str × Tok), vs = strValues l ∧ l.map (·.1) = xs := by
  induction h with
  | nil => exact ⟨[], rfl, rfl⟩
  | cons x t _ ih => obtain ⟨l, rfl, rfl⟩ := ih; exact ⟨(x, t) :: l, rfl, rfl⟩
theorem StrsAre.len {vs : List Value} {xs : List Str} (h : StrsAre vs xs) : vs.length = xs.length := by
  induction h with
  | nil => rfl
  | cons _ _ _ ih => simp [ih]
theorem StrsAre.append {vs us : List Value} {xs ys : List Str} (h : StrsAre vs xs) (h' : StrsAre us ys) : StrsAre (vs ++ us) (xs ++ ys) := by
  induction h with
  | nil => exact h'
  | cons x t _ ih => exact .cons x t ih
theorem StrsAre.one {x : Str} {t : Tok} : StrsAre [.str x t] [x] := .cons x t .nil
theorem StrsAre.get {vs : List Value} {xs : List Str} (h : StrsAre vs xs) : ∀ (j : Nat) v, vs[j]? = some v → ∃ x t, v = .str x t ∧ xs[j]? = some x := by
  induction h with
  | nil => intro j v e; simp at e
  | cons x t _ ih =>
    intro j v e
    cases j with
    | zero => simp at e; exact ⟨x, t, e.symm, rfl⟩
    | succ j => simp at e; simpa using ih j v e
theorem StrsAre.take {vs : List Value} {xs : List Str} (h : StrsAre vs xs) : ∀ k, StrsAre (vs.take k) (xs.take k) := by
  induction h with
  | nil => intro k; simpa using StrsAre.nil
  | cons x t _ ih =>
    intro k
    cases k with
    | zero => exact .nil
    | succ k => simpa using StrsAre.cons x t (ih k)
theorem StrsAre.same {H : AH} {n : Nat} {vs us : List Value} {xs : List Str} (h : StrsAre vs xs) : StrsAre us xs → SameAll H n vs us := by
  induction h generalizing us with
  | nil => intro h'; cases h'; exact .nil
  | cons k t _ ih => intro h'; cases h' with | cons _ t' h'' => exact .cons Same.str (ih h'')
theorem r_join {x : Str} {t : Tok} {D : Addr} {vs : List Value} {xs : List Str} (S : St C s₀ h₀ L own s m H) (hD : H D = some (.list vs)) (hx : StrsAre vs xs) (hsz : (xs.map (·.length)).sum + xs.length * x.length ≤ 16777216)
    (h : ∀ s' t', St C s₀ h₀ L own s' m H → Q (.str (Txt.join x xs) t') s') : wpAny (model prog w) A (call (.builtin "str.join") [.str x t, .ref D]) Q E s := by
  obtain ⟨l, rfl, e⟩ := hx.vals
  exact SC.join (S.isList hD) e (joinOk_of hsz) fun t' k => h _ t' (S.tok k)
theorem r_sslice {value slice : Expr} {x : Str} {t : Tok} {sl : Addr} {l u : Option (Int × Tok)} (S : St C s₀ h₀ L own s m H) (hsl : H sl = some (.raw (sliceObj (partValue l) (partValue u)))) (hsz : x.length ≤ 100000)
    (h : ∀ s' t', St C s₀ h₀ L own s' m H → Q (.str (Txt.slice x (l.map (·.1)) (u.map (·.1))) t') s')
    (hs : subscripted slice false (.str x t) (.ref sl) = operate [.ref sl, .str x t] (getItem (.str x t) (.ref sl)) := by with_unfolding_all rfl) :
    wpAny (model prog w) A (subscriptTail value slice (.str x t) (.ref sl)) Q E s := by
  refine tail_any (typeIs_str s x t) F.slot_str_getitem.lookup (wpAny_getItem_str_slice (l := l) (u := u) (st := none) ⟨_, S.raw hsl, rfl, rfl⟩ rfl ?_) hs
  exact post_val_or_str ⟨Nat.le_trans (Txt.slice_le x _ _) (by rw [sizeLine_eq]; omega), fun t' k => h _ t' (S.tok k)⟩
theorem r_sslice_to {value slice : Expr} {x : Str} {t : Tok} {sl : Addr} {j : Int} {uj : Tok} (S : St C s₀ h₀ L own s m H) (hsl : H sl = some (.raw (sliceObj .none (.int j uj)))) (hsz : x.length ≤ 100000)
    (h : ∀ s' t', St C s₀ h₀ L own s' m H → Q (.str (Txt.slice x none (some j)) t') s')
    (hs : subscripted slice false (.str x t) (.ref sl) = operate [.ref sl, .str x t] (getItem (.str x t) (.ref sl)) := by with_unfolding_all rfl) :
    wpAny (model prog w) A (subscriptTail value slice (.str x t) (.ref sl)) Q E s := r_sslice (l := none) (u := some (j, uj)) S hsl hsz h hs
theorem r_sslice_from {value slice : Expr} {x : Str} {t : Tok} {sl : Addr} {j : Int} {uj : Tok} (S : St C s₀ h₀ L own s m H) (hsl : H sl = some (.raw (sliceObj (.int j uj) .none))) (hsz : x.length ≤ 100000)
    (h : ∀ s' t', St C s₀ h₀ L own s' m H → Q (.str (Txt.slice x (some j) none) t') s')
    (hs : subscripted slice false (.str x t) (.ref sl) = operate [.ref sl, .str x t] (getItem (.str x t) (.ref sl)) := by with_unfolding_all rfl) :
    wpAny (model prog w) A (subscriptTail value slice (.str x t) (.ref sl)) Q E s := r_sslice (l := some (j, uj)) (u := none) S hsl hsz h hs
theorem r_sitem {value slice : Expr} {x : Str} {t u : Tok} {i : Int} {ch : Nat} (S : St C s₀ h₀ L own s m H) (hr : (decide (i < -(2 ^ 63 : Int)) || decide (i ≥ 2 ^ 63)) = false) (hc : (seqIndex? i x.length).bind (x.cps[·]?) = some ch)
    (h : ∀ s' t', St C s₀ h₀ L own s' m H → Q (.str ⟨#[ch]⟩ t') s')
    (hs : subscripted slice false (.str x t) (.int i u) = operate [.str x t, .int i u] (getItem (.str x t) (.int i u)) := by with_unfolding_all rfl) :
    wpAny (model prog w) A (subscriptTail value slice (.str x t) (.int i u)) Q E s :=
  tail_any (typeIs_str s x t) F.slot_str_getitem.lookup (PyProof.Rows.getItem_str hr hc (h _ _ (S.tok _))) hs

/-! lists: the last item, an item stored, the last one taken -/
theorem r_last {value slice : Expr} {l : Addr} {vs : List Value} {t : Tok} {v : Value} (S : St C s₀ h₀ L own s m H) (hl : H l = some (.list vs)) (e : vs.getLast? = some v) (hq : Q v s)
    (hs : subscripted slice false (.ref l) (.int (-1) t) = operate [.ref l, .int (-1) t] (getItem (.ref l) (.int (-1) t)) := by with_unfolding_all rfl) :
    wpAny (model prog w) A (subscriptTail value slice (.ref l) (.int (-1) t)) Q E s := by
  have hne : 0 < vs.length := by
    cases vs with
    | nil => simp at e
    | cons _ _ => simp
  refine tail_any (S.isList hl).typeIs slot_list_getitem.lookup (wpAny_getItem_list_neg (S.isList hl) (by decide) (by rw [List.size_toArray]; omega) (by decide) ?_ hq) hs
  rw [List.getLast?_eq_getElem?] at e
  rw [List.size_toArray, show ((-1 : Int) + vs.length).toNat = vs.length - 1 from by omega]
  simpa using e
theorem r_setitem {l : Addr} {vs : List Value} {k : Int} {t : Tok} {v : Value} {Q : Unit → Shared → Prop} (S : St C s₀ h₀ L own s m H) (hl : H l = some (.list vs)) (h0 : 0 ≤ k) (hk : k < vs.length) (hsz : vs.length ≤ 100000)
    (h : ∀ s', St C s₀ h₀ L own s' m (put H l (.list (vs.set k.toNat v))) → Q () s') : wpAny (model prog w) A (setItem (.ref l) (.int k t) v) Q E s := by
  obtain ⟨n, hn⟩ := S.list hl
  refine ki_setAt (n := n) (items := vs.toArray) hn h0 (by omega) (by rw [List.size_toArray]; exact hk) (h _ (S.setList (tk := s.toks) hl (Heap.SameBut.update ..) ⟨n, ?_⟩))
  have q := PySem.IsL.update hn (fun x => x.setIfInBounds k.toNat v)
  simpa using q
theorem r_lmeth0 {l : Addr} {vs : List Value} {nm : Str} {id : String} {pos : Pos} {pl : Sem Bool} (slot : Slot "list" nm id) (hty : typeOf (.builtin id) = pure (.type "method_descriptor")) (S : St C s₀ h₀ L own s m H) (hl : H l = some (.list vs))
    (h : wpAny (model prog w) A (call (.builtin id) [.ref l]) Q E s) :
    wpAny (model prog w) A (getMethod (.ref l) nm pl) (fun fx s₂ => wpAny (model prog w) A (callWith pos fx.1 fx.2 (backTo pos (starEach [] env)) []) Q E s₂) E s := by
  obtain ⟨n, hn⟩ := S.list hl
  refine getMethod_list_of slot hty (S.isList hl) ⟨_, hn, rfl⟩ ?_
  exact callWith_builtin rfl (evalArgs_nil3 h)
theorem r_pop {l : Addr} {vs : List Value} {y : Value} (S : St C s₀ h₀ L own s m H) (hl : H l = some (.list (vs ++ [y]))) (hsz : vs.length ≤ 90000)
    (h : ∀ s', St C s₀ h₀ L own s' m (put H l (.list vs)) → Q y s') : wpAny (model prog w) A (call (.builtin "list.pop") [.ref l]) Q E s := by
  obtain ⟨n, hn⟩ := S.list hl
  refine call_meets PySem.F.slot_list_pop ⟨_, hn, rfl⟩ PySem.F.entry_list_pop (PySem.F.args_list_pop_1 _) (PySem.MeetsSeq.list_pop_last l (vs ++ [y]).toArray n y (by simp) (by rw [List.size_toArray, sizeLine_eq]; simp; omega)) ⟨hn, h _ (S.setList (tk := s.toks) hl (Heap.SameBut.update ..) ?_)⟩
  refine ⟨n + 1, ?_⟩
  have q := PySem.IsL.update hn (fun xs => xs.eraseIdxIfInBounds ((vs ++ [y]).toArray.size - 1))
  have e : (vs ++ [y]).toArray.eraseIdxIfInBounds ((vs ++ [y]).toArray.size - 1) = vs.toArray := by
    simp [Array.eraseIdxIfInBounds]
    rw [List.eraseIdx_append_of_length_le (Nat.le_refl _)]
    simp
  rw [e] at q
  simpa using q
theorem r_slice_but {value slice : Expr} {l sl : Addr} {vs : List Value} {tb : Tok} (S : St C s₀ h₀ L own s m H) (hl : H l = some (.list vs)) (hsl : H sl = some (.raw (sliceObj .none (.int (-1) tb)))) (hsz : vs.length ≤ 10000)
    (h : ∀ a s', H a = none → St C s₀ h₀ L own s' m (put H a (.list vs.dropLast)) → Q (.ref a) s')
    (hs : subscripted slice false (.ref l) (.ref sl) = operate [.ref sl, .ref l] (getItem (.ref l) (.ref sl)) := by with_unfolding_all rfl) :
    wpAny (model prog w) A (subscriptTail value slice (.ref l) (.ref sl)) Q E s := by
  refine r_getslice S hl hsl .none (.int _ _) hsz (fun a s' ha S' => h a s' ha ?_) hs
  rw [pick_butLast] at S'
  rwa [List.dropLast_eq_take]
theorem r_eq_str {x y : Str} {t u : Tok} (h : Q (.bool (x == y)) s) : wpAny (model prog w) A (compareOp .Eq (.str x t) (.str y u)) Q E s := PyProof.Rows.eq_str h
theorem r_ne_str {x y : Str} {t u : Tok} (h : Q (.bool (x != y)) s) : wpAny (model prog w) A (compareOp .NotEq (.str x t) (.str y u)) Q E s := PyProof.Rows.ne_str h
end
end Mine

end
section
open PySem PySem.W PyProof.Rows
set_option Elab.async false
namespace Mine
set_option maxRecDepth 100000 in
set_option maxHeartbeats 8000000 in
open_top hd06 for PySem.Challenge.rw_dn0305_06
end Mine

end
section
open PySem PySem.W PySem.Calls PyProof.Rows PySem.Spec
set_option Elab.async false
set_option maxRecDepth 100000
namespace Mine
local macro_rules | `(tactic| walk_at "my getter") => `(tactic| (refine' IsGetter.intro ?k1 ?k2 ?k3 ?k4 ?k5 ?k7 ?k8 ?k9 ?k10 ?k11 ?k12 ?k13 ?k14; (case k1 => k_is); (case k2 => k_is); (case k3 => k_is); (case k4 => k_is); (case k5 => exact fun _ _ _ => rfl); (case k7 => k_is); (case k8 => k_is); (case k9 => exact rfl); (case k10 => exact rfl); (case k11 => exact rfl); (case k12 => exact rfl); (case k13 => decide); (case k14 => exact fun _ => rfl)))
local macro_rules | `(tactic| walk_at "my setter") => `(tactic| (refine' IsSetter.intro ?k1 ?k2 ?k3 ?k4 ?k5 ?k7 ?k8 ?k9 ?k9' ?k9a ?k9b ?k10 ?k11 ?k12 ?k13 ?k14; (case k1 => k_is); (case k2 => k_is); (case k3 => k_is); (case k4 => k_is); (case k5 => exact fun _ _ _ => rfl); (case k7 => k_is); (case k8 => k_is); (case k9 => exact rfl); (case k9' => exact rfl); (case k9a => decide); (case k9b => decide); (case k10 => exact rfl); (case k11 => exact rfl); (case k12 => exact rfl); (case k13 => decide); (case k14 => exact fun _ _ => rfl)))
local macro_rules | `(tactic| walk_at "my init") => `(tactic| (refine' IsInit.intro (fun i => (match i with | 0 => ⟨5, 8, 5, 12⟩ | 1 => ⟨5, 8, 5, 24⟩ | 2 => ⟨5, 27, 5, 36⟩ | 3 => ⟨5, 8, 5, 36⟩ | 4 => ⟨6, 8, 6, 12⟩ | 5 => ⟨6, 8, 6, 24⟩ | 6 => ⟨6, 27, 6, 31⟩ | 7 => ⟨6, 8, 6, 31⟩ | 8 => ⟨7, 8, 7, 12⟩ | 9 => ⟨7, 8, 7, 23⟩ | 10 => ⟨7, 26, 7, 30⟩ | 11 => ⟨7, 8, 7, 30⟩ | 12 => ⟨8, 8, 8, 12⟩ | 13 => ⟨8, 8, 8, 23⟩ | 14 => ⟨8, 26, 8, 30⟩ | 15 => ⟨8, 8, 8, 30⟩ | 16 => ⟨9, 8, 9, 12⟩ | 17 => ⟨9, 8, 9, 23⟩ | 18 => ⟨9, 26, 9, 30⟩ | _ => ⟨9, 8, 9, 30⟩ : Pos)) ?k1 ?k2 ?k3 ?k4 ?k5 ?k6 ?k7 ?k8 ?k9 ?k10 ?k11 ?k12 ?k13; (case k1 => k_is); (case k2 => k_is); (case k3 => k_is); (case k4 => k_is); (case k5 => k_is); (case k6 => exact fun s x X => binds_K X rfl (by k_is) rfl rfl rfl); (case k7 => exact fun s x v X => binds_K X rfl (by k_is) rfl rfl rfl); (case k8 => exact rfl); (case k9 => exact rfl); (case k10 => exact rfl); (case k11 => exact rfl); (case k12 => exact rfl); (case k13 => decide)))
local macro_rules | `(tactic| walk_at "my lib") => `(tactic| exact ⟨⟨by k_is, by k_is, by k_is, by k_is, by k_is, by k_is, by k_is, by k_is, by k_is, by k_is, by k_is, by k_is, by k_is, by k_is, by k_is⟩, by walk_at "my init", by walk_at "my getter", by walk_at "my getter", by walk_at "my getter", by walk_at "my getter", by walk_at "my getter", by walk_at "my setter", by walk_at "my setter", by walk_at "my setter", by walk_at "my setter", by walk_at "my setter", by k_is⟩)

local macro_rules | `(tactic| walk_at "my look") => `(tactic| first | with_reducible assumption | with_reducible exact upd_same | ((with_reducible refine' upd_look ?k1 ?k2); (case k1 => decide); (case k2 => walk_at "my look")))
local macro_rules | `(tactic| walk_at "my ne") => `(tactic| first | with_reducible assumption | ((with_reducible refine Ne.symm ?_); with_reducible assumption))
local macro_rules | `(tactic| walk_at "my heap") => `(tactic| first | with_reducible assumption | with_reducible exact put_same | ((with_reducible refine' put_step ?j1 ?j2); (case j1 => walk_at "my heap"); (case j2 => walk_at "my apart")))
local macro_rules | `(tactic| walk_at "my apart") => `(tactic| (intro e9; first | walk_at "my ne" | ((with_reducible refine' ne_new ?j3 e9); with_reducible assumption) | ((with_reducible refine' ne_kind e9 ?j4 ?j5); (case j4 => walk_at "my heap"); (case j5 => exact fun z9 => by cases z9))))
local macro_rules | `(tactic| walk_at "my none") => `(tactic| with_reducible assumption)
local macro_rules | `(tactic| walk_at "my asm") => `(tactic| with_reducible assumption)
local macro_rules | `(tactic| walk_at "my getter of") => `(tactic| first | with_reducible exact (by assumption : Lib _ _).g0 | with_reducible exact (by assumption : Lib _ _).g1 | with_reducible exact (by assumption : Lib _ _).g2 | with_reducible exact (by assumption : Lib _ _).g3 | with_reducible exact (by assumption : Lib _ _).g4)
local macro_rules | `(tactic| walk_at "my setter of") => `(tactic| first | with_reducible exact (by assumption : Lib _ _).s0 | with_reducible exact (by assumption : Lib _ _).s1 | with_reducible exact (by assumption : Lib _ _).s2 | with_reducible exact (by assumption : Lib _ _).s3 | with_reducible exact (by assumption : Lib _ _).s4)
local macro_rules | `(tactic| walk_at "my B") => `(tactic| with_reducible exact (by assumption : Lib _ _).B)
local macro_rules | `(tactic| walk_at "my handed") => `(tactic| first | with_reducible assumption | exact rfl)
local macro_rules | `(tactic| walk_at "my size") => `(tactic| first | ((try simp only [List.length_append, List.length_cons, List.length_nil, List.length_replicate]); omega) | (rw [sizeLine_eq]; (try simp only [List.length_append, List.length_cons, List.length_nil, List.length_replicate]); omega))
local macro_rules | `(tactic| walk_at "my isl") => `(tactic| first | ((with_reducible refine' St.given ?i1 ?i2); (case i2 => walk_at "my asm"); (case i1 => walk_at "my asm")) | ((with_reducible refine' St.isList ?i1 ?i2); (case i1 => walk_at "my asm"); (case i2 => walk_at "my heap")))
local macro_rules | `(tactic| walk_at "my stmt") => `(tactic| first | with_reducible refine wpAny_execs_cons ?_ | with_reducible refine wpAny_execs_nil ?_ | with_reducible refine wpAny_Return_some ?_ | ((with_reducible refine wpAny_Assign_Name ?h ?he); (case he => rfl)) | ((with_reducible refine Assign_Tuple ?h ?he ?hw); (case he => rfl); (case hw => rfl)) | ((with_reducible refine' Assign_Tuple_swapped ?h ?he ?hw); (case he => rfl); (case hw => exact rfl)) | with_reducible refine wpAny_If ?_ | ((with_reducible refine wpAny_Expr ?h ?hi ?he); (case hi => rfl); (case he => rfl)))
local macro_rules | `(tactic| walk_at "my expr") => `(tactic| first | ((with_reducible refine' r_local ?k1 ?k2 ?k3 ?h ?hl ?hd); (case k1 => walk_at "my asm"); (case k2 => walk_at "my asm"); (case k3 => walk_at "my look"); (case hl => exact rfl); (case hd => decide)) | ((with_reducible refine' r_cname ?k1 ?k2 ?k3 ?h ?hk ?hl ?hd); (case k1 => walk_at "my asm"); (case k2 => walk_at "my asm"); (case k3 => walk_at "my look"); (case hk => exact rfl); (case hl => exact rfl); (case hd => decide)) | ((with_reducible refine' r_glob ?k1 ?k2 ?k3 ?h ?hl ?hd ?hk ?hg); (case k1 => walk_at "my asm"); (case k2 => walk_at "my asm"); (case k3 => first | walk_at "my asm" | k_is); (case hl => exact rfl); (case hd => decide); (case hk => exact rfl); (case hg => exact rfl)) | ((with_reducible refine' r_blt ?k1 ?k2 ?k3 ?k4 ?k5 ?h ?hl ?hd ?hk ?hg ?hb); (case k1 => walk_at "my asm"); (case k2 => walk_at "my asm"); (case k3 => first | walk_at "my asm" | k_is); (case k4 => boot_by_name); (case k5 => decide); (case hl => exact rfl); (case hd => decide); (case hk => exact rfl); (case hg => exact rfl); (case hb => exact rfl)) | ((with_reducible refine' r_int ?k1 ?h); (case k1 => walk_at "my asm"); intro s' t' S') | ((with_reducible refine' r_str ?k1 ?h); (case k1 => walk_at "my asm"); intro s' t' S') | with_reducible refine wpAny_Constant_none ?_ | with_reducible refine wpAny_Constant_bool ?_ | with_reducible refine wpAny_BinOp ?_ | ((with_reducible refine wpAny_Compare1 ?h ?he); (case he => with_unfolding_all rfl)) | with_reducible refine List_ ?_ | with_reducible refine Tuple_ ?_ | with_reducible refine IfExp_ ?_ | with_reducible refine Subscript_ ?_ | ((with_reducible refine args_cons ?h ?he); (case he => rfl)) | with_reducible refine args_nil ?_ | ((with_reducible show wpAny _ _ (eval (Expr.Call (Expr.Attribute _ _ _) _ _ _) _) _ _ _); refine MethodCall_ ?_) | ((with_reducible show wpAny _ _ (eval (Expr.Call _ _ _ _) _) _ _ _); refine Call_ ?_))
local macro_rules | `(tactic| walk_at "my test") => `(tactic| first | ((with_reducible refine wpAny_isTrue_Compare1 ?h ?he); (case he => with_unfolding_all rfl)) | with_reducible refine isTrue_not ?_ | with_reducible refine isTrue_or ?_ | with_reducible refine isTrue_and ?_ | with_reducible refine isTrue_or_nil ?_ | with_reducible refine isTrue_and_nil ?_ | with_reducible refine wpAny_truthy_bool ?_ | with_reducible refine ite_tt ?_ | with_reducible refine ite_ff ?_ | with_reducible refine ite_nt ?_ | with_reducible refine ite_nf ?_ | with_reducible refine ite_T ?_ | with_reducible refine ite_F ?_ | ((with_reducible show wpAny _ _ (PySem.isTrue _ _ _) _ _ _); refine isTrue_plain ?_))
local macro_rules | `(tactic| walk_at "my sub") => `(tactic| first | with_reducible assumption | with_reducible exact SubX.refl | with_reducible exact Sub.refl | ((with_reducible refine' SubX.new ?k1 ?k2); (case k2 => walk_at "my none"); (case k1 => walk_at "my sub")) | ((with_reducible refine' SubX.at ?k1 ?k2); (case k2 => simp); (case k1 => walk_at "my sub")) | ((with_reducible refine' Sub.new ?k1 ?k2); (case k2 => walk_at "my none"); (case k1 => walk_at "my sub")))
local macro_rules | `(tactic| walk_at "my St") => `(tactic| first | with_reducible assumption | ((with_reducible refine' St.sub' ?k1 ?k2); (case k1 => with_reducible assumption); (case k2 => walk_at "my sub")))
local macro_rules | `(tactic| walk_at "my same1") => `(tactic| first | with_reducible exact Same.rfl' | with_reducible exact Same.int | with_reducible exact Same.str | with_reducible exact Same.bytes | ((with_reducible refine' Same.list ?k1 ?k2 ?k3); (case k1 => walk_at "my heap"); (case k2 => walk_at "my heap"); (case k3 => walk_at "my same")))
local macro_rules | `(tactic| walk_at "my same") => `(tactic| first | (simp only [List.length_replicate, Int.toNat_natCast]; exact SameAll.refl) | with_reducible exact SameAll.refl | exact SameAll.refl | exact SameAll.nil | ((with_reducible refine SameAll.cons ?k1 ?k2); (case k1 => walk_at "my same1"); (case k2 => walk_at "my same")))
local macro_rules | `(tactic| walk_at "my op") => `(tactic| first | ((with_reducible refine' r_newList ?k1 ?h ?hz); (case k1 => walk_at "my asm"); (case hz => walk_at "my size"); intro a' s' n' S') | ((with_reducible refine' r_newTuple ?k1 ?h ?hz); (case k1 => walk_at "my asm"); (case hz => walk_at "my size"); intro a' s' n' S') | with_reducible refine r_is_nn ?_ | with_reducible refine r_is_rn ?_ | with_reducible refine r_isnot_nn ?_ | with_reducible refine r_isnot_rn ?_ | with_reducible refine wpAny_bindName ?_ | with_reducible refine wpAny_assign_Name ?_ | ((with_reducible refine' r_unpackItems ?k1 ?k2 ?k3 ?k4 ?h); (case k1 => walk_at "my asm"); (case k2 => walk_at "my asm"); (case k3 => walk_at "my heap"); (case k4 => exact rfl); intro s' S') | ((with_reducible refine' r_assign_tup ?k1 ?k2 ?k3 ?k4 ?k5 ?h); (case k1 => walk_at "my asm"); (case k2 => walk_at "my asm"); (case k3 => walk_at "my heap"); (case k4 => exact rfl); (case k5 => exact rfl); intro s' S') | ((with_reducible show wpAny _ _ (assignInOrder _ _) _ _ _); (show wpAny _ _ (assignInOrder (_ :: _) (_ :: _)) _ _ _); refine aio_cons ?_) | ((with_reducible show wpAny _ _ (assignInOrder _ _) _ _ _); (show wpAny _ _ (assignInOrder [] []) _ _ _); refine aio_nil ?_) | ((with_reducible refine' r_store ?k1 ?k2 ?h ?hl); (case k1 => walk_at "my asm"); (case k2 => walk_at "my asm"); (case hl => exact rfl); intro s' S') | ((with_reducible refine' r_cstore ?k0 ?k1 ?k2 ?h ?hk ?hl); (case k0 => walk_at "my asm"); (case k1 => walk_at "my asm"); (case k2 => walk_at "my asm"); (case hk => exact rfl); (case hl => exact rfl); intro o' s' O' S') | ((with_reducible refine' r_getm ?k0 ?k1 ?k2 ?k3 ?k4 ?k5 ?h); (case k0 => walk_at "my getter of"); (case k1 => walk_at "my asm"); (case k2 => walk_at "my B"); (case k3 => walk_at "my asm"); (case k4 => walk_at "my heap"); (case k5 => walk_at "my handed"); intro s' S'; (try dsimp only [Flds.get])) | ((with_reducible refine' r_setm ?k0 ?k1 ?k2 ?k3 ?k4 ?h ?he); (case k0 => walk_at "my setter of"); (case k1 => walk_at "my asm"); (case k2 => walk_at "my B"); (case k3 => walk_at "my asm"); (case k4 => walk_at "my heap"); (case he => rfl)) | ((with_reducible refine' AtSet.mk' ?k1 ?k2 ?h); (case k1 => walk_at "my asm"); (case k2 => walk_at "my heap"); intro s' S'; dsimp only [Flds.set] at S') | ((with_reducible refine' r_new0 ?k0 ?k1 ?k2 ?k3 ?h); (case k0 => with_reducible exact (by assumption : Lib _ _).init); (case k1 => walk_at "my asm"); (case k2 => walk_at "my B"); (case k3 => walk_at "my asm"); intro x' s' n' S') | ((with_reducible refine' r_new1 ?k0 ?k1 ?k2 ?k3 ?h ?he); (case k0 => with_reducible exact (by assumption : Lib _ _).init); (case k1 => walk_at "my asm"); (case k2 => walk_at "my B"); (case k3 => walk_at "my asm"); (case he => rfl)) | ((with_reducible refine' r_add ?k1 ?h); (case k1 => walk_at "my asm"); intro s' t' S') | ((with_reducible refine' r_sub ?k1 ?h); (case k1 => walk_at "my asm"); intro s' t' S') | ((with_reducible refine' r_mod ?k1 ?k2 ?h); (case k1 => walk_at "my asm"); (case k2 => decide); intro s' t' S') | ((with_reducible refine' r_fdiv ?k0 ?k1 ?k2 ?h); (case k0 => walk_at "my asm"); (case k1 => walk_at "my asm"); (case k2 => decide); intro s' t' S') | ((with_reducible refine' r_ne_lists (n := 3) ?k1 ?k2 ?k3 ?k4 ?k5 ?k6 ?h); (case k1 => walk_at "my asm"); (case k2 => walk_at "my asm"); (case k3 => walk_at "my heap"); (case k4 => walk_at "my heap"); (case k5 => walk_at "my same"); (case k6 => decide)) | ((with_reducible refine' r_eq_lists (n := 3) ?k1 ?k2 ?k3 ?k4 ?k5 ?k6 ?h); (case k1 => walk_at "my asm"); (case k2 => walk_at "my asm"); (case k3 => walk_at "my heap"); (case k4 => walk_at "my heap"); (case k5 => walk_at "my same"); (case k6 => decide)) | ((with_reducible refine' r_eq_nil ?k1 ?k2 ?k3 ?k4 ?h); (case k1 => walk_at "my asm"); (case k2 => walk_at "my asm"); (case k3 => walk_at "my heap"); (case k4 => walk_at "my heap")) | ((with_reducible refine' r_add_lists ?k1 ?k2 ?k3 ?k4 ?h); (case k1 => walk_at "my asm"); (case k2 => walk_at "my isl"); (case k3 => walk_at "my isl"); (case k4 => walk_at "my size"); intro a' s' n' S') | ((with_reducible refine' r_enum ?k1 ?k2 ?h); (case k1 => walk_at "my asm"); (case k2 => walk_at "my heap"); intro e' it' ob' s' n1' n2' n3' hi' S') | with_reducible refine wp_forIn_nil ?_ | with_reducible refine lt_int ?_ | with_reducible refine gt_int ?_ | with_reducible refine eq_int ?_ | with_reducible refine ne_int ?_ | ((with_reducible refine' r_lmeth1 PySem.F.slot_list_append PySem.F.type_list_append ?k1 ?k2 ?h ?he); (case k1 => walk_at "my asm"); (case k2 => walk_at "my heap"); (case he => rfl)) | ((with_reducible refine' r_lmeth1 PySem.F.slot_list_extend PySem.F.type_list_extend ?k1 ?k2 ?h ?he); (case k1 => walk_at "my asm"); (case k2 => walk_at "my heap"); (case he => rfl)) | ((with_reducible refine' r_lmeth1 PySem.F.slot_list_remove PySem.F.type_list_remove ?k1 ?k2 ?h ?he); (case k1 => walk_at "my asm"); (case k2 => walk_at "my heap"); (case he => rfl)) | ((with_reducible refine' r_append ?k1 ?k2 ?k3 ?h); (case k1 => walk_at "my asm"); (case k2 => walk_at "my heap"); (case k3 => walk_at "my size"); intro s' S') | ((with_reducible refine' r_extend ?k1 ?k2 ?k3 ?k4 ?h); (case k1 => walk_at "my asm"); (case k2 => walk_at "my heap"); (case k3 => walk_at "my heap"); (case k4 => walk_at "my size"); intro s' S') | ((with_reducible refine' r_mul_list ?k1 ?k2 ?k3 ?k4 ?h); (case k1 => walk_at "my asm"); (case k2 => walk_at "my heap"); (case k3 => walk_at "my size"); (case k4 => walk_at "my size"); intro a' s' n' S') | ((with_reducible refine' r_len ?k1 ?k2 ?k3 ?h); (case k1 => walk_at "my asm"); (case k2 => walk_at "my heap"); (case k3 => walk_at "my size"); intro s' t' S') | ((with_reducible show wpAny _ _ (callWith _ (Value.builtin _) _ _ _) _ _ _); (with_reducible refine callWith_builtin1 ?h ?he ?hp); (case he => rfl); (case hp => rfl)) | ((with_reducible show wpAny _ _ (callWith _ (Value.type _) _ _ _) _ _ _); (with_reducible refine callWith_type1 ?h ?he ?hp); (case he => rfl); (case hp => rfl)) | ((with_reducible refine' r_callK ?k1 ?k3 ?k2 ?h ?he ?hp); (case k1 => walk_at "my asm"); (case k3 => walk_at "my asm"); (case k2 => k_is); (case he => rfl); (case hp => rfl)) | ((with_reducible refine' calledWith ?k1 ?h); (case k1 => walk_at "my asm"); (try simp only [List.nil_append])) | ((with_reducible refine' AtNew.mk' ?k1 ?h); (case k1 => walk_at "my asm"); intro x' s' n' S'))
local macro_rules | `(tactic| walk_at "my step") => `(tactic| first | (k_unfold; (try dsimp only)) | walk_at "my stmt" | walk_at "my expr" | walk_at "my test" | walk_at "my op" | walk_at "my call" | dsimp only)

section
variable {p : Program} {loose : List Str} {mean : ExcName → Option Value} {mg mb : Str → Option Value} {A : Around} {env : Env} {h₀ : Heap} {L : Addr} {d : Nat}
variable {w : World} {s₀ s : Shared} {own : List (Addr × Obj)} {m : Str → Option Value} {H : AH} {Q : Value → Shared → Prop} {E : Value → Shared → Prop}

theorem lib06 (w : World) : PySem.Challenge.rw_dn0305_06.prog = PySem.Challenge.rw_dn0305_06.prog → Lib (hd06.heap_39 w.params) 102 := by
  k_fill
  intro _
  walk_at "my lib"
set_option maxHeartbeats 1000000 in
theorem told06 {x : Addr} {F : Flds} (c : Cx (hd06.heap_39 w.params) p loose mean mg mb A env h₀ L (d + 2)) (S : St 102 s₀ h₀ L own s m H) (hx : H x = some (.src F))
    (h0 : handedIn F.sys = true) (h1 : handedIn F.pub = true) (h2 : handedIn F.enc = true) (h3 : handedIn F.byt = true) (h4 : handedIn F.chr = true)
    (h : ∀ a s', H a = none → St 102 s₀ h₀ L own s' m (put H a (.list [F.sys, F.pub, F.enc, F.byt, F.chr])) → Q (.ref a) s') :
    wpAny (model PySem.Challenge.rw_dn0305_06.row.prog w) A (call (.ref 134) [.ref x]) Q E s := by
  have l := lib06 w rfl
  refine' call_fn (binds := [("source", .ref x)]) c S ?k1 ?k2 ?k3 ?k4 ?k5 ?k6 ?k7 ?k8 ?k9
  case k1 => k_is
  case k2 => k_is
  case k3 => exact BindsTo.of_eq rfl
  case k4 => exact locs rfl
  case k6 => rfl
  case k7 => rfl
  case k8 => rfl
  case k9 => decide
  case k5 =>
    intro g L' s₁ c' S'
    dsimp only [bindM, List.foldl_cons, List.foldl_nil] at S'
    clear S
    k_fold
    repeat walk_at "my step"
    exact Back.mk' (by assumption) Sub.refl (h _ _ (by assumption))
end
end Mine

end
section
open PySem PySem.W PySem.Calls PyProof.Rows PySem.Spec
set_option Elab.async false
set_option maxRecDepth 100000
namespace Mine
local macro_rules | `(tactic| walk_at "my look") => `(tactic| first | with_reducible assumption | with_reducible exact upd_same | ((with_reducible refine' upd_look ?k1 ?k2); (case k1 => decide); (case k2 => walk_at "my look")))
local macro_rules | `(tactic| walk_at "my ne") => `(tactic| first | with_reducible assumption | ((with_reducible refine Ne.symm ?_); with_reducible assumption))
local macro_rules | `(tactic| walk_at "my heap") => `(tactic| first | with_reducible assumption | with_reducible exact put_same | ((with_reducible refine' put_step ?j1 ?j2); (case j1 => walk_at "my heap"); (case j2 => walk_at "my apart")))
local macro_rules | `(tactic| walk_at "my apart") => `(tactic| (intro e9; first | walk_at "my ne" | ((with_reducible refine' ne_new ?j3 e9); with_reducible assumption) | ((with_reducible refine' ne_kind e9 ?j4 ?j5); (case j4 => walk_at "my heap"); (case j5 => exact fun z9 => by cases z9))))
local macro_rules | `(tactic| walk_at "my none") => `(tactic| with_reducible assumption)
local macro_rules | `(tactic| walk_at "my asm") => `(tactic| with_reducible assumption)
local macro_rules | `(tactic| walk_at "my getter of") => `(tactic| first | with_reducible exact (by assumption : Lib _ _).g0 | with_reducible exact (by assumption : Lib _ _).g1 | with_reducible exact (by assumption : Lib _ _).g2 | with_reducible exact (by assumption : Lib _ _).g3 | with_reducible exact (by assumption : Lib _ _).g4)
local macro_rules | `(tactic| walk_at "my setter of") => `(tactic| first | with_reducible exact (by assumption : Lib _ _).s0 | with_reducible exact (by assumption : Lib _ _).s1 | with_reducible exact (by assumption : Lib _ _).s2 | with_reducible exact (by assumption : Lib _ _).s3 | with_reducible exact (by assumption : Lib _ _).s4)
local macro_rules | `(tactic| walk_at "my B") => `(tactic| with_reducible exact (by assumption : Lib _ _).B)
local macro_rules | `(tactic| walk_at "my handed") => `(tactic| first | with_reducible assumption | exact rfl)
local macro_rules | `(tactic| walk_at "my size") => `(tactic| first | ((try simp only [List.length_append, List.length_cons, List.length_nil, List.length_replicate]); omega) | (rw [sizeLine_eq]; (try simp only [List.length_append, List.length_cons, List.length_nil, List.length_replicate]); omega))
local macro_rules | `(tactic| walk_at "my isl") => `(tactic| first | ((with_reducible refine' St.given ?i1 ?i2); (case i2 => walk_at "my asm"); (case i1 => walk_at "my asm")) | ((with_reducible refine' St.isList ?i1 ?i2); (case i1 => walk_at "my asm"); (case i2 => walk_at "my heap")))
local macro_rules | `(tactic| walk_at "my stmt") => `(tactic| first | with_reducible refine wpAny_execs_cons ?_ | with_reducible refine wpAny_execs_nil ?_ | with_reducible refine wpAny_Return_some ?_ | ((with_reducible refine wpAny_Assign_Name ?h ?he); (case he => rfl)) | ((with_reducible refine Assign_Tuple ?h ?he ?hw); (case he => rfl); (case hw => rfl)) | ((with_reducible refine' Assign_Tuple_swapped ?h ?he ?hw); (case he => rfl); (case hw => exact rfl)) | with_reducible refine wpAny_If ?_ | ((with_reducible refine wpAny_Expr ?h ?hi ?he); (case hi => rfl); (case he => rfl)))
local macro_rules | `(tactic| walk_at "my expr") => `(tactic| first | ((with_reducible refine' r_local ?k1 ?k2 ?k3 ?h ?hl ?hd); (case k1 => walk_at "my asm"); (case k2 => walk_at "my asm"); (case k3 => walk_at "my look"); (case hl => exact rfl); (case hd => decide)) | ((with_reducible refine' r_cname ?k1 ?k2 ?k3 ?h ?hk ?hl ?hd); (case k1 => walk_at "my asm"); (case k2 => walk_at "my asm"); (case k3 => walk_at "my look"); (case hk => exact rfl); (case hl => exact rfl); (case hd => decide)) | ((with_reducible refine' r_glob ?k1 ?k2 ?k3 ?h ?hl ?hd ?hk ?hg); (case k1 => walk_at "my asm"); (case k2 => walk_at "my asm"); (case k3 => first | walk_at "my asm" | k_is); (case hl => exact rfl); (case hd => decide); (case hk => exact rfl); (case hg => exact rfl)) | ((with_reducible refine' r_blt ?k1 ?k2 ?k3 ?k4 ?k5 ?h ?hl ?hd ?hk ?hg ?hb); (case k1 => walk_at "my asm"); (case k2 => walk_at "my asm"); (case k3 => first | walk_at "my asm" | k_is); (case k4 => boot_by_name); (case k5 => decide); (case hl => exact rfl); (case hd => decide); (case hk => exact rfl); (case hg => exact rfl); (case hb => exact rfl)) | ((with_reducible refine' r_int ?k1 ?h); (case k1 => walk_at "my asm"); intro s' t' S') | ((with_reducible refine' r_str ?k1 ?h); (case k1 => walk_at "my asm"); intro s' t' S') | with_reducible refine wpAny_Constant_none ?_ | with_reducible refine wpAny_Constant_bool ?_ | with_reducible refine wpAny_BinOp ?_ | ((with_reducible refine wpAny_Compare1 ?h ?he); (case he => with_unfolding_all rfl)) | with_reducible refine List_ ?_ | with_reducible refine Tuple_ ?_ | with_reducible refine IfExp_ ?_ | with_reducible refine Subscript_ ?_ | ((with_reducible refine args_cons ?h ?he); (case he => rfl)) | with_reducible refine args_nil ?_ | ((with_reducible show wpAny _ _ (eval (Expr.Call (Expr.Attribute _ _ _) _ _ _) _) _ _ _); refine MethodCall_ ?_) | ((with_reducible show wpAny _ _ (eval (Expr.Call _ _ _ _) _) _ _ _); refine Call_ ?_))
local macro_rules | `(tactic| walk_at "my test") => `(tactic| first | ((with_reducible refine wpAny_isTrue_Compare1 ?h ?he); (case he => with_unfolding_all rfl)) | with_reducible refine isTrue_not ?_ | with_reducible refine isTrue_or ?_ | with_reducible refine isTrue_and ?_ | with_reducible refine isTrue_or_nil ?_ | with_reducible refine isTrue_and_nil ?_ | with_reducible refine wpAny_truthy_bool ?_ | with_reducible refine ite_tt ?_ | with_reducible refine ite_ff ?_ | with_reducible refine ite_nt ?_ | with_reducible refine ite_nf ?_ | with_reducible refine ite_T ?_ | with_reducible refine ite_F ?_ | ((with_reducible show wpAny _ _ (PySem.isTrue _ _ _) _ _ _); refine isTrue_plain ?_))
local macro_rules | `(tactic| walk_at "my sub") => `(tactic| first | with_reducible assumption | with_reducible exact SubX.refl | with_reducible exact Sub.refl | ((with_reducible refine' SubX.new ?k1 ?k2); (case k2 => walk_at "my none"); (case k1 => walk_at "my sub")) | ((with_reducible refine' SubX.at ?k1 ?k2); (case k2 => simp); (case k1 => walk_at "my sub")) | ((with_reducible refine' Sub.new ?k1 ?k2); (case k2 => walk_at "my none"); (case k1 => walk_at "my sub")))
local macro_rules | `(tactic| walk_at "my St") => `(tactic| first | with_reducible assumption | ((with_reducible refine' St.sub' ?k1 ?k2); (case k1 => with_reducible assumption); (case k2 => walk_at "my sub")))
local macro_rules | `(tactic| walk_at "my same1") => `(tactic| first | with_reducible exact Same.rfl' | with_reducible exact Same.int | with_reducible exact Same.str | with_reducible exact Same.bytes | ((with_reducible refine' Same.list ?k1 ?k2 ?k3); (case k1 => walk_at "my heap"); (case k2 => walk_at "my heap"); (case k3 => walk_at "my same")))
local macro_rules | `(tactic| walk_at "my same") => `(tactic| first | (simp only [List.length_replicate, Int.toNat_natCast]; exact SameAll.refl) | with_reducible exact SameAll.refl | exact SameAll.refl | exact SameAll.nil | ((with_reducible refine SameAll.cons ?k1 ?k2); (case k1 => walk_at "my same1"); (case k2 => walk_at "my same")))
local macro_rules | `(tactic| walk_at "my op") => `(tactic| first | ((with_reducible refine' r_newList ?k1 ?h ?hz); (case k1 => walk_at "my asm"); (case hz => walk_at "my size"); intro a' s' n' S') | ((with_reducible refine' r_newTuple ?k1 ?h ?hz); (case k1 => walk_at "my asm"); (case hz => walk_at "my size"); intro a' s' n' S') | with_reducible refine r_is_nn ?_ | with_reducible refine r_is_rn ?_ | with_reducible refine r_isnot_nn ?_ | with_reducible refine r_isnot_rn ?_ | with_reducible refine wpAny_bindName ?_ | with_reducible refine wpAny_assign_Name ?_ | ((with_reducible refine' r_unpackItems ?k1 ?k2 ?k3 ?k4 ?h); (case k1 => walk_at "my asm"); (case k2 => walk_at "my asm"); (case k3 => walk_at "my heap"); (case k4 => exact rfl); intro s' S') | ((with_reducible refine' r_assign_tup ?k1 ?k2 ?k3 ?k4 ?k5 ?h); (case k1 => walk_at "my asm"); (case k2 => walk_at "my asm"); (case k3 => walk_at "my heap"); (case k4 => exact rfl); (case k5 => exact rfl); intro s' S') | ((with_reducible show wpAny _ _ (assignInOrder _ _) _ _ _); (show wpAny _ _ (assignInOrder (_ :: _) (_ :: _)) _ _ _); refine aio_cons ?_) | ((with_reducible show wpAny _ _ (assignInOrder _ _) _ _ _); (show wpAny _ _ (assignInOrder [] []) _ _ _); refine aio_nil ?_) | ((with_reducible refine' r_store ?k1 ?k2 ?h ?hl); (case k1 => walk_at "my asm"); (case k2 => walk_at "my asm"); (case hl => exact rfl); intro s' S') | ((with_reducible refine' r_cstore ?k0 ?k1 ?k2 ?h ?hk ?hl); (case k0 => walk_at "my asm"); (case k1 => walk_at "my asm"); (case k2 => walk_at "my asm"); (case hk => exact rfl); (case hl => exact rfl); intro o' s' O' S') | ((with_reducible refine' r_getm ?k0 ?k1 ?k2 ?k3 ?k4 ?k5 ?h); (case k0 => walk_at "my getter of"); (case k1 => walk_at "my asm"); (case k2 => walk_at "my B"); (case k3 => walk_at "my asm"); (case k4 => walk_at "my heap"); (case k5 => walk_at "my handed"); intro s' S'; (try dsimp only [Flds.get])) | ((with_reducible refine' r_setm ?k0 ?k1 ?k2 ?k3 ?k4 ?h ?he); (case k0 => walk_at "my setter of"); (case k1 => walk_at "my asm"); (case k2 => walk_at "my B"); (case k3 => walk_at "my asm"); (case k4 => walk_at "my heap"); (case he => rfl)) | ((with_reducible refine' AtSet.mk' ?k1 ?k2 ?h); (case k1 => walk_at "my asm"); (case k2 => walk_at "my heap"); intro s' S'; dsimp only [Flds.set] at S') | ((with_reducible refine' r_new0 ?k0 ?k1 ?k2 ?k3 ?h); (case k0 => with_reducible exact (by assumption : Lib _ _).init); (case k1 => walk_at "my asm"); (case k2 => walk_at "my B"); (case k3 => walk_at "my asm"); intro x' s' n' S') | ((with_reducible refine' r_new1 ?k0 ?k1 ?k2 ?k3 ?h ?he); (case k0 => with_reducible exact (by assumption : Lib _ _).init); (case k1 => walk_at "my asm"); (case k2 => walk_at "my B"); (case k3 => walk_at "my asm"); (case he => rfl)) | ((with_reducible refine' r_add ?k1 ?h); (case k1 => walk_at "my asm"); intro s' t' S') | ((with_reducible refine' r_sub ?k1 ?h); (case k1 => walk_at "my asm"); intro s' t' S') | ((with_reducible refine' r_mod ?k1 ?k2 ?h); (case k1 => walk_at "my asm"); (case k2 => decide); intro s' t' S') | ((with_reducible refine' r_fdiv ?k0 ?k1 ?k2 ?h); (case k0 => walk_at "my asm"); (case k1 => walk_at "my asm"); (case k2 => decide); intro s' t' S') | ((with_reducible refine' r_ne_lists (n := 3) ?k1 ?k2 ?k3 ?k4 ?k5 ?k6 ?h); (case k1 => walk_at "my asm"); (case k2 => walk_at "my asm"); (case k3 => walk_at "my heap"); (case k4 => walk_at "my heap"); (case k5 => walk_at "my same"); (case k6 => decide)) | ((with_reducible refine' r_eq_lists (n := 3) ?k1 ?k2 ?k3 ?k4 ?k5 ?k6 ?h); (case k1 => walk_at "my asm"); (case k2 => walk_at "my asm"); (case k3 => walk_at "my heap"); (case k4 => walk_at "my heap"); (case k5 => walk_at "my same"); (case k6 => decide)) | ((with_reducible refine' r_eq_nil ?k1 ?k2 ?k3 ?k4 ?h); (case k1 => walk_at "my asm"); (case k2 => walk_at "my asm"); (case k3 => walk_at "my heap"); (case k4 => walk_at "my heap")) | ((with_reducible refine' r_add_lists ?k1 ?k2 ?k3 ?k4 ?h); (case k1 => walk_at "my asm"); (case k2 => walk_at "my isl"); (case k3 => walk_at "my isl"); (case k4 => walk_at "my size"); intro a' s' n' S') | ((with_reducible refine' r_enum ?k1 ?k2 ?h); (case k1 => walk_at "my asm"); (case k2 => walk_at "my heap"); intro e' it' ob' s' n1' n2' n3' hi' S') | with_reducible refine wp_forIn_nil ?_ | with_reducible refine lt_int ?_ | with_reducible refine gt_int ?_ | with_reducible refine eq_int ?_ | with_reducible refine ne_int ?_ | ((with_reducible refine' r_lmeth1 PySem.F.slot_list_append PySem.F.type_list_append ?k1 ?k2 ?h ?he); (case k1 => walk_at "my asm"); (case k2 => walk_at "my heap"); (case he => rfl)) | ((with_reducible refine' r_lmeth1 PySem.F.slot_list_extend PySem.F.type_list_extend ?k1 ?k2 ?h ?he); (case k1 => walk_at "my asm"); (case k2 => walk_at "my heap"); (case he => rfl)) | ((with_reducible refine' r_lmeth1 PySem.F.slot_list_remove PySem.F.type_list_remove ?k1 ?k2 ?h ?he); (case k1 => walk_at "my asm"); (case k2 => walk_at "my heap"); (case he => rfl)) | ((with_reducible refine' r_append ?k1 ?k2 ?k3 ?h); (case k1 => walk_at "my asm"); (case k2 => walk_at "my heap"); (case k3 => walk_at "my size"); intro s' S') | ((with_reducible refine' r_extend ?k1 ?k2 ?k3 ?k4 ?h); (case k1 => walk_at "my asm"); (case k2 => walk_at "my heap"); (case k3 => walk_at "my heap"); (case k4 => walk_at "my size"); intro s' S') | ((with_reducible refine' r_mul_list ?k1 ?k2 ?k3 ?k4 ?h); (case k1 => walk_at "my asm"); (case k2 => walk_at "my heap"); (case k3 => walk_at "my size"); (case k4 => walk_at "my size"); intro a' s' n' S') | ((with_reducible refine' r_len ?k1 ?k2 ?k3 ?h); (case k1 => walk_at "my asm"); (case k2 => walk_at "my heap"); (case k3 => walk_at "my size"); intro s' t' S') | ((with_reducible show wpAny _ _ (callWith _ (Value.builtin _) _ _ _) _ _ _); (with_reducible refine callWith_builtin1 ?h ?he ?hp); (case he => rfl); (case hp => rfl)) | ((with_reducible show wpAny _ _ (callWith _ (Value.type _) _ _ _) _ _ _); (with_reducible refine callWith_type1 ?h ?he ?hp); (case he => rfl); (case hp => rfl)) | ((with_reducible refine' r_callK ?k1 ?k3 ?k2 ?h ?he ?hp); (case k1 => walk_at "my asm"); (case k3 => walk_at "my asm"); (case k2 => k_is); (case he => rfl); (case hp => rfl)) | ((with_reducible refine' calledWith ?k1 ?h); (case k1 => walk_at "my asm"); (try simp only [List.nil_append])) | ((with_reducible refine' AtNew.mk' ?k1 ?h); (case k1 => walk_at "my asm"); intro x' s' n' S'))
local macro_rules | `(tactic| walk_at "my step") => `(tactic| first | (k_unfold; (try dsimp only)) | walk_at "my stmt" | walk_at "my expr" | walk_at "my test" | walk_at "my op" | walk_at "my call" | dsimp only)

local macro_rules | `(tactic| walk_at "my call told") => `(tactic| ((with_reducible refine' told06 ?k1 ?k2 ?k3 ?h0 ?h1 ?h2 ?h3 ?h4 ?h); (case k1 => walk_at "my asm"); (case k2 => walk_at "my asm"); (case k3 => walk_at "my heap"); (case h0 => walk_at "my handed"); (case h1 => walk_at "my handed"); (case h2 => walk_at "my handed"); (case h3 => walk_at "my handed"); (case h4 => walk_at "my handed"); intro a' s' n' S'; (try dsimp only at S')))
local macro_rules | `(tactic| walk_at "my call") => `(tactic| walk_at "my call told")
local macro_rules | `(tactic| walk_at "my call washed") => `(tactic| ((with_reducible refine' washed06 ?k1 ?k2 ?k3 ?h); (case k1 => walk_at "my asm"); (case k2 => walk_at "my asm"); (case k3 => walk_at "my heap"); intro s' S'))

example (w : World) : PySem.Challenge.rw_dn0305_06.prog = PySem.Challenge.rw_dn0305_06.prog → Lib (hd06.heap_39 w.params) 102 := by
  k_fill
  exact lib06 w
section
variable {p : Program} {loose : List Str} {mean : ExcName → Option Value} {mg mb : Str → Option Value} {A : Around} {env : Env} {h₀ : Heap} {L : Addr} {d : Nat}
variable {w : World} {s₀ s : Shared} {own : List (Addr × Obj)} {m : Str → Option Value} {H : AH} {Q : Value → Shared → Prop} {E : Value → Shared → Prop}

set_option maxHeartbeats 4000000 in
theorem washed06 {x : Addr} {F : Flds} (c : Cx (hd06.heap_39 w.params) p loose mean mg mb A env h₀ L (d + 4)) (S : St 102 s₀ h₀ L own s m H) (hx : H x = some (.src F))
    (h : ∀ s', St 102 s₀ h₀ L own s' m (put H x (.src ⟨.none, .none, .none, .none, .none⟩)) → Q (.bool true) s') :
    wpAny (model PySem.Challenge.rw_dn0305_06.row.prog w) A (call (.ref 141) [.ref x]) Q E s := by
  have l := lib06 w rfl
  refine' call_fn (binds := [("source", .ref x)]) c S ?k1 ?k2 ?k3 ?k4 ?k5 ?k6 ?k7 ?k8 ?k9
  case k1 => k_is
  case k2 => k_is
  case k3 => exact BindsTo.of_eq rfl
  case k4 => exact locs rfl
  case k6 => rfl
  case k7 => rfl
  case k8 => rfl
  case k9 => decide
  case k5 =>
    intro g L' s₁ c' S'
    dsimp only [bindM, List.foldl_cons, List.foldl_nil] at S'
    clear S
    k_fold
    walk_at "my step"
    refine r_for_list c' S' ?h rfl (fun _ => rfl)
    repeat walk_at "my step"
    rename_i t1 _ _ t2 _ a s2 hn S2
    refine ⟨a, _, _, _, _, fun i m' H' => m' "source" = some (.ref x) ∧ SubX [x] H H' ∧ ∃ F', H' x = some (.src F') ∧ (i = 3 → F' = ⟨.none, .none, .none, .none, .none⟩), rfl, S2, put_same, ?_, ?_, ?_⟩
    · refine ⟨upd_same, fun b o hb e => ?_, F, ?_, fun z => by cases z⟩
      · rw [del_ne (fun z => by rw [z, hn] at e; cases e)]; exact put_new hn e
      · rw [del_ne (fun z => by rw [z, hn] at hx; cases hx)]; exact put_new hn hx
    · intro i v m₁ H₁ own₁ s₃ hv hJ S₃
      obtain ⟨hm, hsub, F', hF', _⟩ := hJ
      have hh : handedIn v = true := by
        rcases i with _ | _ | _ | i
        · cases hv; rfl
        · cases hv; rfl
        · cases hv; rfl
        · cases hv
      have h3 : i + 1 = 3 → v = .none := fun z => by
        cases Nat.succ.inj z
        cases hv; rfl
      clear S2 S' hv
      repeat walk_at "my step"
      refine TurnQ.mk' (by assumption) ⟨by walk_at "my look", by walk_at "my sub", _, by walk_at "my heap", fun z => by rw [h3 z]⟩
    · intro m₁ H₁ s₃ hJ hl S₃
      obtain ⟨hm, hsub, F', hF', h3⟩ := hJ
      cases h3 rfl
      clear S2 S'
      repeat walk_at "my step"
      refine Back.mk' S₃ ?_ (h _)
      exact fun b o e => put_new hl (hsub.put hF' b o e)
end
end Mine

end
section
open PySem PySem.W PySem.Calls PyProof.Rows PySem.Spec PySem.SeqAt
set_option Elab.async false
set_option maxRecDepth 100000
namespace Mine

/-! paths -/
abbrev sl : Str := Str.ofString "/"
theorem sl_eq : sl = ⟨#[47]⟩ := by decide +kernel
theorem mt_eq : Str.ofString "" = ⟨#[]⟩ := by decide +kernel
def pathL (ps : List Str) : List Nat := ps.flatMap fun p => 47 :: p.cps.toList
def path (ps : List Str) : Str := ⟨(pathL ps).toArray⟩
theorem str_ext {x y : Str} (h : x.cps.toList = y.cps.toList) : x = y := by
  cases x; cases y; simp only [Array.toList_inj] at h; rw [h]
theorem app_cps (x y : Str) : (x ++ y).cps.toList = x.cps.toList ++ y.cps.toList := by
  show (x.cps ++ y.cps).toList = _
  simp
theorem path_cps (ps : List Str) : (path ps).cps.toList = pathL ps := by simp [path]
theorem path_len (ps : List Str) : (path ps).length = (pathL ps).length := by simp [path, Str.length]
theorem pathL_snoc (ps : List Str) (p : Str) : pathL (ps ++ [p]) = pathL ps ++ 47 :: p.cps.toList := by simp [pathL]
theorem path_snoc (ps : List Str) (p : Str) : path ps ++ sl ++ p = path (ps ++ [p]) := by
  apply str_ext
  rw [app_cps, app_cps, path_cps, path_cps, pathL_snoc, sl_eq]
  simp
theorem path_nil : path [] = Str.ofString "" := by rw [mt_eq]; rfl
theorem join_path (ps : List Str) : Txt.join (Str.ofString "") (ps.map fun p => sl ++ p) = path ps := by
  unfold Txt.join
  rw [StrLaws.glued_eq_join]
  apply str_ext
  rw [path_cps]
  have key : ∀ ys : List Str, (Str.join (Str.ofString "") ys).cps.toList = ys.flatMap fun y => y.cps.toList := by
    intro ys
    induction ys with
    | nil => rfl
    | cons y r ih =>
      cases r with
      | nil => simp [Str.join]
      | cons z r =>
        show ((y ++ Str.ofString "") ++ Str.join (Str.ofString "") (z :: r)).cps.toList = _
        rw [app_cps, app_cps, ih, mt_eq]
        simp
  rw [key, pathL, List.flatMap_map]
  congr 1
  funext p
  rw [app_cps, sl_eq]
  rfl
theorem at_path {ps : List Str} {p : Str} {x : Str} (hx : x = path (ps ++ [p])) (i : Nat) : StrLaws.At x sl x.length i ↔ (pathL ps ++ 47 :: p.cps.toList)[i]? = some 47 := by
  subst hx
  unfold StrLaws.At
  rw [StrLaws.subAt_eq, path_cps, path_len, pathL_snoc, sl_eq]
  show i + 1 ≤ _ ∧ (List.take 1 (List.drop i _) == [47]) = true ↔ _
  generalize pathL ps ++ 47 :: p.cps.toList = l
  constructor
  · rintro ⟨h1, h2⟩
    have h1 : i < l.length := h1
    rw [List.getElem?_eq_getElem h1]
    rw [List.drop_eq_getElem_cons h1, List.take_succ_cons, List.take_zero] at h2
    have h3 : [l[i]] = [47] := eq_of_beq h2
    rw [List.cons.inj h3 |>.1]
  · intro h
    obtain ⟨h1, h2⟩ := List.getElem?_eq_some_iff.mp h
    refine ⟨h1, ?_⟩
    rw [List.drop_eq_getElem_cons h1, List.take_succ_cons, List.take_zero, h2]
    exact beq_self_eq_true _
theorem rfind_path {ps : List Str} {p : Str} (h : 47 ∉ p.cps.toList) : Txt.rfind (path (ps ++ [p])) sl = ((path ps).length : Int) := by
  have hhit : StrLaws.At (path (ps ++ [p])) sl (path (ps ++ [p])).length (path ps).length := by
    rw [at_path rfl, path_len]; simp
  have hmiss : ∀ k, (path ps).length < k → ¬ StrLaws.At (path (ps ++ [p])) sl (path (ps ++ [p])).length k := by
    intro k hk
    rw [at_path rfl]
    rw [path_len] at hk
    intro e
    rw [List.getElem?_append_right (by omega)] at e
    obtain ⟨j, hj⟩ : ∃ j, k - (pathL ps).length = j + 1 := ⟨k - (pathL ps).length - 1, by omega⟩
    rw [hj, List.getElem?_cons_succ] at e
    exact h (List.mem_of_getElem? e)
  rcases rfind_whole (path (ps ++ [p])) sl with ⟨_, hn⟩ | ⟨i, e, h1, h2⟩
  · exact absurd hhit (hn _)
  · rw [e]
    have a1 : ¬ i < (path ps).length := fun z => h2 _ z hhit
    have a2 : ¬ (path ps).length < i := fun z => hmiss _ z h1
    omega
theorem slice_to (x : Str) (k : Nat) (hk : k ≤ x.length) : Txt.slice x none (some (k : Int)) = ⟨(x.cps.toList.take k).toArray⟩ := by
  have e0 : Builtin.Str.strSliceIndices none (some (k : Int)) 1 x.length = Builtin.Str.strSliceIndices (some ((0 : Nat) : Int)) (some (k : Int)) 1 x.length := by
    simp [Builtin.Str.strSliceIndices]
    rw [show max (0 : Int) (min 0 (x.length : Int)) = 0 from by omega]
  unfold Txt.slice
  rw [e0]
  have e1 := StrLaws.sliced_plain x (a := 0) (b := k) (Nat.zero_le _) hk
  have e2 := StrLaws.strSliceIndices_plain (a := 0) (b := k) (len := x.length) (Nat.zero_le _) hk
  split
  · rename_i q
    rw [e2] at q
    simp at q
    subst q
    apply str_ext
    show x.cps.toList = (List.take x.length x.cps.toList).toArray.toList
    rw [List.take_of_length_le (by simp [Str.length])]
  · rw [e1]; simp
theorem slice_path {ps : List Str} {p : Str} : Txt.slice (path (ps ++ [p])) none (some ((path ps).length : Int)) = path ps := by
  rw [slice_to _ _ (by rw [path_len, path_len, pathL_snoc]; simp)]
  apply str_ext
  show List.take (path ps).length (path (ps ++ [p])).cps.toList = _
  rw [path_cps, path_cps, path_len, pathL_snoc]
  simp
theorem path_ne {ps : List Str} (h : ps ≠ []) : (path ps != Str.ofString "") = true := by
  have : path ps ≠ Str.ofString "" := fun z => by
    have := congrArg (fun x : Str => x.cps.toList) z
    simp only [path_cps, mt_eq] at this
    cases ps with
    | nil => exact h rfl
    | cons a r => simp [pathL] at this
  simpa using this

/-! the names -/
def nmS : Nat → Str
  | 0 => "a"
  | 1 => "B"
  | 2 => ".."
  | 3 => "."
  | _ => "/c"
def nmP : Nat → List Str → List Str
  | 0, ps => ps ++ [Str.ofString "a"]
  | 1, ps => ps ++ [Str.ofString "B"]
  | 2, ps => ps.dropLast
  | 3, ps => ps
  | _, _ => [Str.ofString "c"]
def Good (ps : List Str) : Prop := ∀ p ∈ ps, 47 ∉ p.cps.toList ∧ p.length = 1
theorem good_a : (47 : Nat) ∉ (Str.ofString "a").cps.toList ∧ (Str.ofString "a").length = 1 := by decide +kernel
theorem good_B : (47 : Nat) ∉ (Str.ofString "B").cps.toList ∧ (Str.ofString "B").length = 1 := by decide +kernel
theorem good_c : (47 : Nat) ∉ (Str.ofString "c").cps.toList ∧ (Str.ofString "c").length = 1 := by decide +kernel
theorem Good.nm {ps : List Str} (h : Good ps) : ∀ j, Good (nmP j ps)
  | 0 => fun p hp => by
    rcases List.mem_append.mp hp with hp | hp
    · exact h p hp
    · rw [List.mem_singleton.mp hp]; exact good_a
  | 1 => fun p hp => by
    rcases List.mem_append.mp hp with hp | hp
    · exact h p hp
    · rw [List.mem_singleton.mp hp]; exact good_B
  | 2 => fun p hp => h p (List.dropLast_subset _ hp)
  | 3 => h
  | _ + 4 => fun p hp => by rw [List.mem_singleton.mp hp]; exact good_c
theorem Good.plen {ps : List Str} (h : Good ps) : (path ps).length = 2 * ps.length := by
  rw [path_len]
  induction ps with
  | nil => rfl
  | cons p r ih =>
    have h1 := (h p (.head _)).2
    have h2 := ih fun q hq => h q (.tail _ hq)
    have h3 : p.cps.toList.length = 1 := by simpa [Str.length] using h1
    simp only [pathL, List.flatMap_cons, List.length_append, List.length_cons] at h2 ⊢
    omega
theorem path_c : path [Str.ofString "c"] = Str.ofString "/c" := by decide +kernel
end Mine

end
section
open PySem PySem.W PySem.Calls PyProof.Rows PySem.Spec PySem.SeqAt
set_option Elab.async false
set_option maxRecDepth 100000
namespace Mine
local macro_rules | `(tactic| walk_at "my look") => `(tactic| first | with_reducible assumption | with_reducible exact upd_same | ((with_reducible refine' upd_look ?k1 ?k2); (case k1 => decide); (case k2 => walk_at "my look")))
local macro_rules | `(tactic| walk_at "my ne") => `(tactic| first | with_reducible assumption | ((with_reducible refine Ne.symm ?_); with_reducible assumption))
local macro_rules | `(tactic| walk_at "my heap") => `(tactic| first | with_reducible assumption | with_reducible exact put_same | ((with_reducible refine' put_step ?j1 ?j2); (case j1 => walk_at "my heap"); (case j2 => walk_at "my apart")))
local macro_rules | `(tactic| walk_at "my apart") => `(tactic| (intro e9; first | walk_at "my ne" | ((with_reducible refine' ne_new ?j3 e9); with_reducible assumption) | ((with_reducible refine' ne_kind e9 ?j4 ?j5); (case j4 => walk_at "my heap"); (case j5 => exact fun z9 => by cases z9))))
local macro_rules | `(tactic| walk_at "my none") => `(tactic| with_reducible assumption)
local macro_rules | `(tactic| walk_at "my asm") => `(tactic| with_reducible assumption)
local macro_rules | `(tactic| walk_at "my getter of") => `(tactic| first | with_reducible exact (by assumption : Lib _ _).g0 | with_reducible exact (by assumption : Lib _ _).g1 | with_reducible exact (by assumption : Lib _ _).g2 | with_reducible exact (by assumption : Lib _ _).g3 | with_reducible exact (by assumption : Lib _ _).g4)
local macro_rules | `(tactic| walk_at "my setter of") => `(tactic| first | with_reducible exact (by assumption : Lib _ _).s0 | with_reducible exact (by assumption : Lib _ _).s1 | with_reducible exact (by assumption : Lib _ _).s2 | with_reducible exact (by assumption : Lib _ _).s3 | with_reducible exact (by assumption : Lib _ _).s4)
local macro_rules | `(tactic| walk_at "my B") => `(tactic| with_reducible exact (by assumption : Lib _ _).B)
local macro_rules | `(tactic| walk_at "my handed") => `(tactic| first | with_reducible assumption | exact rfl)
local macro_rules | `(tactic| walk_at "my size") => `(tactic| first | ((try simp only [List.length_append, List.length_cons, List.length_nil, List.length_replicate]); omega) | (rw [sizeLine_eq]; (try simp only [List.length_append, List.length_cons, List.length_nil, List.length_replicate]); omega))
local macro_rules | `(tactic| walk_at "my isl") => `(tactic| first | ((with_reducible refine' St.given ?i1 ?i2); (case i2 => walk_at "my asm"); (case i1 => walk_at "my asm")) | ((with_reducible refine' St.isList ?i1 ?i2); (case i1 => walk_at "my asm"); (case i2 => walk_at "my heap")))
local macro_rules | `(tactic| walk_at "my stmt") => `(tactic| first | with_reducible refine wpAny_execs_cons ?_ | with_reducible refine wpAny_execs_nil ?_ | with_reducible refine wpAny_Return_some ?_ | ((with_reducible refine wpAny_Assign_Name ?h ?he); (case he => rfl)) | ((with_reducible refine Assign_Tuple ?h ?he ?hw); (case he => rfl); (case hw => rfl)) | ((with_reducible refine' Assign_Tuple_swapped ?h ?he ?hw); (case he => rfl); (case hw => exact rfl)) | with_reducible refine wpAny_If ?_ | ((with_reducible refine wpAny_Expr ?h ?hi ?he); (case hi => rfl); (case he => rfl)))
local macro_rules | `(tactic| walk_at "my expr") => `(tactic| first | ((with_reducible refine' r_local ?k1 ?k2 ?k3 ?h ?hl ?hd); (case k1 => walk_at "my asm"); (case k2 => walk_at "my asm"); (case k3 => walk_at "my look"); (case hl => exact rfl); (case hd => decide)) | ((with_reducible refine' r_cname ?k1 ?k2 ?k3 ?h ?hk ?hl ?hd); (case k1 => walk_at "my asm"); (case k2 => walk_at "my asm"); (case k3 => walk_at "my look"); (case hk => exact rfl); (case hl => exact rfl); (case hd => decide)) | ((with_reducible refine' r_glob ?k1 ?k2 ?k3 ?h ?hl ?hd ?hk ?hg); (case k1 => walk_at "my asm"); (case k2 => walk_at "my asm"); (case k3 => first | walk_at "my asm" | k_is); (case hl => exact rfl); (case hd => decide); (case hk => exact rfl); (case hg => exact rfl)) | ((with_reducible refine' r_blt ?k1 ?k2 ?k3 ?k4 ?k5 ?h ?hl ?hd ?hk ?hg ?hb); (case k1 => walk_at "my asm"); (case k2 => walk_at "my asm"); (case k3 => first | walk_at "my asm" | k_is); (case k4 => boot_by_name); (case k5 => decide); (case hl => exact rfl); (case hd => decide); (case hk => exact rfl); (case hg => exact rfl); (case hb => exact rfl)) | ((with_reducible refine' r_int ?k1 ?h); (case k1 => walk_at "my asm"); intro s' t' S') | ((with_reducible refine' r_str ?k1 ?h); (case k1 => walk_at "my asm"); intro s' t' S') | with_reducible refine wpAny_Constant_none ?_ | with_reducible refine wpAny_Constant_bool ?_ | with_reducible refine wpAny_BinOp ?_ | ((with_reducible refine wpAny_Compare1 ?h ?he); (case he => with_unfolding_all rfl)) | with_reducible refine List_ ?_ | with_reducible refine Tuple_ ?_ | with_reducible refine IfExp_ ?_ | with_reducible refine Subscript_ ?_ | ((with_reducible refine args_cons ?h ?he); (case he => rfl)) | with_reducible refine args_nil ?_ | ((with_reducible show wpAny _ _ (eval (Expr.Call (Expr.Attribute _ _ _) _ _ _) _) _ _ _); refine MethodCall_ ?_) | ((with_reducible show wpAny _ _ (eval (Expr.Call _ _ _ _) _) _ _ _); refine Call_ ?_))
local macro_rules | `(tactic| walk_at "my test") => `(tactic| first | ((with_reducible refine wpAny_isTrue_Compare1 ?h ?he); (case he => with_unfolding_all rfl)) | with_reducible refine isTrue_not ?_ | with_reducible refine isTrue_or ?_ | with_reducible refine isTrue_and ?_ | with_reducible refine isTrue_or_nil ?_ | with_reducible refine isTrue_and_nil ?_ | with_reducible refine wpAny_truthy_bool ?_ | with_reducible refine ite_tt ?_ | with_reducible refine ite_ff ?_ | with_reducible refine ite_nt ?_ | with_reducible refine ite_nf ?_ | with_reducible refine ite_T ?_ | with_reducible refine ite_F ?_ | ((with_reducible show wpAny _ _ (PySem.isTrue _ _ _) _ _ _); refine isTrue_plain ?_))
local macro_rules | `(tactic| walk_at "my sub") => `(tactic| first | with_reducible assumption | with_reducible exact SubX.refl | with_reducible exact Sub.refl | ((with_reducible refine' SubX.new ?k1 ?k2); (case k2 => walk_at "my none"); (case k1 => walk_at "my sub")) | ((with_reducible refine' SubX.at ?k1 ?k2); (case k2 => simp); (case k1 => walk_at "my sub")) | ((with_reducible refine' Sub.new ?k1 ?k2); (case k2 => walk_at "my none"); (case k1 => walk_at "my sub")))
local macro_rules | `(tactic| walk_at "my St") => `(tactic| first | with_reducible assumption | ((with_reducible refine' St.sub' ?k1 ?k2); (case k1 => with_reducible assumption); (case k2 => walk_at "my sub")))
local macro_rules | `(tactic| walk_at "my same1") => `(tactic| first | with_reducible exact Same.rfl' | with_reducible exact Same.int | with_reducible exact Same.str | with_reducible exact Same.bytes | ((with_reducible refine' Same.list ?k1 ?k2 ?k3); (case k1 => walk_at "my heap"); (case k2 => walk_at "my heap"); (case k3 => walk_at "my same")))
local macro_rules | `(tactic| walk_at "my same") => `(tactic| first | (simp only [List.length_replicate, Int.toNat_natCast]; exact SameAll.refl) | with_reducible exact SameAll.refl | exact SameAll.refl | exact SameAll.nil | ((with_reducible refine SameAll.cons ?k1 ?k2); (case k1 => walk_at "my same1"); (case k2 => walk_at "my same")))
local macro_rules | `(tactic| walk_at "my op") => `(tactic| first | ((with_reducible refine' r_newList ?k1 ?h ?hz); (case k1 => walk_at "my asm"); (case hz => walk_at "my size"); intro a' s' n' S') | ((with_reducible refine' r_newTuple ?k1 ?h ?hz); (case k1 => walk_at "my asm"); (case hz => walk_at "my size"); intro a' s' n' S') | with_reducible refine r_is_nn ?_ | with_reducible refine r_is_rn ?_ | with_reducible refine r_isnot_nn ?_ | with_reducible refine r_isnot_rn ?_ | with_reducible refine wpAny_bindName ?_ | with_reducible refine wpAny_assign_Name ?_ | ((with_reducible refine' r_unpackItems ?k1 ?k2 ?k3 ?k4 ?h); (case k1 => walk_at "my asm"); (case k2 => walk_at "my asm"); (case k3 => walk_at "my heap"); (case k4 => exact rfl); intro s' S') | ((with_reducible refine' r_assign_tup ?k1 ?k2 ?k3 ?k4 ?k5 ?h); (case k1 => walk_at "my asm"); (case k2 => walk_at "my asm"); (case k3 => walk_at "my heap"); (case k4 => exact rfl); (case k5 => exact rfl); intro s' S') | ((with_reducible show wpAny _ _ (assignInOrder _ _) _ _ _); (show wpAny _ _ (assignInOrder (_ :: _) (_ :: _)) _ _ _); refine aio_cons ?_) | ((with_reducible show wpAny _ _ (assignInOrder _ _) _ _ _); (show wpAny _ _ (assignInOrder [] []) _ _ _); refine aio_nil ?_) | ((with_reducible refine' r_store ?k1 ?k2 ?h ?hl); (case k1 => walk_at "my asm"); (case k2 => walk_at "my asm"); (case hl => exact rfl); intro s' S') | ((with_reducible refine' r_cstore ?k0 ?k1 ?k2 ?h ?hk ?hl); (case k0 => walk_at "my asm"); (case k1 => walk_at "my asm"); (case k2 => walk_at "my asm"); (case hk => exact rfl); (case hl => exact rfl); intro o' s' O' S') | ((with_reducible refine' r_getm ?k0 ?k1 ?k2 ?k3 ?k4 ?k5 ?h); (case k0 => walk_at "my getter of"); (case k1 => walk_at "my asm"); (case k2 => walk_at "my B"); (case k3 => walk_at "my asm"); (case k4 => walk_at "my heap"); (case k5 => walk_at "my handed"); intro s' S'; (try dsimp only [Flds.get])) | ((with_reducible refine' r_setm ?k0 ?k1 ?k2 ?k3 ?k4 ?h ?he); (case k0 => walk_at "my setter of"); (case k1 => walk_at "my asm"); (case k2 => walk_at "my B"); (case k3 => walk_at "my asm"); (case k4 => walk_at "my heap"); (case he => rfl)) | ((with_reducible refine' AtSet.mk' ?k1 ?k2 ?h); (case k1 => walk_at "my asm"); (case k2 => walk_at "my heap"); intro s' S'; dsimp only [Flds.set] at S') | ((with_reducible refine' r_new0 ?k0 ?k1 ?k2 ?k3 ?h); (case k0 => with_reducible exact (by assumption : Lib _ _).init); (case k1 => walk_at "my asm"); (case k2 => walk_at "my B"); (case k3 => walk_at "my asm"); intro x' s' n' S') | ((with_reducible refine' r_new1 ?k0 ?k1 ?k2 ?k3 ?h ?he); (case k0 => with_reducible exact (by assumption : Lib _ _).init); (case k1 => walk_at "my asm"); (case k2 => walk_at "my B"); (case k3 => walk_at "my asm"); (case he => rfl)) | ((with_reducible refine' r_add ?k1 ?h); (case k1 => walk_at "my asm"); intro s' t' S') | ((with_reducible refine' r_sub ?k1 ?h); (case k1 => walk_at "my asm"); intro s' t' S') | ((with_reducible refine' r_mod ?k1 ?k2 ?h); (case k1 => walk_at "my asm"); (case k2 => decide); intro s' t' S') | ((with_reducible refine' r_fdiv ?k0 ?k1 ?k2 ?h); (case k0 => walk_at "my asm"); (case k1 => walk_at "my asm"); (case k2 => decide); intro s' t' S') | ((with_reducible refine' r_ne_lists (n := 3) ?k1 ?k2 ?k3 ?k4 ?k5 ?k6 ?h); (case k1 => walk_at "my asm"); (case k2 => walk_at "my asm"); (case k3 => walk_at "my heap"); (case k4 => walk_at "my heap"); (case k5 => walk_at "my same"); (case k6 => decide)) | ((with_reducible refine' r_eq_lists (n := 3) ?k1 ?k2 ?k3 ?k4 ?k5 ?k6 ?h); (case k1 => walk_at "my asm"); (case k2 => walk_at "my asm"); (case k3 => walk_at "my heap"); (case k4 => walk_at "my heap"); (case k5 => walk_at "my same"); (case k6 => decide)) | ((with_reducible refine' r_eq_nil ?k1 ?k2 ?k3 ?k4 ?h); (case k1 => walk_at "my asm"); (case k2 => walk_at "my asm"); (case k3 => walk_at "my heap"); (case k4 => walk_at "my heap")) | ((with_reducible refine' r_add_lists ?k1 ?k2 ?k3 ?k4 ?h); (case k1 => walk_at "my asm"); (case k2 => walk_at "my isl"); (case k3 => walk_at "my isl"); (case k4 => walk_at "my size"); intro a' s' n' S') | ((with_reducible refine' r_enum ?k1 ?k2 ?h); (case k1 => walk_at "my asm"); (case k2 => walk_at "my heap"); intro e' it' ob' s' n1' n2' n3' hi' S') | with_reducible refine wp_forIn_nil ?_ | with_reducible refine lt_int ?_ | with_reducible refine gt_int ?_ | with_reducible refine eq_int ?_ | with_reducible refine ne_int ?_ | ((with_reducible refine' r_lmeth1 PySem.F.slot_list_append PySem.F.type_list_append ?k1 ?k2 ?h ?he); (case k1 => walk_at "my asm"); (case k2 => walk_at "my heap"); (case he => rfl)) | ((with_reducible refine' r_lmeth1 PySem.F.slot_list_extend PySem.F.type_list_extend ?k1 ?k2 ?h ?he); (case k1 => walk_at "my asm"); (case k2 => walk_at "my heap"); (case he => rfl)) | ((with_reducible refine' r_lmeth1 PySem.F.slot_list_remove PySem.F.type_list_remove ?k1 ?k2 ?h ?he); (case k1 => walk_at "my asm"); (case k2 => walk_at "my heap"); (case he => rfl)) | ((with_reducible refine' r_append ?k1 ?k2 ?k3 ?h); (case k1 => walk_at "my asm"); (case k2 => walk_at "my heap"); (case k3 => walk_at "my size"); intro s' S') | ((with_reducible refine' r_extend ?k1 ?k2 ?k3 ?k4 ?h); (case k1 => walk_at "my asm"); (case k2 => walk_at "my heap"); (case k3 => walk_at "my heap"); (case k4 => walk_at "my size"); intro s' S') | ((with_reducible refine' r_mul_list ?k1 ?k2 ?k3 ?k4 ?h); (case k1 => walk_at "my asm"); (case k2 => walk_at "my heap"); (case k3 => walk_at "my size"); (case k4 => walk_at "my size"); intro a' s' n' S') | ((with_reducible refine' r_len ?k1 ?k2 ?k3 ?h); (case k1 => walk_at "my asm"); (case k2 => walk_at "my heap"); (case k3 => walk_at "my size"); intro s' t' S') | ((with_reducible show wpAny _ _ (callWith _ (Value.builtin _) _ _ _) _ _ _); (with_reducible refine callWith_builtin1 ?h ?he ?hp); (case he => rfl); (case hp => rfl)) | ((with_reducible show wpAny _ _ (callWith _ (Value.type _) _ _ _) _ _ _); (with_reducible refine callWith_type1 ?h ?he ?hp); (case he => rfl); (case hp => rfl)) | ((with_reducible refine' r_callK ?k1 ?k3 ?k2 ?h ?he ?hp); (case k1 => walk_at "my asm"); (case k3 => walk_at "my asm"); (case k2 => k_is); (case he => rfl); (case hp => rfl)) | ((with_reducible refine' calledWith ?k1 ?h); (case k1 => walk_at "my asm"); (try simp only [List.nil_append])) | ((with_reducible refine' AtNew.mk' ?k1 ?h); (case k1 => walk_at "my asm"); intro x' s' n' S'))
local macro_rules | `(tactic| walk_at "my step") => `(tactic| first | (k_unfold; (try dsimp only)) | walk_at "my stmt" | walk_at "my expr" | walk_at "my test" | walk_at "my op" | walk_at "my call" | dsimp only)

local macro_rules | `(tactic| walk_at "my arith") => `(tactic| first | with_reducible assumption | decide | omega)
local macro_rules | `(tactic| walk_at "my item") => `(tactic| first | with_reducible assumption | exact rfl)
local macro_rules | `(tactic| walk_at "my part") => `(tactic| first | with_reducible exact IsPart.none | with_reducible exact IsPart.int _ _)
local macro_rules | `(tactic| walk_at "my expr") => `(tactic| first | ((with_reducible refine' r_bytes ?k1 ?h); (case k1 => walk_at "my asm"); intro s' t' S') | ((with_reducible refine' r_sliceObj ?k1 ?h); (case k1 => walk_at "my asm")) | with_reducible refine evalPart_none_step ?_ | with_reducible refine evalPart_some_step ?_ | ((with_reducible refine' r_sliceMk ?k1 ?h); (case k1 => walk_at "my asm"); intro a' s' n' S'))
local macro_rules | `(tactic| walk_at "my test") => `(tactic| first | ((with_reducible refine' ite_yes ?k1 ?h); (case k1 => first | with_reducible assumption | decide)) | ((with_reducible refine' ite_no ?k1 ?h); (case k1 => first | with_reducible assumption | decide)))
local macro_rules | `(tactic| walk_at "my op") => `(tactic| first | ((with_reducible refine' r_range1 ?k1 ?h); (case k1 => walk_at "my asm"); intro a' s' t1' t2' n' S') | ((with_reducible refine' r_range2 ?k1 ?h); (case k1 => walk_at "my asm"); intro a' s' t1' n' S') | ((with_reducible refine' r_range3 ?k1 ?k2 ?k3 ?h); (case k1 => walk_at "my asm"); (case k2 => decide); (case k3 => decide); intro a' s' n' S') | ((with_reducible refine' r_fdiv' ?k1 ?k2 ?k3 ?h); (case k1 => walk_at "my asm"); (case k2 => walk_at "my arith"); (case k3 => walk_at "my arith"); intro s' t' S') | ((with_reducible refine' r_divmod ?k1 ?k2 ?k3 ?h); (case k1 => walk_at "my asm"); (case k2 => walk_at "my arith"); (case k3 => walk_at "my arith"); intro a' s' t1' t2' n' S') | ((with_reducible refine' r_sum ?k1 ?k2 ?k3 ?k4 ?h); (case k1 => walk_at "my asm"); (case k2 => walk_at "my asm"); (case k3 => walk_at "my heap"); (case k4 => walk_at "my asm"); intro s' t' S') | with_reducible refine r_is_rr ?_ | with_reducible refine r_isnot_rr ?_ | ((with_reducible refine' tail_get ?k1 ?k2 ?k3 ?k4 ?k5 ?h ?hs); (case k1 => walk_at "my asm"); (case k2 => walk_at "my heap"); (case k3 => walk_at "my arith"); (case k4 => walk_at "my arith"); (case k5 => walk_at "my item"); (case hs => exact rfl)) | ((with_reducible refine' r_slice_to ?k1 ?k2 ?k3 ?k4 ?k5 ?h ?hs); (case k1 => walk_at "my asm"); (case k2 => walk_at "my heap"); (case k3 => walk_at "my heap"); (case k4 => walk_at "my arith"); (case k5 => walk_at "my size"); (case hs => with_unfolding_all rfl); intro a' s' n' S'; (try simp only [Int.reduceToNat, List.take_succ_cons, List.take_zero, List.drop_succ_cons, List.drop_zero] at S')) | ((with_reducible refine' r_slice_from ?k1 ?k2 ?k3 ?k4 ?k5 ?h ?hs); (case k1 => walk_at "my asm"); (case k2 => walk_at "my heap"); (case k3 => walk_at "my heap"); (case k4 => walk_at "my arith"); (case k5 => walk_at "my size"); (case hs => with_unfolding_all rfl); intro a' s' n' S'; (try simp only [Int.reduceToNat, List.take_succ_cons, List.take_zero, List.drop_succ_cons, List.drop_zero] at S')))
local macro_rules | `(tactic| walk_at "my sub") => `(tactic| first | ((with_reducible refine' SubX.at ?k1 ?k2); (case k2 => with_reducible assumption); (case k1 => walk_at "my sub")) | fail "no")

local macro_rules | `(tactic| walk_at "my dlook") => `(tactic| first | with_reducible assumption | exact if_pos rfl | (refine (if_neg ?_).trans ?_ <;> with_reducible assumption))
local macro_rules | `(tactic| walk_at "my stmt") => `(tactic| first | ((with_reducible refine' wpAny_Assign_Subscript ?h ?hs); (case hs => rfl)) | fail "no")
local macro_rules | `(tactic| walk_at "my expr") => `(tactic| first | ((with_reducible refine' r_dict0 ?k1 ?k2 ?h); (case k1 => walk_at "my asm"); (case k2 => walk_at "my asm"); intro a' o' s' n' q' D' S') | ((with_reducible refine' r_dict1 ?k1 ?k2 ?h); (case k1 => walk_at "my asm"); (case k2 => walk_at "my asm"); intro a' o' s' t' n' q' D' S') | fail "no")
local macro_rules | `(tactic| walk_at "my op") => `(tactic| first | with_reducible refine r_ne_none ?_ | with_reducible refine r_is_in ?_ | with_reducible refine r_ne_bool ?_ | ((with_reducible refine' r_ditem ?k1 ?k2 ?k3 ?k4 ?h ?hs); (case k1 => walk_at "my asm"); (case k2 => walk_at "my heap"); (case k3 => walk_at "my asm"); (case k4 => walk_at "my dlook"); (case hs => with_unfolding_all rfl); intro s' S') | ((with_reducible refine' r_dmeth1 ?k1 ?k2 ?k3 ?h ?hs); (case k1 => walk_at "my asm"); (case k2 => walk_at "my heap"); (case k3 => walk_at "my asm"); (case hs => rfl)) | ((with_reducible refine' r_dmeth2 ?k1 ?k2 ?k3 ?h ?hs); (case k1 => walk_at "my asm"); (case k2 => walk_at "my heap"); (case k3 => walk_at "my asm"); (case hs => rfl)) | ((with_reducible refine' r_dget1 ?k1 ?k2 ?k3 ?k4 ?k5 ?h); (case k1 => walk_at "my asm"); (case k2 => walk_at "my heap"); (case k3 => walk_at "my asm"); (case k4 => walk_at "my asm"); (case k5 => first | with_reducible assumption | with_reducible exact getD_none' (by assumption) | with_reducible exact getD_some' (by assumption)); intro s' S') | ((with_reducible refine' r_dget2 ?k1 ?k2 ?k3 ?k4 ?k5 ?h); (case k1 => walk_at "my asm"); (case k2 => walk_at "my heap"); (case k3 => walk_at "my asm"); (case k4 => walk_at "my asm"); (case k5 => first | with_reducible assumption | with_reducible exact getD_none' (by assumption) | with_reducible exact getD_some' (by assumption)); intro s' S') | ((with_reducible refine' r_dset ?k1 ?k2 ?k3 ?k4 ?h); (case k1 => walk_at "my asm"); (case k2 => walk_at "my heap"); (case k3 => walk_at "my asm"); (case k4 => walk_at "my arith"); intro o' s' D' S') | ((with_reducible refine' r_lmeth1 PySem.F.slot_list_index PySem.F.type_list_index ?k1 ?k2 ?h ?he); (case k1 => walk_at "my asm"); (case k2 => walk_at "my heap"); (case he => rfl)) | fail "no")
local macro_rules | `(tactic| walk_at "my sub") => `(tactic| first | ((with_reducible refine' SubX.off ?k1 ?k2); (case k2 => with_reducible assumption); (case k1 => walk_at "my sub")) | ((with_reducible refine' Sub.off ?k1 ?k2); (case k2 => with_reducible assumption); (case k1 => walk_at "my sub")) | fail "no")

local macro_rules | `(tactic| walk_at "my expr") => `(tactic| first | with_reducible refine BoolOp_and ?_ | with_reducible refine BoolOp_one ?_ | fail "no")
local macro_rules | `(tactic| walk_at "my same1") => `(tactic| first | with_reducible exact Same0.up (by assumption) | fail "no")

local macro_rules | `(tactic| walk_at "my expr") => `(tactic| first | with_reducible refine UnaryOp_ ?_ | fail "no")
local macro_rules | `(tactic| walk_at "my slen") => `(tactic| first | with_reducible assumption | omega)
local macro_rules | `(tactic| walk_at "my op") => `(tactic| first | ((with_reducible refine' r_neg ?k1 ?h); (case k1 => walk_at "my asm"); intro s' t' S') | with_reducible refine r_eq_str ?_ | with_reducible refine r_ne_str ?_ | ((with_reducible refine' r_add_str ?k1 ?k2 ?h); (case k1 => walk_at "my asm"); (case k2 => walk_at "my slen"); intro s' t' S') | ((with_reducible refine' r_smeth1 PySem.F.slot_str_rfind PySem.F.type_str_rfind ?h ?he); (case he => rfl)) | ((with_reducible refine' r_smeth1 PySem.F.slot_str_join PySem.F.type_str_join ?h ?he); (case he => rfl)) | ((with_reducible refine' r_rfind ?k1 ?h); (case k1 => walk_at "my asm"); intro s' t' S') | ((with_reducible refine' r_sslice_to ?k1 ?k2 ?k3 ?h ?hs); (case k1 => walk_at "my asm"); (case k2 => walk_at "my heap"); (case k3 => walk_at "my slen"); (case hs => with_unfolding_all rfl); intro s' t' S') | ((with_reducible refine' r_sslice_from ?k1 ?k2 ?k3 ?h ?hs); (case k1 => walk_at "my asm"); (case k2 => walk_at "my heap"); (case k3 => walk_at "my slen"); (case hs => with_unfolding_all rfl); intro s' t' S') | ((with_reducible refine' r_sitem ?k1 ?k2 ?k3 ?h ?hs); (case k1 => walk_at "my asm"); (case k2 => decide); (case k3 => walk_at "my asm"); (case hs => with_unfolding_all rfl); intro s' t' S') | ((with_reducible refine' r_last ?k1 ?k2 ?k3 ?h ?hs); (case k1 => walk_at "my asm"); (case k2 => walk_at "my heap"); (case k3 => first | walk_at "my asm" | exact rfl); (case hs => with_unfolding_all rfl)) | ((with_reducible refine' r_slice_but ?k1 ?k2 ?k3 ?k4 ?h ?hs); (case k1 => walk_at "my asm"); (case k2 => walk_at "my heap"); (case k3 => walk_at "my heap"); (case k4 => walk_at "my size"); (case hs => with_unfolding_all rfl); intro a' s' n' S') | ((with_reducible refine' r_setitem ?k1 ?k2 ?k3 ?k4 ?k5 ?h); (case k1 => walk_at "my asm"); (case k2 => walk_at "my heap"); (case k3 => walk_at "my arith"); (case k4 => first | walk_at "my arith" | (simp; done)); (case k5 => walk_at "my size"); intro s' S'; (try simp only [Int.reduceToNat, List.set_cons_succ, List.set_cons_zero] at S')) | ((with_reducible refine' r_lmeth0 PySem.F.slot_list_pop PySem.F.type_list_pop ?k1 ?k2 ?h); (case k1 => walk_at "my asm"); (case k2 => walk_at "my heap")) | ((with_reducible refine' r_pop ?k1 ?k2 ?k3 ?h); (case k1 => walk_at "my asm"); (case k2 => walk_at "my heap"); (case k3 => walk_at "my size"); intro s' S') | fail "no")
local macro_rules | `(tactic| walk_at "my stmt") => `(tactic| first | ((with_reducible refine wpAny_Expr_any ?h ?hi ?he); (case hi => rfl); (case he => rfl)) | fail "no")

local macro_rules | `(tactic| walk_at "my call told") => `(tactic| ((with_reducible refine' told06 ?k1 ?k2 ?k3 ?h0 ?h1 ?h2 ?h3 ?h4 ?h); (case k1 => walk_at "my asm"); (case k2 => walk_at "my asm"); (case k3 => walk_at "my heap"); (case h0 => walk_at "my handed"); (case h1 => walk_at "my handed"); (case h2 => walk_at "my handed"); (case h3 => walk_at "my handed"); (case h4 => walk_at "my handed"); intro a' s' n' S'; (try dsimp only at S')))
local macro_rules | `(tactic| walk_at "my call") => `(tactic| walk_at "my call told")
local macro_rules | `(tactic| walk_at "my call washed") => `(tactic| ((with_reducible refine' washed06 ?k1 ?k2 ?k3 ?h); (case k1 => walk_at "my asm"); (case k2 => walk_at "my asm"); (case k3 => walk_at "my heap"); intro s' S'))

local macro_rules | `(tactic| walk_at "my call") => `(tactic| first | walk_at "my call told" | walk_at "my call washed")
example (w : World) : PySem.Challenge.rw_dn0305_06.prog = PySem.Challenge.rw_dn0305_06.prog → Lib (hd06.heap_39 w.params) 102 := by
  k_fill
  exact lib06 w
section
variable {p : Program} {loose : List Str} {mean : ExcName → Option Value} {mg mb : Str → Option Value} {A : Around} {env : Env} {h₀ : Heap} {L : Addr} {d : Nat}
variable {w : World} {s₀ s : Shared} {own : List (Addr × Obj)} {m : Str → Option Value} {H : AH} {Q : Value → Shared → Prop} {E : Value → Shared → Prop}

/-- the ways of a name -/
def JoinWay (b nm v : Str) : Prop :=
  ((Txt.slice nm none (some 1) == Str.ofString "/") = true ∧ v = nm) ∨
  ((Txt.slice nm none (some 1) == Str.ofString "/") = false ∧ (nm == Str.ofString "..") = true ∧ (b != Str.ofString "") = true ∧ v = Txt.slice b none (some (Txt.rfind b (Str.ofString "/")))) ∨
  ((Txt.slice nm none (some 1) == Str.ofString "/") = false ∧ (nm == Str.ofString "..") = true ∧ (b != Str.ofString "") = false ∧ v = Str.ofString "") ∨
  ((Txt.slice nm none (some 1) == Str.ofString "/") = false ∧ (nm == Str.ofString "..") = false ∧ (nm == Str.ofString ".") = true ∧ v = b) ∨
  ((Txt.slice nm none (some 1) == Str.ofString "/") = false ∧ (nm == Str.ofString "..") = false ∧ (nm == Str.ofString ".") = false ∧ v = b ++ Str.ofString "/" ++ nm)
theorem one_sl : (Str.ofString "/").length = 1 := by decide +kernel
set_option maxHeartbeats 4000000 in
theorem joinedW {b nm v : Str} {tb tn : Tok} (c : Cx (hd06.heap_39 w.params) p loose mean mg mb A env h₀ L (d + 2)) (S : St 102 s₀ h₀ L own s m H) (hw : JoinWay b nm v) (hb : b.length ≤ 1000) (hn : nm.length ≤ 1000)
    (h : ∀ s' t', St 102 s₀ h₀ L own s' m H → Q (.str v t') s') :
    wpAny (model PySem.Challenge.rw_dn0305_06.row.prog w) A (call (.ref 113) [.str b tb, .str nm tn]) Q E s := by
  have l := lib06 w rfl
  refine' call_fn (binds := [("base", .str b tb), ("name", .str nm tn)]) c S ?k1 ?k2 ?k3 ?k4 ?k5 ?k6 ?k7 ?k8 ?k9
  case k1 => k_is
  case k2 => k_is
  case k3 => exact BindsTo.of_eq rfl
  case k4 => exact locs rfl
  case k6 => rfl
  case k7 => rfl
  case k8 => rfl
  case k9 => decide
  case k5 =>
    intro g L' s₁ c' S'
    dsimp only [bindM, List.foldl_cons, List.foldl_nil] at S'
    clear S
    k_fold
    have hs1 : nm.length ≤ 100000 := by omega
    have hs2 : b.length ≤ 100000 := by omega
    have hs3 : b.length + (Str.ofString "/").length ≤ 100000 := by rw [one_sl]; omega
    have hs4 : (b ++ Str.ofString "/").length + nm.length ≤ 100000 := by
      have : (b ++ Str.ofString "/").length = b.length + (Str.ofString "/").length := by
        show (b.cps ++ (Str.ofString "/").cps).size = _
        rw [Array.size_append]; rfl
      rw [this, one_sl]; omega
    rcases hw with ⟨w1, rfl⟩ | ⟨w1, w2, w3, rfl⟩ | ⟨w1, w2, w3, rfl⟩ | ⟨w1, w2, w3, rfl⟩ | ⟨w1, w2, w3, rfl⟩
    · repeat walk_at "my step"
      exact Back.mk' (by assumption) (by walk_at "my sub") (h _ _)
    · repeat walk_at "my step"
      exact Back.mk' (by assumption) (by walk_at "my sub") (h _ _)
    · repeat walk_at "my step"
      exact Back.mk' (by assumption) (by walk_at "my sub") (h _ _)
    · repeat walk_at "my step"
      exact Back.mk' (by assumption) (by walk_at "my sub") (h _ _)
    · repeat walk_at "my step"
      exact Back.mk' (by assumption) (by walk_at "my sub") (h _ _)
theorem joinWay {ps : List Str} {j : Nat} (hg : Good ps) (hj : j < 5) : JoinWay (path ps) (nmS j) (path (nmP j ps)) := by
  rcases j with _ | _ | _ | _ | _ | j
  · exact .inr (.inr (.inr (.inr ⟨by decide +kernel, by decide +kernel, by decide +kernel, (path_snoc ps _).symm⟩)))
  · exact .inr (.inr (.inr (.inr ⟨by decide +kernel, by decide +kernel, by decide +kernel, (path_snoc ps _).symm⟩)))
  · rcases List.eq_nil_or_concat ps with rfl | ⟨qs, q, rfl⟩
    · exact .inr (.inr (.inl ⟨by decide +kernel, by decide +kernel, by decide +kernel, path_nil⟩))
    · rw [List.concat_eq_append] at hg ⊢
      refine .inr (.inl ⟨by decide +kernel, by decide +kernel, path_ne (by simp), ?_⟩)
      show path ((qs ++ [q]).dropLast) = _
      rw [rfind_path (hg q (by simp)).1, slice_path, List.dropLast_concat]
  · exact .inr (.inr (.inr (.inl ⟨by decide +kernel, by decide +kernel, by decide +kernel, rfl⟩)))
  · exact .inl ⟨by decide +kernel, path_c⟩
  · omega
theorem nmS_len {j : Nat} (hj : j < 5) : (nmS j).length ≤ 2 := by
  rcases j with _ | _ | _ | _ | _ | j
  · decide +kernel
  · decide +kernel
  · decide +kernel
  · decide +kernel
  · decide +kernel
  · omega
theorem joined06 {ps : List Str} {j : Nat} {tb tn : Tok} (c : Cx (hd06.heap_39 w.params) p loose mean mg mb A env h₀ L (d + 2)) (S : St 102 s₀ h₀ L own s m H) (hg : Good ps) (hj : j < 5) (hl : ps.length ≤ 100)
    (h : ∀ s' t', St 102 s₀ h₀ L own s' m H → Q (.str (path (nmP j ps)) t') s') :
    wpAny (model PySem.Challenge.rw_dn0305_06.row.prog w) A (call (.ref 113) [.str (path ps) tb, .str (nmS j) tn]) Q E s :=
  joinedW c S (joinWay hg hj) (by rw [hg.plen]; omega) (by have := nmS_len hj; omega) h

def NameWay (nm : Str) (ps qs : List Str) : Prop :=
  ((nm == Str.ofString "..") = true ∧ qs = ps.dropLast) ∨
  ((nm == Str.ofString "..") = false ∧ (nm == Str.ofString ".") = true ∧ qs = ps) ∨
  ((nm == Str.ofString "..") = false ∧ (nm == Str.ofString ".") = false ∧ (∃ ch, (seqIndex? 0 nm.length).bind (nm.cps[·]?) = some ch ∧ ((⟨#[ch]⟩ : Str) == Str.ofString "/") = true) ∧ qs = [Txt.slice nm (some 1) none]) ∨
  ((nm == Str.ofString "..") = false ∧ (nm == Str.ofString ".") = false ∧ (∃ ch, (seqIndex? 0 nm.length).bind (nm.cps[·]?) = some ch ∧ ((⟨#[ch]⟩ : Str) == Str.ofString "/") = false) ∧ qs = ps ++ [nm])
theorem strs_dropLast {vs : List Value} {xs : List Str} (h : StrsAre vs xs) : StrsAre vs.dropLast xs.dropLast := by
  rw [List.dropLast_eq_take, List.dropLast_eq_take, h.len]; exact h.take _
set_option maxHeartbeats 4000000 in
theorem namedW {nm : Str} {ps qs : List Str} {P : Addr} {vs : List Value} {tn : Tok} (c : Cx (hd06.heap_39 w.params) p loose mean mg mb A env h₀ L (d + 2)) (S : St 102 s₀ h₀ L own s m H) (hw : NameWay nm ps qs) (hn : nm.length ≤ 1000)
    (hP : H P = some (.list vs)) (hv : StrsAre vs ps) (hl : ps.length ≤ 1000)
    (h : ∀ r s' H' vs', Sub H H' → H' r = some (.list vs') → StrsAre vs' qs → (r = P ∨ H r = none) → St 102 s₀ h₀ L own s' m H' → Q (.ref r) s') :
    wpAny (model PySem.Challenge.rw_dn0305_06.row.prog w) A (call (.ref 120) [.ref P, .str nm tn]) Q E s := by
  have l := lib06 w rfl
  refine' call_fn (binds := [("parts", .ref P), ("name", .str nm tn)]) c S ?k1 ?k2 ?k3 ?k4 ?k5 ?k6 ?k7 ?k8 ?k9
  case k1 => k_is
  case k2 => k_is
  case k3 => exact BindsTo.of_eq rfl
  case k4 => exact locs rfl
  case k6 => rfl
  case k7 => rfl
  case k8 => rfl
  case k9 => decide
  case k5 =>
    intro g L' s₁ c' S'
    dsimp only [bindM, List.foldl_cons, List.foldl_nil] at S'
    clear S
    k_fold
    have hs1 : nm.length ≤ 100000 := by omega
    have hvl := hv.len
    rcases hw with ⟨w1, rfl⟩ | ⟨w1, w2, rfl⟩ | ⟨w1, w2, ⟨ch, w3, w4⟩, rfl⟩ | ⟨w1, w2, ⟨ch, w3, w4⟩, rfl⟩
    · repeat walk_at "my step"
      rename_i a1 _ n1 _ a2 _ n2 SF
      have hr0 : H a2 = none := Sub.none (by walk_at "my sub") n2
      exact Back.mk' SF Sub.refl (h a2 _ _ _ (by walk_at "my sub") put_same (strs_dropLast hv) (.inr hr0))
    · repeat walk_at "my step"
      exact Back.mk' (by assumption) Sub.refl (h P _ _ _ Sub.refl hP hv (.inl rfl))
    · repeat walk_at "my step"
      rename_i a2 _ n2 SF
      have hr0 : H a2 = none := Sub.none (by walk_at "my sub") n2
      exact Back.mk' SF Sub.refl (h a2 _ _ _ (by walk_at "my sub") put_same StrsAre.one (.inr hr0))
    · repeat walk_at "my step"
      rename_i a2 _ n2 SF
      have hr0 : H a2 = none := Sub.none (by walk_at "my sub") n2
      exact Back.mk' SF Sub.refl (h a2 _ _ _ (by walk_at "my sub") put_same (hv.append StrsAre.one) (.inr hr0))
theorem nameWay {ps : List Str} {j : Nat} (hj : j < 5) : NameWay (nmS j) ps (nmP j ps) := by
  rcases j with _ | _ | _ | _ | _ | j
  · exact .inr (.inr (.inr ⟨by decide +kernel, by decide +kernel, ⟨97, by decide +kernel, by decide +kernel⟩, rfl⟩))
  · exact .inr (.inr (.inr ⟨by decide +kernel, by decide +kernel, ⟨66, by decide +kernel, by decide +kernel⟩, rfl⟩))
  · exact .inl ⟨by decide +kernel, rfl⟩
  · exact .inr (.inl ⟨by decide +kernel, by decide +kernel, rfl⟩)
  · refine .inr (.inr (.inl ⟨by decide +kernel, by decide +kernel, ⟨47, by decide +kernel, by decide +kernel⟩, ?_⟩))
    show [Str.ofString "c"] = [Txt.slice (Str.ofString "/c") (some 1) none]
    congr 1
  · omega
theorem named06 {ps : List Str} {j : Nat} {P : Addr} {vs : List Value} {tn : Tok} (c : Cx (hd06.heap_39 w.params) p loose mean mg mb A env h₀ L (d + 2)) (S : St 102 s₀ h₀ L own s m H) (hj : j < 5)
    (hP : H P = some (.list vs)) (hv : StrsAre vs ps) (hl : ps.length ≤ 1000)
    (h : ∀ r s' H' vs', Sub H H' → H' r = some (.list vs') → StrsAre vs' (nmP j ps) → (r = P ∨ H r = none) → St 102 s₀ h₀ L own s' m H' → Q (.ref r) s') :
    wpAny (model PySem.Challenge.rw_dn0305_06.row.prog w) A (call (.ref 120) [.ref P, .str (nmS j) tn]) Q E s :=
  namedW c S (nameWay hj) (by have := nmS_len hj; omega) hP hv hl h

/-! the beginning -/
def IsF (a b c : Value) : Nat → Value → Prop
  | 0, v => v = a
  | 1, v => v = b
  | 2, v => v = c
  | _, v => ∃ t, v = .int 0 t
structure JB (x lt la : Addr) (a b c : Value) (n : Nat) (tn : Tok) (H : AH) (F0 : Flds) (q : Nat) (m : Str → Option Value) (H' : AH) (F : Flds) : Prop where
  mat : m "source" = some (.ref x)
  mth : m "things" = some (.ref lt)
  mtu : m "turn" = some (.int n tn)
  man : m "answers" = some (.ref la)
  hla : H' la = some (.list (List.replicate q .none))
  hx : H' x = some (.src F)
  sub : SubX [x, la] H H'
  set : ∀ p, p < q → IsF a b c ((n + p) % 4) (F.get (fdn ((n + p) % 4 + 1)))
  b0 : F.sys = F0.sys
theorem fmod4 (n k : Nat) : ((n : Int) + k).fmod 4 = (((n + k) % 4 : Nat) : Int) := by
  rw [Int.fmod_eq_emod_of_nonneg _ (by decide)]; omega
set_option maxHeartbeats 4000000 in
theorem begin06 {x lt : Addr} {F : Flds} {a b cc : Value} {n : Nat} {tn : Tok} (c : Cx (hd06.heap_39 w.params) p loose mean mg mb A env h₀ L (d + 2)) (S : St 102 s₀ h₀ L own s m H) (hx : H x = some (.src F)) (hlt : H lt = some (.list [a, b, cc]))
    (h : ∀ r s' H' t, H r = none → H' r = some (.list [.none, .none, .none, .none]) → H' x = some (.src ⟨F.sys, a, b, cc, .int 0 t⟩) → SubX [x] H H' → St 102 s₀ h₀ L own s' m H' → Q (.ref r) s') :
    wpAny (model PySem.Challenge.rw_dn0305_06.row.prog w) A (call (.ref 127) [.ref x, .ref lt, .int n tn]) Q E s := by
  have l := lib06 w rfl
  refine' call_fn (binds := [("source", .ref x), ("things", .ref lt), ("turn", .int n tn)]) c S ?k1 ?k2 ?k3 ?k4 ?k5 ?k6 ?k7 ?k8 ?k9
  case k1 => k_is
  case k2 => k_is
  case k3 => exact BindsTo.of_eq rfl
  case k4 => exact locs rfl
  case k6 => rfl
  case k7 => rfl
  case k8 => rfl
  case k9 => decide
  case k5 =>
    intro g L' s₁ c' S'
    dsimp only [bindM, List.foldl_cons, List.foldl_nil] at S'
    clear S
    k_fold
    repeat walk_at "my step"
    rename_i la _ nla _ _ S2
    with_reducible refine' r_for_range c' S2 ?hfor ?k1 ?k2
    case k1 => rfl
    case k2 => exact fun _ => rfl
    repeat walk_at "my step"
    rename_i lr _ _ _ nlr Sr
    have hxl : x ≠ la := ne_new nla hx
    have hxr : x ≠ lr := ne_new nlr (put_new nla hx)
    have hlar : la ≠ lr := ne_new nlr put_same
    refine ⟨lr, 0, 4, 1, _, _, _, 4, _, _, _, fun q m' H' => ∃ F', JB x lt la a b cc n tn H F q m' H' F', rfl, Sr, put_same, (by decide), (by decide), ?_, ?_, ?_⟩
    · exact ⟨F, by walk_at "my look", by walk_at "my look", by walk_at "my look", by walk_at "my look", by (show _ = some (AObj.list [])); walk_at "my heap", by walk_at "my heap", (Sub.refl.new nla).new nlr |>.toX, fun p hp => absurd hp (Nat.not_lt_zero _), rfl⟩
    · intro q tq m₁ H₁ own₁ s₃ hq hJ S₃
      obtain ⟨F', mat, mth, mtu, man, hla, hx', hsub, hset, b0⟩ := hJ
      have e0 : (0 + (q : Int) * 1) = (q : Int) := by omega
      rw [e0] at S₃
      have hlt1 : H₁ lt = some (.list [a, b, cc]) := hsub _ _ (by
        have h1 := ne_kind hlt hx (fun z => by cases z)
        have h2 := ne_new nla hlt
        simp [h1, h2]) hlt
      have hsz : (List.replicate q Value.none).length ≤ 90000 := by rw [List.length_replicate]; omega
      have key : ∀ j, j < 4 → (n + q) % 4 = j → ((n : Int) + (q : Int)).fmod 4 = (j : Int) := fun j _ e => by rw [fmod4, e]
      have fin : ∀ (j : Nat) (v : Value), j < 4 → (n + q) % 4 = j → IsF a b cc j v → ∀ p, p < q + 1 → IsF a b cc ((n + p) % 4) ((F'.set (fdn (j + 1)) v).get (fdn ((n + p) % 4 + 1))) := fun j v hj e hv p hp => by
        by_cases z : (n + p) % 4 = j
        · rw [z]
          rcases j with _ | _ | _ | _ | j
          · exact hv
          · exact hv
          · exact hv
          · exact hv
          · omega
        · have hp2 : p < q := by
            rcases Nat.lt_or_ge p q with h | h
            · exact h
            · have : p = q := by omega
              rw [this] at z; exact absurd e z
          have hz := hset p hp2
          have h3 : (n + p) % 4 < 4 := Nat.mod_lt _ (by decide)
          generalize (n + p) % 4 = i at z h3 hz
          rcases i with _ | _ | _ | _ | i <;> rcases j with _ | _ | _ | _ | j <;> first | exact hz | omega
      clear Sr S2
      have h3 : (n + q) % 4 = 0 ∨ (n + q) % 4 = 1 ∨ (n + q) % 4 = 2 ∨ (n + q) % 4 = 3 := by omega
      rcases h3 with h3 | h3 | h3 | h3
      · have k0 := key 0 (by decide) h3
        have t0 : (((n : Int) + (q : Int)).fmod 4 == 0) = true := by rw [k0]; rfl
        repeat walk_at "my step"
        refine TurnQ.mk' (by assumption) ⟨F'.set .pub a, by walk_at "my look", by walk_at "my look", by walk_at "my look", by walk_at "my look", by rw [put_same, List.replicate_succ'], by walk_at "my heap", (hsub.at (by simp)).at (by simp), fin 0 a (by decide) h3 rfl, b0⟩
      · have k0 := key 1 (by decide) h3
        have t0 : (((n : Int) + (q : Int)).fmod 4 == 0) = false := by rw [k0]; rfl
        have t1 : (((n : Int) + (q : Int)).fmod 4 == 1) = true := by rw [k0]; rfl
        repeat walk_at "my step"
        refine TurnQ.mk' (by assumption) ⟨F'.set .enc b, by walk_at "my look", by walk_at "my look", by walk_at "my look", by walk_at "my look", by rw [put_same, List.replicate_succ'], by walk_at "my heap", (hsub.at (by simp)).at (by simp), fin 1 b (by decide) h3 rfl, b0⟩
      · have k0 := key 2 (by decide) h3
        have t0 : (((n : Int) + (q : Int)).fmod 4 == 0) = false := by rw [k0]; rfl
        have t1 : (((n : Int) + (q : Int)).fmod 4 == 1) = false := by rw [k0]; rfl
        have t2 : (((n : Int) + (q : Int)).fmod 4 == 2) = true := by rw [k0]; rfl
        repeat walk_at "my step"
        refine TurnQ.mk' (by assumption) ⟨F'.set .byt cc, by walk_at "my look", by walk_at "my look", by walk_at "my look", by walk_at "my look", by rw [put_same, List.replicate_succ'], by walk_at "my heap", (hsub.at (by simp)).at (by simp), fin 2 cc (by decide) h3 rfl, b0⟩
      · have k0 := key 3 (by decide) h3
        have t0 : (((n : Int) + (q : Int)).fmod 4 == 0) = false := by rw [k0]; rfl
        have t1 : (((n : Int) + (q : Int)).fmod 4 == 1) = false := by rw [k0]; rfl
        have t2 : (((n : Int) + (q : Int)).fmod 4 == 2) = false := by rw [k0]; rfl
        repeat walk_at "my step"
        refine TurnQ.mk' (by assumption) ⟨F'.set .chr _, by walk_at "my look", by walk_at "my look", by walk_at "my look", by walk_at "my look", by rw [put_same, List.replicate_succ'], by walk_at "my heap", (hsub.at (by simp)).at (by simp), fin 3 _ (by decide) h3 ⟨_, rfl⟩, b0⟩
    · intro m₁ H₁ s₃ hJ S₃
      obtain ⟨F', mat, mth, mtu, man, hla, hx', hsub, hset, b0⟩ := hJ
      clear Sr S2
      repeat walk_at "my step"
      have hF : ∃ t, F' = ⟨F.sys, a, b, cc, .int 0 t⟩ := by
        have hj : ∀ j, j < 4 → IsF a b cc j (F'.get (fdn (j + 1))) := fun j hj => by
          have := hset ((j + 4 - n % 4) % 4) (Nat.mod_lt _ (by decide))
          rwa [show (n + (j + 4 - n % 4) % 4) % 4 = j from by omega] at this
        have h0 := hj 0 (by decide)
        have h1 := hj 1 (by decide)
        have h2 := hj 2 (by decide)
        obtain ⟨t, h3⟩ := hj 3 (by decide)
        obtain ⟨f0, f1, f2, f3, f4⟩ := F'
        simp only [fdn, Flds.get, IsF] at h0 h1 h2 h3
        simp only at b0
        exact ⟨t, by rw [h0, h1, h2, h3, b0]⟩
      obtain ⟨t, rfl⟩ := hF
      refine Back.mk' (by assumption) Sub.refl (h la _ H₁ t nla hla hx' fun y o hy e => hsub y o ?_ e)
      have : y ≠ la := ne_new nla e
      have : y ≠ x := fun z => hy (by simp [z])
      simp [*]
theorem begin06z {x lt : Addr} {F : Flds} {a b cc : Value} {tn : Tok} (c : Cx (hd06.heap_39 w.params) p loose mean mg mb A env h₀ L (d + 2)) (S : St 102 s₀ h₀ L own s m H) (hx : H x = some (.src F)) (hlt : H lt = some (.list [a, b, cc]))
    (h : ∀ r s' H' t, H r = none → H' r = some (.list [.none, .none, .none, .none]) → H' x = some (.src ⟨F.sys, a, b, cc, .int 0 t⟩) → SubX [x] H H' → St 102 s₀ h₀ L own s' m H' → Q (.ref r) s') :
    wpAny (model PySem.Challenge.rw_dn0305_06.row.prog w) A (call (.ref 127) [.ref x, .ref lt, .int 0 tn]) Q E s := begin06 (n := 0) c S hx hlt h
end
end Mine

end
section
open PySem PySem.W PySem.Calls PyProof.Rows PySem.Spec PySem.SeqAt
set_option Elab.async false
set_option maxRecDepth 100000
namespace Mine

/-! the open ones, the last one first -/
structure Fr6 where
  s : Addr
  r : Addr
  p : Addr
  ps : List Str
  vs : List Value
  e : Value
  c : Int
  ts : Tok
  tr : Tok
  tc : Tok
def pubOf : List Fr6 → Value
  | [] => .none
  | g :: _ => .ref g.s
def Fr6.fl (f : Fr6) (lb : Addr) (pub : Value) : Flds := ⟨.str (path f.ps) f.ts, pub, f.e, .ref lb, .int f.c f.tc⟩
def Fr6.row (f : Fr6) : List Value := [.ref f.s, .ref f.p, f.e, .int f.c f.tr]
def stk (fs : List Fr6) : List Value := fs.reverse.map fun f => .ref f.r
theorem stk_cons (f : Fr6) (r : List Fr6) : stk (f :: r) = stk r ++ [.ref f.r] := by simp [stk]
theorem stk_len (fs : List Fr6) : (stk fs).length = fs.length := by simp [stk]
def IsE (v : Value) : Prop := v = .none ∨ ∃ x t, v = .str x t
/-- one of them -/
structure One (H : AH) (lb ld : Addr) (f : Fr6) (pub : Value) : Prop where
  hs : H f.s = some (.src (f.fl lb pub))
  hr : H f.r = some (.list f.row)
  hp : H f.p = some (.list f.vs)
  sv : StrsAre f.vs f.ps
  gd : Good f.ps
  sh : f.ps.length ≤ 6
  ie : IsE f.e
  n1 : f.p ≠ lb
  n2 : f.p ≠ ld
inductive Ch (H : AH) (lb ld : Addr) : List Fr6 → Prop
  | nil : Ch H lb ld []
  | cons {f : Fr6} {r : List Fr6} : One H lb ld f (pubOf r) → (∀ g ∈ r, g.s ≠ f.s ∧ g.r ≠ f.r) → Ch H lb ld r → Ch H lb ld (f :: r)

def tag (H : AH) : List Value → Nat
  | .none :: _ => 1
  | .ref a :: _ => match H a with
    | some (.src _) => 2
    | some (.list _) => 3
    | _ => 4
  | _ => 0
theorem tag_ne {H : AH} {a b : Addr} {vs us : List Value} (ha : H a = some (.list vs)) (hb : H b = some (.list us)) (h : tag H vs ≠ tag H us) : a ≠ b := fun z => by
  subst z; rw [ha] at hb; cases hb; exact h rfl
theorem tag_strs {H : AH} {vs : List Value} {xs : List Str} (h : StrsAre vs xs) : tag H vs = 0 := by cases h <;> rfl
theorem tag_nones {H : AH} {n : Nat} : tag H (List.replicate (n + 1) .none) = 1 := rfl
theorem One.tag {H : AH} {lb ld : Addr} {f : Fr6} {pub : Value} (h : One H lb ld f pub) : Mine.tag H f.row = 2 := by
  show (match H f.s with | some (.src _) => 2 | some (.list _) => 3 | _ => 4) = 2
  rw [h.hs]
theorem Ch.one {H : AH} {lb ld : Addr} {fs : List Fr6} (h : Ch H lb ld fs) : ∀ f ∈ fs, ∃ pub, One H lb ld f pub := by
  induction h with
  | nil => intro f hf; cases hf
  | cons h1 _ _ ih =>
    intro f hf
    rcases List.mem_cons.mp hf with rfl | hf
    · exact ⟨_, h1⟩
    · exact ih f hf
theorem tag_stk {H : AH} {lb ld : Addr} {fs : List Fr6} (h : Ch H lb ld fs) (hne : fs ≠ []) : tag H (stk fs) = 3 := by
  have hr : fs.reverse ≠ [] := by simpa using hne
  unfold stk
  cases e : fs.reverse with
  | nil => exact absurd e hr
  | cons f r =>
    have hf : f ∈ fs := by rw [← List.mem_reverse, e]; exact .head _
    obtain ⟨_, o⟩ := h.one f hf
    show (match H f.r with | some (.src _) => 2 | some (.list _) => 3 | _ => 4) = 3
    rw [o.hr]
theorem One.frame {H H' : AH} {lb ld : Addr} {f : Fr6} {pub : Value} (h : One H lb ld f pub) (h1 : H' f.s = some (.src (f.fl lb pub))) (h2 : H' f.r = some (.list f.row)) (h3 : H' f.p = some (.list f.vs)) : One H' lb ld f pub :=
  ⟨h1, h2, h3, h.sv, h.gd, h.sh, h.ie, h.n1, h.n2⟩
/-- a heap that keeps the sources, the rows and the parts of some -/
theorem Ch.frame {H H' : AH} {lb ld : Addr} {fs : List Fr6} (h : Ch H lb ld fs) (k : ∀ f ∈ fs, ∀ o, (H f.s = some o → H' f.s = some o) ∧ (H f.r = some o → H' f.r = some o) ∧ (H f.p = some o → H' f.p = some o)) : Ch H' lb ld fs := by
  induction h with
  | nil => exact .nil
  | @cons f r h1 h2 _ ih =>
    refine .cons (h1.frame ((k f (.head _) _).1 h1.hs) ((k f (.head _) _).2.1 h1.hr) ((k f (.head _) _).2.2 h1.hp)) h2 (ih fun g hg => k g (.tail _ hg))
theorem Ch.drop {H : AH} {lb ld : Addr} {fs : List Fr6} (h : Ch H lb ld fs) : ∀ i, Ch H lb ld (fs.drop i) := by
  induction h with
  | nil => intro i; simpa using Ch.nil
  | cons h1 h2 h3 ih =>
    intro i
    cases i with
    | zero => exact .cons h1 h2 h3
    | succ i => exact ih i

def nml (t0 t1 t2 t3 t4 : Tok) : List Value := [.str (Str.ofString "a") t0, .str (Str.ofString "B") t1, .str (Str.ofString "..") t2, .str (Str.ofString ".") t3, .str (Str.ofString "/c") t4]
theorem nml_strs (t0 t1 t2 t3 t4 : Tok) : StrsAre (nml t0 t1 t2 t3 t4) ["a", "B", "..", ".", "/c"] := .cons _ _ (.cons _ _ (.cons _ _ (.cons _ _ (.cons _ _ .nil))))
theorem nml_get {t0 t1 t2 t3 t4 : Tok} {j : Nat} (hj : j < 5) : ∃ t, (nml t0 t1 t2 t3 t4)[j]? = some (.str (nmS j) t) := by
  rcases j with _ | _ | _ | _ | _ | j
  · exact ⟨_, rfl⟩
  · exact ⟨_, rfl⟩
  · exact ⟨_, rfl⟩
  · exact ⟨_, rfl⟩
  · exact ⟨_, rfl⟩
  · omega
structure W6 (ln lb ld la lst : Addr) (t0 t1 t2 t3 t4 : Tok) (bs ds : List Value) (ss : List Str) (n : Nat) (H : AH) (fs : List Fr6) : Prop where
  hln : H ln = some (.list (nml t0 t1 t2 t3 t4))
  hlb : H lb = some (.list bs)
  hld : H ld = some (.list ds)
  sb : StrsAre bs ss
  sd : StrsAre ds ss
  hla : H la = some (.list (List.replicate (n + 1) .none))
  hst : H lst = some (.list (stk fs))
  ch : Ch H lb ld fs
  ne : fs ≠ []
  nb : ln ≠ lb
  nd : ln ≠ ld
  bd : lb ≠ ld
section
variable {ln lb ld la lst : Addr} {t0 t1 t2 t3 t4 : Tok} {bs ds : List Value} {ss : List Str} {n : Nat} {H H' : AH} {f : Fr6} {fs r : List Fr6}
/-- what lies apart -/
structure Ap6 (ln lb ld la lst : Addr) (f : Fr6) : Prop where
  a1 : la ≠ ln
  a2 : la ≠ lb
  a3 : la ≠ ld
  a4 : la ≠ lst
  a5 : la ≠ f.r
  a6 : la ≠ f.p
  b1 : lst ≠ ln
  b2 : lst ≠ lb
  b3 : lst ≠ ld
  b4 : lst ≠ f.r
  b5 : lst ≠ f.p
  c1 : f.r ≠ ln
  c2 : f.r ≠ lb
  c3 : f.r ≠ ld
  c4 : f.r ≠ f.p
  d1 : ln ≠ lb
  d2 : ln ≠ ld
  d3 : lb ≠ ld
  d4 : f.p ≠ lb
  d5 : f.p ≠ ld
theorem W6.apart (h : W6 ln lb ld la lst t0 t1 t2 t3 t4 bs ds ss n H fs) (hf : f ∈ fs) : Ap6 ln lb ld la lst f := by
  obtain ⟨_, o⟩ := h.ch.one f hf
  have ga : tag H (List.replicate (n + 1) .none) = 1 := tag_nones
  have gs := tag_stk h.ch h.ne
  have gr := o.tag
  have gp : tag H f.vs = 0 := tag_strs o.sv
  have gb : tag H bs = 0 := tag_strs h.sb
  have gd : tag H ds = 0 := tag_strs h.sd
  have gn : tag H (nml t0 t1 t2 t3 t4) = 0 := tag_strs (nml_strs _ _ _ _ _)
  exact ⟨tag_ne h.hla h.hln (by omega), tag_ne h.hla h.hlb (by omega), tag_ne h.hla h.hld (by omega), tag_ne h.hla h.hst (by omega), tag_ne h.hla o.hr (by omega), tag_ne h.hla o.hp (by omega),
    tag_ne h.hst h.hln (by omega), tag_ne h.hst h.hlb (by omega), tag_ne h.hst h.hld (by omega), tag_ne h.hst o.hr (by omega), tag_ne h.hst o.hp (by omega),
    tag_ne o.hr h.hln (by omega), tag_ne o.hr h.hlb (by omega), tag_ne o.hr h.hld (by omega), tag_ne o.hr o.hp (by omega), h.nb, h.nd, h.bd, o.n1, o.n2⟩
theorem W6.rows (h : W6 ln lb ld la lst t0 t1 t2 t3 t4 bs ds ss n H fs) {g : Fr6} (hf : f ∈ fs) (hg : g ∈ fs) : f.r ≠ g.p ∧ ∀ a us, H a = some (.list us) → f.s ≠ a := by
  obtain ⟨_, o⟩ := h.ch.one f hf
  obtain ⟨_, q⟩ := h.ch.one g hg
  exact ⟨tag_ne o.hr q.hp (by rw [o.tag, tag_strs q.sv]; decide), fun a us e => ne_kind o.hs e (fun z => by cases z)⟩
theorem W6.sub (h : W6 ln lb ld la lst t0 t1 t2 t3 t4 bs ds ss n H fs) (hs : Sub H H') : W6 ln lb ld la lst t0 t1 t2 t3 t4 bs ds ss n H' fs :=
  ⟨hs _ _ h.hln, hs _ _ h.hlb, hs _ _ h.hld, h.sb, h.sd, hs _ _ h.hla, hs _ _ h.hst, h.ch.frame fun _ _ _ => ⟨hs _ _, hs _ _, hs _ _⟩, h.ne, h.nb, h.nd, h.bd⟩
/-- the last one changes, with its row, and the answers grow -/
theorem W6.top {f' : Fr6} {n' : Nat} (h : W6 ln lb ld la lst t0 t1 t2 t3 t4 bs ds ss n H (f :: r)) (hs : SubX [la, f.s, f.r] H H') (e1 : f'.s = f.s) (e2 : f'.r = f.r) (hla : H' la = some (.list (List.replicate (n' + 1) .none)))
    (ho : One H' lb ld f' (pubOf r)) : W6 ln lb ld la lst t0 t1 t2 t3 t4 bs ds ss n' H' (f' :: r) := by
  have hap := h.apart (f := f) (.head _)
  have hsrc := (h.rows (f := f) (g := f) (.head _) (.head _)).2
  have up : ∀ a us, H a = some (.list us) → a ≠ la → a ≠ f.r → H' a = some (.list us) := fun a us e n1 n2 => hs a _ (by simp [n1, n2, (hsrc a us e).symm]) e
  have hch := h.ch
  cases hch with
  | cons o1 o2 o3 =>
    refine ⟨up _ _ h.hln hap.a1.symm hap.c1.symm, up _ _ h.hlb hap.a2.symm hap.c2.symm, up _ _ h.hld hap.a3.symm hap.c3.symm, h.sb, h.sd, hla, ?_, .cons ho (fun g hg => by rw [e1, e2]; exact o2 g hg) (o3.frame fun g hg o => ?_), by simp, h.nb, h.nd, h.bd⟩
    · have := up _ _ h.hst hap.a4.symm hap.b4
      rwa [stk_cons, ← e2, ← stk_cons] at this
    · have hag := h.apart (f := g) (.tail _ hg)
      obtain ⟨_, og⟩ := h.ch.one g (.tail _ hg)
      refine ⟨fun e => hs _ _ ?_ e, fun e => hs _ _ ?_ e, fun e => hs _ _ ?_ e⟩
      · have k1 : g.s ≠ la := ne_kind og.hs h.hla (fun z => by cases z)
        have k2 : g.s ≠ f.r := ne_kind og.hs o1.hr (fun z => by cases z)
        simp [k1, k2, (o2 g hg).1]
      · have k1 : g.r ≠ f.s := ne_kind og.hr o1.hs (fun z => by cases z)
        simp [k1, hag.a5.symm, (o2 g hg).2]
      · have k1 : g.p ≠ f.s := ne_kind og.hp o1.hs (fun z => by cases z)
        have k2 := (h.rows (f := f) (g := g) (.head _) (.tail _ hg)).1.symm
        simp [k1, k2, hag.a6.symm]
/-- one comes in -/
theorem W6.push {f' : Fr6} (h : W6 ln lb ld la lst t0 t1 t2 t3 t4 bs ds ss n H fs) (hs : SubX [lst] H H') (hst : H' lst = some (.list (stk fs ++ [.ref f'.r]))) (ho : One H' lb ld f' (pubOf fs)) (hn : ∀ g ∈ fs, g.s ≠ f'.s ∧ g.r ≠ f'.r) :
    W6 ln lb ld la lst t0 t1 t2 t3 t4 bs ds ss n H' (f' :: fs) := by
  obtain ⟨f, hf⟩ : ∃ f, f ∈ fs := by
    cases fs with
    | nil => exact absurd rfl h.ne
    | cons f r => exact ⟨f, .head _⟩
  have hap := h.apart hf
  have up : ∀ a o, H a = some o → a ≠ lst → H' a = some o := fun a o e n1 => hs a _ (by simp [n1]) e
  refine ⟨up _ _ h.hln hap.b1.symm, up _ _ h.hlb hap.b2.symm, up _ _ h.hld hap.b3.symm, h.sb, h.sd, up _ _ h.hla hap.a4, by rw [stk_cons]; exact hst, .cons ho hn (h.ch.frame fun g hg o => ?_), by simp, h.nb, h.nd, h.bd⟩
  have hag := h.apart hg
  obtain ⟨_, og⟩ := h.ch.one g hg
  exact ⟨fun e => up _ _ e (ne_kind og.hs h.hst (fun z => by cases z)), fun e => up _ _ e hag.b4.symm, fun e => up _ _ e hag.b5.symm⟩
/-- the last one goes out -/
theorem W6.pop {g : Fr6} (h : W6 ln lb ld la lst t0 t1 t2 t3 t4 bs ds ss n H (f :: g :: r)) (hs : SubX [lst] H H') (hst : H' lst = some (.list (stk (g :: r)))) : W6 ln lb ld la lst t0 t1 t2 t3 t4 bs ds ss n H' (g :: r) := by
  have hap := h.apart (f := f) (.head _)
  have up : ∀ a o, H a = some o → a ≠ lst → H' a = some o := fun a o e n1 => hs a _ (by simp [n1]) e
  have hch := h.ch
  cases hch with
  | cons o1 o2 o3 =>
    refine ⟨up _ _ h.hln hap.b1.symm, up _ _ h.hlb hap.b2.symm, up _ _ h.hld hap.b3.symm, h.sb, h.sd, up _ _ h.hla hap.a4, hst, o3.frame fun q hq o => ?_, by simp, h.nb, h.nd, h.bd⟩
    have hag := h.apart (f := q) (.tail _ hq)
    obtain ⟨_, og⟩ := h.ch.one q (.tail _ hq)
    exact ⟨fun e => up _ _ e (ne_kind og.hs h.hst (fun z => by cases z)), fun e => up _ _ e hag.b4.symm, fun e => up _ _ e hag.b5.symm⟩
/-- both lists are told a base -/
theorem W6.tell {x : Str} {u1 u2 : Tok} (h : W6 ln lb ld la lst t0 t1 t2 t3 t4 bs ds ss n H fs) (hs : SubX [lb, ld] H H') (hb : H' lb = some (.list (bs ++ [.str x u1]))) (hd : H' ld = some (.list (ds ++ [.str x u2]))) :
    W6 ln lb ld la lst t0 t1 t2 t3 t4 (bs ++ [.str x u1]) (ds ++ [.str x u2]) (ss ++ [x]) n H' fs := by
  obtain ⟨f, hf⟩ : ∃ f, f ∈ fs := by
    cases fs with
    | nil => exact absurd rfl h.ne
    | cons f r => exact ⟨f, .head _⟩
  have hap := h.apart hf
  have up : ∀ a o, H a = some o → a ≠ lb → a ≠ ld → H' a = some o := fun a o e n1 n2 => hs a _ (by simp [n1, n2]) e
  refine ⟨up _ _ h.hln h.nb h.nd, hb, hd, h.sb.append .one, h.sd.append .one, up _ _ h.hla hap.a2 hap.a3, up _ _ h.hst hap.b2 hap.b3, h.ch.frame fun g hg o => ?_, h.ne, h.nb, h.nd, h.bd⟩
  have hag := h.apart hg
  obtain ⟨_, og⟩ := h.ch.one g hg
  exact ⟨fun e => up _ _ e (ne_kind og.hs h.hlb (fun z => by cases z)) (ne_kind og.hs h.hld (fun z => by cases z)), fun e => up _ _ e hag.c2 hag.c3, fun e => up _ _ e og.n1 og.n2⟩
end
theorem pathsum {ps : List Str} (hg : Good ps) (hl : ps.length ≤ 6) : ((ps.map fun p => sl ++ p).map (·.length)).sum + (ps.map fun p => sl ++ p).length * (Str.ofString "").length ≤ 16777216 := by
  have h0 : (Str.ofString "").length = 0 := by rw [mt_eq]; rfl
  rw [h0]
  have key : ((ps.map fun p => sl ++ p).map (·.length)).sum = 2 * ps.length := by
    clear hl
    induction ps with
    | nil => rfl
    | cons p r ih =>
      have h1 := (hg p (.head _)).2
      have h2 := ih fun q hq => hg q (.tail _ hq)
      have h3 : (sl ++ p).length = 2 := by
        show (sl.cps ++ p.cps).size = 2
        rw [Array.size_append, sl_eq]
        show 1 + p.length = 2
        omega
      simp only [List.map_cons, List.sum_cons, List.length_cons, h3] at h2 ⊢
      omega
  rw [key]
  omega
theorem stk_get {fs : List Fr6} {i : Nat} {f : Fr6} {r : List Fr6} (h : fs.drop i = f :: r) : (stk fs)[fs.length - 1 - i]? = some (.ref f.r) ∧ r.length = fs.length - 1 - i ∧ i < fs.length := by
  have hi : i < fs.length := by
    rcases Nat.lt_or_ge i fs.length with h1 | h1
    · exact h1
    · rw [List.drop_eq_nil_of_le h1] at h; cases h
  have h2 := List.drop_eq_getElem_cons hi
  rw [h] at h2
  have h3 : fs[i] = f := (List.cons.inj h2).1.symm
  have h4 : r.length = fs.length - 1 - i := by
    have := congrArg List.length h
    rw [List.length_drop, List.length_cons] at this
    omega
  refine ⟨?_, h4, hi⟩
  unfold stk
  rw [List.getElem?_map, List.getElem?_reverse (by omega), show fs.length - 1 - (fs.length - 1 - i) = i from by omega, List.getElem?_eq_getElem hi, h3]
  rfl
theorem drop_next {fs : List Fr6} {i : Nat} {f : Fr6} {r : List Fr6} (h : fs.drop i = f :: r) : fs.drop (i + 1) = r := by
  rw [← List.drop_drop, h]; rfl
theorem mod5q (x : Int) : ∃ k : Nat, k < 5 ∧ x.fmod 5 = (k : Int) := by
  have h1 := Int.fmod_nonneg_of_pos x (b := 5) (by decide)
  have h2 := Int.fmod_lt_of_pos x (b := 5) (by decide)
  exact ⟨(x.fmod 5).toNat, by omega, by omega⟩
theorem mod3q (x : Int) : ∃ k : Nat, k < 3 ∧ x.fmod 3 = (k : Int) := by
  have h1 := Int.fmod_nonneg_of_pos x (b := 3) (by decide)
  have h2 := Int.fmod_lt_of_pos x (b := 3) (by decide)
  exact ⟨(x.fmod 3).toNat, by omega, by omega⟩
theorem nmP_len {j : Nat} {ps : List Str} (h : ps.length ≤ 6) (h2 : 6 ≤ ps.length → j = 2) : (nmP j ps).length ≤ 6 := by
  by_cases z : 6 ≤ ps.length
  · rw [h2 z]; show ps.dropLast.length ≤ 6; rw [List.length_dropLast]; omega
  · rcases j with _ | _ | _ | _ | j
    · simp [nmP]; omega
    · simp [nmP]; omega
    · show ps.dropLast.length ≤ 6; rw [List.length_dropLast]; omega
    · exact h
    · simp [nmP]
section
variable {prog : Program} {w : World} {A : Around} {s : Shared} {Q : Value → Shared → Prop} {E : Value → Shared → Prop}
theorem r_ne_same {v : Value} (hv : IsE v) (h : Q (.bool false) s) : wpAny (model prog w) A (compareOp .NotEq v v) Q E s := by
  rcases hv with rfl | ⟨x, t, rfl⟩
  · exact r_ne_none h
  · exact r_ne_str (by simpa using h)
theorem r_isnot_pub {r : List Fr6} (h : Q (.bool false) s) : wpAny (model prog w) A (compareOp .IsNot (pubOf r) (pubOf r)) Q E s := by
  cases r with
  | nil => exact r_isnot_nn h
  | cons g r => exact r_isnot_rr h
theorem pub_handed {r : List Fr6} : handedIn (pubOf r) = true := by cases r <;> rfl
theorem IsE.handed {v : Value} (h : IsE v) : handedIn v = true := by
  rcases h with rfl | ⟨x, t, rfl⟩ <;> rfl
end
section
variable {prog : Program} {w : World} {A : Around} {C : Addr} {s₀ : Shared} {h₀ : Heap} {L : Addr} {s : Shared} {own : List (Addr × Obj)} {m : Str → Option Value} {H : AH}
/-- the ways of a statement meet -/
theorem wp_cut {t : Sem Flow} {Q : Flow → Shared → Prop} (J : (Str → Option Value) → AH → Prop) (_S : St C s₀ h₀ L own s m H) (h1 : wpAny (model prog w) A t (fun f s' => f = .next ∧ ∃ m H, St C s₀ h₀ L own s' m H ∧ J m H) NoE s)
    (h2 : ∀ m H s', J m H → St C s₀ h₀ L own s' m H → Q .next s') : wpAny (model prog w) A t Q NoE s :=
  wpAny_mono h1 (fun f s' h => by obtain ⟨rfl, m, H, S, j⟩ := h; exact h2 m H s' j S) fun _ _ x => x
theorem cut_mk {J : (Str → Option Value) → AH → Prop} (S : St C s₀ h₀ L own s m H) (j : J m H) : Flow.next = Flow.next ∧ ∃ m H, St C s₀ h₀ L own s m H ∧ J m H := ⟨rfl, m, H, S, j⟩
end
end Mine

end
section
open PySem PySem.W PySem.Calls PyProof.Rows PySem.Spec PySem.SeqAt
set_option Elab.async false
set_option maxRecDepth 100000
namespace Mine
local macro_rules | `(tactic| walk_at "my look") => `(tactic| first | with_reducible assumption | with_reducible exact upd_same | ((with_reducible refine' upd_look ?k1 ?k2); (case k1 => decide); (case k2 => walk_at "my look")))
local macro_rules | `(tactic| walk_at "my ne") => `(tactic| first | with_reducible assumption | ((with_reducible refine Ne.symm ?_); with_reducible assumption))
local macro_rules | `(tactic| walk_at "my heap") => `(tactic| first | with_reducible assumption | with_reducible exact put_same | ((with_reducible refine' put_step ?j1 ?j2); (case j1 => walk_at "my heap"); (case j2 => walk_at "my apart")))
local macro_rules | `(tactic| walk_at "my apart") => `(tactic| (intro e9; first | walk_at "my ne" | ((with_reducible refine' ne_new ?j3 e9); with_reducible assumption) | ((with_reducible refine' ne_kind e9 ?j4 ?j5); (case j4 => walk_at "my heap"); (case j5 => exact fun z9 => AObj.noConfusion z9))))
local macro_rules | `(tactic| walk_at "my none") => `(tactic| with_reducible assumption)
local macro_rules | `(tactic| walk_at "my asm") => `(tactic| with_reducible assumption)
local macro_rules | `(tactic| walk_at "my getter of") => `(tactic| first | with_reducible exact (by assumption : Lib _ _).g0 | with_reducible exact (by assumption : Lib _ _).g1 | with_reducible exact (by assumption : Lib _ _).g2 | with_reducible exact (by assumption : Lib _ _).g3 | with_reducible exact (by assumption : Lib _ _).g4)
local macro_rules | `(tactic| walk_at "my setter of") => `(tactic| first | with_reducible exact (by assumption : Lib _ _).s0 | with_reducible exact (by assumption : Lib _ _).s1 | with_reducible exact (by assumption : Lib _ _).s2 | with_reducible exact (by assumption : Lib _ _).s3 | with_reducible exact (by assumption : Lib _ _).s4)
local macro_rules | `(tactic| walk_at "my B") => `(tactic| with_reducible exact (by assumption : Lib _ _).B)
local macro_rules | `(tactic| walk_at "my handed") => `(tactic| first | with_reducible assumption | exact rfl)
local macro_rules | `(tactic| walk_at "my size") => `(tactic| first | ((try simp only [List.length_append, List.length_cons, List.length_nil, List.length_replicate]); omega) | (rw [sizeLine_eq]; (try simp only [List.length_append, List.length_cons, List.length_nil, List.length_replicate]); omega))
local macro_rules | `(tactic| walk_at "my isl") => `(tactic| first | ((with_reducible refine' St.given ?i1 ?i2); (case i2 => walk_at "my asm"); (case i1 => walk_at "my asm")) | ((with_reducible refine' St.isList ?i1 ?i2); (case i1 => walk_at "my asm"); (case i2 => walk_at "my heap")))
local macro_rules | `(tactic| walk_at "my stmt") => `(tactic| first | with_reducible refine wpAny_execs_cons ?_ | with_reducible refine wpAny_execs_nil ?_ | with_reducible refine wpAny_Return_some ?_ | ((with_reducible refine wpAny_Assign_Name ?h ?he); (case he => rfl)) | ((with_reducible refine Assign_Tuple ?h ?he ?hw); (case he => rfl); (case hw => rfl)) | ((with_reducible refine' Assign_Tuple_swapped ?h ?he ?hw); (case he => rfl); (case hw => exact rfl)) | with_reducible refine wpAny_If ?_ | ((with_reducible refine wpAny_Expr ?h ?hi ?he); (case hi => rfl); (case he => rfl)))
local macro_rules | `(tactic| walk_at "my expr") => `(tactic| first | ((with_reducible refine' r_local ?k1 ?k2 ?k3 ?h ?hl ?hd); (case k1 => walk_at "my asm"); (case k2 => walk_at "my asm"); (case k3 => walk_at "my look"); (case hl => exact rfl); (case hd => decide)) | ((with_reducible refine' r_cname ?k1 ?k2 ?k3 ?h ?hk ?hl ?hd); (case k1 => walk_at "my asm"); (case k2 => walk_at "my asm"); (case k3 => walk_at "my look"); (case hk => exact rfl); (case hl => exact rfl); (case hd => decide)) | ((with_reducible refine' r_glob ?k1 ?k2 ?k3 ?h ?hl ?hd ?hk ?hg); (case k1 => walk_at "my asm"); (case k2 => walk_at "my asm"); (case k3 => first | walk_at "my asm" | k_is); (case hl => exact rfl); (case hd => decide); (case hk => exact rfl); (case hg => exact rfl)) | ((with_reducible refine' r_blt ?k1 ?k2 ?k3 ?k4 ?k5 ?h ?hl ?hd ?hk ?hg ?hb); (case k1 => walk_at "my asm"); (case k2 => walk_at "my asm"); (case k3 => first | walk_at "my asm" | k_is); (case k4 => boot_by_name); (case k5 => decide); (case hl => exact rfl); (case hd => decide); (case hk => exact rfl); (case hg => exact rfl); (case hb => exact rfl)) | ((with_reducible refine' r_int ?k1 ?h); (case k1 => walk_at "my asm"); intro s' t' S') | ((with_reducible refine' r_str ?k1 ?h); (case k1 => walk_at "my asm"); intro s' t' S') | with_reducible refine wpAny_Constant_none ?_ | with_reducible refine wpAny_Constant_bool ?_ | with_reducible refine wpAny_BinOp ?_ | ((with_reducible refine wpAny_Compare1 ?h ?he); (case he => with_unfolding_all rfl)) | with_reducible refine List_ ?_ | with_reducible refine Tuple_ ?_ | with_reducible refine IfExp_ ?_ | with_reducible refine Subscript_ ?_ | ((with_reducible refine args_cons ?h ?he); (case he => rfl)) | with_reducible refine args_nil ?_ | ((with_reducible show wpAny _ _ (eval (Expr.Call (Expr.Attribute _ _ _) _ _ _) _) _ _ _); refine MethodCall_ ?_) | ((with_reducible show wpAny _ _ (eval (Expr.Call _ _ _ _) _) _ _ _); refine Call_ ?_))
local macro_rules | `(tactic| walk_at "my test") => `(tactic| first | ((with_reducible refine wpAny_isTrue_Compare1 ?h ?he); (case he => with_unfolding_all rfl)) | with_reducible refine isTrue_not ?_ | with_reducible refine isTrue_or ?_ | with_reducible refine isTrue_and ?_ | with_reducible refine isTrue_or_nil ?_ | with_reducible refine isTrue_and_nil ?_ | with_reducible refine wpAny_truthy_bool ?_ | with_reducible refine ite_tt ?_ | with_reducible refine ite_ff ?_ | with_reducible refine ite_nt ?_ | with_reducible refine ite_nf ?_ | with_reducible refine ite_T ?_ | with_reducible refine ite_F ?_ | ((with_reducible show wpAny _ _ (PySem.isTrue _ _ _) _ _ _); refine isTrue_plain ?_))
local macro_rules | `(tactic| walk_at "my sub") => `(tactic| first | with_reducible assumption | with_reducible exact SubX.refl | with_reducible exact Sub.refl | ((with_reducible refine' SubX.new ?k1 ?k2); (case k2 => walk_at "my none"); (case k1 => walk_at "my sub")) | ((with_reducible refine' SubX.at ?k1 ?k2); (case k2 => simp); (case k1 => walk_at "my sub")) | ((with_reducible refine' Sub.new ?k1 ?k2); (case k2 => walk_at "my none"); (case k1 => walk_at "my sub")))
local macro_rules | `(tactic| walk_at "my St") => `(tactic| first | with_reducible assumption | ((with_reducible refine' St.sub' ?k1 ?k2); (case k1 => with_reducible assumption); (case k2 => walk_at "my sub")))
local macro_rules | `(tactic| walk_at "my same1") => `(tactic| first | with_reducible exact Same.rfl' | with_reducible exact Same.int | with_reducible exact Same.str | with_reducible exact Same.bytes | ((with_reducible refine' Same.list ?k1 ?k2 ?k3); (case k1 => walk_at "my heap"); (case k2 => walk_at "my heap"); (case k3 => walk_at "my same")))
local macro_rules | `(tactic| walk_at "my same") => `(tactic| first | (simp only [List.length_replicate, Int.toNat_natCast]; exact SameAll.refl) | with_reducible exact SameAll.refl | exact SameAll.refl | exact SameAll.nil | ((with_reducible refine SameAll.cons ?k1 ?k2); (case k1 => walk_at "my same1"); (case k2 => walk_at "my same")))
local macro_rules | `(tactic| walk_at "my op") => `(tactic| first | ((with_reducible refine' r_newList ?k1 ?h ?hz); (case k1 => walk_at "my asm"); (case hz => walk_at "my size"); intro a' s' n' S') | ((with_reducible refine' r_newTuple ?k1 ?h ?hz); (case k1 => walk_at "my asm"); (case hz => walk_at "my size"); intro a' s' n' S') | with_reducible refine r_is_nn ?_ | with_reducible refine r_is_rn ?_ | with_reducible refine r_isnot_nn ?_ | with_reducible refine r_isnot_rn ?_ | with_reducible refine wpAny_bindName ?_ | with_reducible refine wpAny_assign_Name ?_ | ((with_reducible refine' r_unpackItems ?k1 ?k2 ?k3 ?k4 ?h); (case k1 => walk_at "my asm"); (case k2 => walk_at "my asm"); (case k3 => walk_at "my heap"); (case k4 => exact rfl); intro s' S') | ((with_reducible refine' r_assign_tup ?k1 ?k2 ?k3 ?k4 ?k5 ?h); (case k1 => walk_at "my asm"); (case k2 => walk_at "my asm"); (case k3 => walk_at "my heap"); (case k4 => exact rfl); (case k5 => exact rfl); intro s' S') | ((with_reducible show wpAny _ _ (assignInOrder _ _) _ _ _); (show wpAny _ _ (assignInOrder (_ :: _) (_ :: _)) _ _ _); refine aio_cons ?_) | ((with_reducible show wpAny _ _ (assignInOrder _ _) _ _ _); (show wpAny _ _ (assignInOrder [] []) _ _ _); refine aio_nil ?_) | ((with_reducible refine' r_store ?k1 ?k2 ?h ?hl); (case k1 => walk_at "my asm"); (case k2 => walk_at "my asm"); (case hl => exact rfl); intro s' S') | ((with_reducible refine' r_cstore ?k0 ?k1 ?k2 ?h ?hk ?hl); (case k0 => walk_at "my asm"); (case k1 => walk_at "my asm"); (case k2 => walk_at "my asm"); (case hk => exact rfl); (case hl => exact rfl); intro o' s' O' S') | ((with_reducible refine' r_getm ?k0 ?k1 ?k2 ?k3 ?k4 ?k5 ?h); (case k0 => walk_at "my getter of"); (case k1 => walk_at "my asm"); (case k2 => walk_at "my B"); (case k3 => walk_at "my asm"); (case k4 => walk_at "my heap"); (case k5 => walk_at "my handed"); intro s' S'; (try dsimp only [Flds.get])) | ((with_reducible refine' r_setm ?k0 ?k1 ?k2 ?k3 ?k4 ?h ?he); (case k0 => walk_at "my setter of"); (case k1 => walk_at "my asm"); (case k2 => walk_at "my B"); (case k3 => walk_at "my asm"); (case k4 => walk_at "my heap"); (case he => rfl)) | ((with_reducible refine' AtSet.mk' ?k1 ?k2 ?h); (case k1 => walk_at "my asm"); (case k2 => walk_at "my heap"); intro s' S'; dsimp only [Flds.set] at S') | ((with_reducible refine' r_new0 ?k0 ?k1 ?k2 ?k3 ?h); (case k0 => with_reducible exact (by assumption : Lib _ _).init); (case k1 => walk_at "my asm"); (case k2 => walk_at "my B"); (case k3 => walk_at "my asm"); intro x' s' n' S') | ((with_reducible refine' r_new1 ?k0 ?k1 ?k2 ?k3 ?h ?he); (case k0 => with_reducible exact (by assumption : Lib _ _).init); (case k1 => walk_at "my asm"); (case k2 => walk_at "my B"); (case k3 => walk_at "my asm"); (case he => rfl)) | ((with_reducible refine' r_add ?k1 ?h); (case k1 => walk_at "my asm"); intro s' t' S') | ((with_reducible refine' r_sub ?k1 ?h); (case k1 => walk_at "my asm"); intro s' t' S') | ((with_reducible refine' r_mod ?k1 ?k2 ?h); (case k1 => walk_at "my asm"); (case k2 => decide); intro s' t' S') | ((with_reducible refine' r_fdiv ?k0 ?k1 ?k2 ?h); (case k0 => walk_at "my asm"); (case k1 => walk_at "my asm"); (case k2 => decide); intro s' t' S') | ((with_reducible refine' r_ne_lists (n := 3) ?k1 ?k2 ?k3 ?k4 ?k5 ?k6 ?h); (case k1 => walk_at "my asm"); (case k2 => walk_at "my asm"); (case k3 => walk_at "my heap"); (case k4 => walk_at "my heap"); (case k5 => walk_at "my same"); (case k6 => decide)) | ((with_reducible refine' r_eq_lists (n := 3) ?k1 ?k2 ?k3 ?k4 ?k5 ?k6 ?h); (case k1 => walk_at "my asm"); (case k2 => walk_at "my asm"); (case k3 => walk_at "my heap"); (case k4 => walk_at "my heap"); (case k5 => walk_at "my same"); (case k6 => decide)) | ((with_reducible refine' r_eq_nil ?k1 ?k2 ?k3 ?k4 ?h); (case k1 => walk_at "my asm"); (case k2 => walk_at "my asm"); (case k3 => walk_at "my heap"); (case k4 => walk_at "my heap")) | ((with_reducible refine' r_add_lists ?k1 ?k2 ?k3 ?k4 ?h); (case k1 => walk_at "my asm"); (case k2 => walk_at "my isl"); (case k3 => walk_at "my isl"); (case k4 => walk_at "my size"); intro a' s' n' S') | ((with_reducible refine' r_enum ?k1 ?k2 ?h); (case k1 => walk_at "my asm"); (case k2 => walk_at "my heap"); intro e' it' ob' s' n1' n2' n3' hi' S') | with_reducible refine wp_forIn_nil ?_ | with_reducible refine lt_int ?_ | with_reducible refine gt_int ?_ | with_reducible refine eq_int ?_ | with_reducible refine ne_int ?_ | ((with_reducible refine' r_lmeth1 PySem.F.slot_list_append PySem.F.type_list_append ?k1 ?k2 ?h ?he); (case k1 => walk_at "my asm"); (case k2 => walk_at "my heap"); (case he => rfl)) | ((with_reducible refine' r_lmeth1 PySem.F.slot_list_extend PySem.F.type_list_extend ?k1 ?k2 ?h ?he); (case k1 => walk_at "my asm"); (case k2 => walk_at "my heap"); (case he => rfl)) | ((with_reducible refine' r_lmeth1 PySem.F.slot_list_remove PySem.F.type_list_remove ?k1 ?k2 ?h ?he); (case k1 => walk_at "my asm"); (case k2 => walk_at "my heap"); (case he => rfl)) | ((with_reducible refine' r_append ?k1 ?k2 ?k3 ?h); (case k1 => walk_at "my asm"); (case k2 => walk_at "my heap"); (case k3 => walk_at "my size"); intro s' S') | ((with_reducible refine' r_extend ?k1 ?k2 ?k3 ?k4 ?h); (case k1 => walk_at "my asm"); (case k2 => walk_at "my heap"); (case k3 => walk_at "my heap"); (case k4 => walk_at "my size"); intro s' S') | ((with_reducible refine' r_mul_list ?k1 ?k2 ?k3 ?k4 ?h); (case k1 => walk_at "my asm"); (case k2 => walk_at "my heap"); (case k3 => walk_at "my size"); (case k4 => walk_at "my size"); intro a' s' n' S') | ((with_reducible refine' r_len ?k1 ?k2 ?k3 ?h); (case k1 => walk_at "my asm"); (case k2 => walk_at "my heap"); (case k3 => walk_at "my size"); intro s' t' S') | ((with_reducible show wpAny _ _ (callWith _ (Value.builtin _) _ _ _) _ _ _); (with_reducible refine callWith_builtin1 ?h ?he ?hp); (case he => rfl); (case hp => rfl)) | ((with_reducible show wpAny _ _ (callWith _ (Value.type _) _ _ _) _ _ _); (with_reducible refine callWith_type1 ?h ?he ?hp); (case he => rfl); (case hp => rfl)) | ((with_reducible refine' r_callK ?k1 ?k3 ?k2 ?h ?he ?hp); (case k1 => walk_at "my asm"); (case k3 => walk_at "my asm"); (case k2 => k_is); (case he => rfl); (case hp => rfl)) | ((with_reducible refine' calledWith ?k1 ?h); (case k1 => walk_at "my asm"); (try simp only [List.nil_append])) | ((with_reducible refine' AtNew.mk' ?k1 ?h); (case k1 => walk_at "my asm"); intro x' s' n' S'))
local macro_rules | `(tactic| walk_at "my step") => `(tactic| first | (k_unfold; (try dsimp only)) | walk_at "my stmt" | walk_at "my expr" | walk_at "my test" | walk_at "my op" | walk_at "my call" | dsimp only)

local macro_rules | `(tactic| walk_at "my arith") => `(tactic| first | with_reducible assumption | decide | omega)
local macro_rules | `(tactic| walk_at "my item") => `(tactic| first | with_reducible assumption | exact rfl)
local macro_rules | `(tactic| walk_at "my part") => `(tactic| first | with_reducible exact IsPart.none | with_reducible exact IsPart.int _ _)
local macro_rules | `(tactic| walk_at "my expr") => `(tactic| first | ((with_reducible refine' r_bytes ?k1 ?h); (case k1 => walk_at "my asm"); intro s' t' S') | ((with_reducible refine' r_sliceObj ?k1 ?h); (case k1 => walk_at "my asm")) | with_reducible refine evalPart_none_step ?_ | with_reducible refine evalPart_some_step ?_ | ((with_reducible refine' r_sliceMk ?k1 ?h); (case k1 => walk_at "my asm"); intro a' s' n' S'))
local macro_rules | `(tactic| walk_at "my test") => `(tactic| first | ((with_reducible refine' ite_yes ?k1 ?h); (case k1 => first | with_reducible assumption | decide)) | ((with_reducible refine' ite_no ?k1 ?h); (case k1 => first | with_reducible assumption | decide)))
local macro_rules | `(tactic| walk_at "my op") => `(tactic| first | ((with_reducible refine' r_range1 ?k1 ?h); (case k1 => walk_at "my asm"); intro a' s' t1' t2' n' S') | ((with_reducible refine' r_range2 ?k1 ?h); (case k1 => walk_at "my asm"); intro a' s' t1' n' S') | ((with_reducible refine' r_range3 ?k1 ?k2 ?k3 ?h); (case k1 => walk_at "my asm"); (case k2 => decide); (case k3 => decide); intro a' s' n' S') | ((with_reducible refine' r_fdiv' ?k1 ?k2 ?k3 ?h); (case k1 => walk_at "my asm"); (case k2 => walk_at "my arith"); (case k3 => walk_at "my arith"); intro s' t' S') | ((with_reducible refine' r_divmod ?k1 ?k2 ?k3 ?h); (case k1 => walk_at "my asm"); (case k2 => walk_at "my arith"); (case k3 => walk_at "my arith"); intro a' s' t1' t2' n' S') | ((with_reducible refine' r_sum ?k1 ?k2 ?k3 ?k4 ?h); (case k1 => walk_at "my asm"); (case k2 => walk_at "my asm"); (case k3 => walk_at "my heap"); (case k4 => walk_at "my asm"); intro s' t' S') | with_reducible refine r_is_rr ?_ | with_reducible refine r_isnot_rr ?_ | ((with_reducible refine' tail_get ?k1 ?k2 ?k3 ?k4 ?k5 ?h ?hs); (case k1 => walk_at "my asm"); (case k2 => walk_at "my heap"); (case k3 => walk_at "my arith"); (case k4 => walk_at "my arith"); (case k5 => walk_at "my item"); (case hs => exact rfl)) | ((with_reducible refine' r_slice_to ?k1 ?k2 ?k3 ?k4 ?k5 ?h ?hs); (case k1 => walk_at "my asm"); (case k2 => walk_at "my heap"); (case k3 => walk_at "my heap"); (case k4 => walk_at "my arith"); (case k5 => walk_at "my size"); (case hs => with_unfolding_all rfl); intro a' s' n' S'; (try simp only [Int.reduceToNat, List.take_succ_cons, List.take_zero, List.drop_succ_cons, List.drop_zero] at S')) | ((with_reducible refine' r_slice_from ?k1 ?k2 ?k3 ?k4 ?k5 ?h ?hs); (case k1 => walk_at "my asm"); (case k2 => walk_at "my heap"); (case k3 => walk_at "my heap"); (case k4 => walk_at "my arith"); (case k5 => walk_at "my size"); (case hs => with_unfolding_all rfl); intro a' s' n' S'; (try simp only [Int.reduceToNat, List.take_succ_cons, List.take_zero, List.drop_succ_cons, List.drop_zero] at S')))
local macro_rules | `(tactic| walk_at "my sub") => `(tactic| first | ((with_reducible refine' SubX.at ?k1 ?k2); (case k2 => with_reducible assumption); (case k1 => walk_at "my sub")) | fail "no")

local macro_rules | `(tactic| walk_at "my dlook") => `(tactic| first | with_reducible assumption | exact if_pos rfl | (refine (if_neg ?_).trans ?_ <;> with_reducible assumption))
local macro_rules | `(tactic| walk_at "my stmt") => `(tactic| first | ((with_reducible refine' wpAny_Assign_Subscript ?h ?hs); (case hs => rfl)) | fail "no")
local macro_rules | `(tactic| walk_at "my expr") => `(tactic| first | ((with_reducible refine' r_dict0 ?k1 ?k2 ?h); (case k1 => walk_at "my asm"); (case k2 => walk_at "my asm"); intro a' o' s' n' q' D' S') | ((with_reducible refine' r_dict1 ?k1 ?k2 ?h); (case k1 => walk_at "my asm"); (case k2 => walk_at "my asm"); intro a' o' s' t' n' q' D' S') | fail "no")
local macro_rules | `(tactic| walk_at "my op") => `(tactic| first | with_reducible refine r_ne_none ?_ | with_reducible refine r_is_in ?_ | with_reducible refine r_ne_bool ?_ | ((with_reducible refine' r_ditem ?k1 ?k2 ?k3 ?k4 ?h ?hs); (case k1 => walk_at "my asm"); (case k2 => walk_at "my heap"); (case k3 => walk_at "my asm"); (case k4 => walk_at "my dlook"); (case hs => with_unfolding_all rfl); intro s' S') | ((with_reducible refine' r_dmeth1 ?k1 ?k2 ?k3 ?h ?hs); (case k1 => walk_at "my asm"); (case k2 => walk_at "my heap"); (case k3 => walk_at "my asm"); (case hs => rfl)) | ((with_reducible refine' r_dmeth2 ?k1 ?k2 ?k3 ?h ?hs); (case k1 => walk_at "my asm"); (case k2 => walk_at "my heap"); (case k3 => walk_at "my asm"); (case hs => rfl)) | ((with_reducible refine' r_dget1 ?k1 ?k2 ?k3 ?k4 ?k5 ?h); (case k1 => walk_at "my asm"); (case k2 => walk_at "my heap"); (case k3 => walk_at "my asm"); (case k4 => walk_at "my asm"); (case k5 => first | with_reducible assumption | with_reducible exact getD_none' (by assumption) | with_reducible exact getD_some' (by assumption)); intro s' S') | ((with_reducible refine' r_dget2 ?k1 ?k2 ?k3 ?k4 ?k5 ?h); (case k1 => walk_at "my asm"); (case k2 => walk_at "my heap"); (case k3 => walk_at "my asm"); (case k4 => walk_at "my asm"); (case k5 => first | with_reducible assumption | with_reducible exact getD_none' (by assumption) | with_reducible exact getD_some' (by assumption)); intro s' S') | ((with_reducible refine' r_dset ?k1 ?k2 ?k3 ?k4 ?h); (case k1 => walk_at "my asm"); (case k2 => walk_at "my heap"); (case k3 => walk_at "my asm"); (case k4 => walk_at "my arith"); intro o' s' D' S') | ((with_reducible refine' r_lmeth1 PySem.F.slot_list_index PySem.F.type_list_index ?k1 ?k2 ?h ?he); (case k1 => walk_at "my asm"); (case k2 => walk_at "my heap"); (case he => rfl)) | fail "no")
local macro_rules | `(tactic| walk_at "my sub") => `(tactic| first | ((with_reducible refine' SubX.off ?k1 ?k2); (case k2 => with_reducible assumption); (case k1 => walk_at "my sub")) | ((with_reducible refine' Sub.off ?k1 ?k2); (case k2 => with_reducible assumption); (case k1 => walk_at "my sub")) | fail "no")

local macro_rules | `(tactic| walk_at "my expr") => `(tactic| first | with_reducible refine BoolOp_and ?_ | with_reducible refine BoolOp_one ?_ | fail "no")
local macro_rules | `(tactic| walk_at "my same1") => `(tactic| first | with_reducible exact Same0.up (by assumption) | fail "no")

local macro_rules | `(tactic| walk_at "my expr") => `(tactic| first | with_reducible refine UnaryOp_ ?_ | fail "no")
local macro_rules | `(tactic| walk_at "my slen") => `(tactic| first | with_reducible assumption | omega)
local macro_rules | `(tactic| walk_at "my op") => `(tactic| first | ((with_reducible refine' r_neg ?k1 ?h); (case k1 => walk_at "my asm"); intro s' t' S') | with_reducible refine r_eq_str ?_ | with_reducible refine r_ne_str ?_ | ((with_reducible refine' r_add_str ?k1 ?k2 ?h); (case k1 => walk_at "my asm"); (case k2 => walk_at "my slen"); intro s' t' S') | ((with_reducible refine' r_smeth1 PySem.F.slot_str_rfind PySem.F.type_str_rfind ?h ?he); (case he => rfl)) | ((with_reducible refine' r_smeth1 PySem.F.slot_str_join PySem.F.type_str_join ?h ?he); (case he => rfl)) | ((with_reducible refine' r_rfind ?k1 ?h); (case k1 => walk_at "my asm"); intro s' t' S') | ((with_reducible refine' r_sslice_to ?k1 ?k2 ?k3 ?h ?hs); (case k1 => walk_at "my asm"); (case k2 => walk_at "my heap"); (case k3 => walk_at "my slen"); (case hs => with_unfolding_all rfl); intro s' t' S') | ((with_reducible refine' r_sslice_from ?k1 ?k2 ?k3 ?h ?hs); (case k1 => walk_at "my asm"); (case k2 => walk_at "my heap"); (case k3 => walk_at "my slen"); (case hs => with_unfolding_all rfl); intro s' t' S') | ((with_reducible refine' r_sitem ?k1 ?k2 ?k3 ?h ?hs); (case k1 => walk_at "my asm"); (case k2 => decide); (case k3 => walk_at "my asm"); (case hs => with_unfolding_all rfl); intro s' t' S') | ((with_reducible refine' r_last ?k1 ?k2 ?k3 ?h ?hs); (case k1 => walk_at "my asm"); (case k2 => walk_at "my heap"); (case k3 => first | walk_at "my asm" | exact rfl); (case hs => with_unfolding_all rfl)) | ((with_reducible refine' r_slice_but ?k1 ?k2 ?k3 ?k4 ?h ?hs); (case k1 => walk_at "my asm"); (case k2 => walk_at "my heap"); (case k3 => walk_at "my heap"); (case k4 => walk_at "my size"); (case hs => with_unfolding_all rfl); intro a' s' n' S') | ((with_reducible refine' r_setitem ?k1 ?k2 ?k3 ?k4 ?k5 ?h); (case k1 => walk_at "my asm"); (case k2 => walk_at "my heap"); (case k3 => walk_at "my arith"); (case k4 => first | walk_at "my arith" | (simp; done)); (case k5 => walk_at "my size"); intro s' S'; (try simp only [Int.reduceToNat, List.set_cons_succ, List.set_cons_zero] at S')) | ((with_reducible refine' r_lmeth0 PySem.F.slot_list_pop PySem.F.type_list_pop ?k1 ?k2 ?h); (case k1 => walk_at "my asm"); (case k2 => walk_at "my heap")) | ((with_reducible refine' r_pop ?k1 ?k2 ?k3 ?h); (case k1 => walk_at "my asm"); (case k2 => walk_at "my heap"); (case k3 => walk_at "my size"); intro s' S') | fail "no")
local macro_rules | `(tactic| walk_at "my stmt") => `(tactic| first | ((with_reducible refine wpAny_Expr_any ?h ?hi ?he); (case hi => rfl); (case he => rfl)) | fail "no")

local macro_rules | `(tactic| walk_at "my op") => `(tactic| first | ((with_reducible refine' r_ne_same ?k1 ?h); (case k1 => walk_at "my asm")) | fail "no")

local macro_rules | `(tactic| walk_at "my call told") => `(tactic| ((with_reducible refine' told06 ?k1 ?k2 ?k3 ?h0 ?h1 ?h2 ?h3 ?h4 ?h); (case k1 => walk_at "my asm"); (case k2 => walk_at "my asm"); (case k3 => walk_at "my heap"); (case h0 => walk_at "my handed"); (case h1 => walk_at "my handed"); (case h2 => walk_at "my handed"); (case h3 => walk_at "my handed"); (case h4 => walk_at "my handed"); intro a' s' n' S'; (try dsimp only at S')))
local macro_rules | `(tactic| walk_at "my call") => `(tactic| walk_at "my call told")
local macro_rules | `(tactic| walk_at "my call washed") => `(tactic| ((with_reducible refine' washed06 ?k1 ?k2 ?k3 ?h); (case k1 => walk_at "my asm"); (case k2 => walk_at "my asm"); (case k3 => walk_at "my heap"); intro s' S'))

local macro_rules | `(tactic| walk_at "my call") => `(tactic| first | walk_at "my call told" | walk_at "my call washed" | ((with_reducible refine' joined06 ?k1 ?k2 ?k3 ?k4 ?k5 ?h); (case k1 => walk_at "my asm"); (case k2 => walk_at "my asm"); (case k3 => walk_at "my asm"); (case k4 => walk_at "my asm"); (case k5 => walk_at "my arith"); intro s' t' S'))
structure X6 where
  fs : List Fr6
  bs : List Value
  ds : List Value
  ss : List Str
  n : Nat
structure J06 (ln lb ld la lst : Addr) (t0 t1 t2 t3 t4 : Tok) (k i : Nat) (m : Str → Option Value) (H : AH) (X : X6) : Prop where
  mnm : m "names" = some (.ref ln)
  mba : m "bases" = some (.ref lb)
  mdu : m "due" = some (.ref ld)
  mno : m "now" = some (pubOf X.fs)
  man : m "answers" = some (.ref la)
  mst : m "stack" = some (.ref lst)
  W : W6 ln lb ld la lst t0 t1 t2 t3 t4 X.bs X.ds X.ss X.n H X.fs
  few : X.n ≤ 10 * k + 10
  len : X.ss.length = i
  dep : X.fs.length ≤ 12
structure J6f (lb ld la lst : Addr) (now : Value) (m : Str → Option Value) : Prop where
  mba : m "bases" = some (.ref lb)
  mdu : m "due" = some (.ref ld)
  mno : m "now" = some now
  man : m "answers" = some (.ref la)
  mst : m "stack" = some (.ref lst)
local macro_rules | `(tactic| walk_at "my same") => `(tactic| first | with_reducible exact StrsAre.same (by assumption) (by assumption) | fail "no")
set_option maxHeartbeats 8000000 in
theorem law06 : PySem.Challenge.rw_dn0305_06.Holds := by
  refine hd06 (by
    k_go0
    all_goals try k_fold
    rename_i w _ s₁ _ _ _ _ _ _ _ _ _ _ _ _ _ _ _ _ _ _ _ _ _ _ _ _ _ ns hs0 hlay0 hL1 hr1 hl2 w4 w3 lA vs w5 hL ra w1 r0 hI hr hc1 hc2 K0 hD h₁ F N0
    have l := lib06 w rfl
    have hlen : vs.length ≤ 63 := by rw [ints_len hI]; omega
    have F' := fr_one F
    with_reducible refine' enter (C := 102) ?a1 ?a2 F' ?a3 ?a4 ?hQ ?k1 ?k2 ?k3 ?k4 ?k5
    case a1 => assumption
    case a2 => assumption
    case a3 => assumption
    case k1 => decide +kernel
    case k2 => rfl
    case k3 => rfl
    case k4 => rfl
    case k5 => rfl
    case hQ =>
      intro s' m' F2 hg hos
      refine goodW_bool F2 hg (raisesW_false ?_) ?_ hos
      · wrow_none_raised
      · kc_post
    intro s c S pr
    clear F F' N0 K0 hD hr r0 w1 ra
    repeat walk_at "my step"
    rename_i _ t0 S27 _ t1 S26 _ t2 S25 _ t3 S24 _ t4 S23 ln _ n8 S22 lb _ n7 S21 ld _ n6 S20 x0 _ n5 S19 _ _ n4 S18 _ S17 _ S16 _ S15 _ S14 _ S13 _ _ n3 S12 _ _ n2 S11 _ _ S10 _ _ n1 S9 _ S8 lt _ n0 S7 _ tz S6
    clear S27 S26 S25 S24 S23 S22 S21 S20 S19 S18 S17 S16 S15 S14 S13 S12 S11 S10 S9 S8 S7 S
    have hnb : ln ≠ lb := ne_new n7 put_same
    have hnd : ln ≠ ld := ne_new (o := .list (nml t0 t1 t2 t3 t4)) n6 (by (show _ = some (AObj.list [.str "a" t0, .str "B" t1, .str ".." t2, .str "." t3, .str "/c" t4])); walk_at "my heap")
    have hbd : lb ≠ ld := ne_new n6 put_same
    obtain ⟨Hx, ⟨i1, i2, i3, i4, i5⟩, Sx⟩ := S6.name (P := fun H' => H' ln = some (.list (nml t0 t1 t2 t3 t4)) ∧ H' lb = some (.list []) ∧ H' ld = some (.list []) ∧ H' x0 = some (.src ⟨.none, .none, .none, .none, .none⟩) ∧ H' lt = some (.list [.none, .none, .ref lb]))
      ⟨by (show _ = some (AObj.list [.str "a" t0, .str "B" t1, .str ".." t2, .str "." t3, .str "/c" t4])); walk_at "my heap", by walk_at "my heap", by walk_at "my heap", by walk_at "my heap", by walk_at "my heap"⟩
    clear n8 n7 n6 n5 n4 n3 n2 n1 n0 S6
    with_reducible refine' begin06z (x := x0) (lt := lt) ?b1 ?b2 ?b3 ?b4 ?b5
    case b1 => exact c
    case b2 => exact Sx
    case b3 => exact i4
    case b4 => exact i5
    intro rb s₂ H₂ tb nrb hrb hx2 hs2 S₂
    clear Sx
    have up2 : ∀ a vs, Hx a = some (.list vs) → H₂ a = some (.list vs) := fun a vs e => hs2 a _ (by simpa using ne_kind e i4 (fun z => by cases z)) e
    have j1 := up2 _ _ i1
    have j2 := up2 _ _ i2
    have j3 := up2 _ _ i3
    repeat walk_at "my step"
    rename_i _ te S11 _ S10 _ _ m5 S9 la _ m4 S8 p0 _ m3 S7 _ tr S6 rr _ m2 S5 lst _ m1 S4 _ _ m0 S3 _ S2 _ S1 _ S0
    clear S11 S10 S9 S8 S7 S6 S5 S4 S3 S2 S1 S₂
    have hpb : p0 ≠ lb := (ne_new (o := .list []) m3 (by walk_at "my heap")).symm
    have hpd : p0 ≠ ld := (ne_new (o := .list []) m3 (by walk_at "my heap")).symm
    have hbl : lb ≠ la := ne_new (o := .list []) m4 (by walk_at "my heap")
    obtain ⟨Hy, W0, Sy⟩ := S0.name (P := fun H' => W6 ln lb ld la lst t0 t1 t2 t3 t4 [] [] [] 4 H' [⟨x0, rr, p0, [], [], .none, 0, te, tr, tb⟩])
      ⟨by walk_at "my heap", by walk_at "my heap", by walk_at "my heap", .nil, .nil, by (show _ = some (AObj.list ([Value.none, Value.none, Value.none, Value.none] ++ [Value.none]))); walk_at "my heap", by (show _ = some (AObj.list [.ref rr])); walk_at "my heap",
        .cons ⟨by (show _ = some (AObj.src ⟨.str (path []) te, .none, .none, .ref lb, .int 0 tb⟩)); rw [path_nil]; walk_at "my heap", by (show _ = some (AObj.list [.ref x0, .ref p0, .none, .int 0 tr])); walk_at "my heap", by walk_at "my heap", .nil, (fun p hp => by cases hp), Nat.zero_le _, .inl rfl, hpb, hpd⟩ (fun g hg => by cases hg) .nil, by simp, hnb, hnd, hbd⟩
    clear m5 m4 m3 m2 m1 m0 S0 j1 j2 j3 hrb hx2 hs2 up2 i1 i2 i3 i4 i5 nrb
    with_reducible refine' r_for_enum c Sy ?hfor ?k6 ?k7 ?k8
    case k6 => rfl
    case k7 => rfl
    case k8 => exact fun _ => rfl
    repeat walk_at "my step"
    rename_i ll _ nll _ lx _ nx Sz e it ob _ q1 q2 q3 hit Se
    refine ⟨e, it, lx, ob, _, _, _, _, fun i m' H' => ∃ X, J06 ln lb ld la lst t0 t1 t2 t3 t4 i i m' H' X, rfl, hit, q1, q2, q3, put_same, Se, ?_, ?_, ?_⟩
    · rw [del_put nx]
      exact ⟨⟨[⟨x0, rr, p0, [], [], .none, 0, te, tr, tb⟩], [], [], [], 4⟩, by walk_at "my look", by walk_at "my look", by walk_at "my look", (by (show _ = some (Value.ref x0)); walk_at "my look"), by walk_at "my look", by walk_at "my look", W0.sub (Sub.refl.new nll), by simp, rfl, by simp⟩
    · intro i v ti m₁ H₁ own₁ s₃ hv hJ S₃
      obtain ⟨⟨fs, bs, ds, ss, n⟩, J⟩ := hJ
      obtain ⟨mnm, mba, mdu, mno, man, mst, W, few, len, dep⟩ := J
      simp only at *
      obtain ⟨x, tx, rfl⟩ := ints_at (ints_app (.cons _ _ (.cons _ _ (.cons _ _ (.cons _ _ (.cons _ _ (.cons _ _ (.cons _ _ (.cons _ _ (.cons _ _ .nil))))))))) hI) i v hv
      have hi72 : i < 72 := by
        have := (List.getElem?_eq_some_iff.mp hv).1
        simp only [List.length_append, List.length_cons, List.length_nil] at this
        omega
      clear hv Se Sz Sy W0
      cases fs with
      | nil => exact absurd rfl W.ne
      | cons f r =>
        obtain ⟨fS, fR, fP, ps, pvs, fe, fc, ts, tr, tc⟩ := f
        have ⟨o, o2⟩ : One H₁ lb ld ⟨fS, fR, fP, ps, pvs, fe, fc, ts, tr, tc⟩ (pubOf r) ∧ ∀ g ∈ r, g.s ≠ fS ∧ g.r ≠ fR := by
          have hch := W.ch
          cases hch with
          | cons o o2 o3 => exact ⟨o, o2⟩
        have hS : H₁ fS = some (.src ⟨.str (path ps) ts, pubOf r, fe, .ref lb, .int fc tc⟩) := o.hs
        have hR : H₁ fR = some (.list [.ref fS, .ref fP, fe, .int fc tr]) := o.hr
        have hP : H₁ fP = some (.list pvs) := o.hp
        have hsv : StrsAre pvs ps := o.sv
        have hgd : Good ps := o.gd
        have hsh : ps.length ≤ 6 := o.sh
        have hie : IsE fe := o.ie
        have hst : H₁ lst = some (.list (stk r ++ [.ref fR])) := by have := W.hst; rwa [stk_cons] at this
        have ⟨a1, a2, a3, a4, a5, a6, b1, b2, b3, b4, b5, c1, c2, c3, c4, d1, d2, d3, d4, d5⟩ := W.apart (.head _)
        simp only at a5 a6 b4 b5 c1 c2 c3 c4 d4 d5
        have hln := W.hln
        have hlb := W.hlb
        have hld := W.hld
        have hla := W.hla
        have mno' : m₁ "now" = some (.ref fS) := mno
        clear mno
        have hgl : (stk r ++ [Value.ref fR]).getLast? = some (.ref fR) := by simp
        have hpl := hsv.len
        have hsl0 : (stk r).length = r.length := stk_len r
        have hss := W.sb.len
        have hsd := W.sd.len
        have hhe := hie.handed
        simp only [List.length_cons] at dep
        repeat (fail_if_success (with_reducible show wpAny _ _ (eval (Expr.IfExp _ _ _ _) _) _ _ _)); walk_at "my step"
        rename_i Sf
        with_reducible refine' wp_valueP (fun v => ∃ j t, j < 5 ∧ v = .str (nmS j) t ∧ (6 ≤ ps.length → j = 2)) Sf ?va ?vb
        case va =>
          by_cases hp6 : pvs.length < 6
          · have h6 : decide (((pvs.length : Nat) : Int) < 6) = true := by rw [decide_eq_true_eq]; omega
            obtain ⟨j, hj, hjx⟩ := mod5q (x.fdiv 6)
            obtain ⟨tj, hg⟩ := nml_get (t0 := t0) (t1 := t1) (t2 := t2) (t3 := t3) (t4 := t4) hj
            have hg1 : (nml t0 t1 t2 t3 t4)[((x.fdiv 6).fmod 5).toNat]? = some (.str (nmS j) tj) := by rw [hjx, Int.toNat_natCast]; exact hg
            have hx0 : 0 ≤ (x.fdiv 6).fmod 5 := by omega
            have hx1 : (x.fdiv 6).fmod 5 < 2 ^ 63 := by omega
            repeat walk_at "my step"
            exact ⟨⟨j, tj, hj, rfl, fun z => by omega⟩, by assumption⟩
          · have h6 : decide (((pvs.length : Nat) : Int) < 6) = false := by rw [decide_eq_false_iff_not]; omega
            repeat walk_at "my step"
            exact ⟨⟨2, _, by decide, rfl, fun _ => rfl⟩, by assumption⟩
        rintro _ s₄ ⟨j, tj, hj, rfl, hj2⟩ S₄
        clear Sf S₃
        repeat (fail_if_success (with_reducible show wpAny _ _ (exec (Stmt.If _ _ _ _) _) _ _ _)); walk_at "my step"
        rename_i S₅
        with_reducible refine' wp_cut (fun m' H' => ∃ X, J06 ln lb ld la lst t0 t1 t2 t3 t4 (i + 1) i m' H' X) S₅ ?vc ?vd
        clear S₄
        case vc =>
          have hlen12 : (stk r ++ [Value.ref fR]).length = r.length + 1 := by simp [stk_len]
          by_cases g1 : x.fmod 6 < 2
          · have u1 : decide (x.fmod 6 < 2) = true := decide_eq_true g1
            have u2 : decide (x.fmod 6 < 3) = true := decide_eq_true (by omega)
            by_cases g2 : r.length + 1 < 12
            · have u3 : decide ((((stk r ++ [Value.ref fR]).length : Nat) : Int) < 12) = true := by rw [decide_eq_true_eq, hlen12]; omega
              repeat walk_at "my step"
              rename_i _ tN _ xN _ nxN _ _ _ _ _ nT1 _ _ _ _ _ _ nT2 _ _ _ nT3 _ _ _ nT4 _ _ _ _ _ _ nT5 _ _ _ _ _ lt _ nlt SB
              have hxf : fS ≠ xN := ne_new nxN hS
              obtain ⟨Hb, ⟨g0, g1, g2⟩, SB'⟩ := SB.name (P := fun H' => Sub H₁ H' ∧ H' xN = some (.src ⟨.str (path (nmP j ps)) tN, .none, .none, .none, .none⟩) ∧ H' lt = some (.list [.ref fS, fe, .ref lb])) ⟨by walk_at "my sub", by walk_at "my heap", by walk_at "my heap"⟩
              clear SB nT1 nT2 nT3 nT4 nT5 nlt
              with_reducible refine' begin06 (x := xN) (lt := lt) ?x1 ?x2 ?x3 ?x4 ?x5
              case x1 => exact c
              case x2 => exact SB'
              case x3 => exact g1
              case x4 => exact g2
              intro rb s₆ H₂ tb nrb hrb hxN hs2 S₆
              clear SB' S₅
              have hsub : Sub H₁ H₂ := fun a o e => hs2 a o (by simpa using ne_new nxN e) (g0 a o e)
              have hS2 := hsub _ _ hS
              have hR2 := hsub _ _ hR
              have hla2 := hsub _ _ hla
              have hst2 := hsub _ _ hst
              have hP2 := hsub _ _ hP
              have hsubX : SubX [la, fS, fR] H₁ H₂ := hsub.toX
              have hrl : rb ≠ la := (ne_new nrb (g0 _ _ hla)).symm
              repeat walk_at "my step"
              rename_i SN
              obtain ⟨H₃, ⟨⟨u1', u2', W3⟩, hxN3⟩, SN'⟩ := SN.name (P := fun H' => (∃ u1 u2, W6 ln lb ld la lst t0 t1 t2 t3 t4 bs ds ss (n + 5) H' (⟨fS, fR, fP, ps, pvs, fe, fc + 1, ts, u1, u2⟩ :: r)) ∧ H' xN = some (.src ⟨.str (path (nmP j ps)) tN, .ref fS, fe, .ref lb, .int 0 tb⟩))
                ⟨⟨_, _, W.top (f' := ⟨fS, fR, fP, ps, pvs, fe, fc + 1, ts, _, _⟩) (by walk_at "my sub") rfl rfl (by
                    have e : List.replicate (n + 1) Value.none ++ [.none, .none, .none, .none] ++ [.none] = List.replicate (n + 5 + 1) .none := by
                      rw [show [Value.none, .none, .none, .none] = List.replicate 4 .none from rfl, show [Value.none] = List.replicate 1 .none from rfl, List.replicate_append_replicate, List.replicate_append_replicate]
                    rw [← e]
                    walk_at "my heap")
                  ⟨by (show put _ _ _ fS = some (AObj.src ⟨.str (path ps) ts, pubOf r, fe, .ref lb, .int (fc + 1) _⟩)); walk_at "my heap", by (show put _ _ _ fR = some (AObj.list [.ref fS, .ref fP, fe, .int (fc + 1) _])); walk_at "my heap", by (show put _ _ _ fP = some (AObj.list pvs)); walk_at "my heap", hsv, hgd, hsh, hie, d4, d5⟩⟩, by walk_at "my heap"⟩
              clear SN
              have hP3 : H₃ fP = some (.list pvs) := by
                have hch := W3.ch
                cases hch with
                | cons o o2 o3 => exact o.hp
              have hR3 : H₃ fR = some (.list [.ref fS, .ref fP, fe, .int (fc + 1) u1']) := by
                have hch := W3.ch
                cases hch with
                | cons o o2 o3 => exact o.hr
              have hst3 : H₃ lst = some (.list (stk r ++ [.ref fR])) := by have := W3.hst; rwa [stk_cons] at this
              with_reducible refine' named06 ?y1 ?y2 ?y3 ?y4 ?y5 ?y6 ?y7
              case y1 => exact c
              case y2 => exact SN'
              case y3 => exact hj
              case y4 => exact hP3
              case y5 => exact hsv
              case y6 => omega
              intro pN s₇ H₄ pvs' hsub4 hpN hsvN hor S₇
              clear SN' S₆
              have hR4 := hsub4 _ _ hR3
              have hst4 := hsub4 _ _ hst3
              have hx4 := hsub4 _ _ hxN3
              have hpx : ∀ a us, H₃ a = some (.list us) → fP ≠ a → pN ≠ a := fun a us e h z => by
                rcases hor with h0 | h0
                · exact h (h0.symm.trans z)
                · rw [z, e] at h0; cases h0
              have k2 := hpx _ _ hst3 b5.symm
              have k3 := hpx _ _ W3.hlb d4
              have k4 := hpx _ _ W3.hld d5
              repeat walk_at "my step"
              rename_i rN _ nrN _ _ SF
              have hrl2 : rN ≠ lst := (ne_new nrN hst4).symm
              have W4 : ∀ ob, W6 ln lb ld la lst t0 t1 t2 t3 t4 bs ds ss (n + 5) (put H₄ rN ob) (⟨fS, fR, fP, ps, pvs, fe, fc + 1, ts, u1', u2'⟩ :: r) := fun ob => W3.sub (hsub4.new nrN)
              refine cut_mk (J := fun m' H' => ∃ X, J06 ln lb ld la lst t0 t1 t2 t3 t4 (i + 1) i m' H' X) SF ⟨⟨⟨xN, rN, pN, nmP j ps, pvs', fe, 0, tN, _, tb⟩ :: ⟨fS, fR, fP, ps, pvs, fe, fc + 1, ts, u1', u2'⟩ :: r, bs, ds, ss, n + 5⟩, by walk_at "my look", by walk_at "my look", by walk_at "my look", (by (show _ = some (Value.ref xN)); walk_at "my look"), by walk_at "my look", by walk_at "my look", (W4 _).push (f' := ⟨xN, rN, pN, nmP j ps, pvs', fe, 0, tN, _, tb⟩) (by walk_at "my sub") (by rw [stk_cons]; exact put_same)
                  ⟨by (show put _ _ _ xN = some (AObj.src ⟨.str (path (nmP j ps)) tN, .ref fS, fe, .ref lb, .int 0 tb⟩)); walk_at "my heap", by (show put _ _ _ rN = some (AObj.list [.ref xN, .ref pN, fe, .int 0 _])); walk_at "my heap", by (show put _ _ _ pN = some (AObj.list pvs')); walk_at "my heap", hsvN, hgd.nm j, nmP_len hsh hj2, hie, k3, k4⟩ (fun g hg => ?_), by simp only; omega, len, by simp only [List.length_cons]; omega⟩
              refine ⟨fun z => ?_, fun z => ?_⟩
              · rcases List.mem_cons.mp hg with rfl | hg
                · exact hxf z
                · obtain ⟨_, o1⟩ := W.ch.one g (.tail _ hg)
                  have := o1.hs; rw [z, nxN] at this; cases this
              · obtain ⟨_, o1⟩ := W3.ch.one g hg
                have := hsub4 _ _ o1.hr; rw [z, nrN] at this; cases this
            · have u3 : decide ((((stk r ++ [Value.ref fR]).length : Nat) : Int) < 12) = false := by rw [decide_eq_false_iff_not, hlen12]; omega
              cases r with
              | nil =>
                have hl1 : decide ((1 : Int) < (((stk [] ++ [Value.ref fR]).length : Nat) : Int)) = false := by simp [stk]
                repeat walk_at "my step"
                rename_i SF
                exact cut_mk (J := fun m' H' => ∃ X, J06 ln lb ld la lst t0 t1 t2 t3 t4 (i + 1) i m' H' X) SF ⟨⟨[⟨fS, fR, fP, ps, pvs, fe, fc, ts, tr, tc⟩], bs, ds, ss, n⟩, by walk_at "my look", by walk_at "my look", by walk_at "my look", (by (show _ = some (Value.ref fS)); walk_at "my look"), by walk_at "my look", by walk_at "my look", W, by simp only; omega, len, dep⟩
              | cons g r =>
                have hl1 : decide ((1 : Int) < (((stk (g :: r) ++ [Value.ref fR]).length : Nat) : Int)) = true := by simp [stk_len]; omega
                have hsl : (stk (g :: r)).length ≤ 90000 := by rw [stk_len]; simp only [List.length_cons] at dep ⊢; omega
                repeat walk_at "my step"
                rename_i SF
                exact cut_mk (J := fun m' H' => ∃ X, J06 ln lb ld la lst t0 t1 t2 t3 t4 (i + 1) i m' H' X) SF ⟨⟨g :: r, bs, ds, ss, n⟩, by walk_at "my look", by walk_at "my look", by walk_at "my look", (by (show _ = some (pubOf (g :: r))); walk_at "my look"), by walk_at "my look", by walk_at "my look", W.pop (by walk_at "my sub") put_same, by simp only; omega, len, by simp only [List.length_cons] at dep ⊢; omega⟩
          · have u1 : decide (x.fmod 6 < 2) = false := decide_eq_false g1
            by_cases g3 : x.fmod 6 < 3
            · have u2 : decide (x.fmod 6 < 3) = true := decide_eq_true g3
              cases r with
              | nil =>
                have hl1 : decide ((1 : Int) < (((stk [] ++ [Value.ref fR]).length : Nat) : Int)) = false := by simp [stk]
                repeat walk_at "my step"
                rename_i SF
                exact cut_mk (J := fun m' H' => ∃ X, J06 ln lb ld la lst t0 t1 t2 t3 t4 (i + 1) i m' H' X) SF ⟨⟨[⟨fS, fR, fP, ps, pvs, fe, fc, ts, tr, tc⟩], bs, ds, ss, n⟩, by walk_at "my look", by walk_at "my look", by walk_at "my look", (by (show _ = some (Value.ref fS)); walk_at "my look"), by walk_at "my look", by walk_at "my look", W, by simp only; omega, len, dep⟩
              | cons g r =>
                have hl1 : decide ((1 : Int) < (((stk (g :: r) ++ [Value.ref fR]).length : Nat) : Int)) = true := by simp [stk_len]; omega
                have hsl : (stk (g :: r)).length ≤ 90000 := by rw [stk_len]; simp only [List.length_cons] at dep ⊢; omega
                repeat walk_at "my step"
                rename_i SF
                exact cut_mk (J := fun m' H' => ∃ X, J06 ln lb ld la lst t0 t1 t2 t3 t4 (i + 1) i m' H' X) SF ⟨⟨g :: r, bs, ds, ss, n⟩, by walk_at "my look", by walk_at "my look", by walk_at "my look", (by (show _ = some (pubOf (g :: r))); walk_at "my look"), by walk_at "my look", by walk_at "my look", W.pop (by walk_at "my sub") put_same, by simp only; omega, len, by simp only [List.length_cons] at dep ⊢; omega⟩
            · have u2 : decide (x.fmod 6 < 3) = false := decide_eq_false g3
              by_cases g5 : x.fmod 6 < 5
              · have u5 : decide (x.fmod 6 < 5) = true := decide_eq_true g5
                repeat walk_at "my step"
                rename_i SN
                with_reducible refine' named06 ?n1 ?n2 ?n3 ?n4 ?n5 ?n6 ?n7
                case n1 => exact c
                case n2 => exact SN
                case n3 => exact hj
                case n4 => exact hP
                case n5 => exact hsv
                case n6 => omega
                intro pN s₆ H₂ pvs' hsub hpN hsvN hor S₆
                clear SN S₅
                have hS2 := hsub _ _ hS
                have hR2 := hsub _ _ hR
                have hla2 := hsub _ _ hla
                have hsubX : SubX [la, fS, fR] H₁ H₂ := hsub.toX
                have hpx : ∀ a us, H₁ a = some (.list us) → fP ≠ a → pN ≠ a := fun a us e h z => by
                  rcases hor with h0 | h0
                  · exact h (h0.symm.trans z)
                  · rw [z, e] at h0; cases h0
                have k1 := hpx _ _ hR c4.symm
                have k2 := hpx _ _ hla a6.symm
                have k3 := hpx _ _ hlb d4
                have k4 := hpx _ _ hld d5
                repeat walk_at "my step"
                rename_i _ tJ _ _ _ _ SF
                refine cut_mk (J := fun m' H' => ∃ X, J06 ln lb ld la lst t0 t1 t2 t3 t4 (i + 1) i m' H' X) SF ⟨⟨⟨fS, fR, pN, nmP j ps, pvs', fe, fc, tJ, tr, tc⟩ :: r, bs, ds, ss, n + 1⟩, ?_, ?_, ?_, ?_, ?_, ?_, ?_, ?_, ?_, ?_⟩
                · walk_at "my look"
                · walk_at "my look"
                · walk_at "my look"
                · (show _ = some (Value.ref fS)); walk_at "my look"
                · walk_at "my look"
                · walk_at "my look"
                · refine W.top (f' := ⟨fS, fR, pN, nmP j ps, pvs', fe, fc, tJ, tr, tc⟩) ?_ rfl rfl ?_ ⟨?_, ?_, ?_, hsvN, hgd.nm j, nmP_len hsh hj2, hie, k3, k4⟩
                  · walk_at "my sub"
                  · (show _ = some (AObj.list (List.replicate (n + 1 + 1) Value.none))); rw [List.replicate_succ' (n := n + 1)]; walk_at "my heap"
                  · (show put _ _ _ fS = some (AObj.src ⟨.str (path (nmP j ps)) tJ, pubOf r, fe, .ref lb, .int fc tc⟩)); walk_at "my heap"
                  · (show put _ _ _ fR = some (AObj.list [.ref fS, .ref pN, fe, .int fc tr])); walk_at "my heap"
                  · (show put _ _ _ pN = some (AObj.list pvs')); walk_at "my heap"
                · simp only; omega
                · exact len
                · simp only [List.length_cons]; omega
              · have u5 : decide (x.fmod 6 < 5) = false := decide_eq_false g5
                repeat (fail_if_success (with_reducible show wpAny _ _ (subscriptTail _ _ _ _) _ _ _)); walk_at "my step"
                rename_i _ tA _ _ tB _ lq _ nq _ _ _ _ _ _ _ _ _ _ _ _ SE
                obtain ⟨k, hk, hkx⟩ := mod3q (x.fdiv 6)
                have hve : ∃ v, [Value.none, .str (Str.ofString "") tA, .str (Str.ofString "E") tB][((x.fdiv 6).fmod 3).toNat]? = some v ∧ IsE v := by
                  rw [hkx, Int.toNat_natCast]
                  rcases k with _ | _ | _ | k
                  · exact ⟨_, rfl, .inl rfl⟩
                  · exact ⟨_, rfl, .inr ⟨_, _, rfl⟩⟩
                  · exact ⟨_, rfl, .inr ⟨_, _, rfl⟩⟩
                  · omega
                obtain ⟨ve, hve, hvE⟩ := hve
                have hx0 : 0 ≤ (x.fdiv 6).fmod 3 := by omega
                have hx1 : (x.fdiv 6).fmod 3 < 2 ^ 63 := by omega
                repeat walk_at "my step"
                rename_i SF
                refine cut_mk (J := fun m' H' => ∃ X, J06 ln lb ld la lst t0 t1 t2 t3 t4 (i + 1) i m' H' X) SF ⟨⟨⟨fS, fR, fP, ps, pvs, ve, fc, ts, tr, tc⟩ :: r, bs, ds, ss, n + 1⟩, ?_, ?_, ?_, ?_, ?_, ?_, ?_, ?_, ?_, ?_⟩
                · walk_at "my look"
                · walk_at "my look"
                · walk_at "my look"
                · (show _ = some (Value.ref fS)); walk_at "my look"
                · walk_at "my look"
                · walk_at "my look"
                · refine W.top (f' := ⟨fS, fR, fP, ps, pvs, ve, fc, ts, tr, tc⟩) ?_ rfl rfl ?_ ⟨?_, ?_, ?_, hsv, hgd, hsh, hvE, d4, d5⟩
                  · walk_at "my sub"
                  · (show _ = some (AObj.list (List.replicate (n + 1 + 1) Value.none))); rw [List.replicate_succ' (n := n + 1)]; walk_at "my heap"
                  · (show put _ _ _ fS = some (AObj.src ⟨.str (path ps) ts, pubOf r, ve, .ref lb, .int fc tc⟩)); walk_at "my heap"
                  · (show put _ _ _ fR = some (AObj.list [.ref fS, .ref fP, ve, .int fc tr])); walk_at "my heap"
                  · (show put _ _ _ fP = some (AObj.list pvs)); walk_at "my heap"
                · simp only; omega
                · exact len
                · simp only [List.length_cons]; omega
        clear o o2 hS hR hP hsv hgd hsh hie hst a1 a2 a3 a4 a5 a6 b1 b2 b3 b4 b5 c1 c2 c3 c4 d1 d2 d3 d4 d5 hln hlb hld hla mno' hgl hpl hsl0 hss hsd hhe W few len dep mnm mba mdu man mst S₅
        clear hj2
        rintro m₂ H₂ s₆ ⟨⟨fs, bs, ds, ss, n⟩, J⟩ S₆
        obtain ⟨mnm, mba, mdu, mno, man, mst, W, few, len, dep⟩ := J
        simp only at *
        cases fs with
        | nil => exact absurd rfl W.ne
        | cons f r =>
          obtain ⟨fS, fR, fP, ps, pvs, fe, fc, ts, tr, tc⟩ := f
          have ⟨o, o2⟩ : One H₂ lb ld ⟨fS, fR, fP, ps, pvs, fe, fc, ts, tr, tc⟩ (pubOf r) ∧ ∀ g ∈ r, g.s ≠ fS ∧ g.r ≠ fR := by
            have hch := W.ch
            cases hch with
            | cons o o2 o3 => exact ⟨o, o2⟩
          have hS : H₂ fS = some (.src ⟨.str (path ps) ts, pubOf r, fe, .ref lb, .int fc tc⟩) := o.hs
          have hR : H₂ fR = some (.list [.ref fS, .ref fP, fe, .int fc tr]) := o.hr
          have hP : H₂ fP = some (.list pvs) := o.hp
          have hsv : StrsAre pvs ps := o.sv
          have hgd : Good ps := o.gd
          have hsh : ps.length ≤ 6 := o.sh
          have hie : IsE fe := o.ie
          have hst : H₂ lst = some (.list (stk r ++ [.ref fR])) := by have := W.hst; rwa [stk_cons] at this
          have ⟨a1, a2, a3, a4, a5, a6, b1, b2, b3, b4, b5, c1, c2, c3, c4, d1, d2, d3, d4, d5⟩ := W.apart (.head _)
          simp only at a5 a6 b4 b5 c1 c2 c3 c4 d4 d5
          have hlb := W.hlb
          have hld := W.hld
          have mno' : m₂ "now" = some (.ref fS) := mno
          clear mno
          have hgl : (stk r ++ [Value.ref fR]).getLast? = some (.ref fR) := by simp
          have hpl := hsv.len
          have hbl := W.sb.len
          have hdl := W.sd.len
          have hhe := hie.handed
          have hpp : (path ps != path ps) = false := by simp
          have hcc : (fc != fc) = false := by simp
          repeat (fail_if_success (with_reducible show wpAny _ _ (eval (Expr.ListComp _ _ _ _) _) _ _ _)); walk_at "my step"
          rename_i Sc
          with_reducible refine' r_comp c Sc ?hcomp ?z1 ?z2 ?z3 ?z4 ?z5
          case z1 => rfl
          case z2 => decide
          case z3 => rfl
          case z4 => decide
          case z5 => exact fun _ => rfl
          repeat walk_at "my step"
          rename_i Sd
          refine ⟨fP, pvs, _, _, fun q ys H' => H' = del H₂ fP ∧ StrsAre ys ((ps.take q).map fun p => sl ++ p), rfl, Sd, hP, by omega, ⟨rfl, by simpa using StrsAre.nil⟩, fun q ys H' h => by have := h.2.len; simp at this; omega, ?_, ?_⟩
          · intro q v ys H' Cc ob mc own' s' hv hJ hO hC S'
            obtain ⟨rfl, hys⟩ := hJ
            obtain ⟨pt, tpt, rfl, hpt⟩ := hsv.get q v hv
            have hlen1 : pt.length = 1 := (hgd pt (List.mem_of_getElem? hpt)).2
            have hz : (Str.ofString "/").length + pt.length ≤ 100000 := by rw [one_sl]; omega
            clear Sd Sc S₆
            repeat walk_at "my step"
            refine CompPut.mk' (by assumption) (by assumption) ⟨rfl, ?_⟩
            rw [List.take_succ, hpt, Option.toList_some, List.map_append]
            exact hys.append .one
          · intro D ys H' s' hJ e1 e2 e3 S'
            obtain ⟨rfl, hys⟩ := hJ
            obtain ⟨H₃, ⟨hs3, hD3⟩, S₇⟩ := S'.name (P := fun H' => Sub H₂ H' ∧ H' D = some (.list ys)) ⟨SubX.back SubX.del1 hP e2 e3, put_same⟩
            clear S' Sd Sc S₆
            rw [List.take_of_length_le (by omega)] at hys
            have hsum : ((ps.map fun p => sl ++ p).map (·.length)).sum + (ps.map fun p => sl ++ p).length * (Str.ofString "").length ≤ 16777216 := pathsum hgd hsh
            with_reducible refine' r_join S₇ hD3 hys hsum ?hj
            rw [join_path]
            intro s₈ tj S₈
            clear S₇
            have hS3 := hs3 _ _ hS
            have hR3 := hs3 _ _ hR
            have hst3 := hs3 _ _ hst
            have hlb3 := hs3 _ _ hlb
            have hld3 := hs3 _ _ hld
            have hgl2 : (ds ++ [Value.str (path ps) tj]).getLast? = some (.str (path ps) tj) := by simp
            have hbX : SubX [lb, ld] H₂ H₃ := hs3.toX
            repeat walk_at "my step"
            rename_i SF
            refine TurnQ.mk' SF ⟨⟨⟨fS, fR, fP, ps, pvs, fe, fc, ts, tr, tc⟩ :: r, bs ++ [.str (path ps) ts], ds ++ [.str (path ps) tj], ss ++ [path ps], n⟩, ?_, ?_, ?_, ?_, ?_, ?_, ?_, ?_, ?_, ?_⟩
            · walk_at "my look"
            · walk_at "my look"
            · walk_at "my look"
            · (show _ = some (Value.ref fS)); walk_at "my look"
            · walk_at "my look"
            · walk_at "my look"
            · refine W.tell ?_ ?_ ?_
              · walk_at "my sub"
              · walk_at "my heap"
              · walk_at "my heap"
            · simp only; omega
            · simp only [List.length_append, List.length_singleton]; omega
            · exact dep
    · intro m₁ H₁ s₃ hJ S₃
      obtain ⟨⟨fs, bs, ds, ss, n⟩, J⟩ := hJ
      obtain ⟨mnm, mba, mdu, mno, man, mst, W, few, len, dep⟩ := J
      simp only [List.length_append, List.length_cons, List.length_nil] at mno W few len dep
      have hn8 : n ≤ 900 := by omega
      have hs8 : ss.length ≤ 80 := by omega
      clear Se Sz Sy W0 few len
      have hst : H₁ lst = some (.list (stk fs)) := W.hst
      have hlb := W.hlb
      have hld := W.hld
      have hla := W.hla
      have sb := W.sb
      have sd := W.sd
      have hbl := sb.len
      have hdl := sd.len
      have hsk : (stk fs).length = fs.length := stk_len fs
      have hf1 : 1 ≤ fs.length := by
        cases fs with
        | nil => exact absurd rfl W.ne
        | cons f r => simp
      walk_at "my step"
      with_reducible refine' r_for_range c S₃ ?hfor3 ?p1 ?p2
      case p1 => rfl
      case p2 => exact fun _ => rfl
      repeat walk_at "my step"
      rename_i lr _ nlr Sr
      refine ⟨lr, ((stk fs).length : Int) - 1, -1, -1, _, _, _, fs.length, _, _, _, fun i m' H' => J6f lb ld la lst (pubOf (fs.drop i)) m' ∧ Sub H₁ H', rfl, Sr, put_same, small_down (by omega) (by omega) (by omega) (by omega), by rw [rangeSize_downNat, hsk]; omega, ?_, ?_, ?_⟩
      · exact ⟨⟨by walk_at "my look", by walk_at "my look", by rw [List.drop_zero]; walk_at "my look", by walk_at "my look", by walk_at "my look"⟩, Sub.refl.new nlr⟩
      · intro i ti m₂ H₂ own₂ s₄ hi hJ S₄
        obtain ⟨⟨mba, mdu, mno, man, mst⟩, hs2⟩ := hJ
        clear Sr S₃
        obtain ⟨f, r, hfr⟩ : ∃ f r, fs.drop i = f :: r := ⟨_, _, List.drop_eq_getElem_cons hi⟩
        obtain ⟨hg1, hrl, _⟩ := stk_get hfr
        have hnx := drop_next hfr
        rw [hfr] at mno
        have e0 : ((stk fs).length : Int) - 1 + (i : Int) * -1 = ((fs.length - 1 - i : Nat) : Int) := by rw [hsk]; omega
        rw [e0] at S₄
        have hch := W.ch.drop i
        rw [hfr] at hch
        generalize hkk : fs.length - 1 - i = kk at S₄ hg1 hrl e0
        obtain ⟨fS, fR, fP, ps, pvs, fe, fc, ts, tr, tc⟩ := f
        have ⟨o, o3⟩ : One H₁ lb ld ⟨fS, fR, fP, ps, pvs, fe, fc, ts, tr, tc⟩ (pubOf r) ∧ Ch H₁ lb ld r := by
          cases hch with
          | cons o o2 o3 => exact ⟨o, o3⟩
        have mno' : m₂ "now" = some (.ref fS) := mno
        clear mno
        have hsv : StrsAre pvs ps := o.sv
        have hgd : Good ps := o.gd
        have hsh : ps.length ≤ 6 := o.sh
        have hie : IsE fe := o.ie
        have hpl := hsv.len
        have hhe := hie.handed
        have hph : handedIn (pubOf r) = true := pub_handed
        have hg2 : (stk fs)[((kk : Nat) : Int).toNat]? = some (.ref fR) := by rw [Int.toNat_natCast]; exact hg1
        have hk0 : 0 ≤ (kk : Int) := by omega
        have hk1 : (kk : Int) < 2 ^ 63 := by omega
        walk_at "my step"
        with_reducible refine' r_for_range c S₄ ?hfor4 ?p3 ?p4
        case p3 => rfl
        case p4 => exact fun _ => rfl
        repeat walk_at "my step"
        rename_i lr2 _ _ _ nlr2 Sr2
        refine ⟨lr2, 0, 2, 1, _, _, _, 2, _, _, _, fun _ m' H' => J6f lb ld la lst (.ref fS) m' ∧ m' "k" = some (.int kk ti) ∧ Sub H₁ H', rfl, Sr2, put_same, (by decide), (by decide), ?_, ?_, ?_⟩
        · exact ⟨⟨by walk_at "my look", by walk_at "my look", by walk_at "my look", by walk_at "my look", by walk_at "my look"⟩, by walk_at "my look", hs2.new nlr2⟩
        · intro i2 ti2 m₃ H₃ own₃ s₅ _ hJ S₅
          obtain ⟨⟨mba, mdu, mno, man, mst⟩, mk, hs3⟩ := hJ
          clear Sr2 S₄
          have hS : H₃ fS = some (.src ⟨.str (path ps) ts, pubOf r, fe, .ref lb, .int fc tc⟩) := hs3 _ _ o.hs
          have hR : H₃ fR = some (.list [.ref fS, .ref fP, fe, .int fc tr]) := hs3 _ _ o.hr
          have hP : H₃ fP = some (.list pvs) := hs3 _ _ o.hp
          have hst3 := hs3 _ _ hst
          have hlb3 := hs3 _ _ hlb
          have hld3 := hs3 _ _ hld
          repeat (fail_if_success (with_reducible show wpAny _ _ (eval (Expr.ListComp _ _ _ _) _) _ _ _)); walk_at "my step"
          rename_i tl _ _ _ lt _ nlt _ _ _ _ _ Sc
          obtain ⟨Hc, ⟨hs4, hlt⟩, Sc'⟩ := Sc.name (P := fun H' => Sub H₃ H' ∧ H' lt = some (.list [.str (path ps) ts, fe, .int bs.length tl, .int fc tc])) ⟨by walk_at "my sub", put_same⟩
          have hP4 := hs4 _ _ hP
          have hR4 := hs4 _ _ hR
          have hst4 := hs4 _ _ hst3
          clear Sc
          with_reducible refine' r_comp c Sc' ?hcomp2 ?y11 ?y12 ?y13 ?y14 ?y15
          case y11 => rfl
          case y12 => decide
          case y13 => rfl
          case y14 => decide
          case y15 => exact fun _ => rfl
          repeat walk_at "my step"
          rename_i Sd
          refine ⟨fP, pvs, _, _, fun q ys H' => H' = del Hc fP ∧ StrsAre ys ((ps.take q).map fun p => sl ++ p), rfl, Sd, hP4, by omega, ⟨rfl, by simpa using StrsAre.nil⟩, fun q ys H' h => by have := h.2.len; simp at this; omega, ?_, ?_⟩
          · intro q v ys H' Cc ob mc own' s' hv hJ hO hC S'
            obtain ⟨rfl, hys⟩ := hJ
            obtain ⟨pt, tpt, rfl, hpt⟩ := hsv.get q v hv
            have hlen1 : pt.length = 1 := (hgd pt (List.mem_of_getElem? hpt)).2
            have hz : (Str.ofString "/").length + pt.length ≤ 100000 := by rw [one_sl]; omega
            clear Sd Sc' S₅
            repeat walk_at "my step"
            refine CompPut.mk' (by assumption) (by assumption) ⟨rfl, ?_⟩
            rw [List.take_succ, hpt, Option.toList_some, List.map_append]
            exact hys.append .one
          · intro D ys H' s' hJ e1 e2 e3 S'
            obtain ⟨rfl, hys⟩ := hJ
            obtain ⟨Hd, ⟨hs5, hD5⟩, S₇⟩ := S'.name (P := fun H' => Sub Hc H' ∧ H' D = some (.list ys)) ⟨SubX.back SubX.del1 hP4 e2 e3, put_same⟩
            clear S' Sd Sc' S₅
            rw [List.take_of_length_le (by omega)] at hys
            have hsum : ((ps.map fun p => sl ++ p).map (·.length)).sum + (ps.map fun p => sl ++ p).length * (Str.ofString "").length ≤ 16777216 := pathsum hgd hsh
            with_reducible refine' r_join S₇ hD5 hys hsum ?hj5
            rw [join_path]
            intro s₈ tj S₈
            clear S₇
            have hup : Sub H₃ Hd := hs4.trans hs5
            have hS5 := hup _ _ hS
            have hR5 := hup _ _ hR
            have hst5 := hup _ _ hst3
            have hld5 := hup _ _ hld3
            have hlt5 := hs5 _ _ hlt
            have hbd : bs.length = ds.length := by omega
            repeat (fail_if_success (with_reducible show wpAny _ _ (compareOp _ _ _) _ _ _)); walk_at "my step"
            rename_i _ tL _ _ _ _ _ _ _ ln2 _ nln2 Sn
            with_reducible refine' r_ne_lists (n := 3) c Sn ?r1 ?r2 ?r3 ?r4 ?r5
            case r1 => walk_at "my heap"
            case r2 => exact put_same
            case r3 => exact .cons Same.str (.cons Same.rfl' (.cons (by rw [hbd]; exact Same.int) (.cons Same.int .nil)))
            case r4 => decide
            repeat (fail_if_success (with_reducible show wpAny _ _ (eval (Expr.IfExp _ _ _ _) _) _ _ _)); walk_at "my step"
            rename_i Sp
            with_reducible refine' wp_value (pubOf r) Sp ?r6 ?r7
            case r6 =>
              cases r with
              | nil =>
                have hz : ((kk : Int) == 0) = true := by simp at hrl; rw [← hrl]; rfl
                repeat walk_at "my step"
                exact ⟨rfl, by assumption⟩
              | cons g r =>
                have hz : ((kk : Int) == 0) = false := by simp at hrl; rw [beq_eq_false_iff_ne]; omega
                obtain ⟨hg3, hrl3, _⟩ := stk_get hnx
                have hg4 : (stk fs)[((kk : Int) - 1).toNat]? = some (.ref g.r) := by rw [show ((kk : Int) - 1).toNat = fs.length - 1 - (i + 1) from by omega]; exact hg3
                have hk2 : 0 ≤ (kk : Int) - 1 := by simp at hrl; omega
                have hk3 : (kk : Int) - 1 < 2 ^ 63 := by omega
                have hgr : Hd g.r = some (.list [.ref g.s, .ref g.p, g.e, .int g.c g.tr]) := by
                  cases o3 with
                  | cons q1 q2 q3 => exact hup _ _ (hs3 _ _ q1.hr)
                repeat walk_at "my step"
                exact ⟨rfl, by assumption⟩
            intro s₉ S₉
            with_reducible refine' r_isnot_pub ?_
            clear Sp Sn S₈
            repeat walk_at "my step"
            exact TurnQ.mk' (by assumption) ⟨⟨by walk_at "my look", by walk_at "my look", by walk_at "my look", by walk_at "my look", by walk_at "my look"⟩, by walk_at "my look", hs3.trans (by walk_at "my sub")⟩
        · intro m₃ H₃ s₅ hJ S₅
          obtain ⟨⟨mba, mdu, mno, man, mst⟩, mk, hs3⟩ := hJ
          clear Sr2 S₄
          have hS : H₃ fS = some (.src ⟨.str (path ps) ts, pubOf r, fe, .ref lb, .int fc tc⟩) := hs3 _ _ o.hs
          repeat walk_at "my step"
          rw [← hnx] at *
          exact TurnQ.mk' (by assumption) ⟨⟨by walk_at "my look", by walk_at "my look", by walk_at "my look", by walk_at "my look", by walk_at "my look"⟩, hs3⟩
      · intro m₂ H₂ s₄ hJ S₄
        obtain ⟨⟨mba, mdu, mno, man, mst⟩, hs2⟩ := hJ
        have hlb2 := hs2 _ _ hlb
        have hld2 := hs2 _ _ hld
        have hla2 := hs2 _ _ hla
        clear Sr S₃
        repeat walk_at "my step"
        exact LawQ.mk' (by assumption) rfl)
end Mine

end
theorem PySem.Challenge.cw_dn0305_06_holds : PySem.Challenge.rw_dn0305_06.Holds :=
  Mine.law06
