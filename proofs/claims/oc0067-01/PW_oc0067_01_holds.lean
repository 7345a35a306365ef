import PyProof.Rows.All
import Wide.All
import OpenK.AllK
import Wide.FinOn
import PySem.Challenge.RW_oc0067_01
set_option Elab.async false

/-! text Om -/
section
namespace Mine
/-! small steps on numbers: each spares one of omega's long terms -/
theorem om1 {a j n c : Nat} (h : a + n < c) (e : j ≤ n) : a + j < c := Nat.lt_of_le_of_lt (Nat.add_le_add_left e a) h
theorem om0 {a n c : Nat} (h : a + n < c) : a < c := Nat.lt_of_le_of_lt (Nat.le_add_right a n) h
theorem om2 {a i j n c : Nat} (h : a + n < c) (e : i + j ≤ n) : a + i + j < c := by rw [Nat.add_assoc]; exact om1 h e
theorem om3 {a i j k n c : Nat} (h : a + n < c) (e : i + j + k ≤ n) : a + i + j + k < c := by rw [Nat.add_assoc a i j]; exact om2 h e
theorem om4 {a i j k l n c : Nat} (h : a + n < c) (e : i + j + k + l ≤ n) : a + i + j + k + l < c := by rw [Nat.add_assoc a i j]; exact om3 h e
theorem om1l {a j n c : Nat} (h : a ≤ n) (e : n + j ≤ c) : a + j ≤ c := Nat.le_trans (Nat.add_le_add_right h j) e
theorem om2l {a i j n c : Nat} (h : a ≤ n) (e : n + i + j ≤ c) : a + i + j ≤ c := om1l (Nat.add_le_add_right h i) e
theorem om1t {a j n c m : Nat} (h : a ≤ n) (hc : c = m) (e : n + j < m) : a + j < c := by rw [hc]; exact Nat.lt_of_le_of_lt (Nat.add_le_add_right h j) e
theorem om2t {a i j n c m : Nat} (h : a ≤ n) (hc : c = m) (e : n + i + j < m) : a + i + j < c := om1t (Nat.add_le_add_right h i) hc e
theorem om3t {a i j k n c m : Nat} (h : a ≤ n) (hc : c = m) (e : n + i + j + k < m) : a + i + j + k < c := om2t (Nat.add_le_add_right h i) hc e
theorem omL {a n c : Nat} (h : a ≤ n) (e : n ≤ c) : a ≤ c := Nat.le_trans h e
theorem omLt {a n c : Nat} (h : a < n) (e : n ≤ c) : a ≤ c := Nat.le_trans (Nat.le_of_lt h) e
theorem omE {a b n c : Nat} (q : a = b) (h : b ≤ n) (e : n ≤ c) : a ≤ c := by rw [q]; exact Nat.le_trans h e
theorem omE' {a b n c : Nat} (q : b = a) (h : b ≤ n) (e : n ≤ c) : a ≤ c := by rw [← q]; exact Nat.le_trans h e
theorem omI {i a b : Nat} (h : i < a) (q : b = a) : i < b := q ▸ h
theorem omI' {i a b : Nat} (h : i < a) (q : a = b) : i < b := q ▸ h
theorem omC {a n : Nat} {m : Int} (h : a ≤ n) (e : (n : Int) < m) : (a : Int) < m := Int.lt_of_le_of_lt (Int.ofNat_le.mpr h) e
theorem omCi {i a n : Nat} {m : Int} (h : i < a) (h2 : a ≤ n) (e : (n : Int) < m) : (i : Int) < m := omC (Nat.le_trans (Nat.le_of_lt h) h2) e
theorem omCe {i a b n : Nat} {m : Int} (h : i < a) (q : a = b) (h2 : b ≤ n) (e : (n : Int) < m) : (i : Int) < m := omCi h (q ▸ h2) e
theorem omQ {a b n : Nat} {m : Int} (q : a = b) (h2 : b ≤ n) (e : (n : Int) < m) : (a : Int) < m := omC (q ▸ h2) e
theorem omJ {j i : Nat} (h : j < i + 1) (n : ¬ j < i) : j = i := Nat.le_antisymm (Nat.le_of_lt_succ h) (Nat.le_of_not_lt n)
theorem omK {j i : Nat} (h : j < i + 1) (n : ¬ j = i) : j < i := Nat.lt_of_le_of_ne (Nat.le_of_lt_succ h) n
theorem omN {i n : Nat} (h : i ≤ n) (q : ¬ i < n) : i = n := Nat.le_antisymm h (Nat.le_of_not_lt q)
theorem omM {i n c : Nat} (h : i + 1 ≤ n) (e : n ≤ c) : i ≤ c := Nat.le_trans (Nat.le_of_succ_le h) e
theorem omS {i n c : Nat} (h : i < n) (e : n ≤ c) : i + 1 ≤ c := Nat.le_trans h e
theorem omT {a b : Nat} (h : a < b) : a ≤ b := Nat.le_of_lt h
theorem omU {a k b : Nat} (h : a + k ≤ b) : a ≤ b := Nat.le_trans (Nat.le_add_right a k) h
theorem omV {a b c : Nat} (h : a < b) (e : b ≤ c) : a < c := Nat.lt_of_lt_of_le h e
theorem omW {a b c : Nat} (h : a ≤ b) (e : b < c) : a < c := Nat.lt_of_le_of_lt h e
theorem omD {k i : Nat} (h : i < k) : k - (i + 1) < k - i := Nat.sub_succ_lt_self k i h
end Mine
end

/-! text Fw -/
section
open PySem PySem.W PyProof.Rows PySem.Calls PySem.Spec
set_option maxRecDepth 100000
namespace Mine
local macro_rules | `(tactic| omega) => `(tactic| with_reducible first
  | assumption
  | exact Nat.zero_le _
  | exact Int.natCast_nonneg _
  | exact om0 (by assumption)
  | exact om1 (by assumption) (by decide)
  | exact om2 (by assumption) (by decide)
  | exact om3 (by assumption) (by decide)
  | exact om4 (by assumption) (by decide)
  | exact omT (by assumption)
  | exact omI (by assumption) (by assumption)
  | exact omI' (by assumption) (by assumption)
  | exact omL (by assumption) (by first | assumption | decide)
  | exact omLt (by assumption) (by first | assumption | decide)
  | exact omS (by assumption) (by first | assumption | decide)
  | exact omV (by assumption) (by first | assumption | decide)
  | exact omW (by assumption) (by first | assumption | decide)
  | exact omE (by assumption) (by assumption) (by first | assumption | decide)
  | exact omE' (by assumption) (by assumption) (by first | assumption | decide)
  | exact om1l (by assumption) (by decide)
  | exact om2l (by assumption) (by decide)
  | exact om1t (by assumption) (by assumption) (by decide)
  | exact om2t (by assumption) (by assumption) (by decide)
  | exact om3t (by assumption) (by assumption) (by decide)
  | exact omC (by assumption) (by decide)
  | exact omCi (by assumption) (by assumption) (by decide)
  | exact omCe (by assumption) (by assumption) (by assumption) (by decide)
  | exact omQ (by assumption) (by assumption) (by decide)
  | exact omD (by assumption)
  | exact omJ (by assumption) (by assumption)
  | exact omK (by assumption) (by assumption)
  | exact omN (by assumption) (by assumption)
  | exact omU (by assumption))

noncomputable abbrev PM := Addr → Option Obj
noncomputable abbrev Mp := PySem.Str → Option Value
noncomputable abbrev fcls : Value := .type "frame"

/-- a dict's entries, by names and values alone -/
inductive Ents : List DictEntry → List (PySem.Str × Value) → Prop
  | nil : Ents [] []
  | cons {hs : Int} {tk : Tok} {k : PySem.Str} {v : Value} {es : List DictEntry} {kvs : List (PySem.Str × Value)} : Ents es kvs → Ents (⟨hs, .str k tk, v⟩ :: es) ((k, v) :: kvs)

/-- what stands at an address of the ledger -/
inductive Kd where
  | list (its : List Value)
  | liter (l : Addr) (i : Nat)
  | riter (x left st : Int)
  | cell (v : Option Value)
  | ns (m : Mp)
  | tab (ps : List Value)
  | is (o : Obj)
  | dct (kvs : List (PySem.Str × Value))

noncomputable def Kd.ok : Kd → Obj → Prop
  | .list its, o => o.cls = .type "list" ∧ o.dict = none ∧ ∃ n, o.data = .seq its.toArray n
  | .liter l i, o => o.cls = .type "list_iterator" ∧ o.data = .fields #[.ref l, .int i 0]
  | .riter x left st, o => o.cls = .type "range_iterator" ∧ o.data = .fields #[rawInt x, rawInt left, rawInt st]
  | .cell v, o => o.cls = .type "cell" ∧ o.data = .cell v
  | .ns m, o => o.cls = .type "dict" ∧ ∃ es ep, o.data = .dict es ep ∧ StrKeys es ∧ ∀ name, nsFind es name = m name
  | .tab ps, o => o = tabObj ps.toArray
  | .is o', o => o = o'
  | .dct kvs, o => o.cls = .type "dict" ∧ o.dict = none ∧ o.slots = #[] ∧ ∃ es ep, o.data = .dict es ep ∧ Ents es.toList kvs

structure Bs where
  X : List Addr
  P : PM
  h : Heap

/-- the heap against an earlier one: what is frozen stays, what stood stays but for frames' slots and for X -/
structure Ex (b : Bs) (P : PM) (h : Heap) : Prop where
  fz : ∀ c o, P c = some o → h.get? c = some o ∧ o.cls ≠ fcls
  sub : ∀ c o, b.P c = some o → P c = some o
  pnew : ∀ c, c < b.h.objs.size → P c = b.P c
  keep : ∀ c o, b.h.get? c = some o → c ∉ b.X → o.cls ≠ fcls → h.get? c = some o
  frm : ∀ c o, b.h.get? c = some o → o.cls = fcls → ∃ sl, h.get? c = some { o with slots := sl }
  size : b.h.objs.size ≤ h.objs.size
  frk : ∀ c o, b.h.get? c = some o → o.cls = fcls → c ∉ b.X → h.get? c = some o

structure Fm (b : Bs) (P : PM) (L : Addr) (h : Heap) (m : Mp) (N : List (Addr × Kd)) : Prop where
  ex : Ex b P h
  ns : h.Ns L m
  fr : ∃ o, h.get? L = some o ∧ o.cls = fcls
  led : ∀ p ∈ N, ∃ o, h.get? p.1 = some o ∧ o.cls ≠ fcls ∧ p.2.ok o
  off : ∀ p ∈ N, P p.1 = none
  nd : (N.map (·.1)).Nodup
  up : b.h.objs.size ≤ L ∧ ∀ p ∈ N, b.h.objs.size ≤ p.1 ∨ p.1 ∈ b.X

noncomputable def pset (P : PM) (a : Addr) (o : Obj) : PM := fun c => if c = a then some o else P c
noncomputable def mset (m : Mp) (x : PySem.Str) (v : Value) : Mp := fun y => if y = x then some v else m y

section
variable {M : Model} {A : Around} {E : Value → Shared → Prop} {s : Shared}

/-- a goal's continuation, hidden behind a name: what follows carries the name alone -/
noncomputable def Hid {α : Type} (Q K : α → Shared → Prop) : Prop := ∀ v s, Q v s → K v s
theorem Hid.to {α : Type} {Q K : α → Shared → Prop} {v : α} {s : Shared} (h : Hid Q K) (q : Q v s) : K v s := h v s q
theorem hideQ {α : Type} {c : Sem α} {Q : α → Shared → Prop} (h : ∀ K : α → Shared → Prop, Hid Q K → wpAny M A c K E s) : wpAny M A c Q E s := h Q fun _ _ q => q
theorem nsSetC {a : Addr} {m : Mp} {name : PySem.Str} {v : Value} {o : Obj} {Q : Unit → Shared → Prop} (hn : s.heap.Ns a m) (ho : s.heap.get? a = some o)
    (h : ∀ h' o', h'.Ns a (mset m name v) → Heap.SameBut a s.heap h' → h'.get? a = some o' → o'.cls = o.cls → Q () { s with heap := h', toks := s.toks + 1 }) :
    wpAny M A (nsSet a name v) Q E s := by
  obtain ⟨o₁, es, ep, ho₁, hd, hk, hm⟩ := id hn
  have : o₁ = o := Option.some.inj (ho₁.symm.trans ho)
  subst this
  have hcls : ∀ hs : Int, ∀ key : Value, (Obj.putName name hs key v o₁).cls = o₁.cls ∧ (Obj.putName name hs key v o₁).isFreed = false := by
    intro hs key
    obtain ⟨c, d, dt, sl⟩ := o₁
    dsimp only at hd
    subst hd
    rw [Obj.putName_eq]
    unfold Obj.putNameByArray
    cases hi : es.findIdx? (·.key.isStr name) <;> simp only [hi] <;> first | exact ⟨rfl, rfl⟩ | exact ⟨trivial, rfl⟩
  -- the known rule tells the names; the class is read off the update itself
  intro Γ p hΓ
  have key := Sem.wp_nsSet M Γ (fun e _ s' => E e s') p s hn name v
    (fun _ _ s' => ∃ h', s' = { s with heap := h', toks := s.toks + 1 } ∧ h'.Ns a (fun x => if x = name then some v else m x) ∧ Heap.SameBut a s.heap h')
    (fun h' h1 h2 => ⟨h', rfl, h1, h2⟩)
  simp only [nsSet, strHash, Sem.wp_bind', Sem.wp_cmd_ask, Sem.wp_pure', Sem.wp_cmd_mkText] at key ⊢
  rw [Sem.wp_loadPart_of M Γ _ p { s with toks := s.toks + 1 } (o := o₁) _ ho] at key ⊢
  have hany : es.any (·.refKey) = false := by
    rw [Array.any_eq_false']; intro e he; obtain ⟨n, t, h⟩ := hk e he; simp [DictEntry.refKey, h]
  simp only [hd, aRefKeyMayBeTheName_eq, aRefKeyMayBeTheNameByArray, hany, Bool.and_false, Bool.false_eq_true, if_false, Sem.wp_cmd_updatePart] at key ⊢
  obtain ⟨k1, h', e, h1, h2⟩ := key
  refine ⟨k1, ?_⟩
  have e' : s.heap.update a (Obj.putName name _ _ v) = h' := congrArg Shared.heap e
  rw [e]
  have g : h'.get? a = some (Obj.putName name (if name.cps.isEmpty = true then 0 else reduceHash (M.w.params.strHash name.cps)) (Value.str name s.toks) v o₁) := by
    rw [← e']
    exact Heap.get?_update_self _ ho (hcls _ _).2
  exact h h' _ h1 h2 g (hcls _ _).1
end

/-! the heap's steps -/
section
variable {b : Bs} {P : PM} {L : Addr} {h h' : Heap} {m m' : Mp} {N N' : List (Addr × Kd)}

theorem Ex.same (x : Ex b P h) {a : Addr} (hs : Heap.SameBut a h h') (hp : P a = none) (hup : b.h.objs.size ≤ a ∨ a ∈ b.X)
    (hfr : (∃ o, h.get? a = some o ∧ o.cls ≠ fcls) ∨ b.h.objs.size ≤ a) : Ex b P h' where
  fz := fun c o e => by
    have hc : c ≠ a := fun q => by rw [q, hp] at e; cases e
    exact ⟨(hs.2 c hc).trans (x.fz c o e).1, (x.fz c o e).2⟩
  sub := x.sub
  pnew := x.pnew
  keep := fun c o e hx hf => by
    have hc : c ≠ a := fun q => by
      subst q
      rcases hup with hu | hu
      · exact absurd (Heap.lt_size e) (Nat.not_lt.mpr hu)
      · exact hx hu
    exact (hs.2 c hc).trans (x.keep c o e hx hf)
  frm := fun c o e hf => by
    obtain ⟨sl, e'⟩ := x.frm c o e hf
    have hc : c ≠ a := fun q => by
      subst q
      rcases hfr with ⟨o', e'', hn⟩ | hu
      · rw [e'] at e''; cases e''; exact hn hf
      · exact absurd (Heap.lt_size e) (Nat.not_lt.mpr hu)
    exact ⟨sl, (hs.2 c hc).trans e'⟩
  size := Nat.le_trans x.size (Nat.le_of_eq hs.1.symm)
  frk := fun c o e hf hx => by
    have hc : c ≠ a := fun q => by
      subst q
      rcases hup with hu | hu
      · exact absurd (Heap.lt_size e) (Nat.not_lt.mpr hu)
      · exact hx hu
    exact (hs.2 c hc).trans (x.frk c o e hf hx)

theorem Ex.push (x : Ex b P h) (o : Obj) : Ex b P (h.push o) where
  fz := fun c o' e => ⟨Heap.get?_push_of_some _ (x.fz c o' e).1, (x.fz c o' e).2⟩
  sub := x.sub
  pnew := x.pnew
  keep := fun c o' e hx hf => Heap.get?_push_of_some _ (x.keep c o' e hx hf)
  frm := fun c o' e hf => let ⟨sl, e'⟩ := x.frm c o' e hf; ⟨sl, Heap.get?_push_of_some _ e'⟩
  size := Nat.le_trans x.size (by rw [Heap.size_push]; omega)
  frk := fun c o' e hf hx => Heap.get?_push_of_some _ (x.frk c o' e hf hx)

theorem Ex.freeze (x : Ex b P h) {a : Addr} {o : Obj} (ho : h.get? a = some o) (hc : o.cls ≠ fcls) (hp : P a = none) (hup : b.h.objs.size ≤ a) : Ex b (pset P a o) h where
  fz := fun c o' e => by
    unfold pset at e
    split at e
    · rename_i q; subst q; cases e; exact ⟨ho, hc⟩
    · exact x.fz c o' e
  sub := fun c o' e => by
    have e' := x.sub c o' e
    unfold pset
    rw [if_neg]
    · exact e'
    · intro q; rw [q, hp] at e'; cases e'
  pnew := fun c hl => by
    unfold pset
    have hne : c ≠ a := fun q => absurd hl (Nat.not_lt.mpr (q ▸ hup))
    rw [if_neg hne]
    exact x.pnew c hl
  keep := x.keep
  frm := x.frm
  size := x.size
  frk := x.frk

theorem pset_sub {a : Addr} {o : Obj} (hp : P a = none) : ∀ c o', P c = some o' → pset P a o c = some o' := fun c o' e => by
  unfold pset
  rw [if_neg]
  · exact e
  · intro q; rw [q, hp] at e; cases e

theorem Ex.start (X : List Addr) (hz : ∀ c o, P c = some o → h.get? c = some o ∧ o.cls ≠ fcls) : Ex ⟨X, P, h⟩ P h :=
  ⟨hz, fun _ _ e => e, fun _ _ => rfl, fun _ _ e _ _ => e, fun _ o e _ => ⟨o.slots, e⟩, Nat.le_refl _, fun _ _ e _ _ => e⟩

theorem Ex.keeps {P' : PM} {X : List Addr} (x : Ex b P h) (y : Ex ⟨X, P, h⟩ P' h') (hX : ∀ a ∈ X, b.h.objs.size ≤ a ∨ a ∈ b.X) : Ex b P' h' where
  fz := y.fz
  sub := fun c o e => y.sub c o (x.sub c o e)
  pnew := fun c hl => (y.pnew c (Nat.lt_of_lt_of_le hl x.size)).trans (x.pnew c hl)
  keep := fun c o e hx hf => y.keep c o (x.keep c o e hx hf) (fun q => (hX c q).elim (fun hu => absurd (Heap.lt_size e) (Nat.not_lt.mpr hu)) hx) hf
  frm := fun c o e hf => by
    obtain ⟨sl, e'⟩ := x.frm c o e hf
    obtain ⟨sl', e''⟩ := y.frm c _ e' hf
    exact ⟨sl', e''⟩
  size := Nat.le_trans x.size y.size
  frk := fun c o e hf hx => y.frk c o (x.frk c o e hf hx) hf (fun q => (hX c q).elim (fun hu => absurd (Heap.lt_size e) (Nat.not_lt.mpr hu)) hx)

theorem Fm.lt (F : Fm b P L h m N) {p : Addr × Kd} (hp : p ∈ N) : p.1 < h.objs.size := let ⟨_, e, _⟩ := F.led p hp; Heap.lt_size e
theorem Fm.ne (F : Fm b P L h m N) {p : Addr × Kd} (hp : p ∈ N) : p.1 ≠ L := fun q => by
  obtain ⟨o, e, hn, _⟩ := F.led p hp
  obtain ⟨o', e', hf⟩ := F.fr
  rw [q, e'] at e; cases e; exact hn hf
theorem Fm.pL (F : Fm b P L h m N) : P L = none := by
  cases q : P L with
  | none => rfl
  | some o =>
    obtain ⟨e, hn⟩ := F.ex.fz L o q
    obtain ⟨o', e', hf⟩ := F.fr
    rw [e] at e'; cases e'; exact absurd hf hn

/-- a name is stored -/
theorem Fm.set {o' : Obj} (F : Fm b P L h m N) (hn : h'.Ns L m') (hs : Heap.SameBut L h h') (ho : h'.get? L = some o') (hc : o'.cls = fcls) : Fm b P L h' m' N where
  ex := F.ex.same hs F.pL (.inl F.up.1) (.inr F.up.1)
  ns := hn
  fr := ⟨o', ho, hc⟩
  led := fun p hp => let ⟨o, e, r⟩ := F.led p hp; ⟨o, (hs.2 p.1 (F.ne hp)).trans e, r⟩
  off := F.off
  nd := F.nd
  up := F.up

/-- a new object onto the ledger -/
theorem Fm.push (F : Fm b P L h m N) {o : Obj} {k : Kd} (hk : k.ok o) (hc : o.cls ≠ fcls) (hf : o.isFreed = false) : Fm b P L (h.push o) m ((h.objs.size, k) :: N) where
  ex := F.ex.push o
  ns := F.ns.push o
  fr := let ⟨o', e, q⟩ := F.fr; ⟨o', Heap.get?_push_of_some _ e, q⟩
  led := fun p hp => by
    rcases List.mem_cons.mp hp with rfl | hp
    · exact ⟨o, Heap.get?_push_size _ hf, hc, hk⟩
    · obtain ⟨o', e, r⟩ := F.led p hp; exact ⟨o', Heap.get?_push_of_some _ e, r⟩
  off := fun p hp => by
    rcases List.mem_cons.mp hp with rfl | hp
    · show P h.objs.size = none
      cases q : P h.objs.size with
      | none => rfl
      | some o' => exact absurd (Heap.lt_size (F.ex.fz _ _ q).1) (Nat.lt_irrefl _)
    · exact F.off p hp
  nd := by
    rw [List.map_cons, List.nodup_cons]
    refine ⟨fun hm => ?_, F.nd⟩
    obtain ⟨p, hp, q⟩ := List.mem_map.mp hm
    exact absurd (F.lt hp) (by rw [q]; exact Nat.lt_irrefl _)
  up := ⟨F.up.1, fun p hp => by
    rcases List.mem_cons.mp hp with rfl | hp
    · exact .inl F.ex.size
    · exact F.up.2 p hp⟩

/-- a new object that is not kept on the ledger -/
theorem Fm.push0 (F : Fm b P L h m N) (o : Obj) : Fm b P L (h.push o) m N where
  ex := F.ex.push o
  ns := F.ns.push o
  fr := let ⟨o', e, q⟩ := F.fr; ⟨o', Heap.get?_push_of_some _ e, q⟩
  led := fun p hp => let ⟨o', e, r⟩ := F.led p hp; ⟨o', Heap.get?_push_of_some _ e, r⟩
  off := F.off
  nd := F.nd
  up := F.up

theorem Fm.drop (F : Fm b P L h m N) (hs : N'.Sublist N) : Fm b P L h m N' where
  ex := F.ex
  ns := F.ns
  fr := F.fr
  led := fun p hp => F.led p (hs.subset hp)
  off := fun p hp => F.off p (hs.subset hp)
  nd := F.nd.sublist (hs.map _)
  up := ⟨F.up.1, fun p hp => F.up.2 p (hs.subset hp)⟩

theorem Fm.perm (F : Fm b P L h m N) (hs : N'.Perm N) : Fm b P L h m N' where
  ex := F.ex
  ns := F.ns
  fr := F.fr
  led := fun p hp => F.led p (hs.subset hp)
  off := fun p hp => F.off p (hs.subset hp)
  nd := ((hs.map _).nodup_iff).mpr F.nd
  up := ⟨F.up.1, fun p hp => F.up.2 p (hs.subset hp)⟩

/-- one entry of the ledger turned -/
inductive Up (D : Addr) (k k' : Kd) : List (Addr × Kd) → List (Addr × Kd) → Prop
  | head {r} : Up D k k' ((D, k) :: r) ((D, k') :: r)
  | tail {p r r'} : Up D k k' r r' → Up D k k' (p :: r) (p :: r')
theorem Up.mem {D : Addr} {k k' : Kd} {N N' : List (Addr × Kd)} (u : Up D k k' N N') : (D, k) ∈ N := by
  induction u with
  | head => exact .head _
  | tail _ ih => exact .tail _ ih
theorem Up.map {D : Addr} {k k' : Kd} {N N' : List (Addr × Kd)} (u : Up D k k' N N') : N'.map (·.1) = N.map (·.1) := by
  induction u with
  | head => rfl
  | tail _ ih => simp only [List.map_cons, ih]
theorem Up.of {D : Addr} {k k' : Kd} {N N' : List (Addr × Kd)} (u : Up D k k' N N') : ∀ p ∈ N', p = (D, k') ∨ p ∈ N := by
  induction u with
  | head =>
    intro p hp
    rcases List.mem_cons.mp hp with rfl | hp
    · exact .inl rfl
    · exact .inr (.tail _ hp)
  | tail _ ih =>
    intro p hp
    rcases List.mem_cons.mp hp with rfl | hp
    · exact .inr (.head _)
    · exact (ih p hp).imp id (.tail _)
theorem Up.ne {D : Addr} {k k' : Kd} {N N' : List (Addr × Kd)} (u : Up D k k' N N') (nd : (N.map (·.1)).Nodup) : ∀ p ∈ N', p = (D, k') ∨ (p ∈ N ∧ p.1 ≠ D) := by
  induction u with
  | head =>
    rename_i r
    rw [List.map_cons, List.nodup_cons] at nd
    intro p hp
    rcases List.mem_cons.mp hp with rfl | hp
    · exact .inl rfl
    · exact .inr ⟨.tail _ hp, fun q => nd.1 (List.mem_map.mpr ⟨p, hp, q⟩)⟩
  | tail u ih =>
    rename_i q r r'
    rw [List.map_cons, List.nodup_cons] at nd
    intro p hp
    rcases List.mem_cons.mp hp with rfl | hp
    · exact .inr ⟨.head _, fun e => nd.1 (List.mem_map.mpr ⟨_, u.mem, e.symm⟩)⟩
    · exact (ih nd.2 p hp).imp id fun x => ⟨.tail _ x.1, x.2⟩

theorem Fm.upd (F : Fm b P L h m N) {D : Addr} {k k' : Kd} {o' : Obj} (u : Up D k k' N N') (hs : Heap.SameBut D h h') (ho : h'.get? D = some o') (hc : o'.cls ≠ fcls) (hk : k'.ok o') : Fm b P L h' m N' where
  ex := F.ex.same hs (F.off _ u.mem) (F.up.2 _ u.mem) (.inl (let ⟨o, e, r, _⟩ := F.led _ u.mem; ⟨o, e, r⟩))
  ns := F.ns.sameBut hs (Ne.symm (F.ne u.mem))
  fr := let ⟨o, e, q⟩ := F.fr; ⟨o, (hs.2 L (Ne.symm (F.ne u.mem))).trans e, q⟩
  led := fun p hp => by
    rcases u.ne F.nd p hp with rfl | ⟨hp, hne⟩
    · exact ⟨o', ho, hc, hk⟩
    · obtain ⟨o, e, r⟩ := F.led p hp; exact ⟨o, (hs.2 p.1 hne).trans e, r⟩
  off := fun p hp => by
    rcases u.of p hp with rfl | hp
    · exact F.off (D, k) u.mem
    · exact F.off p hp
  nd := by rw [u.map]; exact F.nd
  up := ⟨F.up.1, fun p hp => by
    rcases u.of p hp with rfl | hp
    · exact F.up.2 (D, k) u.mem
    · exact F.up.2 p hp⟩

/-- an entry that no step turns any more is frozen -/
theorem Fm.freeze {a : Addr} {k : Kd} (F : Fm b P L h m ((a, k) :: N)) (hup : b.h.objs.size ≤ a) {o : Obj} (ho : h.get? a = some o) : Fm b (pset P a o) L h m N := by
  have hp := F.off (a, k) (.head _)
  obtain ⟨o₁, e₁, hc, _⟩ := F.led (a, k) (.head _)
  have : o₁ = o := Option.some.inj (e₁.symm.trans ho)
  subst this
  have nd := F.nd
  rw [List.map_cons, List.nodup_cons] at nd
  refine ⟨F.ex.freeze ho hc hp hup, F.ns, F.fr, fun p hp => F.led p (.tail _ hp), fun p hp' => ?_, nd.2, F.up.1, fun p hp => F.up.2 p (.tail _ hp)⟩
  unfold pset
  rw [if_neg (fun q => nd.1 (List.mem_map.mpr ⟨p, hp', q⟩))]
  exact F.off p (.tail _ hp')

/-- an object of X that stands is taken onto the ledger -/
theorem Fm.take (F : Fm b P L h m N) {a : Addr} {o : Obj} {k : Kd} (ho : h.get? a = some o) (hc : o.cls ≠ fcls) (hk : k.ok o) (hp : P a = none) (hX : a ∈ b.X) (hn : a ∉ N.map (·.1)) : Fm b P L h m ((a, k) :: N) where
  ex := F.ex
  ns := F.ns
  fr := F.fr
  led := fun p hp' => by
    rcases List.mem_cons.mp hp' with rfl | hp'
    · exact ⟨o, ho, hc, hk⟩
    · exact F.led p hp'
  off := fun p hp' => by
    rcases List.mem_cons.mp hp' with rfl | hp'
    · exact hp
    · exact F.off p hp'
  nd := by rw [List.map_cons, List.nodup_cons]; exact ⟨hn, F.nd⟩
  up := ⟨F.up.1, fun p hp' => by
    rcases List.mem_cons.mp hp' with rfl | hp'
    · exact .inr hX
    · exact F.up.2 p hp'⟩

/-- a call that keeps the ledger -/
theorem Fm.call {P' : PM} {X : List Addr} (F : Fm b P L h m N) (y : Ex ⟨X, P, h⟩ P' h') (hX : ∀ a ∈ X, b.h.objs.size ≤ a ∨ a ∈ b.X) (hN : ∀ p ∈ N, p.1 ∉ X) : Fm b P' L h' m N where
  ex := F.ex.keeps y hX
  ns := by
    obtain ⟨o, es, ep, e, r⟩ := F.ns
    obtain ⟨o', e', hf⟩ := F.fr
    rw [e] at e'; cases e'
    obtain ⟨sl, e''⟩ := y.frm L o e hf
    exact ⟨_, es, ep, e'', r⟩
  fr := by
    obtain ⟨o, e, hf⟩ := F.fr
    obtain ⟨sl, e''⟩ := y.frm L o e hf
    exact ⟨_, e'', hf⟩
  led := fun p hp => let ⟨o, e, hc, r⟩ := F.led p hp; ⟨o, y.keep p.1 o e (hN p hp) hc, hc, r⟩
  off := fun p hp => (y.pnew p.1 (F.lt hp)).trans (F.off p hp)
  nd := F.nd
  up := F.up
end

end Mine
end

/-! text Fw2 -/
section
open PySem PySem.W PyProof.Rows PySem.Calls PySem.Spec
set_option maxRecDepth 100000
namespace Mine

noncomputable def NsP (P : PM) (a : Addr) (m : Mp) : Prop := ∃ o es ep, P a = some o ∧ o.data = .dict es ep ∧ StrKeys es ∧ ∀ name, nsFind es name = m name
noncomputable def CodeRecP (P : PM) (c : Addr) (q : PySem.Str) : Prop := ∃ o vs t, P c = some o ∧ o.data = .fields vs ∧ vs[1]? = some (.str q t)

theorem NsP.ns {P : PM} {a : Addr} {m : Mp} {h : Heap} (x : NsP P a m) (hz : ∀ c o, P c = some o → h.get? c = some o ∧ o.cls ≠ fcls) : h.Ns a m :=
  by obtain ⟨o, es, ep, e, r⟩ := x; exact ⟨o, es, ep, (hz _ _ e).1, r⟩
theorem NsP.mono {P P' : PM} {a : Addr} {m : Mp} (x : NsP P a m) (hs : ∀ c o, P c = some o → P' c = some o) : NsP P' a m :=
  by obtain ⟨o, es, ep, e, r⟩ := x; exact ⟨o, es, ep, hs _ _ e, r⟩
theorem CodeRecP.mono {P P' : PM} {c : Addr} {q : PySem.Str} (x : CodeRecP P c q) (hs : ∀ c o, P c = some o → P' c = some o) : CodeRecP P' c q :=
  by obtain ⟨o, vs, t, e, r⟩ := x; exact ⟨o, vs, t, hs _ _ e, r⟩

noncomputable def stm (i : Nat) : Stmt := (PySem.Challenge.pw_oc0067_01.main.body[i]?).getD (.Pass default)
noncomputable def nmOf : Stmt → PySem.Str
  | .FunctionDef name .. => name
  | _ => ""
noncomputable def paramsOf : Stmt → Arguments
  | .FunctionDef _ args .. => args
  | _ => default
noncomputable def bodyOf : Stmt → List Stmt
  | .FunctionDef _ _ body .. => body
  | _ => []
noncomputable def scopeOf : Stmt → Scope
  | .FunctionDef _ _ _ _ _ _ scope .. => scope
  | _ => default
noncomputable def fdOf (st : Stmt) (pm : Value) (c : Addr) : FuncData := docDef (nmOf st) (paramsOf st) (bodyOf st) (scopeOf st) pm (.ref c) .none

/-- a def of the text's own stands at a -/
noncomputable def FnP (P : PM) (i : Nat) (a c : Addr) : Prop := ∃ o pm, P a = some o ∧ o.data = .func (fdOf (stm i) pm c) ∧ CodeRecP P c (nmOf (stm i))
theorem FnP.mono {P P' : PM} {i : Nat} {a c : Addr} (x : FnP P i a c) (hs : ∀ c o, P c = some o → P' c = some o) : FnP P' i a c :=
  by obtain ⟨o, pm, e, r, q⟩ := x; exact ⟨o, pm, hs _ _ e, r, q.mono hs⟩

/-- the names of the text's top: its own, and those that it leaves to the built-ins -/
noncomputable def gtab : List (PySem.Str × Option Value) := [("Int2AP", some (.ref 21)), ("sorted_list_difference", some (.ref 28)), ("three_way_cmp", some (.ref 35)), ("cmp_to_key", some (.ref 42)), ("_initial_missing", some (.ref 43)),
  ("reduce", some (.ref 51)), ("_c3_merge", some (.ref 56)), ("_law_number", some (.ref 63)), ("_law_leaves", some (.ref 68)), ("_law_beginnings", some (.ref 75)), ("_law_rising", some (.ref 80)), ("_law_word", some (.ref 85)),
  ("_law_firsts", some (.ref 90)), ("_law_lasts", some (.ref 95)),
  ("__builtins__", some (.ref 4)), ("int", none), ("abs", none), ("divmod", none), ("IndexError", none), ("object", none), ("iter", none), ("list", none), ("sorted", none), ("range", none), ("len", none)]
noncomputable def btab : List (PySem.Str × Value) := [("int", .type "int"), ("abs", .builtin "abs"), ("divmod", .builtin "divmod"), ("IndexError", .type "IndexError"), ("object", .type "object"), ("iter", .builtin "iter"), ("list", .type "list"),
  ("sorted", .builtin "sorted"), ("range", .type "range"), ("len", .builtin "len"), ("__build_class__", .builtin "__build_class__")]
noncomputable def ftab : List (Nat × Addr × Addr) := [(1, 21, 20), (3, 28, 27), (4, 35, 34), (6, 42, 41), (9, 56, 55), (11, 63, 62), (12, 68, 67), (13, 75, 74), (14, 80, 79), (15, 85, 84), (16, 90, 89), (17, 95, 94)]

/-- a code object's head, frozen; its table lies apart -/
noncomputable def CodeHdP (P : PM) (c T : Addr) : Prop := ∃ o vs file tf flags tg inF text tt, P c = some o ∧ o.cls = .type "code" ∧ o.data = .fields vs ∧ vs[11]? = some (.ref T) ∧ vs.getD 11 .none = .ref T ∧ vs.getD 18 .none = .str file tf ∧
    vs.getD 7 .none = .int flags tg ∧ vs.getD 9 .none = .bool inF ∧ vs.getD 10 .none = .int text tt ∧ c ≠ T
theorem CodeHdP.mono {P P' : PM} {c T : Addr} (x : CodeHdP P c T) (hs : ∀ c o, P c = some o → P' c = some o) : CodeHdP P' c T :=
  by obtain ⟨o, vs, file, tf, flags, tg, inF, text, tt, e, r⟩ := x; exact ⟨o, vs, file, tf, flags, tg, inF, text, tt, hs _ _ e, r⟩
theorem CodeHdP.hd {P : PM} {c T : Addr} {h : Heap} (x : CodeHdP P c T) (hz : ∀ c o, P c = some o → h.get? c = some o ∧ o.cls ≠ fcls) : CodeHd h c T :=
  by obtain ⟨o, vs, file, tf, flags, tg, inF, text, tt, e, r⟩ := x; exact ⟨o, vs, file, tf, flags, tg, inF, text, tt, (hz _ _ e).1, r⟩

/-- what the text's top has laid, as far as the walks ask it -/
structure Sta (P : PM) : Prop where
  g : ∃ mg, NsP P mainGlobals mg ∧ (∀ x r, gtab.lookup x = some r → mg x = r) ∧ ∃ n t, mg "__name__" = some (.str n t)
  bm : ∃ o, P 4 = some o ∧ o.cls = .type "module" ∧ o.dict = some builtinsNs ∧ o.data = .plain
  cd : CodeHdP P 41 37 ∧ CodeHdP P 99 97
  b : ∃ mb, NsP P builtinsNs mb ∧ ∀ x v, btab.lookup x = some v → mb x = some v
  lim : ∃ mc, NsP P cStatics mc ∧ ∀ x, mc x = none
  fn : ∀ q ∈ ftab, FnP P q.1 q.2.1 q.2.2
theorem Sta.mono {P P' : PM} (x : Sta P) (hs : ∀ c o, P c = some o → P' c = some o) : Sta P' :=
  ⟨let ⟨mc, e, r⟩ := x.g; ⟨mc, e.mono hs, r⟩, let ⟨o, e, r⟩ := x.bm; ⟨o, hs _ _ e, r⟩, ⟨x.cd.1.mono hs, x.cd.2.mono hs⟩, let ⟨mc, e, r⟩ := x.b; ⟨mc, e.mono hs, r⟩, let ⟨mc, e, r⟩ := x.lim; ⟨mc, e.mono hs, r⟩, fun q hq => (x.fn q hq).mono hs⟩
theorem Sta.noLimit {P : PM} {h : Heap} (x : Sta P) (hz : ∀ c o, P c = some o → h.get? c = some o ∧ o.cls ≠ fcls) : h.NoLimit :=
  let ⟨mc, e, r⟩ := x.lim; ⟨mc, e.ns hz, r _⟩

section
variable {M : Model} {A : Around} {E : Value → Shared → Prop} {s : Shared} {env : Env} {b : Bs} {P : PM} {L : Addr} {m : Mp} {N N' : List (Addr × Kd)} {x : PySem.Str} {v : Value} {pos : Pos}

theorem ldL {Q : Value → Shared → Prop} (F : Fm b P L s.heap m N) (hv : m x = some v) (h : Q v s) (hL : env.locals = L) (hk : env.scope.kind = .function) (hl : env.kindOf x = some .local) :
    wpAny M A (loadName env x) Q E s := by subst hL; exact wpAny_loadName_local hk hl F.ns hv h
theorem nmL {Q : Value → Shared → Prop} (F : Fm b P L s.heap m N) (hv : m x = some v) (h : Q v s) (hL : env.locals = L := by rfl) (hk : env.scope.kind = .function := by rfl) (hl : env.kindOf x = some .local := by rfl)
    (hd : (x == ("__debug__" : PySem.Str)) = false := by decide) : wpAny M A (eval (.Name x pos) env) Q E s := wpAny_Name (ldL F hv h hL hk hl) hd

theorem stL {Q : Unit → Shared → Prop} (F : Fm b P L s.heap m N) (h : ∀ h' tk, Fm b P L h' (mset m x v) N → Q () ⟨h', s.gens, s.drawn, tk, s.os⟩)
    (hL : env.locals = L := by rfl) (hk : env.scope.kind = .function := by rfl) (hl : env.kindOf x = some .local := by rfl) : wpAny M A (storeName env x v) Q E s := by
  subst hL
  rw [storeName_local hl (by rw [hk]; rfl)]
  obtain ⟨o, ho, hc⟩ := F.fr
  exact nsSetC F.ns ho fun h' o' h1 h2 h3 h4 => h h' _ (F.set h1 h2 h3 (h4.trans hc))

theorem Fm.cell (F : Fm b P L s.heap m N) {c : Addr} {u : Option Value} (hm : (c, Kd.cell u) ∈ N) : s.heap.IsCell c u := let ⟨o, e, _, _, hd⟩ := F.led _ hm; ⟨o, e, hd⟩

theorem nmC {Q : Value → Shared → Prop} {c : Addr} (F : Fm b P L s.heap m N) (hc : env.cells.lookup x = some c) (hm : (c, Kd.cell (some v)) ∈ N) (h : Q v s)
    (hk : env.scope.kind = .function := by rfl) (hl : env.kindOf x = some .cell := by rfl)
    (hd : (x == ("__debug__" : PySem.Str)) = false := by decide) : wpAny M A (eval (.Name x pos) env) Q E s := wpAny_Name (wpAny_loadName_cell hk hl hc (F.cell hm) h) hd
theorem nmF {Q : Value → Shared → Prop} {c : Addr} (F : Fm b P L s.heap m N) (hc : env.cells.lookup x = some c) (hm : (c, Kd.cell (some v)) ∈ N) (h : Q v s)
    (hk : env.scope.kind = .function := by rfl) (hl : env.kindOf x = some .free := by rfl) (hn : (x == ("__classdict__" : PySem.Str)) = false := by decide)
    (hd : (x == ("__debug__" : PySem.Str)) = false := by decide) : wpAny M A (eval (.Name x pos) env) Q E s := wpAny_Name (wpAny_loadName_free hk hl hc (F.cell hm) h hn) hd

theorem stC {Q : Unit → Shared → Prop} {c : Addr} {u : Option Value} (F : Fm b P L s.heap m N) (hc : env.cells.lookup x = some c) (up : Up c (.cell u) (.cell (some v)) N N')
    (h : ∀ h', Fm b P L h' m N' → Q () ⟨h', s.gens, s.drawn, s.toks, s.os⟩)
    (hk : env.scope.kind = .function := by rfl) (hl : env.kindOf x = some .cell := by rfl) : wpAny M A (storeName env x v) Q E s := by
  obtain ⟨o, e, hf, hcl, hd⟩ := F.led _ up.mem
  unfold storeName
  simp only [hl, hk]
  refine wpAny_bind (wpAny_cellOf hc ?_)
  unfold cellSet
  refine wpAny_bind (wpAny_load e ?_)
  rw [hd]
  refine wpAny_update e (h _ (F.upd up (Heap.SameBut.update ..) (Heap.get?_update_self _ e rfl) hf ⟨hcl, rfl⟩))

/-- a global name: the text's own -/
theorem nmG {Q : Value → Shared → Prop} (F : Fm b P L s.heap m N) (S : Sta b.P) (hv : gtab.lookup x = some (some v)) (h : Q v s) (hg : env.globals = mainGlobals := by rfl)
    (hk : env.scope.kind = .function := by rfl) (hl : env.kindOf x = some .globalImplicit := by rfl)
    (hd : (x == ("__debug__" : PySem.Str)) = false := by decide) : wpAny M A (eval (.Name x pos) env) Q E s := by
  obtain ⟨mg, e, r⟩ := S.g
  exact Name_function_global hk hl (loadGlobal_global (by rw [hg]; exact (e.mono F.ex.sub).ns F.ex.fz) (r.1 _ _ hv) h) hd
/-- a global name: a built-in -/
theorem nmB {Q : Value → Shared → Prop} (F : Fm b P L s.heap m N) (S : Sta b.P) (hn : gtab.lookup x = some none) (hv : btab.lookup x = some v) (h : Q v s) (hg : env.globals = mainGlobals := by rfl) (hb : env.builtins = builtinsNs := by rfl)
    (hk : env.scope.kind = .function := by rfl) (hl : env.kindOf x = some .globalImplicit := by rfl)
    (hd : (x == ("__debug__" : PySem.Str)) = false := by decide) : wpAny M A (eval (.Name x pos) env) Q E s := by
  obtain ⟨mg, e, r⟩ := S.g
  obtain ⟨mb, e', r'⟩ := S.b
  exact Name_function_global hk hl (loadGlobal_builtin (by rw [hg]; exact (e.mono F.ex.sub).ns F.ex.fz) (r.1 _ _ hn) (by rw [hb]; exact (e'.mono F.ex.sub).ns F.ex.fz) (r' _ _ hv) h) hd
end

/-! entering a def -/
noncomputable def StoresWp (M : Model) (A : Around) (env : Env) (K : Shared → Prop) (E : Value → Shared → Prop) : List (PySem.Str × Value) → Shared → Prop
  | [], s => K s
  | (n, v) :: r, s => wpAny M A (storeName env n v) (fun _ s' => StoresWp M A env K E r s') E s

section
variable {M : Model} {A : Around} {E : Value → Shared → Prop} {s : Shared} {env : Env} {b : Bs} {P : PM} {L : Addr} {m : Mp} {N N' : List (Addr × Kd)}
theorem stores_forIn {K : Shared → Prop} {Q : PUnit → Shared → Prop} (hq : ∀ s, K s → Q ⟨⟩ s) : ∀ (binds : List (PySem.Str × Value)) (s : Shared), StoresWp M A env K E binds s →
    wpAny M A (forIn binds PUnit.unit fun (x : PySem.Str × Value) _ => do storeName env x.1 x.2; pure (ForInStep.yield PUnit.unit)) Q E s
  | [], s, h => by rw [List.forIn_nil]; exact wpAny_pure (hq s h)
  | (n, v) :: r, s, h => by
    rw [List.forIn_cons]
    exact wpAny_bind (wpAny_bind (wpAny_mono h (fun _ s' q => wpAny_pure (stores_forIn hq r s' q)) fun _ _ e => e))

theorem StoresWp.mono {K K' : Shared → Prop} {E' : Value → Shared → Prop} (hk : ∀ s, K s → K' s) (he : ∀ e s, E e s → E' e s) : ∀ (binds : List (PySem.Str × Value)) (s : Shared), StoresWp M A env K E binds s → StoresWp M A env K' E' binds s
  | [], s, h => hk s h
  | (_, _) :: r, _, h => wpAny_mono h (fun _ s' q => StoresWp.mono hk he r s' q) he

noncomputable def cellLed (n : Nat) : List (PySem.Str × NameKind) → List (Addr × Kd)
  | [] => []
  | (_, kind) :: r => if kind == .cell then (n, .cell none) :: cellLed (n + 1) r else cellLed n r

theorem Fm.pushCells : ∀ (names : List (PySem.Str × NameKind)) (h : Heap) (N : List (Addr × Kd)), Fm b P L h m N → ∃ N', N'.Perm (cellLed h.objs.size names ++ N) ∧ Fm b P L (PySem.pushCells h names) m N'
  | [], h, N, F => ⟨N, List.Perm.refl _, F⟩
  | (_, kind) :: r, h, N, F => by
    unfold PySem.pushCells cellLed
    split
    · obtain ⟨N', hp, F'⟩ := Fm.pushCells r _ _ (F.push (o := { cls := .type "cell", data := .cell none }) (k := .cell none) ⟨rfl, rfl⟩ (by decide) rfl)
      refine ⟨N', ?_, F'⟩
      rw [Heap.size_push] at hp
      exact hp.trans (List.perm_middle)
    · exact Fm.pushCells r h N F

theorem pushCells_keep : ∀ (names : List (PySem.Str × NameKind)) (h : Heap) (c : Addr) (o : Obj), h.get? c = some o → (PySem.pushCells h names).get? c = some o
  | [], _, _, _, e => e
  | (_, kind) :: r, h, c, o, e => by
    unfold PySem.pushCells
    split
    · exact pushCells_keep r _ c o (Heap.get?_push_of_some _ e)
    · exact pushCells_keep r h c o e
theorem enterEnv {scope : Scope} {globals : Addr} {closure : List (PySem.Str × Addr)} {binds : List (PySem.Str × Value)} {qual : PySem.Str} {func : Option Addr} {code : Value} {builtins : Addr} {X : List Addr} {Q : Env → Shared → Prop}
    (hz : ∀ c o, P c = some o → s.heap.get? c = some o ∧ o.cls ≠ fcls)
    (h : ∀ h₁, Fm ⟨X, P, s.heap⟩ P s.heap.objs.size h₁ (fun _ => none) (cellLed (s.heap.objs.size + 1) scope.names) → (∀ c o, s.heap.get? c = some o → h₁.get? c = some o) →
      StoresWp M A (newEnv scope s.heap.objs.size globals (cellsFrom (s.heap.objs.size + 1) scope.names closure) qual func code none builtins)
        (fun s' => Q (newEnv scope s.heap.objs.size globals (cellsFrom (s.heap.objs.size + 1) scope.names closure) qual func code none builtins) s') E binds { s with heap := h₁ }) :
    wpAny M A (newFunctionEnv scope globals closure binds qual func code none builtins) Q E s := by
  simp only [newFunctionEnv, Option.isSome_none, Bool.false_eq_true, if_false]
  refine wpAny_bind (wpAny_alloc ?_)
  refine wpAny_bind (wpAny_layCells _ (fun name kind cells => by cases hkc : kind == NameKind.cell <;> simp [hkc]) _ _ _ _ ?_)
  have F0 : Fm ⟨X, P, s.heap⟩ P s.heap.objs.size (s.heap.push { cls := .type "frame", data := .dict #[] }) (fun _ => none) [] :=
    ⟨(Ex.start X hz).push _, Heap.Ns.new s.heap (.type "frame"), ⟨_, Heap.get?_push_size _ rfl, rfl⟩, fun p hp => (nomatch hp), fun p hp => (nomatch hp), List.nodup_nil, Nat.le_refl _, fun p hp => (nomatch hp)⟩
  obtain ⟨N', hp, F1⟩ := F0.pushCells scope.names
  rw [List.append_nil, Heap.size_push] at hp
  have F2 := F1.perm hp.symm
  have h2 := h _ F2 fun c o e => pushCells_keep _ _ _ _ (Heap.get?_push_of_some _ e)
  rw [show ({ s with heap := s.heap.push { cls := .type "frame", data := .dict #[] } } : Shared).heap.objs.size = s.heap.objs.size + 1 from Heap.size_push ..]
  exact wpAny_bind (stores_forIn (K := fun s' => Q _ s') (fun s' q => wpAny_pure q) binds _ h2)
end

section
variable {prog : Program} {w : World} {A : Around} {s : Shared} {P : PM}

noncomputable def retOf : Flow → Value
  | .ret v => v
  | _ => .none

/-- a def of the text's own is entered: its names are still to be stored -/
theorem enter {R : Result → Shared → Prop} {X : List Addr} {a : Addr} {o : Obj} {fd : FuncData} {body : List Stmt} {args : List Value} {binds : List (PySem.Str × Value)}
    (hz : ∀ c o, P c = some o → s.heap.get? c = some o ∧ o.cls ≠ fcls) (hroom : A.depth < recursionLimit) (ho : s.heap.get? a = some o) (hd : o.data = .func fd) (hcd : s.heap.CodeRec fd.code fd.qualname)
    (hbody : fd.body = .stmts body)
    (hbind : ∀ (Q : List (PySem.Str × Value) → Shared → Prop) (E : Value → Shared → Prop), Q binds s → wpAny (model prog w) A.in1 (bindArgs fd ⟨args, []⟩) Q E s)
    (h : ∀ h₁, Fm ⟨X, P, s.heap⟩ P s.heap.objs.size h₁ (fun _ => none) (cellLed (s.heap.objs.size + 1) fd.scope.names) → (∀ c o, s.heap.get? c = some o → h₁.get? c = some o) →
      StoresWp (model prog w) A.in1 (newEnv fd.scope s.heap.objs.size fd.globals (cellsFrom (s.heap.objs.size + 1) fd.scope.names fd.closure) (fd.qualname ++ ".<locals>.") (some a) fd.code none fd.builtins)
        (fun s' => s'.heap.NoLimit ∧ wpAny (model prog w) (A.deeper (newEnv fd.scope s.heap.objs.size fd.globals (cellsFrom (s.heap.objs.size + 1) fd.scope.names fd.closure) (fd.qualname ++ ".<locals>.") (some a) fd.code none fd.builtins))
          (execs body (newEnv fd.scope s.heap.objs.size fd.globals (cellsFrom (s.heap.objs.size + 1) fd.scope.names fd.closure) (fd.qualname ++ ".<locals>.") (some a) fd.code none fd.builtins))
          (fun f s'' => R (.ok (.ret (retOf f))) s'') (fun _ _ => False) s') (fun _ _ => False) binds { s with heap := h₁ })
    (hco : fd.scope.isCoroutine = false := by rfl) (hgen : fd.scope.isGenerator = false := by rfl) :
    codeAny (model prog w) A (.call (.ref a) ⟨args, []⟩) R s := by
  refine codeAny_call_function hroom ho hd hco hgen hbody hcd ?_
  refine hbind _ _ ?_
  refine enterEnv (X := X) hz fun h₁ F hk => StoresWp.mono (fun s' q => ⟨q.1, codeAny_func ?_⟩) (fun _ _ q => q.elim) binds _ (h h₁ F hk)
  refine wpAny_mono q.2 (fun f s'' r => ?_) fun _ _ q => q.elim
  cases f <;> exact r
end

/-- a call's contract: what it gives back over what it has frozen -/
noncomputable def Con (prog : Program) (w : World) (A : Around) (X : List Addr) (P : PM) (s : Shared) (f : Value) (vs : List Value) (Out : PM → Heap → Value → Prop) : Prop :=
  ∀ (Q E : Value → Shared → Prop), (∀ v h' tk P', Ex ⟨X, P, s.heap⟩ P' h' → Out P' h' v → Q v ⟨h', s.gens, s.drawn, tk, s.os⟩) → wpAny (model prog w) A (call f vs) Q E s

noncomputable abbrev envI (i : Nat) (L a c : Addr) : Env := envX (nmOf (stm i)) (scopeOf (stm i)) L a (.ref c) (cellsFrom (L + 1) (scopeOf (stm i)).names [])
noncomputable abbrev Fz (P : PM) (h : Heap) : Prop := ∀ c o, P c = some o → h.get? c = some o ∧ o.cls ≠ fcls

section
variable {prog : Program} {w : World} {A : Around} {s : Shared} {P : PM}
theorem enterI {R : Result → Shared → Prop} {X : List Addr} (i : Nat) {a c : Addr} {args : List Value}
    (hz : Fz P s.heap) (S : Sta P) (hf : (i, a, c) ∈ ftab) (hroom : A.depth < recursionLimit)
    (hbind : ∀ pm, bindArgs (fdOf (stm i) pm c) ⟨args, []⟩ = pure (((paramsOf (stm i)).args.map (·.arg)).zip args))
    (h : ∀ h₁, Fm ⟨X, P, s.heap⟩ P s.heap.objs.size h₁ (fun _ => none) (cellLed (s.heap.objs.size + 1) (scopeOf (stm i)).names) → (∀ c o, s.heap.get? c = some o → h₁.get? c = some o) →
      StoresWp (model prog w) A.in1 (envI i s.heap.objs.size a c)
        (fun s' => s'.heap.NoLimit ∧ wpAny (model prog w) (A.deeper (envI i s.heap.objs.size a c)) (execs (bodyOf (stm i)) (envI i s.heap.objs.size a c))
          (fun f s'' => R (.ok (.ret (retOf f))) s'') (fun _ _ => False) s') (fun _ _ => False) (((paramsOf (stm i)).args.map (·.arg)).zip args) { s with heap := h₁ })
    (hco : (scopeOf (stm i)).isCoroutine = false := by rfl) (hgen : (scopeOf (stm i)).isGenerator = false := by rfl) :
    codeAny (model prog w) A (.call (.ref a) ⟨args, []⟩) R s := by
  obtain ⟨o, pm, ho, hd, hc⟩ := S.fn _ hf
  obtain ⟨oc, vs, t, e1, e2, e3⟩ := hc
  refine enter (X := X) hz hroom (hz _ _ ho).1 hd ⟨c, oc, vs, t, rfl, (hz _ _ e1).1, e2, e3⟩ rfl (fun Q E q => ?_) h hco hgen
  rw [hbind pm]
  exact wpAny_pure q

/-- a def of the text's own is called: the look at what it is -/
theorem Fm.fnAt {b : Bs} {L : Addr} {h : Heap} {m : Mp} {N : List (Addr × Kd)} (F : Fm b P L h m N) (S : Sta b.P) {i : Nat} {a c : Addr} (hf : (i, a, c) ∈ ftab) : FnAt a h := by
  obtain ⟨o, pm, ho, hd, _⟩ := S.fn _ hf
  obtain ⟨oc, od, dt, sl⟩ := o
  dsimp only at hd
  subst hd
  exact ⟨oc, od, _, sl, (F.ex.fz _ _ (F.ex.sub _ _ ho)).1⟩
end
end Mine
end

/-! text Fn -/
section
open PySem PySem.W PyProof.Rows PySem.Calls PySem.Spec
set_option maxRecDepth 100000
namespace Mine

noncomputable def lawNum (x : Int) : Int :=
  let drawn := Int.fmod x 36
  let front := 16 * (1 + Int.fmod drawn 3) + Int.fmod (Int.fdiv drawn 3) 3
  if 27 ≤ drawn then front else 16 * front + Int.fdiv drawn 9

theorem intOut {i j : Int} {t : Tok} (h : i = j) : ∃ t', Value.int i t = Value.int j t' := ⟨t, h ▸ rfl⟩
local macro_rules | `(tactic| walk_at "eval Name") => `(tactic| refine nmL (by assumption) (by rfl) ?_)
local macro_rules | `(tactic| walk_at "storeName") => `(tactic| ((try dsimp only); refine stL (by assumption) ?_; intro _ _ _; dsimp only))
theorem c_number {prog : Program} {w : World} {A : Around} {s : Shared} {P : PM} (hz : Fz P s.heap) (S : Sta P) (hroom : A.depth < recursionLimit) (x : Int) (t : Tok) :
    Con prog w A [] P s (.ref 63) [.int x t] (fun P' _ v => P' = P ∧ ∃ t', v = .int (lawNum x) t') := by
  intro Q E hQ
  refine wpAny_call (enterI (X := []) (c := 62) 11 hz S (by decide) hroom (fun pm => rfl) fun h₁ F hk₁ => ?_)
  refine stL F fun h₂ tk F2 => ?_
  refine ⟨(S.mono F2.ex.sub).noLimit F2.ex.fz, ?_⟩
  clear F
  unfold bodyOf
  repeat' walk1
  all_goals dsimp only [retOf]
  all_goals (refine hQ _ _ _ _ (Fm.ex (by assumption)) ⟨rfl, intOut ?_⟩)
  · unfold lawNum; simp [*]
  · unfold lawNum; simp [*]
end Mine
end

/-! text Fw3 -/
section
open PySem PySem.W PyProof.Rows PySem.Calls PySem.Spec
set_option maxRecDepth 100000
namespace Mine
local macro_rules | `(tactic| omega) => `(tactic| with_reducible first
  | assumption
  | exact Nat.zero_le _
  | exact Int.natCast_nonneg _
  | exact om0 (by assumption)
  | exact om1 (by assumption) (by decide)
  | exact om2 (by assumption) (by decide)
  | exact om3 (by assumption) (by decide)
  | exact om4 (by assumption) (by decide)
  | exact omT (by assumption)
  | exact omI (by assumption) (by assumption)
  | exact omI' (by assumption) (by assumption)
  | exact omL (by assumption) (by first | assumption | decide)
  | exact omLt (by assumption) (by first | assumption | decide)
  | exact omS (by assumption) (by first | assumption | decide)
  | exact omV (by assumption) (by first | assumption | decide)
  | exact omW (by assumption) (by first | assumption | decide)
  | exact omE (by assumption) (by assumption) (by first | assumption | decide)
  | exact omE' (by assumption) (by assumption) (by first | assumption | decide)
  | exact om1l (by assumption) (by decide)
  | exact om2l (by assumption) (by decide)
  | exact om1t (by assumption) (by assumption) (by decide)
  | exact om2t (by assumption) (by assumption) (by decide)
  | exact om3t (by assumption) (by assumption) (by decide)
  | exact omC (by assumption) (by decide)
  | exact omCi (by assumption) (by assumption) (by decide)
  | exact omCe (by assumption) (by assumption) (by assumption) (by decide)
  | exact omQ (by assumption) (by assumption) (by decide)
  | exact omD (by assumption)
  | exact omJ (by assumption) (by assumption)
  | exact omK (by assumption) (by assumption)
  | exact omN (by assumption) (by assumption)
  | exact omU (by assumption))

theorem ty_ne (T : String) (h : (T == "frame") = false := by decide) : Value.type T ≠ fcls := fun e => by
  have : T = "frame" := by injection e
  subst this; revert h; decide
/-! lists -/
noncomputable def LP (P : PM) (a : Addr) (its : List Value) : Prop := ∃ o n, P a = some o ∧ o.cls = .type "list" ∧ o.data = .seq its.toArray n
theorem LP.mono {P P' : PM} {a : Addr} {its : List Value} (x : LP P a its) (hs : ∀ c o, P c = some o → P' c = some o) : LP P' a its := by obtain ⟨o, n, e, r⟩ := x; exact ⟨o, n, hs _ _ e, r⟩
inductive Lst (P : PM) (N : List (Addr × Kd)) (a : Addr) (its : List Value) : Prop
  | led : (a, Kd.list its) ∈ N → Lst P N a its
  | frz : LP P a its → Lst P N a its

inductive All2 {α β : Type} (R : α → β → Prop) : List α → List β → Prop
  | nil : All2 R [] []
  | cons {a b l r} : R a b → All2 R l r → All2 R (a :: l) (b :: r)
namespace All2
variable {α β : Type} {R R' : α → β → Prop}
theorem mono (h : ∀ a b, R a b → R' a b) : ∀ {l : List α} {r : List β}, All2 R l r → All2 R' l r
  | _, _, .nil => .nil
  | _, _, .cons x t => .cons (h _ _ x) (t.mono h)
theorem length : ∀ {l : List α} {r : List β}, All2 R l r → l.length = r.length
  | _, _, .nil => rfl
  | _, _, .cons _ t => by simp only [List.length_cons, t.length]
theorem get : ∀ {l : List α} {r : List β}, All2 R l r → ∀ {i : Nat} {a : α}, l[i]? = some a → ∃ b, r[i]? = some b ∧ R a b
  | _, _, .nil, _, _, h => by simp at h
  | _, _, .cons x _, 0, _, h => by simp at h; subst h; exact ⟨_, rfl, x⟩
  | _, _, .cons _ t, i + 1, _, h => by simpa using t.get (by simpa using h)
theorem get' : ∀ {l : List α} {r : List β}, All2 R l r → ∀ {i : Nat} {b : β}, r[i]? = some b → ∃ a, l[i]? = some a ∧ R a b
  | _, _, .nil, _, _, h => by simp at h
  | _, _, .cons x _, 0, _, h => by simp at h; subst h; exact ⟨_, rfl, x⟩
  | _, _, .cons _ t, i + 1, _, h => by simpa using t.get' (by simpa using h)
theorem append : ∀ {l l' : List α} {r r' : List β}, All2 R l r → All2 R l' r' → All2 R (l ++ l') (r ++ r')
  | _, _, _, _, .nil, y => y
  | _, _, _, _, .cons x t, y => .cons x (t.append y)
theorem snoc {l : List α} {r : List β} {a : α} {b : β} (x : All2 R l r) (y : R a b) : All2 R (l ++ [a]) (r ++ [b]) := x.append (.cons y .nil)
theorem take : ∀ {l : List α} {r : List β} (n : Nat), All2 R l r → All2 R (l.take n) (r.take n)
  | _, _, 0, _ => by simp; exact .nil
  | _, _, _ + 1, .nil => by simp; exact .nil
  | _, _, n + 1, .cons x t => by simpa using All2.cons x (t.take n)
theorem drop : ∀ {l : List α} {r : List β} (n : Nat), All2 R l r → All2 R (l.drop n) (r.drop n)
  | _, _, 0, x => by simpa using x
  | _, _, _ + 1, .nil => by simp; exact .nil
  | _, _, n + 1, .cons _ t => by simpa using t.drop n
theorem reverse : ∀ {l : List α} {r : List β}, All2 R l r → All2 R l.reverse r.reverse
  | _, _, .nil => by simp; exact .nil
  | _, _, .cons x t => by simpa using t.reverse.snoc x
end All2

/-- a word: a frozen list of ints -/
noncomputable def WP (P : PM) (v : Value) (u : List Int) : Prop := ∃ a vs, v = .ref a ∧ LP P a vs ∧ IntsAre vs u
/-- a row: a frozen list of words -/
noncomputable def RP (P : PM) (v : Value) (r : List (List Int)) : Prop := ∃ a vs, v = .ref a ∧ LP P a vs ∧ All2 (WP P) vs r
noncomputable def RRP (P : PM) (v : Value) (r : List (List (List Int))) : Prop := ∃ a vs, v = .ref a ∧ LP P a vs ∧ All2 (RP P) vs r
theorem WP.mono {P P' : PM} {v : Value} {u : List Int} (x : WP P v u) (hs : ∀ c o, P c = some o → P' c = some o) : WP P' v u := by obtain ⟨a, vs, e, l, r⟩ := x; exact ⟨a, vs, e, l.mono hs, r⟩
theorem RP.mono {P P' : PM} {v : Value} {u : List (List Int)} (x : RP P v u) (hs : ∀ c o, P c = some o → P' c = some o) : RP P' v u := by obtain ⟨a, vs, e, l, r⟩ := x; exact ⟨a, vs, e, l.mono hs, r.mono fun _ _ q => q.mono hs⟩
theorem RRP.mono {P P' : PM} {v : Value} {u : List (List (List Int))} (x : RRP P v u) (hs : ∀ c o, P c = some o → P' c = some o) : RRP P' v u := by obtain ⟨a, vs, e, l, r⟩ := x; exact ⟨a, vs, e, l.mono hs, r.mono fun _ _ q => q.mono hs⟩

section
variable {b : Bs} {P : PM} {L : Addr} {h h' : Heap} {m m' : Mp} {N N' : List (Addr × Kd)}

theorem Fm.lst (F : Fm b P L h m N) {a : Addr} {its : List Value} (x : Lst P N a its) : h.IsList a its.toArray := by
  cases x with
  | led hm => obtain ⟨o, e, _, hc, _, hd⟩ := F.led _ hm; exact ⟨o, e, hc, hd⟩
  | frz hp => obtain ⟨o, n, e, hc, hd⟩ := hp; exact ⟨o, (F.ex.fz _ _ e).1, hc, n, hd⟩
theorem Fm.ltLst (F : Fm b P L h m N) {a : Addr} {its : List Value} (x : Lst P N a its) : a < h.objs.size := let ⟨_, e, _⟩ := F.lst x; Heap.lt_size e

/-- all but one entry's object stand -/
theorem Fm.extBut {D : Addr} {k : Kd} (F : Fm b P L h m ((D, k) :: N)) (hx : Heap.ExtBut D h h') : Fm b P L h' m N := by
  have nd := F.nd
  rw [List.map_cons, List.nodup_cons] at nd
  have hD := F.off (D, k) (.head _)
  have hL : L ≠ D := Ne.symm (F.ne (.head _))
  have up := F.up.2 (D, k) (.head _)
  obtain ⟨oD, eD, cD, _⟩ := F.led (D, k) (.head _)
  obtain ⟨oL, eL, cL⟩ := F.fr
  refine ⟨⟨fun c o e => ?_, F.ex.sub, F.ex.pnew, fun c o e hxx hf => ?_, fun c o e hf => ?_, ?_, fun c o e hf hxx => ?_⟩, F.ns.extBut hx hL, ⟨oL, hx L oL hL eL, cL⟩, fun p hp => ?_, fun p hp => F.off p (.tail _ hp), nd.2, F.up.1, fun p hp => F.up.2 p (.tail _ hp)⟩
  · exact ⟨hx c o (fun q => by rw [q, hD] at e; cases e) (F.ex.fz c o e).1, (F.ex.fz c o e).2⟩
  · refine hx c o (fun q => ?_) (F.ex.keep c o e hxx hf)
    subst q
    rcases up with hu | hu
    · exact absurd (Heap.lt_size e) (Nat.not_lt.mpr hu)
    · exact hxx hu
  · obtain ⟨sl, e'⟩ := F.ex.frm c o e hf
    refine ⟨sl, hx c _ (fun q => ?_) e'⟩
    subst q
    rw [e'] at eD; cases eD; exact cD hf
  · exact Nat.le_trans F.up.1 (Nat.le_of_lt (Heap.lt_size (hx L oL hL eL)))
  · refine hx c o (fun q => ?_) (F.ex.frk c o e hf hxx)
    subst q
    rcases up with hu | hu
    · exact absurd (Heap.lt_size e) (Nat.not_lt.mpr hu)
    · exact hxx hu
  · obtain ⟨o, e, r⟩ := F.led p (.tail _ hp)
    exact ⟨o, hx p.1 o (fun q => nd.1 (List.mem_map.mpr ⟨p, hp, q⟩)) e, r⟩
end

theorem Fm.frzL {b : Bs} {P : PM} {L : Addr} {h : Heap} {m : Mp} {N : List (Addr × Kd)} {D : Addr} {its : List Value} (F : Fm b P L h m ((D, .list its) :: N)) (hX : D ∉ b.X) :
    ∃ P', Fm b P' L h m N ∧ LP P' D its ∧ ∀ c o, P c = some o → P' c = some o := by
  obtain ⟨o, e, hc, h1, h2, n, h3⟩ := F.led (D, .list its) (.head _)
  refine ⟨pset P D o, F.freeze ((F.up.2 _ (.head _)).elim id fun q => absurd q hX) e, ⟨o, n, ?_, h1, h3⟩, pset_sub (F.off (D, .list its) (.head _))⟩
  unfold pset; rw [if_pos rfl]

structure Same (s s' : Shared) : Prop where
  gens : s'.gens = s.gens
  drawn : s'.drawn = s.drawn
  os : s'.os = s.os
theorem Same.eq {s s' : Shared} (x : Same s s') : s' = ⟨s'.heap, s.gens, s.drawn, s'.toks, s.os⟩ := by
  obtain ⟨h, g, d, t, o⟩ := s'; obtain ⟨x1, x2, x3⟩ := x; dsimp only at *; subst x1 x2 x3; rfl

section
variable {prog : Program} {w : World} {A : Around} {E : Value → Shared → Prop} {s : Shared} {env : Env} {b : Bs} {P : PM} {L : Addr} {m : Mp} {N N' : List (Addr × Kd)}

theorem itL {l : Addr} {its : List Value} {Q : Value → Shared → Prop} (F : Fm b P L s.heap m N) (hl : Lst P N l its)
    (h : ∀ I h', Fm b P L h' m ((I, .liter l 0) :: N) → Q (.ref I) ⟨h', s.gens, s.drawn, s.toks, s.os⟩) : wpAny (model prog w) A (pyIter (.ref l)) Q E s :=
  wpAny_pyIter_list (F.lst hl) (h _ _ (F.push (o := { cls := .type "list_iterator", data := .fields #[.ref l, .int 0 0] }) (k := .liter l 0) ⟨rfl, rfl⟩ (ty_ne "list_iterator") rfl))

theorem nxL {l I : Addr} {i : Nat} {its : List Value} {v : Value} {Q : Option Value → Shared → Prop} (F : Fm b P L s.heap m ((I, .liter l i) :: N)) (hl : Lst P N l its) (hv : its[i]? = some v)
    (h : ∀ h', Fm b P L h' m ((I, .liter l (i + 1)) :: N) → Q (some v) ⟨h', s.gens, s.drawn, s.toks, s.os⟩) : wpAny (model prog w) A (pyNext (.ref I)) Q E s := by
  obtain ⟨o, e, hc, h1, h2⟩ := F.led (I, .liter l i) (.head _)
  have hl' : Lst P ((I, Kd.liter l i) :: N) l its := by cases hl with | led x => exact .led (.tail _ x) | frz x => exact .frz x
  refine wpAny_pyNext_list_item ⟨o, e, h1, h2⟩ (F.lst hl') (by simpa using hv) fun h' hi hs => ?_
  obtain ⟨o', e', h1', h2'⟩ := hi
  exact h h' (F.upd .head hs e' (by rw [h1']; decide) ⟨h1', h2'⟩)

theorem nxE {l I : Addr} {i : Nat} {its : List Value} {Q : Option Value → Shared → Prop} (hA : A.handled = none) (F : Fm b P L s.heap m ((I, .liter l i) :: N)) (hl : Lst P N l its) (hv : its.length ≤ i)
    (h : ∀ h', Fm b P L h' m N → Q none ⟨h', s.gens, s.drawn, s.toks, s.os⟩) : wpAny (model prog w) A (pyNext (.ref I)) Q E s := by
  obtain ⟨o, e, hc, h1, h2⟩ := F.led (I, .liter l i) (.head _)
  have hl' : Lst P ((I, Kd.liter l i) :: N) l its := by cases hl with | led x => exact .led (.tail _ x) | frz x => exact .frz x
  exact wpAny_pyNext_list_end hA ⟨o, e, h1, h2⟩ (F.lst hl') (by simpa using hv) fun h' hx => h h' (F.extBut hx)

/-- a for over a list: a word of each turn's number, the frozen, the names, the ledger -/
theorem forL {target : Expr} {body orelse : List Stmt} {l : Addr} {its : List Value} {Q : Flow → Shared → Prop} (J : Nat → PM → Mp → List (Addr × Kd) → Prop) (hA : A.handled = none)
    (F : Fm b P L s.heap m N) (hJ : ∀ i P m N, J i P m N → Lst P N l its) (start : J 0 P m N)
    (turn : ∀ i P m N I h tk v, its[i]? = some v → ∀ K : Flow → Shared → Prop, Hid (fun f s₃ => match f with
        | .next | .cont => Same s s₃ ∧ ∃ P' m' N', Fm b P' L s₃.heap m' ((I, .liter l (i + 1)) :: N') ∧ J (i + 1) P' m' N'
        | .brk => Q .next s₃
        | .ret v => Q (.ret v) s₃) K → J i P m N → Fm b P L h m ((I, .liter l (i + 1)) :: N) →
      wpAny (model prog w) A (assign target env v) (fun _ s₂ => wpAny (model prog w) A (execs body env) K (fun _ _ => False) s₂) (fun _ _ => False) ⟨h, s.gens, s.drawn, tk, s.os⟩)
    (fin : ∀ P m N h tk, J its.length P m N → Fm b P L h m N → wpAny (model prog w) A (execs orelse env) Q (fun _ _ => False) ⟨h, s.gens, s.drawn, tk, s.os⟩)
    (ht : ∀ it v, letOwnedTupleGo target it v = pure () := by intro _ _; rfl) :
    wpAny (model prog w) A (pyIter (.ref l)) (fun it s₂ => codeAny (model prog w) A (.forLoop target it body orelse env) (fun r s' => match r with | .ok f => Q f s' | .error e => cameBackBy (model prog w) A env E e s') s₂) E s := by
  refine itL F (hJ _ _ _ _ start) fun I h₁ F₁ => ?_
  refine codeAny_forLoop (fun n s' => Same s s' ∧ ∃ i P m N, n = its.length - i ∧ i ≤ its.length ∧ Fm b P L s'.heap m ((I, .liter l i) :: N) ∧ J i P m N) (fun n s' hI => ?_) (its.length - 0)
    ⟨⟨rfl, rfl, rfl⟩, 0, P, m, N, rfl, Nat.zero_le _, F₁, start⟩ (fun v => ht _ v)
  obtain ⟨hs, i, P', m', N', hn, hi, F', hj⟩ := hI
  rw [hs.eq]
  by_cases hlt : i < its.length
  · refine nxL F' (hJ _ _ _ _ hj) (List.getElem?_eq_getElem hlt) fun h₂ F₂ => ?_
    refine wpAny_mono (turn i P' m' N' I h₂ _ _ (List.getElem?_eq_getElem hlt) _ (fun _ _ q => q) hj F₂) (fun _ s₂ q => wpAny_mono q (fun f s₃ r => ?_) fun _ _ f => f.elim) fun _ _ f => f.elim
    cases f with
    | next => obtain ⟨r1, P3, m3, N3, r2, r3⟩ := r; exact ⟨its.length - (i + 1), by omega, r1, i + 1, P3, m3, N3, rfl, hlt, r2, r3⟩
    | cont => obtain ⟨r1, P3, m3, N3, r2, r3⟩ := r; exact ⟨its.length - (i + 1), by omega, r1, i + 1, P3, m3, N3, rfl, hlt, r2, r3⟩
    | brk => exact r
    | ret v => exact r
  · have : i = its.length := by omega
    subst this
    refine nxE hA F' (hJ _ _ _ _ hj) (Nat.le_refl _) fun h₂ F₂ => ?_
    exact wpAny_mono (fin P' m' N' h₂ _ hj F₂) (fun _ _ q => q) fun _ _ f => f.elim
end
end Mine
end

/-! text Fw4 -/
section
open PySem PySem.W PyProof.Rows PySem.Calls PySem.Spec
set_option maxRecDepth 100000
namespace Mine
local macro_rules | `(tactic| omega) => `(tactic| with_reducible first
  | assumption
  | exact Nat.zero_le _
  | exact Int.natCast_nonneg _
  | exact om0 (by assumption)
  | exact om1 (by assumption) (by decide)
  | exact om2 (by assumption) (by decide)
  | exact om3 (by assumption) (by decide)
  | exact om4 (by assumption) (by decide)
  | exact omT (by assumption)
  | exact omI (by assumption) (by assumption)
  | exact omI' (by assumption) (by assumption)
  | exact omL (by assumption) (by first | assumption | decide)
  | exact omLt (by assumption) (by first | assumption | decide)
  | exact omS (by assumption) (by first | assumption | decide)
  | exact omV (by assumption) (by first | assumption | decide)
  | exact omW (by assumption) (by first | assumption | decide)
  | exact omE (by assumption) (by assumption) (by first | assumption | decide)
  | exact omE' (by assumption) (by assumption) (by first | assumption | decide)
  | exact om1l (by assumption) (by decide)
  | exact om2l (by assumption) (by decide)
  | exact om1t (by assumption) (by assumption) (by decide)
  | exact om2t (by assumption) (by assumption) (by decide)
  | exact om3t (by assumption) (by assumption) (by decide)
  | exact omC (by assumption) (by decide)
  | exact omCi (by assumption) (by assumption) (by decide)
  | exact omCe (by assumption) (by assumption) (by assumption) (by decide)
  | exact omQ (by assumption) (by assumption) (by decide)
  | exact omD (by assumption)
  | exact omJ (by assumption) (by assumption)
  | exact omK (by assumption) (by assumption)
  | exact omN (by assumption) (by assumption)
  | exact omU (by assumption))

section
variable {M : Model} {A : Around} {E : Value → Shared → Prop} {s : Shared} {env : Env} {b : Bs} {P : PM} {L : Addr} {m mc : Mp} {N N' : List (Addr × Kd)} {x : PySem.Str} {v : Value} {pos : Pos} {C : Addr}

/-! the names of a comprehension: a dict on the ledger -/
theorem Fm.nsAt (F : Fm b P L s.heap m N) (hm : (C, Kd.ns mc) ∈ N) : s.heap.Ns C mc := let ⟨o, e, _, _, es, ep, r⟩ := F.led _ hm; ⟨o, es, ep, e, r⟩
theorem nmN {Q : Value → Shared → Prop} (F : Fm b P L s.heap m N) (hm : (C, Kd.ns mc) ∈ N) (hv : mc x = some v) (h : Q v s) (hL : env.locals = C := by rfl) (hk : env.scope.kind = .function := by rfl) (hl : env.kindOf x = some .local := by rfl)
    (hd : (x == ("__debug__" : PySem.Str)) = false := by decide) : wpAny M A (eval (.Name x pos) env) Q E s := by
  subst hL
  exact wpAny_Name (wpAny_loadName_local hk hl (F.nsAt hm) hv h) hd
theorem stN {Q : Unit → Shared → Prop} (F : Fm b P L s.heap m N) (u : Up C (.ns mc) (.ns (mset mc x v)) N N') (h : ∀ h' tk, Fm b P L h' m N' → Q () ⟨h', s.gens, s.drawn, tk, s.os⟩)
    (hL : env.locals = C := by rfl) (hk : env.scope.kind = .function := by rfl) (hl : env.kindOf x = some .local := by rfl) : wpAny M A (storeName env x v) Q E s := by
  subst hL
  obtain ⟨o, e, hf, hcl, es, ep, hd, r⟩ := F.led _ u.mem
  rw [storeName_local hl (by rw [hk]; rfl)]
  refine nsSetC ⟨o, es, ep, e, hd, r⟩ e fun h' o' h1 h2 h3 h4 => h h' _ (F.upd u h2 h3 (by rw [h4]; exact hf) ⟨h4.trans hcl, ?_⟩)
  obtain ⟨o'', es', ep', e', hd', r'⟩ := h1
  rw [e'] at h3; cases h3
  exact ⟨es', ep', hd', r'⟩
end

theorem noCells {names : List (PySem.Str × NameKind)} (h : ∀ x ∈ names, x.2 ≠ .cell) : (∀ hp, pushCells hp names = hp) ∧ ∀ n acc, cellsFrom n names acc = acc := by
  induction names with
  | nil => exact ⟨fun _ => rfl, fun _ _ => rfl⟩
  | cons p r ih =>
    obtain ⟨n, k⟩ := p
    have hk : (k == NameKind.cell) = false := by simpa using h (n, k) (.head _)
    have ih' := ih fun x hx => h x (.tail _ hx)
    refine ⟨fun hp => ?_, fun i acc => ?_⟩
    · unfold pushCells; rw [hk]; exact ih'.1 hp
    · unfold cellsFrom; rw [hk]; exact ih'.2 i acc

section
variable {prog : Program} {w : World} {A : Around} {E : Value → Shared → Prop} {s : Shared} {env : Env} {b : Bs} {P : PM} {L : Addr} {m : Mp} {N N' : List (Addr × Kd)}

theorem compEnv_ {scope : Scope} {cl : List (PySem.Str × Addr)} {Q : Env → Shared → Prop} (F : Fm b P L s.heap m N) (hcell : ∀ x ∈ scope.names, x.2 ≠ .cell)
    (h : ∀ C h', Fm b P L h' m ((C, .ns fun _ => none) :: N) → Q (newEnv scope C env.globals cl env.qual none .none (some env) builtinsNs) ⟨h', s.gens, s.drawn, s.toks, s.os⟩) :
    wpAny (model prog w) A (newFunctionEnv scope env.globals cl [] env.qual none .none (some env)) Q E s := by
  simp only [newFunctionEnv, Option.isSome_some, if_true]
  refine wpAny_bind (wpAny_alloc ?_)
  refine wpAny_bind (wpAny_layCells _ (fun name kind cells => by cases hkc : kind == NameKind.cell <;> simp [hkc]) _ _ _ _ ?_)
  rw [(noCells hcell).2, (noCells hcell).1]
  refine wpAny_bind ?_
  rw [List.forIn_nil]
  refine wpAny_pure (wpAny_pure ?_)
  refine h s.heap.objs.size _ (F.push (o := { cls := .type "dict", data := .dict #[] }) (k := .ns fun _ => none) ⟨rfl, #[], 0, rfl, ?_, fun _ => rfl⟩ (ty_ne "dict") rfl)
  intro e he; simp at he

theorem apL {D : Addr} {out : List Value} {y : Value} {Q : Value → Shared → Prop} (F : Fm b P L s.heap m N) (u : Up D (.list out) (.list (out ++ [y])) N N') (hsz : out.length ≤ sizeLine)
    (h : ∀ h', Fm b P L h' m N' → Q .none ⟨h', s.gens, s.drawn, s.toks, s.os⟩) : wpAny (model prog w) A (call (.builtin "list.append") [.ref D, y]) Q E s := by
  obtain ⟨o, e, hf, hc, hdn, n, hd⟩ := F.led _ u.mem
  refine list_append_plainL ⟨o, n, e, hc, hdn, hd⟩ (fun h' hl hs => ?_) (by simpa using hsz)
  obtain ⟨o', n', e', hc', hdn', hd'⟩ := hl
  exact h h' (F.upd u hs e' (by rw [hc']; exact ty_ne "list") ⟨hc', hdn', n', by rw [hd']; simp⟩)
theorem Fm.plain (F : Fm b P L s.heap m N) {D : Addr} {out : List Value} (hm : (D, Kd.list out) ∈ N) : PlainL s.heap D out.toArray := let ⟨o, e, _, hc, hdn, n, hd⟩ := F.led _ hm; ⟨o, n, e, hc, hdn, hd⟩
theorem nwL {vs : List Value} {Q : Value → Shared → Prop} (F : Fm b P L s.heap m N) (h : ∀ D h', Fm b P L h' m ((D, .list vs) :: N) → Q (.ref D) ⟨h', s.gens, s.drawn, s.toks, s.os⟩) (hsz : vs.length ≤ sizeLine) :
    wpAny (model prog w) A (newList vs) Q E s :=
  wpAny_newList (h _ _ (F.push (o := { cls := .type "list", data := .seq vs.toArray }) (k := .list vs) ⟨rfl, rfl, 0, rfl⟩ (ty_ne "list") rfl)) hsz
/-- xs.append(e), xs a name that holds a list of the ledger -/
theorem apN {x : PySem.Str} {px : Pos} {elt : Expr} {apos pos : Pos} {D : Addr} {its : List Value} {Q : Value → Shared → Prop} (F : Fm b P L s.heap m N) (hv : m x = some (.ref D)) (hm : (D, Kd.list its) ∈ N)
    (h : wpAny (model prog w) A (eval elt env) (fun y s₂ => wpAny (model prog w) A (call (.builtin "list.append") [.ref D, y]) Q E s₂) E s)
    (hL : env.locals = L := by rfl) (hk : env.scope.kind = .function := by rfl) (hl : env.kindOf x = some .local := by rfl) (hd : (x == ("__debug__" : PySem.Str)) = false := by decide)
    (hbase : attributeBase (.Name x px) "append" env (eval (.Name x px) env) = eval (.Name x px) env := by rfl)
    (hfew : ((backTo pos (starEach [elt] env)).all (fun x => !x.1) && (backToKw pos (keywordEach [] env)).all (fun x => x.1.isSome)
      && decide (([elt] : List Expr).length + ([] : List Keyword).length + (if ([] : List Keyword).isEmpty then 0 else 1) < 30)) = true := by rfl)
    (hline : (apos.endLine == pos.line) = true := by rfl)
    (htrees : backTo pos (starEach [elt] env) = [(false, eval elt env)] := by rfl) :
    wpAny (model prog w) A (eval (.Call (.Attribute (.Name x px) "append" apos) [elt] [] pos) env) Q E s :=
  wpAny_Call_append hbase hfew hline htrees (nmL F hv ⟨D, its.toArray, rfl, F.plain hm, h⟩ hL hk hl hd)

/-- the turns of a comprehension over a list -/
theorem compT {elt iter : Expr} {x : PySem.Str} {px pos : Pos} {ifs : List Expr} {scope : Scope} {cl : List (PySem.Str × Addr)} {l : Addr} {its : List Value} {RR : Value → Addr → Result → Shared → Prop}
    (J : Nat → PM → Mp → List (Addr × Kd) → List Value → Prop) (hA : A.handled = none) (F : Fm b P L s.heap m N) (hcell : ∀ x ∈ scope.names, x.2 ≠ .cell) (hkind : scope.kind = .function) (hx : (compEnvC scope cl 0 env).kindOf x = some .local)
    (hJ : ∀ i P m N out, J i P m N out → Lst P N l its ∧ out.length ≤ sizeLine) (start : J 0 P m N [])
    (turn : ∀ i P m N out C D I mc h tk v, its[i]? = some v → J i P m N out → Fm b P L h m ((C, .ns (mset mc x v)) :: (D, .list out) :: (I, .liter l (i + 1)) :: N) →
      wpAny (model prog w) A (forIn ifs true fun c r => if r = true then do let ok ← isTrue c (compEnvC scope cl C env) (eval c (compEnvC scope cl C env)); pure (ForInStep.yield ok) else pure (ForInStep.yield r)) (fun ok s₃ =>
        if ok = true then wpAny (model prog w) A (eval elt (compEnvC scope cl C env)) (fun y s₄ => Same s s₄ ∧ ∃ P' m' N' mc', Fm b P' L s₄.heap m' ((C, .ns mc') :: (D, .list out) :: (I, .liter l (i + 1)) :: N') ∧ J (i + 1) P' m' N' (out ++ [y])) (fun _ _ => False) s₃
        else Same s s₃ ∧ ∃ P' m' N' mc', Fm b P' L s₃.heap m' ((C, .ns mc') :: (D, .list out) :: (I, .liter l (i + 1)) :: N') ∧ J (i + 1) P' m' N' out) (fun _ _ => False) ⟨h, s.gens, s.drawn, tk, s.os⟩)
    (fin : ∀ P m N out C D mc h tk, J its.length P m N out → Fm b P L h m ((C, .ns mc) :: (D, .list out) :: N) → RR (.ref D) C (.ok .next) ⟨h, s.gens, s.drawn, tk, s.os⟩) :
    wpAny (model prog w) A (pyIter (.ref l)) (fun it s₂ => wpAny (model prog w) A (newList []) (fun acc s₃ => wpAny (model prog w) A (newFunctionEnv scope env.globals cl [] env.qual none .none (some env)) (fun cenv s₄ =>
      codeAny (model prog w) A (.compStart (.ListComp elt [⟨.Name x px, iter, ifs, 0⟩] scope pos) 0 it acc { cenv with scope := relabel scope env }) (RR acc cenv.locals) s₄) E s₃) E s₂) E s := by
  refine itL F (hJ _ _ _ _ _ start).1 fun I h₁ F₁ => ?_
  refine wpAny_newList ?_ (Nat.zero_le _)
  have F₂ := F₁.push (o := { cls := .type "list", data := .seq ([] : List Value).toArray }) (k := .list []) ⟨rfl, rfl, 0, rfl⟩ (ty_ne "list") rfl
  refine compEnv_ F₂ hcell fun C h₃ F₃ => ?_
  dsimp only [newEnv]
  generalize hD : h₁.objs.size = D at F₂ F₃ ⊢
  show codeAny _ _ (.compStart (.ListComp elt [⟨.Name x px, iter, ifs, 0⟩] scope pos) 0 (.ref I) (.ref D) (compEnvC scope cl C env)) (RR (.ref D) C) _
  have loop : ∀ I s', Same s s' → Fm b P L s'.heap m ((C, .ns fun _ => none) :: (D, .list []) :: (I, .liter l 0) :: N) → codeAny (model prog w) A (.compLoop (.ListComp elt [⟨.Name x px, iter, ifs, 0⟩] scope pos) 0 (.ref I) (.ref D) (compEnvC scope cl C env)) (RR (.ref D) C) s' := by
    intro I s' hs Fs
    refine codeAny_compLoop_tests (fun n s' => Same s s' ∧ ∃ i P m N out mc, n = its.length - i ∧ i ≤ its.length ∧ Fm b P L s'.heap m ((C, .ns mc) :: (D, .list out) :: (I, .liter l i) :: N) ∧ J i P m N out) (fun n s' hI => ?_) (its.length - 0)
      ⟨hs, 0, P, m, N, [], _, rfl, Nat.zero_le _, Fs, start⟩ (fun v => rfl)
    obtain ⟨hs, i, P', m', N', out, mc, hn, hi, F', hj⟩ := hI
    rw [hs.eq]
    have Fr : Fm b P' L s'.heap m' ((I, .liter l i) :: (C, .ns mc) :: (D, .list out) :: N') := F'.perm (by
      refine List.Perm.symm ?_
      exact (List.Perm.cons _ (List.Perm.swap _ _ _)).trans (List.Perm.swap _ _ _))
    have hl' : Lst P' ((C, Kd.ns mc) :: (D, Kd.list out) :: N') l its := by
      cases (hJ _ _ _ _ _ hj).1 with
      | led q => exact .led (.tail _ (.tail _ q))
      | frz q => exact .frz q
    by_cases hlt : i < its.length
    · refine nxL Fr hl' (List.getElem?_eq_getElem hlt) fun h₂ F₂ => ?_
      have F₂' : Fm b P' L h₂ m' ((C, .ns mc) :: (D, .list out) :: (I, .liter l (i + 1)) :: N') := F₂.perm ((List.Perm.cons _ (List.Perm.swap _ _ _)).trans (List.Perm.swap _ _ _))
      refine wpAny_assign_Name (stN F₂' .head (fun h₃ tk F₃ => ?_) rfl (by show (relabel scope env).kind = _; exact hkind) hx)
      refine wpAny_mono (turn i P' m' N' out C D I mc h₃ tk _ (List.getElem?_eq_getElem hlt) hj F₃) (fun ok s₃ q => ?_) fun _ _ f => f.elim
      by_cases hok : ok = true
      · rw [if_pos hok] at q ⊢
        refine wpAny_mono q (fun y s₄ r => ?_) fun _ _ f => f.elim
        obtain ⟨r1, P4, m4, N4, mc4, F4, j4⟩ := r
        refine apL F4 (.tail .head) (hJ _ _ _ _ _ hj).2 fun h₅ F₅ => ?_
        exact ⟨its.length - (i + 1), by omega, ⟨r1.gens, r1.drawn, r1.os⟩, i + 1, P4, m4, N4, _, mc4, rfl, hlt, F₅, j4⟩
      · rw [if_neg hok] at q ⊢
        obtain ⟨r1, P4, m4, N4, mc4, F4, j4⟩ := q
        exact ⟨its.length - (i + 1), by omega, r1, i + 1, P4, m4, N4, _, mc4, rfl, hlt, F4, j4⟩
    · have : i = its.length := by omega
      subst this
      refine nxE hA Fr hl' (Nat.le_refl _) fun h₂ F₂ => ?_
      exact fin P' m' N' out C D mc h₂ _ hj F₂
  refine codeAny_compStart_list (loop I _ ⟨rfl, rfl, rfl⟩ F₃) ?_
  obtain ⟨o, e, hc, h1, h2⟩ := F₃.led (I, .liter l 0) (.tail _ (.tail _ (.head _)))
  exact wpAny_pyIter_listiter ⟨o, e, h1, h2⟩ (loop I _ ⟨rfl, rfl, rfl⟩ F₃)

/-- a comprehension over a list, its value handed on -/
theorem compL {elt iter : Expr} {x : PySem.Str} {px pos : Pos} {ifs : List Expr} {scope : Scope} {cl : List (PySem.Str × Addr)} {l : Addr} {its : List Value} {Q : Value → Shared → Prop}
    (J : Nat → PM → Mp → List (Addr × Kd) → List Value → Prop) (hA : A.handled = none)
    (hi : wpAny (model prog w) A (eval iter env) (fun v s₁ => v = .ref l ∧ Same s s₁ ∧ ∃ P m N, Fm b P L s₁.heap m N ∧ J 0 P m N []) E s)
    (hJ : ∀ i P m N out, J i P m N out → Lst P N l its ∧ out.length ≤ sizeLine)
    (turn : ∀ i P m N out C D I mc h tk v, its[i]? = some v → ∀ K : Value → Shared → Prop, Hid (fun y s₄ => Same s s₄ ∧ ∃ P' m' N' mc', Fm b P' L s₄.heap m' ((C, .ns mc') :: (D, .list out) :: (I, .liter l (i + 1)) :: N') ∧ J (i + 1) P' m' N' (out ++ [y])) K → ∀ K0 : Unit → Shared → Prop, Hid (fun _ s₃ => Same s s₃ ∧ ∃ P' m' N' mc', Fm b P' L s₃.heap m' ((C, .ns mc') :: (D, .list out) :: (I, .liter l (i + 1)) :: N') ∧ J (i + 1) P' m' N' out) K0 → J i P m N out → Fm b P L h m ((C, .ns (mset mc x v)) :: (D, .list out) :: (I, .liter l (i + 1)) :: N) →
      wpAny (model prog w) A (forIn ifs true fun c r => if r = true then do let ok ← isTrue c (compEnvC scope cl C env) (eval c (compEnvC scope cl C env)); pure (ForInStep.yield ok) else pure (ForInStep.yield r)) (fun ok s₃ =>
        if ok = true then wpAny (model prog w) A (eval elt (compEnvC scope cl C env)) K (fun _ _ => False) s₃
        else K0 () s₃) (fun _ _ => False) ⟨h, s.gens, s.drawn, tk, s.os⟩)
    (fin : ∀ P m N out D h tk, J its.length P m N out → Fm b P L h m ((D, .list out) :: N) → Q (.ref D) ⟨h, s.gens, s.drawn, tk, s.os⟩)
    (hclos : closureFor scope env = pure cl := by rfl) (hcell : ∀ x ∈ scope.names, x.2 ≠ .cell := by decide) (hkind : scope.kind = .function := by rfl) (hx : (compEnvC scope cl 0 env).kindOf x = some .local := by rfl)
    (hnames : ∀ x ∈ scope.names, x.2 = .local → scope.names.lookup x.1 = some .local := by decide) (hs : ∀ x, foldedSetIterable iter env x = pure x := by intro _; rfl) :
    wpAny (model prog w) A (eval (.ListComp elt [⟨.Name x px, iter, ifs, 0⟩] scope pos) env) Q E s := by
  rw [eval_ListComp]
  refine wpAny_comprehension_free rfl hs hclos hkind hnames (wpAny_mono hi (fun v s₁ q => ?_) fun _ _ e => e)
  obtain ⟨rfl, q1, P, m, N, F, hj⟩ := q
  refine compT (RR := fun acc C => compPost (model prog w) A E none Q acc C) J hA F hcell hkind hx hJ hj (fun i P m N out C D I mc h tk v hv hj F => ?_) fun P m N out C D mc h tk hj F => ?_
  · rw [q1.gens, q1.drawn, q1.os]
    exact wpAny_mono (turn i P m N out C D I mc h tk v hv _ (fun _ _ q => q) _ (fun _ _ q => q) hj F) (fun ok s₃ r => by
      by_cases hok : ok = true
      · rw [if_pos hok] at r ⊢; exact wpAny_mono r (fun y s₄ r => ⟨⟨r.1.gens.trans q1.gens.symm, r.1.drawn.trans q1.drawn.symm, r.1.os.trans q1.os.symm⟩, r.2⟩) fun _ _ e => e
      · rw [if_neg hok] at r ⊢; exact ⟨⟨r.1.gens.trans q1.gens.symm, r.1.drawn.trans q1.drawn.symm, r.1.os.trans q1.os.symm⟩, r.2⟩) fun _ _ e => e
  · rw [q1.gens, q1.drawn, q1.os]
    exact ⟨mc, F.nsAt (.head _), fun h' hs' => fin P m N out D h' tk hj (F.extBut hs'.extBut)⟩

/-- a comprehension over a list, stored into a local name -/
theorem compS {elt iter : Expr} {x y : PySem.Str} {px py pos apos : Pos} {ifs : List Expr} {scope : Scope} {cl : List (PySem.Str × Addr)} {l : Addr} {its : List Value} {Q : Flow → Shared → Prop}
    (J : Nat → PM → Mp → List (Addr × Kd) → List Value → Prop) (hA : A.handled = none)
    (hi : wpAny (model prog w) A (eval iter env) (fun v s₁ => v = .ref l ∧ Same s s₁ ∧ ∃ P m N, Fm b P L s₁.heap m N ∧ J 0 P m N []) E s)
    (hJ : ∀ i P m N out, J i P m N out → Lst P N l its ∧ out.length ≤ sizeLine)
    (turn : ∀ i P m N out C D I mc h tk v, its[i]? = some v → ∀ K : Value → Shared → Prop, Hid (fun y s₄ => Same s s₄ ∧ ∃ P' m' N' mc', Fm b P' L s₄.heap m' ((C, .ns mc') :: (D, .list out) :: (I, .liter l (i + 1)) :: N') ∧ J (i + 1) P' m' N' (out ++ [y])) K → ∀ K0 : Unit → Shared → Prop, Hid (fun _ s₃ => Same s s₃ ∧ ∃ P' m' N' mc', Fm b P' L s₃.heap m' ((C, .ns mc') :: (D, .list out) :: (I, .liter l (i + 1)) :: N') ∧ J (i + 1) P' m' N' out) K0 → J i P m N out → Fm b P L h m ((C, .ns (mset mc x v)) :: (D, .list out) :: (I, .liter l (i + 1)) :: N) →
      wpAny (model prog w) A (forIn ifs true fun c r => if r = true then do let ok ← isTrue c (compEnvC scope cl C env) (eval c (compEnvC scope cl C env)); pure (ForInStep.yield ok) else pure (ForInStep.yield r)) (fun ok s₃ =>
        if ok = true then wpAny (model prog w) A (eval elt (compEnvC scope cl C env)) K (fun _ _ => False) s₃
        else K0 () s₃) (fun _ _ => False) ⟨h, s.gens, s.drawn, tk, s.os⟩)
    (fin : ∀ P m N out D h tk, J its.length P m N out → Fm b P L h (mset m y (.ref D)) ((D, .list out) :: N) → Q .next ⟨h, s.gens, s.drawn, tk, s.os⟩)
    (hclos : closureFor scope env = pure cl := by rfl) (hcell : ∀ x ∈ scope.names, x.2 ≠ .cell := by decide) (hkind : scope.kind = .function := by rfl) (hx : (compEnvC scope cl 0 env).kindOf x = some .local := by rfl)
    (hnames : ∀ x ∈ scope.names, x.2 = .local → scope.names.lookup x.1 = some .local := by decide) (hs : ∀ x, foldedSetIterable iter env x = pure x := by intro _; rfl)
    (hsw : swapsWith (.ListComp elt [⟨.Name x px, iter, ifs, 0⟩] scope pos) (some (.Name y py)) apos.line env = pure true := by rfl)
    (hL : env.locals = L := by rfl) (hk : env.scope.kind = .function := by rfl) (hl : env.kindOf y = some .local := by rfl) :
    wpAny (model prog w) A (exec (.Assign [.Name y py] (.ListComp elt [⟨.Name x px, iter, ifs, 0⟩] scope pos) apos) env) Q E s := by
  rw [exec_Assign_Name_used _ _ _ _ hsw]
  refine wpAny_bind (wpAny_standAt (wpAny_bind ?_))
  show wpAny _ _ (do let _ ← comprehension (.ListComp elt [⟨.Name x px, iter, ifs, 0⟩] scope pos) scope env iter.pos (newList []) false (eval iter env) (some (assign (.Name y py) env))) _ _ _
  refine wpAny_bind (wpAny_comprehension_free rfl hs hclos hkind hnames (wpAny_mono hi (fun v s₁ q => ?_) fun _ _ e => e))
  obtain ⟨rfl, q1, P, m, N, F, hj⟩ := q
  refine compT (RR := fun acc C => compPost (model prog w) A E (some (assign (.Name y py) env)) _ acc C) J hA F hcell hkind hx hJ hj (fun i P m N out C D I mc h tk v hv hj F => ?_) fun P m N out C D mc h tk hj F => ?_
  · rw [q1.gens, q1.drawn, q1.os]
    exact wpAny_mono (turn i P m N out C D I mc h tk v hv _ (fun _ _ q => q) _ (fun _ _ q => q) hj F) (fun ok s₃ r => by
      by_cases hok : ok = true
      · rw [if_pos hok] at r ⊢; exact wpAny_mono r (fun y s₄ r => ⟨⟨r.1.gens.trans q1.gens.symm, r.1.drawn.trans q1.drawn.symm, r.1.os.trans q1.os.symm⟩, r.2⟩) fun _ _ e => e
      · rw [if_neg hok] at r ⊢; exact ⟨⟨r.1.gens.trans q1.gens.symm, r.1.drawn.trans q1.drawn.symm, r.1.os.trans q1.os.symm⟩, r.2⟩) fun _ _ e => e
  · rw [q1.gens, q1.drawn, q1.os]
    show wpAny _ _ (assign (.Name y py) env (.ref D)) _ _ _
    refine wpAny_assign_Name (stL F (fun h₂ tk₂ F₂ => ?_) hL hk hl)
    exact ⟨mc, F₂.nsAt (.head _), fun h' hs' => wpAny_pure (wpAny_pure (fin P m N out D h' tk₂ hj (F₂.extBut hs'.extBut)))⟩
end
end Mine
end

/-! text Cmp -/
section
open PySem PySem.W PyProof.Rows PySem.Calls PySem.Spec
set_option maxRecDepth 100000
namespace Mine

/-- the order of words, letter by letter -/
noncomputable def wlt : List Int → List Int → Bool
  | [], [] => false
  | [], _ :: _ => true
  | _ :: _, [] => false
  | a :: x, b :: y => if a = b then wlt x y else decide (a < b)

theorem intsAt {vs : List Value} {ns : List Int} (h : IntsAre vs ns) : ∀ {i : Nat} {n : Int}, ns[i]? = some n → ∃ t, vs[i]? = some (.int n t) := by
  induction h with
  | nil => intro i n e; simp at e
  | cons k t r ih =>
    intro i n e
    cases i with
    | zero => simp at e; subst e; exact ⟨t, rfl⟩
    | succ i => simpa using ih (by simpa using e)
theorem intsLen {vs : List Value} {ns : List Int} (h : IntsAre vs ns) : vs.length = ns.length := by
  induction h with
  | nil => rfl
  | cons _ _ _ ih => simp [ih]

open AutoSeq1 (wpAny_loadPart')
open PySem.MeetsSeq PySem.MeetsSeq2 PySem.MeetsSeq3 PySem.SeqRoads2

theorem lt_loopAt (l c : Addr) (vs ws : List Value) (xs ys : List Int) (hv : IntsAre vs xs) (hw : IntsAre ws ys) (n n2 : Nat) (dd dd2 : Option Addr) (sl sl2 : Array (Option Value)) (k : Nat) :
    ∀ i : Nat, xs.length - i = k → i ≤ xs.length → i ≤ ys.length → Meets (Builtin.«list.__eq__.loop» ⟨[.ref l, .ref c, rawInt i, rawInt 0], []⟩)
      (fun A R s => s.heap.get? l = some { cls := .type "list", dict := dd, data := .seq vs.toArray n, slots := sl } ∧ s.heap.get? c = some { cls := .type "list", dict := dd2, data := .seq ws.toArray n2, slots := sl2 } ∧
        R (.ok (.ret (.bool (wlt (xs.drop i) (ys.drop i))))) s) := by
  induction k with
  | zero =>
    intro i hk h1 h2 prog w A R s h
    obtain ⟨hp, g, d, tk, os⟩ := s; obtain ⟨hl, hb, h⟩ := h
    wp_walk using wpAny_loadPart' hl, wpAny_loadPart' hb
    have lv := intsLen hv
    have lw := intsLen hw
    have hi1 : vs.toArray[((i : Nat) : Int).toNat]? = none := by simp; omega
    have hd : xs.drop i = [] := by simp; omega
    rw [hi1]
    rw [hd] at h
    wp_walk using wpAny_loadPart' hl, wpAny_loadPart' hb
    show R (.ok (.ret (.bool (decide (vs.toArray.size < ws.toArray.size))))) _
    have : wlt [] (ys.drop i) = decide (vs.toArray.size < ws.toArray.size) := by
      cases hy : ys.drop i with
      | nil =>
        have : ys.length ≤ i := by simpa using hy
        have e : vs.toArray.size = ws.toArray.size := by simp; omega
        rw [e]; simp [wlt]
      | cons q r =>
        have : i < ys.length := by
          apply Nat.lt_of_not_le
          intro q'
          have : ys.drop i = [] := by simpa using q'
          rw [this] at hy; cases hy
        simp [wlt]; omega
    rw [← this]; exact h
  | succ k ih =>
    intro i hk h1 h2 prog w A R s h
    obtain ⟨hp, g, d, tk, os⟩ := s; obtain ⟨hl, hb, h⟩ := h
    wp_walk using wpAny_loadPart' hl, wpAny_loadPart' hb
    have lv := intsLen hv
    have lw := intsLen hw
    have hlt : i < xs.length := by omega
    obtain ⟨t, e1⟩ := intsAt hv (List.getElem?_eq_getElem hlt)
    have hi1 : vs.toArray[((i : Nat) : Int).toNat]? = some (.int xs[i] t) := by simpa using e1
    have hd1 : xs.drop i = xs[i] :: xs.drop (i + 1) := List.drop_eq_getElem_cons hlt
    rw [hi1]
    by_cases hlt2 : i < ys.length
    · obtain ⟨u, e2⟩ := intsAt hw (List.getElem?_eq_getElem hlt2)
      have hi2 : ws.toArray[((i : Nat) : Int).toNat]? = some (.int ys[i] u) := by simpa using e2
      have hd2 : ys.drop i = ys[i] :: ys.drop (i + 1) := List.drop_eq_getElem_cons hlt2
      have hc : ((i : Int) + 1) = ((i + 1 : Nat) : Int) := by push_cast; rfl
      rw [hi2]
      rw [hd1, hd2] at h
      refine wpAny_bind (wpAny_eqBool_int ?_)
      by_cases he : xs[i] = ys[i]
      · rw [show (xs[i] == ys[i]) = true from by simpa using he]
        have hh : wlt (xs[i] :: xs.drop (i + 1)) (ys[i] :: ys.drop (i + 1)) = wlt (xs.drop (i + 1)) (ys.drop (i + 1)) := by simp [wlt, he]
        rw [hh] at h
        wp_walk
        rw [hc]
        exact ⟨plainId_quiet plain_eq_loop _, codeAny_builtin entry_eq_loop (by
          rw [Around.under_plainId plain_eq_loop _]
          exact ih (i + 1) (by omega) (by omega) (by omega) prog w A R _ ⟨hl, hb, h⟩)⟩
      · rw [show (xs[i] == ys[i]) = false from by simpa using he]
        have hh : wlt (xs[i] :: xs.drop (i + 1)) (ys[i] :: ys.drop (i + 1)) = decide (xs[i] < ys[i]) := by
          have he' : ¬ ys[i] = xs[i] := fun q => he q.symm
          simp [wlt, he, he']
        rw [hh] at h
        wp_walk using wpAny_loadPart' hl, wpAny_loadPart' hb
        rw [hi1, hi2]
        refine wpAny_bind ?_
        show wpAny _ _ (compareOp .Lt (.int xs[i] t) (.int ys[i] u)) _ _ _
        refine lt_int (wpAny_pure ?_)
        exact h
    · have hi2 : ws.toArray[((i : Nat) : Int).toNat]? = none := by simp; omega
      have hd2 : ys.drop i = [] := by simp; omega
      rw [hi2]
      rw [hd1, hd2] at h
      wp_walk using wpAny_loadPart' hl, wpAny_loadPart' hb
      show R (.ok (.ret (.bool (decide (vs.toArray.size < ws.toArray.size))))) _
      have : wlt (xs[i] :: xs.drop (i + 1)) [] = decide (vs.toArray.size < ws.toArray.size) := by
        simp [wlt]; omega
      rw [← this]; exact h

theorem gt_loopAt (l c : Addr) (vs ws : List Value) (xs ys : List Int) (hv : IntsAre vs xs) (hw : IntsAre ws ys) (n n2 : Nat) (dd dd2 : Option Addr) (sl sl2 : Array (Option Value)) (k : Nat) :
    ∀ i : Nat, xs.length - i = k → i ≤ xs.length → i ≤ ys.length → Meets (Builtin.«list.__eq__.loop» ⟨[.ref l, .ref c, rawInt i, rawInt 4], []⟩)
      (fun A R s => s.heap.get? l = some { cls := .type "list", dict := dd, data := .seq vs.toArray n, slots := sl } ∧ s.heap.get? c = some { cls := .type "list", dict := dd2, data := .seq ws.toArray n2, slots := sl2 } ∧
        R (.ok (.ret (.bool (wlt (ys.drop i) (xs.drop i))))) s) := by
  induction k with
  | zero =>
    intro i hk h1 h2 prog w A R s h
    obtain ⟨hp, g, d, tk, os⟩ := s; obtain ⟨hl, hb, h⟩ := h
    wp_walk using wpAny_loadPart' hl, wpAny_loadPart' hb
    have lv := intsLen hv
    have lw := intsLen hw
    have hi1 : vs.toArray[((i : Nat) : Int).toNat]? = none := by simp; omega
    have hd : xs.drop i = [] := by simp; omega
    rw [hi1]
    rw [hd] at h
    wp_walk using wpAny_loadPart' hl, wpAny_loadPart' hb
    show R (.ok (.ret (.bool (decide (vs.toArray.size > ws.toArray.size))))) _
    have : wlt (ys.drop i) [] = decide (vs.toArray.size > ws.toArray.size) := by
      cases hy : ys.drop i with
      | nil =>
        have : ys.length ≤ i := by simpa using hy
        have e : vs.toArray.size = ws.toArray.size := by simp; omega
        rw [e]; simp [wlt]
      | cons q r =>
        have : i < ys.length := by
          apply Nat.lt_of_not_le
          intro q'
          have : ys.drop i = [] := by simpa using q'
          rw [this] at hy; cases hy
        simp [wlt]; omega
    rw [← this]; exact h
  | succ k ih =>
    intro i hk h1 h2 prog w A R s h
    obtain ⟨hp, g, d, tk, os⟩ := s; obtain ⟨hl, hb, h⟩ := h
    wp_walk using wpAny_loadPart' hl, wpAny_loadPart' hb
    have lv := intsLen hv
    have lw := intsLen hw
    have hlt : i < xs.length := by omega
    obtain ⟨t, e1⟩ := intsAt hv (List.getElem?_eq_getElem hlt)
    have hi1 : vs.toArray[((i : Nat) : Int).toNat]? = some (.int xs[i] t) := by simpa using e1
    have hd1 : xs.drop i = xs[i] :: xs.drop (i + 1) := List.drop_eq_getElem_cons hlt
    rw [hi1]
    by_cases hlt2 : i < ys.length
    · obtain ⟨u, e2⟩ := intsAt hw (List.getElem?_eq_getElem hlt2)
      have hi2 : ws.toArray[((i : Nat) : Int).toNat]? = some (.int ys[i] u) := by simpa using e2
      have hd2 : ys.drop i = ys[i] :: ys.drop (i + 1) := List.drop_eq_getElem_cons hlt2
      have hc : ((i : Int) + 1) = ((i + 1 : Nat) : Int) := by push_cast; rfl
      rw [hi2]
      rw [hd1, hd2] at h
      refine wpAny_bind (wpAny_eqBool_int ?_)
      by_cases he : xs[i] = ys[i]
      · rw [show (xs[i] == ys[i]) = true from by simpa using he]
        have hh : wlt (ys[i] :: ys.drop (i + 1)) (xs[i] :: xs.drop (i + 1)) = wlt (ys.drop (i + 1)) (xs.drop (i + 1)) := by simp [wlt, he]
        rw [hh] at h
        wp_walk
        rw [hc]
        exact ⟨plainId_quiet plain_eq_loop _, codeAny_builtin entry_eq_loop (by
          rw [Around.under_plainId plain_eq_loop _]
          exact ih (i + 1) (by omega) (by omega) (by omega) prog w A R _ ⟨hl, hb, h⟩)⟩
      · rw [show (xs[i] == ys[i]) = false from by simpa using he]
        have hh : wlt (ys[i] :: ys.drop (i + 1)) (xs[i] :: xs.drop (i + 1)) = decide (xs[i] > ys[i]) := by
          have he' : ¬ ys[i] = xs[i] := fun q => he q.symm
          simp [wlt, he, he']
        rw [hh] at h
        wp_walk using wpAny_loadPart' hl, wpAny_loadPart' hb
        rw [hi1, hi2]
        refine wpAny_bind ?_
        show wpAny _ _ (compareOp .Gt (.int xs[i] t) (.int ys[i] u)) _ _ _
        refine gt_int (wpAny_pure ?_)
        exact h
    · have hi2 : ws.toArray[((i : Nat) : Int).toNat]? = none := by simp; omega
      have hd2 : ys.drop i = [] := by simp; omega
      rw [hi2]
      rw [hd1, hd2] at h
      wp_walk using wpAny_loadPart' hl, wpAny_loadPart' hb
      show R (.ok (.ret (.bool (decide (vs.toArray.size > ws.toArray.size))))) _
      have : wlt [] (xs[i] :: xs.drop (i + 1)) = decide (vs.toArray.size > ws.toArray.size) := by
        simp [wlt]; omega
      rw [← this]; exact h

theorem list_ltAt (l c : Addr) (vs ws : List Value) (xs ys : List Int) (hv : IntsAre vs xs) (hw : IntsAre ws ys) (n n2 : Nat) (dd dd2 : Option Addr) (sl sl2 : Array (Option Value)) :
    Meets (Builtin.«list.__lt__» ⟨[.ref l, .ref c], []⟩)
      (fun A R s => s.heap.get? l = some { cls := .type "list", dict := dd, data := .seq vs.toArray n, slots := sl } ∧ s.heap.get? c = some { cls := .type "list", dict := dd2, data := .seq ws.toArray n2, slots := sl2 } ∧
        R (.ok (.ret (.bool (wlt xs ys)))) s) := by
  intro prog w A R s h
  obtain ⟨hp, g, d, tk, os⟩ := s; obtain ⟨hl, hb, h⟩ := h
  have f3 := AutoSeq1.sub_list_list
  wp_walk using wpAny_loadPart' hl, wpAny_loadPart' hb
  exact ⟨plainId_quiet plain_eq_loop _, codeAny_builtin entry_eq_loop (by
    rw [Around.under_plainId plain_eq_loop _]
    exact lt_loopAt l c vs ws xs ys hv hw n n2 dd dd2 sl sl2 _ 0 rfl (Nat.zero_le _) (Nat.zero_le _) prog w A R _ ⟨hl, hb, by simpa using h⟩)⟩

theorem list_gtAt (l c : Addr) (vs ws : List Value) (xs ys : List Int) (hv : IntsAre vs xs) (hw : IntsAre ws ys) (n n2 : Nat) (dd dd2 : Option Addr) (sl sl2 : Array (Option Value)) :
    Meets (Builtin.«list.__gt__» ⟨[.ref l, .ref c], []⟩)
      (fun A R s => s.heap.get? l = some { cls := .type "list", dict := dd, data := .seq vs.toArray n, slots := sl } ∧ s.heap.get? c = some { cls := .type "list", dict := dd2, data := .seq ws.toArray n2, slots := sl2 } ∧
        R (.ok (.ret (.bool (wlt ys xs)))) s) := by
  intro prog w A R s h
  obtain ⟨hp, g, d, tk, os⟩ := s; obtain ⟨hl, hb, h⟩ := h
  have f3 := AutoSeq1.sub_list_list
  wp_walk using wpAny_loadPart' hl, wpAny_loadPart' hb
  exact ⟨plainId_quiet plain_eq_loop _, codeAny_builtin entry_eq_loop (by
    rw [Around.under_plainId plain_eq_loop _]
    exact gt_loopAt l c vs ws xs ys hv hw n n2 dd dd2 sl sl2 _ 0 rfl (Nat.zero_le _) (Nat.zero_le _) prog w A R _ ⟨hl, hb, by simpa using h⟩)⟩

section
variable {prog : Program} {w : World} {A : Around} {E : Value → Shared → Prop} {s : Shared}
theorem ltW {l c : Addr} {vs ws : List Value} {xs ys : List Int} {Q : Value → Shared → Prop} (hl : s.heap.IsList l vs.toArray) (hb : s.heap.IsList c ws.toArray) (hv : IntsAre vs xs) (hw : IntsAre ws ys) (hu : A.units < cLine)
    (h : Q (.bool (wlt xs ys)) s) : wpAny (model prog w) A (compareOp .Lt (.ref l) (.ref c)) Q E s := by
  obtain ⟨⟨cls, dd, data, sl⟩, ho, hc, n, hd⟩ := id hl
  obtain ⟨⟨cls2, dd2, data2, sl2⟩, ho2, hc2, n2, hd2⟩ := id hb
  simp only at hc hd hc2 hd2
  subst hc hd hc2 hd2
  exact richCompare_meets_room (op := .Lt) ⟨_, ho, rfl⟩ ⟨_, ho2, rfl⟩ F.slot_list_lt F.entry_list_lt (F.args_list_lt_2 _ _) (list_ltAt l c vs ws xs ys hv hw n n2 dd dd2 sl sl2)
    ⟨ho, ho2, show Value.bool (wlt xs ys) ≠ Value.notImplemented ∧ Q (.bool (wlt xs ys)) s from ⟨(fun x => nomatch x), h⟩⟩ hu
theorem gtW {l c : Addr} {vs ws : List Value} {xs ys : List Int} {Q : Value → Shared → Prop} (hl : s.heap.IsList l vs.toArray) (hb : s.heap.IsList c ws.toArray) (hv : IntsAre vs xs) (hw : IntsAre ws ys) (hu : A.units < cLine)
    (h : Q (.bool (wlt ys xs)) s) : wpAny (model prog w) A (compareOp .Gt (.ref l) (.ref c)) Q E s := by
  obtain ⟨⟨cls, dd, data, sl⟩, ho, hc, n, hd⟩ := id hl
  obtain ⟨⟨cls2, dd2, data2, sl2⟩, ho2, hc2, n2, hd2⟩ := id hb
  simp only at hc hd hc2 hd2
  subst hc hd hc2 hd2
  exact richCompare_meets_room (op := .Gt) ⟨_, ho, rfl⟩ ⟨_, ho2, rfl⟩ F.slot_list_gt F.entry_list_gt (F.args_list_gt_2 _ _) (list_gtAt l c vs ws xs ys hv hw n n2 dd dd2 sl sl2)
    ⟨ho, ho2, show Value.bool (wlt ys xs) ≠ Value.notImplemented ∧ Q (.bool (wlt ys xs)) s from ⟨(fun x => nomatch x), h⟩⟩ hu
end

/-! data of the law as the library reads it -/
noncomputable def wD (u : List Int) : PyData := .list (u.map .int)
noncomputable def rD (r : List (List Int)) : PyData := .list (r.map wD)
theorem eqv_w (u v : List Int) : PyData.eqv (wD u) (wD v) = decide (u = v) := by
  show PyData.eqvAll (u.map PyData.int) (v.map PyData.int) = _
  exact ked_eqvAll u v
theorem eqvAll_w : ∀ r t : List (List Int), PyData.eqvAll (r.map wD) (t.map wD) = decide (r = t)
  | [], [] => by simp [PyData.eqvAll]
  | [], _ :: _ => by simp [PyData.eqvAll]
  | _ :: _, [] => by simp [PyData.eqvAll]
  | a :: r, b :: t => by
    simp only [List.map_cons, PyData.eqvAll, eqv_w, eqvAll_w r t]
    by_cases h : a = b <;> by_cases h' : r = t <;> simp [h, h']
theorem eqv_r (r t : List (List Int)) : PyData.eqv (rD r) (rD t) = decide (r = t) := by
  show PyData.eqvAll (r.map wD) (t.map wD) = _
  exact eqvAll_w r t
theorem canLayInts : ∀ u : List Int, PyData.canLayAll0 (u.map PyData.int) = true := ke_canLayAll0
theorem canLay_w (u : List Int) : (wD u).canLay0 = true := by
  show PyData.canLay0 (.list (u.map .int)) = true
  simp [PyData.canLay0, ke_canLayAll0]
theorem canLayAll_w : ∀ r : List (List Int), PyData.canLayAll0 (r.map wD) = true
  | [] => rfl
  | a :: r => by simp [PyData.canLayAll0, canLay_w, canLayAll_w r]
theorem canLay_r (r : List (List Int)) : (rD r).canLay0 = true := by
  show PyData.canLay0 (.list (r.map wD)) = true
  simp [PyData.canLay0, canLayAll_w]
theorem depth_w (u : List Int) : (wD u).depth ≤ 2 := by
  show PyData.depth (.list (u.map .int)) ≤ 2
  simp [PyData.depth, ke_depthAll]
theorem depthAll_w : ∀ r : List (List Int), PyData.depthAll (r.map wD) ≤ 2
  | [] => by simp [PyData.depthAll]
  | a :: r => by
    have h1 := depth_w a
    have h2 := depthAll_w r
    simp only [List.map_cons, PyData.depthAll]
    omega
theorem depth_r (r : List (List Int)) : (rD r).depth ≤ 3 := by
  show PyData.depth (.list (r.map wD)) ≤ 3
  have := depthAll_w r
  simp only [PyData.depth]
  omega
theorem shaped_w (u : List Int) : SeqAt.shaped (wD u) = true := by
  have := depth_w u
  unfold SeqAt.shaped
  rw [canLay_w]
  simp; omega
theorem shaped_r (u : List (List Int)) : SeqAt.shaped (rD u) = true := by
  have := depth_r u
  unfold SeqAt.shaped
  rw [canLay_r]
  simp; omega
end Mine
end

/-! text Ord -/
section
namespace Mine
local macro_rules | `(tactic| omega) => `(tactic| with_reducible first
  | assumption
  | exact Nat.zero_le _
  | exact Int.natCast_nonneg _
  | exact om0 (by assumption)
  | exact om1 (by assumption) (by decide)
  | exact om2 (by assumption) (by decide)
  | exact om3 (by assumption) (by decide)
  | exact om4 (by assumption) (by decide)
  | exact omT (by assumption)
  | exact omI (by assumption) (by assumption)
  | exact omI' (by assumption) (by assumption)
  | exact omL (by assumption) (by first | assumption | decide)
  | exact omLt (by assumption) (by first | assumption | decide)
  | exact omS (by assumption) (by first | assumption | decide)
  | exact omV (by assumption) (by first | assumption | decide)
  | exact omW (by assumption) (by first | assumption | decide)
  | exact omE (by assumption) (by assumption) (by first | assumption | decide)
  | exact omE' (by assumption) (by assumption) (by first | assumption | decide)
  | exact om1l (by assumption) (by decide)
  | exact om2l (by assumption) (by decide)
  | exact om1t (by assumption) (by assumption) (by decide)
  | exact om2t (by assumption) (by assumption) (by decide)
  | exact om3t (by assumption) (by assumption) (by decide)
  | exact omC (by assumption) (by decide)
  | exact omCi (by assumption) (by assumption) (by decide)
  | exact omCe (by assumption) (by assumption) (by assumption) (by decide)
  | exact omQ (by assumption) (by assumption) (by decide)
  | exact omD (by assumption)
  | exact omJ (by assumption) (by assumption)
  | exact omK (by assumption) (by assumption)
  | exact omN (by assumption) (by assumption)
  | exact omU (by assumption))
theorem wlt_irrefl : ∀ u : List Int, wlt u u = false
  | [] => rfl
  | a :: u => by simp [wlt, wlt_irrefl u]
theorem wlt_asymm : ∀ {u v : List Int}, wlt u v = true → wlt v u = false
  | [], [], h => by simp [wlt] at h
  | [], _ :: _, _ => by simp [wlt]
  | _ :: _, [], h => by simp [wlt] at h
  | a :: u, b :: v, h => by
    unfold wlt at h ⊢
    by_cases e : a = b
    · subst e; simp at h ⊢; exact wlt_asymm h
    · rw [if_neg e] at h
      rw [if_neg (fun q => e q.symm)]
      simp at h ⊢; omega
theorem wlt_total : ∀ {u v : List Int}, wlt u v = false → wlt v u = false → u = v
  | [], [], _, _ => rfl
  | [], _ :: _, h, _ => by simp [wlt] at h
  | _ :: _, [], _, h => by simp [wlt] at h
  | a :: u, b :: v, h1, h2 => by
    unfold wlt at h1 h2
    by_cases e : a = b
    · subst e; simp at h1 h2; rw [wlt_total h1 h2]
    · rw [if_neg e] at h1
      rw [if_neg (fun q => e q.symm)] at h2
      simp at h1 h2; omega
theorem wlt_trans : ∀ {u v z : List Int}, wlt u v = true → wlt v z = true → wlt u z = true
  | [], _, [], _, h2 => by rename_i v _; cases v <;> simp [wlt] at h2
  | [], _, _ :: _, _, _ => by simp [wlt]
  | _ :: _, [], _, h1, _ => by simp [wlt] at h1
  | _ :: _, _ :: _, [], _, h2 => by simp [wlt] at h2
  | a :: u, b :: v, c :: z, h1, h2 => by
    unfold wlt at h1 h2 ⊢
    by_cases e1 : a = b <;> by_cases e2 : b = c
    · subst e1 e2; simp at h1 h2 ⊢; exact wlt_trans h1 h2
    · subst e1; rw [if_neg e2] at h2 ⊢; exact h2
    · subst e2; rw [if_neg e1] at h1 ⊢; exact h1
    · rw [if_neg e1] at h1
      rw [if_neg e2] at h2
      simp at h1 h2
      rw [if_neg (by omega)]
      simp; omega
/-- not greater -/
noncomputable def wle (u v : List Int) : Prop := wlt v u = false
theorem wle_refl (u : List Int) : wle u u := wlt_irrefl u
theorem wle_of_lt {u v : List Int} (h : wlt u v = true) : wle u v := wlt_asymm h
theorem wle_antisymm {u v : List Int} (h1 : wle u v) (h2 : wle v u) : u = v := wlt_total h2 h1
theorem wle_trans {u v z : List Int} (h1 : wle u v) (h2 : wle v z) : wle u z := by
  unfold wle at *
  cases h : wlt z u with
  | false => rfl
  | true =>
    exfalso
    cases q : wlt u v with
    | true =>
      have := wlt_trans h q
      rw [h2] at this; cases this
    | false =>
      have e := wlt_total q h1
      subst e
      rw [h2] at h; cases h
theorem wle_total (u v : List Int) : wle u v ∨ wle v u := by
  unfold wle
  cases h : wlt v u with
  | false => exact .inl rfl
  | true => exact .inr (wlt_asymm h)
end Mine
end

/-! text SortP -/
section
open PySem PySem.W PyProof.Rows
local macro_rules | `(tactic| omega) => `(tactic| lia)
namespace Mine
local macro_rules | `(tactic| omega) => `(tactic| with_reducible first
  | assumption
  | exact Nat.zero_le _
  | exact Int.natCast_nonneg _
  | exact om0 (by assumption)
  | exact om1 (by assumption) (by decide)
  | exact om2 (by assumption) (by decide)
  | exact om3 (by assumption) (by decide)
  | exact om4 (by assumption) (by decide)
  | exact omT (by assumption)
  | exact omI (by assumption) (by assumption)
  | exact omI' (by assumption) (by assumption)
  | exact omL (by assumption) (by first | assumption | decide)
  | exact omLt (by assumption) (by first | assumption | decide)
  | exact omS (by assumption) (by first | assumption | decide)
  | exact omV (by assumption) (by first | assumption | decide)
  | exact omW (by assumption) (by first | assumption | decide)
  | exact omE (by assumption) (by assumption) (by first | assumption | decide)
  | exact omE' (by assumption) (by assumption) (by first | assumption | decide)
  | exact om1l (by assumption) (by decide)
  | exact om2l (by assumption) (by decide)
  | exact om1t (by assumption) (by assumption) (by decide)
  | exact om2t (by assumption) (by assumption) (by decide)
  | exact om3t (by assumption) (by assumption) (by decide)
  | exact omC (by assumption) (by decide)
  | exact omCi (by assumption) (by assumption) (by decide)
  | exact omCe (by assumption) (by assumption) (by assumption) (by decide)
  | exact omQ (by assumption) (by assumption) (by decide)
  | exact omD (by assumption)
  | exact omJ (by assumption) (by assumption)
  | exact omK (by assumption) (by assumption)
  | exact omN (by assumption) (by assumption)
  | exact omU (by assumption))
section
variable (n : Nat) (key : Nat → List Int)
/-- the questions of a sort, answered by the keys -/
noncomputable def wpK {α : Type} : KasT α → (α → Prop) → Prop
  | .ret a, Q => Q a
  | .ask i j k, Q => i < n ∧ j < n ∧ wpK (k (wlt (key i) (key j))) Q
end
section
variable {n : Nat} {key : Nat → List Int} {α β : Type}
theorem wpK_bind {f : α → KasT β} {Q : β → Prop} : ∀ (t : KasT α), wpK n key t (fun a => wpK n key (f a) Q) → wpK n key (t.bind f) Q
  | .ret _, h => h
  | .ask _ _ _, h => ⟨h.1, h.2.1, wpK_bind _ h.2.2⟩
theorem wpK_mono {Q Q' : α → Prop} (hq : ∀ a, Q a → Q' a) : ∀ (t : KasT α), wpK n key t Q → wpK n key t Q'
  | .ret a, h => hq a h
  | .ask _ _ _, h => ⟨h.1, h.2.1, wpK_mono hq _ h.2.2⟩
theorem wpK_go {cmp : Nat → Nat → (Bool → Shared → Prop) → Shared → Prop} (I : Shared → Prop) (step : ∀ i j C s, i < n → j < n → I s → (∀ s', I s' → C (wlt (key i) (key j)) s') → cmp i j C s) {G : α → Prop} {Q : α → Shared → Prop} (hQ : ∀ a s, G a → I s → Q a s) :
    ∀ (t : KasT α) (s : Shared), wpK n key t G → I s → t.kasWp cmp Q s
  | .ret a, s, h, hi => hQ a s h hi
  | .ask i j k, s, h, hi => step i j _ s h.1 h.2.1 hi fun s' hi' => wpK_go I step hQ _ s' h.2.2 hi'
end

structure Gd (n : Nat) (p : Array Nat) : Prop where
  perm : p.toList.Perm (List.range n)
theorem Gd.size {n : Nat} {p : Array Nat} (g : Gd n p) : p.size = n := by have := g.perm.length_eq; simpa using this
theorem Gd.at {n : Nat} {p : Array Nat} (g : Gd n p) (h0 : 0 < n) (i : Nat) : p.getD i 0 < n := by
  by_cases h : i < p.size
  · have e : p.getD i 0 = p[i] := by simp [Array.getD, h]
    rw [e]
    have : p[i] ∈ List.range n := g.perm.subset (by simp)
    simpa using this
  · have e : p.getD i 0 = 0 := by simp [Array.getD, h]
    rw [e]; exact h0
theorem Gd.to {n : Nat} {p p' : Array Nat} (g : Gd n p) (h : p'.Perm p) : Gd n p' := ⟨(Array.perm_iff_toList_perm.mp h).trans g.perm⟩
section
variable {n : Nat} (key : Nat → List Int)
noncomputable def KW (p : Array Nat) (i : Nat) : List Int := key (p.getD i 0)
noncomputable def SoTo (p : Array Nat) (k : Nat) : Prop := ∀ i j, i ≤ j → j < k → wle (KW key p i) (KW key p j)
noncomputable def NoIn (p : Array Nat) (k : Nat) : Prop := ∀ i j, i ≤ j → j < k → wle (KW key p j) (KW key p i)
end
section
variable {n : Nat} {key : Nat → List Int} {p : Array Nat}
theorem KW_congr {q : Array Nat} {i j : Nat} (h : p[i]? = q[j]?) : KW key p i = KW key q j := by
  unfold KW
  rw [Array.getD_eq_getD_getElem?, Array.getD_eq_getD_getElem?, h]
theorem KW_mirror {i j : Nat} (hj : j ≤ p.size) (k : Nat) : KW key (kas_rev p i j) k = if i ≤ k ∧ k < j then KW key p (i + j - 1 - k) else KW key p k := by
  have e := getElem?_mirror_all (xs := p) (i := i) hj k
  unfold kas_rev
  by_cases h1 : i ≤ k ∧ k < j
  · rw [if_pos h1] at e ⊢; exact KW_congr e
  · rw [if_neg h1] at e ⊢; exact KW_congr e
theorem KW_mirror_eq {i j : Nat} (hj : j ≤ p.size) (heq : ∀ k, i ≤ k → k < j → KW key p k = KW key p (j - 1)) (k : Nat) : KW key (kas_rev p i j) k = KW key p k := by
  rw [KW_mirror hj]
  split
  · rename_i h; rw [heq k h.1 h.2, heq (i + j - 1 - k) (by omega) (by omega)]
  · rfl
theorem KW_bubble {src d : Nat} (hs : src < p.size) (hd : d ≤ src) (k : Nat) :
    KW key (bubble p src d) k = if k = src - d then KW key p src else if src - d < k ∧ k ≤ src then KW key p (k - 1) else KW key p k := by
  have e := getElem?_bubble hs d hd k
  by_cases h1 : k = src - d
  · rw [if_pos h1] at e ⊢; exact KW_congr e
  · rw [if_neg h1] at e ⊢
    by_cases h2 : src - d < k ∧ k ≤ src
    · rw [if_pos h2] at e ⊢; exact KW_congr e
    · rw [if_neg h2] at e ⊢; exact KW_congr e
theorem Gd.rev (g : Gd n p) (i j : Nat) : Gd n (kas_rev p i j) := g.to (mirror_perm _ _ _ _)

theorem SoTo.succ {k : Nat} (h : SoTo key p k) (h1 : 1 ≤ k) (hl : wle (KW key p (k - 1)) (KW key p k)) : SoTo key p (k + 1) := fun i j hij hj => by
  by_cases e : j = k
  · subst e
    by_cases e' : i = j
    · subst e'; exact wle_refl _
    · exact wle_trans (h i (j - 1) (by omega) (by omega)) hl
  · exact h i j hij (by omega)
theorem NoIn.succ {k : Nat} (h : NoIn key p k) (h1 : 1 ≤ k) (hl : wle (KW key p k) (KW key p (k - 1))) : NoIn key p (k + 1) := fun i j hij hj => by
  by_cases e : j = k
  · subst e
    by_cases e' : i = j
    · subst e'; exact wle_refl _
    · exact wle_trans hl (h i (j - 1) (by omega) (by omega))
  · exact h i j hij (by omega)
theorem SoTo.one : SoTo key p 1 := fun i j hij hj => by
  have : i = j := by omega
  subst this; exact wle_refl _

theorem wpK_asc (g : Gd n p) (h0 : 0 < n) : ∀ (f m : Nat), 1 ≤ m → SoTo key p m →
    wpK n key (kas_asc p f m) (fun r => m ≤ r ∧ r ≤ m + f ∧ SoTo key p r ∧ (r = m + f ∨ wlt (KW key p r) (KW key p (r - 1)) = true))
  | 0, m, _, hs => ⟨Nat.le_refl _, Nat.le_refl _, hs, .inl rfl⟩
  | f + 1, m, h1, hs => by
    refine ⟨g.at h0 _, g.at h0 _, ?_⟩
    show wpK n key (if wlt (KW key p m) (KW key p (m - 1)) = true then _ else _) _
    cases hq : wlt (KW key p m) (KW key p (m - 1)) with
    | true => rw [if_pos rfl]; exact ⟨Nat.le_refl _, by omega, hs, .inr hq⟩
    | false =>
      rw [if_neg (by simp)]
      refine wpK_mono (fun r hr => ?_) _ (wpK_asc g h0 f (m + 1) (by omega) (hs.succ h1 hq))
      exact ⟨by omega, by omega, hr.2.2.1, hr.2.2.2.imp (fun e => by omega) id⟩

theorem wpK_desc (h0 : 0 < n) : ∀ (f : Nat) (p : Array Nat) (m q : Nat), Gd n p → m + f ≤ n → q + 1 ≤ m → NoIn key p m → (∀ k, m - (q + 1) ≤ k → k < m → KW key p k = KW key p (m - 1)) →
    wpK n key (kas_desc f p m q) (fun r => Gd n r.1 ∧ m ≤ r.2.1 ∧ r.2.1 ≤ m + f ∧ r.2.2 + 1 ≤ r.2.1 ∧ NoIn key r.1 r.2.1 ∧ (∀ k, r.2.1 - (r.2.2 + 1) ≤ k → k < r.2.1 → KW key r.1 k = KW key r.1 (r.2.1 - 1)))
  | 0, p, m, q, g, hm, hq, hn, hb => ⟨g, Nat.le_refl _, Nat.le_refl _, hq, hn, hb⟩
  | f + 1, p, m, q, g, hm, hq, hn, hb => by
    refine ⟨g.at h0 _, g.at h0 _, ?_⟩
    show wpK n key (if wlt (KW key p m) (KW key p (m - 1)) = true then _ else _) _
    have fin : ∀ (p' : Array Nat) (q' : Nat), Gd n p' → q' + 1 ≤ m + 1 → NoIn key p' (m + 1) → (∀ k, m + 1 - (q' + 1) ≤ k → k < m + 1 → KW key p' k = KW key p' (m + 1 - 1)) → wpK n key (kas_desc f p' (m + 1) q') (fun r => Gd n r.1 ∧ m ≤ r.2.1 ∧ r.2.1 ≤ m + (f + 1) ∧ r.2.2 + 1 ≤ r.2.1 ∧ NoIn key r.1 r.2.1 ∧ (∀ k, r.2.1 - (r.2.2 + 1) ≤ k → k < r.2.1 → KW key r.1 k = KW key r.1 (r.2.1 - 1))) := by
      intro p' q' g' hq' hn' hb'
      refine wpK_mono (fun r hr => ?_) _ (wpK_desc h0 f p' (m + 1) q' g' (by omega) hq' hn' hb')
      obtain ⟨b1, b2, b3, b4, b5, b6⟩ := hr
      exact ⟨b1, by omega, by omega, b4, b5, b6⟩
    cases hc : wlt (KW key p m) (KW key p (m - 1)) with
    | true =>
      rw [if_pos rfl]
      have one : ∀ p' : Array Nat, ∀ k, m + 1 - (0 + 1) ≤ k → k < m + 1 → KW key p' k = KW key p' (m + 1 - 1) := fun p' k h1 h2 => by
        have : k = m + 1 - 1 := by omega
        rw [this]
      by_cases hz : q > 0
      · rw [if_pos hz]
        have hsz := g.size
        have hK := fun k => KW_mirror_eq (key := key) (p := p) (i := m - (q + 1)) (j := m) (by omega) hb k
        refine fin _ 0 (g.rev _ _) (by omega) ?_ (one _)
        intro i j hij hj
        rw [hK, hK]
        exact (hn.succ (by omega) (wle_of_lt hc)) i j hij hj
      · rw [if_neg hz]
        exact fin _ 0 g (by omega) (hn.succ (by omega) (wle_of_lt hc)) (one _)
    | false =>
      rw [if_neg (by simp)]
      refine ⟨g.at h0 _, g.at h0 _, ?_⟩
      show wpK n key (if wlt (KW key p (m - 1)) (KW key p m) = true then _ else _) _
      cases hd : wlt (KW key p (m - 1)) (KW key p m) with
      | true => rw [if_pos rfl]; exact ⟨g, Nat.le_refl _, by show m ≤ m + (f + 1); omega, hq, hn, hb⟩
      | false =>
        rw [if_neg (by simp)]
        have e : KW key p m = KW key p (m - 1) := wlt_total hc hd
        refine fin _ (q + 1) g (by omega) (hn.succ (by omega) (by rw [e]; exact wle_refl _)) ?_
        intro k h1 h2
        show _ = KW key p m
        by_cases hk : k = m
        · rw [hk]
        · rw [e]; exact hb k (by omega) (by omega)

noncomputable abbrev CPost (key : Nat → List Int) (n nrem : Nat) (r : Nat × Array Nat) : Prop := Gd n r.2 ∧ 1 ≤ r.1 ∧ r.1 ≤ nrem ∧ SoTo key r.2 r.1
theorem wpK_tail3 {m nrem : Nat} (g : Gd n p) (h0 : 0 < n) (h1 : 1 ≤ m) (hm : m ≤ nrem) (hn : nrem ≤ n) (hs : NoIn key p m) : wpK n key (kas_tail3 m nrem p) (CPost key n nrem) := by
  unfold kas_tail3
  refine wpK_bind _ (wpK_mono (fun r hr => ?_) _ (wpK_asc (g.rev 0 m) h0 (nrem - m) m h1 ?_))
  · exact ⟨g.rev _ _, by show 1 ≤ r; omega, by show r ≤ nrem; omega, hr.2.2.1⟩
  · have hsz := g.size
    intro i j hij hj
    rw [KW_mirror (by omega), KW_mirror (by omega), if_pos (by omega), if_pos (by omega)]
    exact hs _ _ (by omega) (by omega)
theorem wpK_descPart {m nrem : Nat} (g : Gd n p) (h0 : 0 < n) (h1 : 1 ≤ m) (hm : m + 1 ≤ nrem) (hn : nrem ≤ n) (hs : NoIn key p (m + 1)) : wpK n key (kas_descPart m nrem p) (CPost key n nrem) := by
  unfold kas_descPart
  refine wpK_bind _ (wpK_mono (fun r hr => ?_) _ (wpK_desc h0 (nrem - (m + 1)) p (m + 1) 0 g (by omega) (by omega) hs ?_))
  · obtain ⟨p', m', q'⟩ := r
    obtain ⟨a1, a2, a3, a4, a5, a6⟩ := hr
    dsimp only at a1 a2 a3 a4 a5 a6 ⊢
    have hsz := a1.size
    by_cases hz : q' > 0
    · rw [if_pos hz]
      refine wpK_tail3 (a1.rev _ _) h0 (by omega) (by omega) hn ?_
      intro i j hij hj
      rw [KW_mirror_eq (by omega) a6, KW_mirror_eq (by omega) a6]
      exact a5 i j hij hj
    · rw [if_neg hz]
      exact wpK_tail3 a1 h0 (by omega) (by omega) hn a5
  · intro k h1 h2
    have : k = m + 1 - 1 := by omega
    rw [this]
theorem wpK_count (g : Gd n p) (h0 : 0 < n) : wpK n key (kas_count n p) (CPost key n n) := by
  unfold kas_count
  refine wpK_bind _ (wpK_mono (fun m hm => ?_) _ (wpK_asc g h0 (n - 1) 1 (Nat.le_refl _) SoTo.one))
  obtain ⟨a1, a2, a3, a4⟩ := hm
  by_cases e : (m == n) = true
  · rw [if_pos e]; exact ⟨g, a1, by show m ≤ n; omega, a3⟩
  · rw [if_neg e]
    have hne : m ≠ n := fun q => e (by simpa using q)
    have hlt : wlt (KW key p m) (KW key p (m - 1)) = true := a4.resolve_left (by omega)
    by_cases h2 : m > 1
    · rw [if_pos h2]
      refine ⟨g.at h0 _, g.at h0 _, ?_⟩
      show wpK n key (if wlt (KW key p 0) (KW key p (m - 1)) = true then _ else _) _
      cases hq : wlt (KW key p 0) (KW key p (m - 1)) with
      | true => rw [if_pos rfl]; exact ⟨g, a1, by show m ≤ n; omega, a3⟩
      | false =>
        rw [if_neg (by simp)]
        have hsz := g.size
        have eq : ∀ k, 0 ≤ k → k < m → KW key p k = KW key p (m - 1) := fun k _ hk => wle_antisymm (a3 _ _ (by omega) (by omega)) (wle_trans hq (a3 0 k (by omega) hk))
        refine wpK_descPart (g.rev _ _) h0 a1 (by omega) (Nat.le_refl _) ?_
        intro i j hij hj
        rw [KW_mirror_eq (by omega) eq, KW_mirror_eq (by omega) eq]
        refine (NoIn.succ (k := m) (fun i j hij hj => ?_) a1 (wle_of_lt hlt)) i j hij hj
        rw [eq i (by omega) (by omega), eq j (by omega) (by omega)]
        exact wle_refl _
    · rw [if_neg h2]
      have : m = 1 := by omega
      subst this
      refine wpK_descPart g h0 (Nat.le_refl _) (by omega) (Nat.le_refl _) ?_
      refine NoIn.succ (k := 1) (fun i j hij hj => ?_) (Nat.le_refl _) (wle_of_lt hlt)
      have : i = j := by omega
      subst this; exact wle_refl _

theorem wpK_place (g : Gd n p) (h0 : 0 < n) {k : Nat} (hs : SoTo key p k) : ∀ (f l r : Nat), l ≤ r → r ≤ k → r - l ≤ f → (∀ i, i < l → wle (KW key p i) (KW key p k)) → (∀ i, r ≤ i → i < k → wle (KW key p k) (KW key p i)) →
    wpK n key (kas_place p k f l r) (fun m => m ≤ k ∧ (∀ i, i < m → wle (KW key p i) (KW key p k)) ∧ (∀ i, m ≤ i → i < k → wle (KW key p k) (KW key p i)))
  | 0, l, r, h1, h2, h3, hl, hr => by
    have : l = r := by omega
    subst this
    exact ⟨h2, hl, hr⟩
  | f + 1, l, r, h1, h2, h3, hl, hr => by
    unfold kas_place
    by_cases hge : l ≥ r
    · rw [if_pos hge]
      have : l = r := by omega
      subst this
      exact ⟨h2, hl, hr⟩
    · rw [if_neg hge]
      refine ⟨g.at h0 _, g.at h0 _, ?_⟩
      show wpK n key (if wlt (KW key p k) (KW key p ((l + r) / 2)) = true then _ else _) _
      cases hq : wlt (KW key p k) (KW key p ((l + r) / 2)) with
      | true =>
        rw [if_pos rfl]
        refine wpK_place g h0 hs f l ((l + r) / 2) (by omega) (by omega) (by omega) hl fun i h1 h2 => ?_
        exact wle_trans (wle_of_lt hq) (hs _ _ h1 h2)
      | false =>
        rw [if_neg (by simp)]
        refine wpK_place g h0 hs f ((l + r) / 2 + 1) r (by omega) (by omega) (by omega) (fun i h1 => ?_) hr
        exact wle_trans (hs i ((l + r) / 2) (by omega) (by omega)) hq
theorem wpK_bin (h0 : 0 < n) : ∀ (f : Nat) (p : Array Nat) (k : Nat), Gd n p → k + f = n → SoTo key p k → wpK n key (kas_bin f p k) (fun r => Gd n r ∧ SoTo key r n)
  | 0, p, k, g, hk, hs => by
    have : k = n := by omega
    subst this
    exact ⟨g, hs⟩
  | f + 1, p, k, g, hk, hs => by
    show wpK n key ((kas_place p k k 0 k).bind _) _
    refine wpK_bind _ (wpK_mono (fun l hl => ?_) _ (wpK_place g h0 hs k 0 k (by omega) (Nat.le_refl _) (by omega) (fun i h => by omega) (fun i h1 h2 => by omega)))
    obtain ⟨a1, a2, a3⟩ := hl
    have hsz := g.size
    refine wpK_bin h0 f _ (k + 1) (g.to (bubble_perm _ _ _)) (by omega) ?_
    intro i j hij hj
    rw [KW_bubble (by omega) (by omega), KW_bubble (by omega) (by omega)]
    rw [show k - (k - l) = l by omega]
    by_cases i1 : i = l
    · rw [if_pos i1]
      by_cases j1 : j = l
      · rw [if_pos j1]; exact wle_refl _
      · rw [if_neg j1, if_pos (by omega)]; exact a3 _ (by omega) (by omega)
    · rw [if_neg i1]
      by_cases i2 : l < i ∧ i ≤ k
      · rw [if_pos i2, if_neg (by omega : ¬ j = l), if_pos (by omega)]; exact hs _ _ (by omega) (by omega)
      · rw [if_neg i2]
        by_cases j1 : j = l
        · rw [if_pos j1]; exact a2 _ (by omega)
        · rw [if_neg j1]
          by_cases j2 : l < j ∧ j ≤ k
          · rw [if_pos j2]; exact hs _ _ (by omega) (by omega)
          · rw [if_neg j2]; exact hs _ _ hij (by omega)
theorem wpK_sort (h0 : 0 < n) : wpK n key (kas_sort n) (fun p => Gd n p ∧ SoTo key p n) := by
  unfold kas_sort
  refine wpK_bind _ (wpK_mono (fun r hr => ?_) _ (wpK_count (p := List.toArray (List.range n)) ⟨by simp⟩ h0))
  obtain ⟨m, p⟩ := r
  obtain ⟨a1, a2, a3, a4⟩ := hr
  dsimp only at a1 a2 a3 a4 ⊢
  by_cases hm : m < n
  · rw [if_pos hm]
    rw [show max m 1 = m by omega]
    exact wpK_bin h0 _ _ _ a1 (by omega) a4
  · rw [if_neg hm]
    have : m = n := by omega
    subst this
    exact ⟨a1, a4⟩
end

/-- words laid in order -/
noncomputable def wins (u : List Int) : List (List Int) → List (List Int)
  | [] => [u]
  | v :: r => if wlt v u = true then v :: wins u r else u :: v :: r
noncomputable def wsort : List (List Int) → List (List Int)
  | [] => []
  | u :: r => wins u (wsort r)
theorem wins_perm (u : List Int) : ∀ r, (wins u r).Perm (u :: r)
  | [] => List.Perm.refl _
  | v :: r => by
    unfold wins
    split
    · exact ((wins_perm u r).cons v).trans (List.Perm.swap _ _ _)
    · exact List.Perm.refl _
theorem wsort_perm : ∀ r, (wsort r).Perm r
  | [] => List.Perm.refl _
  | u :: r => (wins_perm u _).trans ((wsort_perm r).cons u)
theorem wins_pw (u : List Int) : ∀ r, r.Pairwise wle → (wins u r).Pairwise wle
  | [], _ => by simp [wins]
  | v :: r, h => by
    obtain ⟨h1, h2⟩ := List.pairwise_cons.mp h
    unfold wins
    split
    · rename_i hq
      refine List.pairwise_cons.mpr ⟨fun z hz => ?_, wins_pw u r h2⟩
      rcases List.mem_cons.mp ((wins_perm u r).subset hz) with rfl | hz
      · exact wle_of_lt hq
      · exact h1 z hz
    · rename_i hq
      have hq : wle u v := by simpa [wle] using hq
      refine List.pairwise_cons.mpr ⟨fun z hz => ?_, h⟩
      rcases List.mem_cons.mp hz with rfl | hz
      · exact hq
      · exact wle_trans hq (h1 z hz)
theorem wsort_pw : ∀ r, (wsort r).Pairwise wle
  | [] => List.Pairwise.nil
  | u :: r => wins_pw u _ (wsort_pw r)
theorem sorted_unique : ∀ {a b : List (List Int)}, a.Perm b → a.Pairwise wle → b.Pairwise wle → a = b
  | [], b, hp, _, _ => by have := hp.length_eq; cases b with | nil => rfl | cons _ _ => simp at this
  | u :: a, [], hp, _, _ => by have := hp.length_eq; simp at this
  | u :: a, v :: b, hp, h1, h2 => by
    obtain ⟨p1, p2⟩ := List.pairwise_cons.mp h1
    obtain ⟨q1, q2⟩ := List.pairwise_cons.mp h2
    have e : u = v := by
      have m1 : u ∈ v :: b := hp.subset (.head _)
      have m2 : v ∈ u :: a := hp.symm.subset (.head _)
      rcases List.mem_cons.mp m1 with e | m1
      · exact e
      · rcases List.mem_cons.mp m2 with e | m2
        · exact e.symm
        · exact wle_antisymm (p1 v m2) (q1 u m1)
    subst e
    rw [sorted_unique (List.Perm.cons_inv hp) p2 q2]
end Mine
end

/-! text Cmp2 -/
section
open PySem PySem.W PyProof.Rows PySem.Calls PySem.Spec
set_option maxRecDepth 100000
namespace Mine
local macro_rules | `(tactic| omega) => `(tactic| with_reducible first
  | assumption
  | exact Nat.zero_le _
  | exact Int.natCast_nonneg _
  | exact om0 (by assumption)
  | exact om1 (by assumption) (by decide)
  | exact om2 (by assumption) (by decide)
  | exact om3 (by assumption) (by decide)
  | exact om4 (by assumption) (by decide)
  | exact omT (by assumption)
  | exact omI (by assumption) (by assumption)
  | exact omI' (by assumption) (by assumption)
  | exact omL (by assumption) (by first | assumption | decide)
  | exact omLt (by assumption) (by first | assumption | decide)
  | exact omS (by assumption) (by first | assumption | decide)
  | exact omV (by assumption) (by first | assumption | decide)
  | exact omW (by assumption) (by first | assumption | decide)
  | exact omE (by assumption) (by assumption) (by first | assumption | decide)
  | exact omE' (by assumption) (by assumption) (by first | assumption | decide)
  | exact om1l (by assumption) (by decide)
  | exact om2l (by assumption) (by decide)
  | exact om1t (by assumption) (by assumption) (by decide)
  | exact om2t (by assumption) (by assumption) (by decide)
  | exact om3t (by assumption) (by assumption) (by decide)
  | exact omC (by assumption) (by decide)
  | exact omCi (by assumption) (by assumption) (by decide)
  | exact omCe (by assumption) (by assumption) (by assumption) (by decide)
  | exact omQ (by assumption) (by assumption) (by decide)
  | exact omD (by assumption)
  | exact omJ (by assumption) (by assumption)
  | exact omK (by assumption) (by assumption)
  | exact omN (by assumption) (by assumption)
  | exact omU (by assumption))

theorem intsInj : ∀ {vs : List Value} {u u' : List Int}, IntsAre vs u → IntsAre vs u' → u = u'
  | _, _, _, .nil, .nil => rfl
  | _, _, _, .cons _ _ h, .cons _ _ h' => by rw [intsInj h h']
theorem LP.inj {P : PM} {a : Addr} {vs vs' : List Value} (x : LP P a vs) (y : LP P a vs') : vs = vs' := by
  obtain ⟨o, n, e, _, hd⟩ := x
  obtain ⟨o', n', e', _, hd'⟩ := y
  rw [e] at e'; cases e'
  rw [hd] at hd'
  injection hd' with q
  simpa using q
theorem WP.inj {P : PM} {v : Value} {u u' : List Int} (x : WP P v u) (y : WP P v u') : u = u' := by
  obtain ⟨a, vs, rfl, l, r⟩ := x
  obtain ⟨a', vs', e, l', r'⟩ := y
  cases e
  have := l.inj l'
  subst this
  exact intsInj r r'

noncomputable def RdW (h : Heap) (v : Value) (u : List Int) : Prop := ∃ as, Reads h v (wD u) as
noncomputable def RdR (h : Heap) (v : Value) (r : List (List Int)) : Prop := ∃ as, Reads h v (rD r) as

section
variable {b : Bs} {P : PM} {L : Addr} {h : Heap} {m : Mp} {N : List (Addr × Kd)} {a : Addr} {its : List Value}
theorem Fm.rdI (F : Fm b P L h m N) {u : List Int} (x : Lst P N a its) (hi : IntsAre its u) : RdW h (.ref a) u := by
  obtain ⟨o, e, hc, n, hd⟩ := F.lst x
  exact ⟨_, .list e hc hd (readsAll_of_ints hi)⟩
theorem Fm.rdW (F : Fm b P L h m N) {v : Value} {u : List Int} (x : WP P v u) : RdW h v u := by
  obtain ⟨a, vs, rfl, l, r⟩ := x
  exact F.rdI (.frz l) r
theorem Fm.rdAll (F : Fm b P L h m N) {vs : List Value} {r : List (List Int)} (x : All2 (WP P) vs r) : ∃ as, ReadsAll h vs (r.map wD) as := by
  induction x with
  | nil => exact ⟨_, .nil⟩
  | cons p _ ih =>
    obtain ⟨as, h1⟩ := F.rdW p
    obtain ⟨bs, h2⟩ := ih
    exact ⟨_, .cons h1 h2⟩
theorem Fm.rdL (F : Fm b P L h m N) {r : List (List Int)} (x : Lst P N a its) (hi : All2 (WP P) its r) : RdR h (.ref a) r := by
  obtain ⟨o, e, hc, n, hd⟩ := F.lst x
  obtain ⟨as, h2⟩ := F.rdAll hi
  exact ⟨_, .list e hc hd h2⟩
theorem Fm.rdR (F : Fm b P L h m N) {v : Value} {r : List (List Int)} (x : RP P v r) : RdR h v r := by
  obtain ⟨a, vs, rfl, l, q⟩ := x
  exact F.rdL (.frz l) q
end

section
variable {prog : Program} {w : World} {A : Around} {E : Value → Shared → Prop} {s : Shared} {b : Bs} {P : PM} {L : Addr} {m : Mp} {N : List (Addr × Kd)} {v v' : Value} {Q : Value → Shared → Prop}
theorem eqW {u u' : List Int} (x : RdW s.heap v u) (y : RdW s.heap v' u') (hu : A.units + 64 < cLine) (h : Q (.bool (decide (u = u'))) s) : wpAny (model prog w) A (compareOp .Eq v v') Q E s := by
  obtain ⟨_, x⟩ := x; obtain ⟨_, y⟩ := y
  exact eq_dataH x y (shaped_w _) (shaped_w _) hu (by rw [eqv_w]; exact h)
theorem eqR {u u' : List (List Int)} (x : RdR s.heap v u) (y : RdR s.heap v' u') (hu : A.units + 64 < cLine) (h : Q (.bool (decide (u = u'))) s) : wpAny (model prog w) A (compareOp .Eq v v') Q E s := by
  obtain ⟨_, x⟩ := x; obtain ⟨_, y⟩ := y
  exact eq_dataH x y (shaped_r _) (shaped_r _) hu (by rw [eqv_r]; exact h)
theorem neR {u u' : List (List Int)} (x : RdR s.heap v u) (y : RdR s.heap v' u') (hu : A.units + 64 < cLine) (h : Q (.bool (!decide (u = u'))) s) : wpAny (model prog w) A (compareOp .NotEq v v') Q E s := by
  obtain ⟨_, x⟩ := x; obtain ⟨_, y⟩ := y
  exact ne_dataH x y (shaped_r _) (shaped_r _) hu (by rw [eqv_r]; exact h)
theorem ltW' {u u' : List Int} (F : Fm b P L s.heap m N) (x : WP P v u) (y : WP P v' u') (hu : A.units + 64 < cLine) (h : Q (.bool (wlt u u')) s) : wpAny (model prog w) A (compareOp .Lt v v') Q E s := by
  obtain ⟨a, vs, rfl, l, r⟩ := x
  obtain ⟨a', vs', rfl, l', r'⟩ := y
  exact ltW (F.lst (.frz l)) (F.lst (.frz l')) r r' (by omega) h
theorem gtW' {u u' : List Int} (F : Fm b P L s.heap m N) (x : WP P v u) (y : WP P v' u') (hu : A.units + 64 < cLine) (h : Q (.bool (wlt u' u)) s) : wpAny (model prog w) A (compareOp .Gt v v') Q E s := by
  obtain ⟨a, vs, rfl, l, r⟩ := x
  obtain ⟨a', vs', rfl, l', r'⟩ := y
  exact gtW (F.lst (.frz l)) (F.lst (.frz l')) r r' (by omega) h

open Classical in
theorem any_words {its : List Value} {r : List (List Int)} {u : List Int} (x : All2 (WP P) its r) : (its.any fun y => decide (WP P y u)) = decide (u ∈ r) := by
  induction x with
  | nil => simp
  | @cons a b l r' p q ih =>
    rw [List.any_cons, ih]
    by_cases hb : b = u
    · subst hb; simp [p]
    · have : ¬ WP P a u := fun z => hb (p.inj z)
      have h2 : ¬ u = b := fun z => hb z.symm
      simp [this, h2]

open Classical in
theorem inW {l : Addr} {its : List Value} {r : List (List Int)} {u : List Int} (F : Fm b P L s.heap m N) (x : WP P v u) (y : Lst P N l its) (hi : All2 (WP P) its r) (hu : A.units + 64 < cLine)
    (h : Q (.bool (decide (u ∈ r))) s) : wpAny (model prog w) A (compareOp .In v (.ref l)) Q E s := by
  refine SeqAt.in_listAt (fun y => decide (WP P y u)) (F.lst y) (fun y hy => ?_) ?_
  · have hy' : y ∈ its := by simpa using hy
    obtain ⟨i, hi'⟩ := List.mem_iff_getElem?.mp hy'
    obtain ⟨u', _, p⟩ := hi.get hi'
    obtain ⟨_, ra⟩ := F.rdW p
    obtain ⟨_, rb⟩ := F.rdW x
    have key := SeqAt.eqAt_reads (wD u') (wD u) A.in1 s y v _ _ ra rb (canLay_w _) (canLay_w _) (by
      have := depth_w u'
      simp only [Around.in1_units]
      omega)
    rw [eqv_w] at key
    have e : decide (u' = u) = decide (WP P y u) := by
      by_cases hq : u' = u
      · subst hq; simp [p]
      · have : ¬ WP P y u := fun z => hq (p.inj z)
        simp [hq, this]
    rw [e] at key
    exact key
  · have e : its.toArray.any (fun y => decide (WP P y u)) = decide (u ∈ r) := by
      rw [← any_words hi]; simp
    rw [e]; exact h
end
end Mine
end

/-! text Bytes -/
section
open PySem PySem.W PyProof.Rows PySem.Calls PySem.Spec
set_option maxRecDepth 100000
set_option maxHeartbeats 2000000
namespace Mine

theorem bytes_len : typeLookup (.type "bytes") "__len__" = pure (some (.builtin "bytes.__len__")) := by rw [typeLookup_type, builtinLookup_eq_fast]; kernel_rfl
noncomputable def ByteAt (x : Array UInt8) (i : Nat) (v : Value) : Prop := ∃ c u, x[i]? = some c ∧ v = .int (c.toNat : Int) u

section
variable {prog : Program} {w : World} {A : Around} {E : Value → Shared → Prop} {s : Shared}
theorem extend_bytes {R : Result → Shared → Prop} (hh : A.handled = none) (x : Array UInt8) (t : Tok) (S : Addr) (c₀ : Nat) (hS : s.heap.get? S = some { cls := .type "list", data := .seq #[] c₀ })
    (hR : ∀ h' tk acc' c', (∀ b o, b ≠ S → s.heap.get? b = some o → h'.get? b = some o) → h'.get? S = some { cls := .type "list", dict := none, data := .seq acc' c', slots := #[] } →
      ItemsOf (ByteAt x) acc' x.size → R (.ok (.ret .none)) { s with heap := h', toks := tk }) (hn : x.size ≤ sizeLine) :
    wpAny (model prog w) A.in1 (Builtin.List.listExtendWith (.ref S) (.bytes x t) .none)
      (fun fin s' => match fin with | .done f => R (.ok f) s' | .again c' => c'.quiet = true ∧ codeAny (model prog w) A c' R s') (fun e s' => R (.error e) s') s := by
  have hSI : S ≠ s.heap.objs.size := Nat.ne_of_lt (Heap.lt_size hS)
  have hSf : S ∉ [s.heap.objs.size] := fun hm => hSI (List.mem_singleton.mp hm)
  unfold Builtin.List.listExtendWith
  refine wpAny_bind (wpAny_typeOf (T := "bytes") (v := .bytes x t) rfl ?_)
  have h1 : Builtin.List.listSameRef (.ref S) (.bytes x t) = false := rfl
  have h2 : (Value.type "bytes" == Value.type "list") = false := by decide
  have h3 : (Value.type "bytes" == Value.type "tuple") = false := by decide
  simp only [h1, h2, h3, Bool.or_false, Bool.false_eq_true, if_false]
  refine wpAny_bind (KBw.pyIter_bytes ?_)
  refine wpAny_bind (wpAny_holding ?_)
  unfold Builtin.List.listLengthHint
  refine wpAny_bind (wpAny_specialOf (T := "bytes") (v := .bytes x t) rfl bytes_len ?_)
  wp_delta
  refine wpAny_bind (wpAny_isInstance (T := "bytes") (v := .bytes x t) (b := true) rfl (by rw [isSubtype_type]; kernel_rfl) ?_)
  show wpAny _ _ (typeOf (Value.bytes x t) >>= _) _ _ _
  refine wpAny_bind (wpAny_typeOf (T := "bytes") (v := .bytes x t) rfl ?_)
  refine wpAny_pure ?_
  rw [if_neg (by decide)]
  refine wpAny_pure ⟨plainId_quiet F.plain_extend_loop _, codeAny_extend_loopS (KBw.walks (A := A.in1) hh s.heap.objs.size x t).toS hn _ hSf _ x.size 0 _ _ _ rfl (Nat.zero_le _) ⟨_, Heap.get?_push_size _ rfl, rfl, rfl⟩ (Heap.get?_push_of_some _ hS) (ItemsOf.nil _) fun s' acc' c' hm hS' hacc => ?_⟩
  rw [Moved.eq_with hm]
  refine hR s'.heap s'.toks acc' c' (fun b ob hb e => hm.heap b ob (fun hmem => ?_) (Heap.get?_push_of_some _ e)) hS' hacc
  rcases List.mem_cons.mp hmem with e' | hmem
  · exact hb e'
  · exact absurd (Heap.lt_size e) (by rw [List.mem_singleton.mp hmem]; exact Nat.lt_irrefl _)

theorem init_bytes {R : Result → Shared → Prop} (hh : A.handled = none) (x : Array UInt8) (t : Tok) (S : Addr) (hS : s.heap.get? S = some { cls := .type "list", data := .seq #[] })
    (hR : ∀ h' tk acc' c', (∀ b o, b ≠ S → s.heap.get? b = some o → h'.get? b = some o) → h'.get? S = some { cls := .type "list", dict := none, data := .seq acc' c', slots := #[] } →
      ItemsOf (ByteAt x) acc' x.size → R (.ok (.ret .none)) { s with heap := h', toks := tk }) (hn : x.size ≤ sizeLine) :
    wpAny (model prog w) A.in1 (Builtin.«list.__init__» ⟨[.ref S, .bytes x t], []⟩)
      (fun fin s' => match fin with | .done f => R (.ok f) s' | .again c' => c'.quiet = true ∧ codeAny (model prog w) A c' R s') (fun e s' => R (.error e) s') s := by
  show wpAny _ _ (do let old ← Builtin.List.listItems (.ref S); Builtin.List.listUpdate (.ref S) (fun _ => #[]); letGo old.toList.reverse; Builtin.List.listExtendWith (.ref S) (.bytes x t) .none) _ _ s
  refine wpAny_bind ?_
  unfold Builtin.List.listItems
  refine wpAny_bind (wpAny_seqItems hS rfl (wpAny_pure ?_))
  show wpAny _ _ (updateSeq S (fun _ => #[]) >>= fun _ => letGo (#[] : Array Value).toList.reverse >>= fun _ => Builtin.List.listExtendWith (.ref S) (.bytes x t) .none) _ _ s
  refine wpAny_bind (wpAny_updateSeq hS rfl ?_)
  have hS₂ := Heap.get?_update_self (Obj.mapSeq (fun _ => (#[] : Array Value))) hS rfl
  refine wpAny_bind (wpAny_letGo ?_)
  refine extend_bytes hh x t S _ hS₂ (fun h' tk acc' c' hk hS' hacc => ?_) hn
  exact hR h' tk acc' c' (fun b o hb e => hk b o hb ((Heap.get?_update_other _ _ (Ne.symm hb)).trans e)) hS' hacc

theorem list_bytes {Q : Value → Shared → Prop} (hh : A.handled = none) (x : Array UInt8) (t : Tok)
    (hQ : ∀ h' tk acc' c', (∀ b o, s.heap.get? b = some o → h'.get? b = some o) →
      h'.get? s.heap.objs.size = some { cls := .type "list", dict := none, data := .seq acc' c', slots := #[] } → ItemsOf (ByteAt x) acc' x.size → Q (.ref s.heap.objs.size) { s with heap := h', toks := tk }) (hn : x.size ≤ sizeLine) :
    wpAny (model prog w) A (call (.type "list") [.bytes x t]) Q E s := by
  refine callType_codes (Q₁ := fun obj s₁ => obj = .ref s.heap.objs.size ∧ s₁ = { s with heap := s.heap.push { cls := .type "list", data := .seq #[] } }) F.called_list (F.typeCall_list_1 _) F.entry_list_init
    (code_list_new _ ⟨rfl, rfl⟩) fun obj s₁ h₁ => ?_
  obtain ⟨rfl, rfl⟩ := h₁
  have hS : (s.heap.push { cls := .type "list", data := .seq #[] }).get? s.heap.objs.size = some { cls := .type "list", data := .seq #[] } := Heap.get?_push_size _ rfl
  refine ⟨⟨_, hS, rfl⟩, F.args_list_init_2 _ _, init_bytes (A := A.in1) hh x t _ hS (fun h' tk acc' c' hk hS' hacc => ?_) hn⟩
  exact ⟨rfl, hQ h' tk acc' c' (fun b o e => hk b o (Nat.ne_of_lt (Heap.lt_size e)) (Heap.get?_push_of_some _ e)) hS' hacc⟩
end
end Mine
end

/-! text Fw5 -/
section
open PySem PySem.W PyProof.Rows PySem.Calls PySem.Spec
set_option maxRecDepth 100000
namespace Mine
section
variable {b : Bs} {P : PM} {L : Addr} {h h' : Heap} {m : Mp} {N : List (Addr × Kd)}
theorem Fm.keepAll (F : Fm b P L h m N) (k : ∀ c o, h.get? c = some o → h'.get? c = some o) : Fm b P L h' m N where
  ex := ⟨fun c o e => ⟨k c o (F.ex.fz c o e).1, (F.ex.fz c o e).2⟩, F.ex.sub, F.ex.pnew, fun c o e hx hf => k c o (F.ex.keep c o e hx hf), fun c o e hf => let ⟨sl, e'⟩ := F.ex.frm c o e hf; ⟨sl, k c _ e'⟩,
    let ⟨o, e, _⟩ := F.fr; Nat.le_trans F.up.1 (Nat.le_of_lt (Heap.lt_size (k _ _ e))), fun c o e hf hx => k c o (F.ex.frk c o e hf hx)⟩
  ns := F.ns.keeps k
  fr := let ⟨o, e, q⟩ := F.fr; ⟨o, k _ _ e, q⟩
  led := fun p hp => let ⟨o, e, r⟩ := F.led p hp; ⟨o, k _ _ e, r⟩
  off := F.off
  nd := F.nd
  up := F.up

/-- an object that stands new in a heap that keeps all -/
theorem Fm.born {a : Addr} {o : Obj} {kd : Kd} (F : Fm b P L h m N) (k : ∀ c o, h.get? c = some o → h'.get? c = some o) (ha : h.objs.size ≤ a) (ho : h'.get? a = some o) (hc : o.cls ≠ fcls) (hk : kd.ok o) :
    Fm b P L h' m ((a, kd) :: N) := by
  have F' := F.keepAll k
  refine ⟨F'.ex, F'.ns, F'.fr, fun p hp => ?_, fun p hp => ?_, ?_, F.up.1, fun p hp => ?_⟩
  · rcases List.mem_cons.mp hp with rfl | hp
    · exact ⟨o, ho, hc, hk⟩
    · exact F'.led p hp
  · rcases List.mem_cons.mp hp with rfl | hp
    · show P a = none
      cases q : P a with
      | none => rfl
      | some o' => exact absurd (Heap.lt_size (F.ex.fz _ _ q).1) (Nat.not_lt.mpr ha)
    · exact F.off p hp
  · rw [List.map_cons, List.nodup_cons]
    refine ⟨fun hm => ?_, F.nd⟩
    obtain ⟨p, hp, q⟩ := List.mem_map.mp hm
    exact absurd (F.lt hp) (by rw [q]; exact Nat.not_lt.mpr ha)
  · rcases List.mem_cons.mp hp with rfl | hp
    · exact .inl (Nat.le_trans F.ex.size ha)
    · exact F.up.2 p hp
end

section
variable {prog : Program} {w : World} {A : Around} {E : Value → Shared → Prop} {s : Shared} {env : Env} {b : Bs} {P : PM} {L : Addr} {m : Mp} {N N' : List (Addr × Kd)}
/-- a while by a word and a measure -/
theorem whl {test : Expr} {body orelse : List Stmt} {pos : Pos} {Q : Flow → Shared → Prop} (J : Nat → PM → Mp → List (Addr × Kd) → Prop) (F : Fm b P L s.heap m N) (n : Nat) (start : J n P m N)
    (turn : ∀ n P m N h tk (K : Flow → Shared → Prop), Hid (fun f s₃ => match f with
        | .next | .cont => Same s s₃ ∧ ∃ n' P' m' N', n' < n ∧ Fm b P' L s₃.heap m' N' ∧ J n' P' m' N'
        | .brk => Q .next s₃
        | .ret v => Q (.ret v) s₃) K → J n P m N → Fm b P L h m N → wpAny (model prog w) A (isTrue test env (eval test env)) (fun c s₂ =>
      if c = true then wpAny (model prog w) A (execs body env) K (fun _ _ => False) s₂
      else wpAny (model prog w) A (execs orelse env) Q (fun _ _ => False) s₂) (fun _ _ => False) ⟨h, s.gens, s.drawn, tk, s.os⟩) :
    wpAny (model prog w) A (exec (.While test body orelse pos) env) Q E s := by
  refine wpAny_While (codeAny_whileLoop (fun n s' => Same s s' ∧ ∃ P m N, Fm b P L s'.heap m N ∧ J n P m N) (fun n s' hI => ?_) n ⟨⟨rfl, rfl, rfl⟩, P, m, N, F, start⟩)
  obtain ⟨hs, P', m', N', F', hj⟩ := hI
  rw [hs.eq]
  refine wpAny_mono (turn n P' m' N' _ _ _ (fun _ _ q => q) hj F') (fun c s₂ q => ?_) fun _ _ f => f.elim
  cases c with
  | true =>
    rw [if_pos rfl] at q ⊢
    refine wpAny_mono q (fun f s₃ r => ?_) fun _ _ f => f.elim
    cases f with
    | next => obtain ⟨r1, n', P3, m3, N3, r2, r3, r4⟩ := r; exact ⟨n', r2, r1, P3, m3, N3, r3, r4⟩
    | cont => obtain ⟨r1, n', P3, m3, N3, r2, r3, r4⟩ := r; exact ⟨n', r2, r1, P3, m3, N3, r3, r4⟩
    | brk => exact r
    | ret v => exact r
  | false =>
    rw [if_neg (by simp)] at q ⊢
    exact wpAny_mono q (fun _ _ r => r) fun _ _ f => f.elim
end
end Mine
end

/-! text Fw6 -/
section
open PySem PySem.W PyProof.Rows PySem.Calls PySem.Spec
set_option maxRecDepth 100000
namespace Mine
theorem pick_upto {its : List Value} {k : Int} (h : 0 ≤ k) : (slicePick its.toArray none (some k) none).toList = its.take k.toNat := by
  obtain ⟨n, rfl⟩ := Int.eq_ofNat_of_zero_le h
  rw [slicePick_upto']; simp
theorem pick_from {its : List Value} {k : Int} (h : 0 ≤ k) : (slicePick its.toArray (some k) none none).toList = its.drop k.toNat := by
  obtain ⟨n, rfl⟩ := Int.eq_ofNat_of_zero_le h
  rw [slicePick_from']; simp
theorem pick_rev {its : List Value} : (slicePick its.toArray none none (some (-1))).toList = its.reverse := by
  rw [krv_pick]

section
variable {prog : Program} {w : World} {A : Around} {E : Value → Shared → Prop} {env : Env} {b : Bs} {P : PM} {L : Addr} {hp : Heap} {g : Array GenState} {d : Drawn} {t : Nat} {os : OsState} {m : Mp} {N : List (Addr × Kd)} {value slice : Expr} {l : Addr} {its zs : List Value} {Q : Value → Shared → Prop}
theorem slL {vl vu vk : Value} {lo hi st : Option Int} {ops : List Value} (F : Fm b P L hp m N) (hl : Lst P N l its) (pl : IsPart vl lo) (pu : IsPart vu hi) (pk : IsPart vk st) (h0 : st ≠ some 0) (e : (slicePick its.toArray lo hi st).toList = zs) (hz : its.length ≤ sizeLine)
    (h : ∀ D h', Fm b P L h' m ((D, .list zs) :: N) → Q (.ref D) ⟨h', g, d, t, os⟩)
    (hs : subscripted slice false (.ref l) (.ref hp.objs.size) = operate ops (getItem (.ref l) (.ref hp.objs.size)) := by with_unfolding_all rfl) :
    wpAny (model prog w) A (subscriptTail value slice (.ref l) (.ref hp.objs.size)) Q E ⟨hp.push { cls := .type "slice", data := .fields #[vl, vu, vk] }, g, d, t, os⟩ := by
  have F1 := F.push0 { cls := .type "slice", data := .fields #[vl, vu, vk] }
  have hl1 := F1.lst hl
  refine tail_any (s := ⟨hp.push { cls := .type "slice", data := .fields #[vl, vu, vk] }, g, d, t, os⟩) (Heap.IsList.typeIs hl1) slot_list_getitem.lookup (wpAny_getItem_list_slice hl1 (Heap.IsSliceOf.new _ _ _ _) pl pu pk h0 ?_ (by simpa using hz)) hs
  refine h _ _ (F1.push (o := { cls := .type "list", data := .seq (slicePick its.toArray lo hi st) }) (k := .list zs) ⟨rfl, rfl, 0, ?_⟩ (ty_ne "list") rfl)
  rw [← e]

theorem itL1 {k : Int} {u : Tok} {v : Value} {ops : List Value} {s : Shared} (F : Fm b P L s.heap m N) (hl : Lst P N l its) (h0 : 0 ≤ k) (hx : its[k.toNat]? = some v) (hf : k < 2 ^ 63) (h : Q v s)
    (hs : subscripted slice false (.ref l) (.int k u) = operate ops (getItem (.ref l) (.int k u)) := by with_unfolding_all rfl) :
    wpAny (model prog w) A (subscriptTail value slice (.ref l) (.int k u)) Q E s :=
  tail_any (Heap.IsList.typeIs (F.lst hl)) slot_list_getitem.lookup (wpAny_getItem_list (F.lst hl) h0 hf (by simpa using hx) h) hs

theorem slB {x : Array UInt8} {tb : Tok} {vl vu : Value} {lo hi : Option Int} {ops : List Value} (F : Fm b P L hp m N) (pl : IsPart vl lo) (pu : IsPart vu hi) (hz : x.size ≤ sizeLine)
    (h : ∀ t' k h', Fm b P L h' m N → Q (.bytes (KBy.picked x lo hi) t') ⟨h', g, d, k, os⟩)
    (hs : subscripted slice false (.bytes x tb) (.ref hp.objs.size) = operate ops (getItem (.bytes x tb) (.ref hp.objs.size)) := by with_unfolding_all rfl)
    (ht : ∀ r, letTemporaryGo value (.bytes x tb) r = pure () := by intro _; with_unfolding_all rfl) :
    wpAny (model prog w) A (subscriptTail value slice (.bytes x tb) (.ref hp.objs.size)) Q E ⟨hp.push { cls := .type "slice", data := .fields #[vl, vu, .none] }, g, d, t, os⟩ := by
  have F1 := F.push0 { cls := .type "slice", data := .fields #[vl, vu, .none] }
  refine tail_of_ItemOn ⟨"bytes", _, FB.slot_bytes_getitem.lookup, typeIs_bytes _ _ _, getItem_meets (typeIs_bytes _ _ _) (by decide) FB.slot_bytes_getitem FB.entry_bytes_getitem (FB.args_bytes_getitem_2 _ _) (KBc.meets_slice2 x tb _ pl pu)
    ⟨Heap.IsSliceOf.new _ _ _ _, Nat.le_trans (KBc.size_picked_le x lo hi) hz, fun t' k => h t' k _ F1⟩⟩ hs ht
end
end Mine
end

/-! text Fw7 -/
section
open PySem PySem.W PyProof.Rows PySem.Calls PySem.Spec
set_option maxRecDepth 100000
namespace Mine
section
variable {prog : Program} {w : World} {A : Around} {E : Value → Shared → Prop} {s : Shared} {env : Env} {b : Bs} {P : PM} {L : Addr} {m : Mp} {N : List (Addr × Kd)} {Q : Value → Shared → Prop}
theorem adL {l c : Addr} {vs ws : List Value} (F : Fm b P L s.heap m N) (hl : Lst P N l vs) (hb : Lst P N c ws) (hsz : vs.length + ws.length ≤ sizeLine)
    (h : ∀ D h', Fm b P L h' m ((D, .list (vs ++ ws)) :: N) → Q (.ref D) ⟨h', s.gens, s.drawn, s.toks, s.os⟩) : wpAny (model prog w) A (binaryOp .Add (.ref l) (.ref c)) Q E s := by
  obtain ⟨⟨cls, dd, data, sl⟩, ho, hc, n, hd⟩ := F.lst hl
  obtain ⟨⟨cls2, dd2, data2, sl2⟩, ho2, hc2, n2, hd2⟩ := F.lst hb
  simp only at hc hd hc2 hd2
  subst hc hd hc2 hd2
  refine concat_meets ⟨_, ho, rfl⟩ ⟨_, ho2, rfl⟩ noFill_list_add seq_list_add PySem.F.slot_list_add PySem.F.entry_list_add (PySem.F.args_list_add_2 _ _) (list_addW l c vs.toArray ws.toArray n n2 dd dd2 sl sl2 (by simpa using hsz)) ⟨ho, ho2, ?_⟩
  exact h _ _ (F.push (o := { cls := .type "list", data := .seq (vs.toArray ++ ws.toArray) }) (k := .list (vs ++ ws)) ⟨rfl, rfl, 0, by simp⟩ (ty_ne "list") rfl)

theorem lsB {x : Array UInt8} {t : Tok} {u : List Int} (F : Fm b P L s.heap m N) (hh : A.handled = none) (hn : x.size ≤ sizeLine) (hu : (x.toList.map fun c => (c.toNat : Int)) = u)
    (h : ∀ D vs h' tk, Fm b P L h' m ((D, .list vs) :: N) → IntsAre vs u → Q (.ref D) ⟨h', s.gens, s.drawn, tk, s.os⟩) : wpAny (model prog w) A (call (.type "list") [.bytes x t]) Q E s := by
  refine list_bytes hh x t (fun h' tk acc' c' hk ho hi => ?_) hn
  refine h _ acc'.toList h' tk (F.born hk (Nat.le_refl _) ho (ty_ne "list") ⟨rfl, rfl, c', by simp⟩) ?_
  subst hu
  obtain ⟨h1, h2⟩ := hi
  have key : ∀ (vs : List Value) (bs : List UInt8), vs.length = bs.length → (∀ (j : Nat) (v : Value), vs[j]? = some v → ∃ (c : UInt8) (u : Tok), bs[j]? = some c ∧ v = Value.int (c.toNat : Int) u) → IntsAre vs (bs.map fun c => (c.toNat : Int)) := by
    intro vs
    induction vs with
    | nil => intro bs hl _; cases bs with | nil => exact .nil | cons _ _ => simp at hl
    | cons v vs ih =>
      intro bs hl hj
      cases bs with
      | nil => simp at hl
      | cons b bs =>
        obtain ⟨c, u, e1, e2⟩ := hj 0 v rfl
        simp at e1
        subst e1 e2
        exact .cons _ _ (ih bs (by simpa using hl) fun j v hv => by simpa using hj (j + 1) v (by simpa using hv))
  refine key _ _ (by simpa using h1) fun j v hv => ?_
  obtain ⟨c, u, e1, e2⟩ := h2 j v (by simpa using hv)
  exact ⟨c, u, by simpa using e1, e2⟩
theorem Fm.fn {h : Heap} (F : Fm b P L h m N) (S : Sta b.P) {a : Addr} (ha : (ftab.any fun q => q.2.1 == a) = true := by decide) : FnAt a h := by
  obtain ⟨⟨i, a', c⟩, hq, e⟩ := List.any_eq_true.mp ha
  have : a' = a := by simpa using e
  subst this
  exact F.fnAt S hq
theorem Con.use {X : List Addr} {f : Value} {vs : List Value} {Out : PM → Heap → Value → Prop} (h : ∀ v h' tk P', Ex ⟨X, P, s.heap⟩ P' h' → Out P' h' v → Q v ⟨h', s.gens, s.drawn, tk, s.os⟩) (c : Con prog w A X P s f vs Out) :
    wpAny (model prog w) A (call f vs) Q E s := c Q E h
theorem Fm.sta {h : Heap} (F : Fm b P L h m N) (S : Sta b.P) : Sta P := S.mono F.ex.sub
end
end Mine
end

/-! text Dct -/
section
open PySem PySem.W PyProof.Rows PySem.Calls PySem.Spec
set_option maxRecDepth 100000
namespace Mine
noncomputable abbrev KV := List (PySem.Str × Value)
noncomputable def kget (kvs : KV) (x : PySem.Str) : Option Value := match kvs with
  | [] => none
  | (k, v) :: r => if k = x then some v else kget r x
noncomputable def kset (kvs : KV) (x : PySem.Str) (w : Value) : KV := match kvs with
  | [] => [(x, w)]
  | (k, v) :: r => if k = x then (k, w) :: r else (k, v) :: kset r x w
noncomputable def kdel (kvs : KV) (x : PySem.Str) : KV := match kvs with
  | [] => []
  | (k, v) :: r => if k = x then r else (k, v) :: kdel r x

theorem byCps {k x : PySem.Str} {tk : Tok} : Value.isStrByCps (.str k tk) x.cps.size x.cps.toList = decide (k = x) := by
  rw [Value.isStrByCps_eq]
  show (k == x) = _
  rfl
theorem Ents.find {es : List DictEntry} {kvs : KV} (e : Ents es kvs) (x : PySem.Str) (b : Bool) : ∃ en, nsNameIn x.cps.size x.cps.toList es b = (en, b) ∧ en.map (·.val) = kget kvs x := by
  induction e generalizing b with
  | nil => exact ⟨none, rfl, rfl⟩
  | cons t ih =>
    rename_i hs tk k v es kvs
    unfold nsNameIn kget
    rw [byCps]
    by_cases hk : k = x
    · exact ⟨some ⟨hs, .str k tk, v⟩, by simp [hk], by simp [hk]⟩
    · obtain ⟨en, h1, h2⟩ := ih b
      refine ⟨en, ?_, by simpa [hk] using h2⟩
      simp only [hk, decide_false, Bool.false_eq_true, if_false]
      rw [show (b || DictEntry.refKey ⟨hs, .str k tk, v⟩) = b by simp [DictEntry.refKey]]
      exact h1
theorem Ents.put {es : List DictEntry} {kvs : KV} (e : Ents es kvs) (x : PySem.Str) {hs : Int} {tk : Tok} {w : Value} {f : Option DictEntry → DictEntry} (h1 : ∀ e, f (some e) = { e with val := w }) (h2 : f none = ⟨hs, .str x tk, w⟩) :
    Ents (nsPutIn x.cps.size x.cps.toList f es).1 (kset kvs x w) := by
  induction e with
  | nil => unfold nsPutIn kset; rw [h2]; exact .cons .nil
  | cons t ih =>
    rename_i hs' tk' k v es kvs
    unfold nsPutIn kset
    rw [byCps]
    by_cases hk : k = x
    · simp only [hk, decide_true, if_true, h1]; exact .cons t
    · simp only [hk, decide_false, Bool.false_eq_true, if_false]; exact .cons ih
theorem Ents.putName {es : Array DictEntry} {kvs : KV} (e : Ents es.toList kvs) (x : PySem.Str) (hs : Int) (tk : Tok) (v : Value) (ep : Nat) : ∃ n es', Obj.putName x hs (.str x tk) v ⟨.type "dict", none, .dict es ep, #[]⟩ = ⟨.type "dict", none, .dict es' n, #[]⟩ ∧ Ents es'.toList (kset kvs x v) := by
  unfold Obj.putName
  dsimp only
  split
  · rename_i es' heq
    refine ⟨_, _, rfl, ?_⟩
    have e2 : es' = (_ : List DictEntry × Bool).1 := (congrArg Prod.fst heq).symm
    rw [e2]
    exact Ents.put e x (hs := hs) (tk := tk) (fun _ => rfl) rfl
  · rename_i es' heq
    refine ⟨_, _, rfl, ?_⟩
    have e2 : es' = (_ : List DictEntry × Bool).1 := (congrArg Prod.fst heq).symm
    rw [e2]
    exact Ents.put e x (hs := hs) (tk := tk) (fun _ => rfl) rfl
theorem Ents.drop {es : List DictEntry} {kvs : KV} (e : Ents es kvs) (x : PySem.Str) :
    Ents ((nsDropIn x.cps.size x.cps.toList es).getD es) (kdel kvs x) := by
  induction e with
  | nil => exact .nil
  | cons t ih =>
    rename_i hs' tk' k v es kvs
    unfold nsDropIn kdel
    rw [byCps]
    by_cases hk : k = x
    · simp only [hk, decide_true, if_true]; exact t
    · simp only [hk, decide_false, Bool.false_eq_true, if_false]
      cases h : nsDropIn x.cps.size x.cps.toList es with
      | none => rw [h] at ih; exact .cons ih
      | some r => rw [h] at ih; exact .cons ih

section
variable {prog : Program} {w : World} {A : Around} {E : Value → Shared → Prop} {s : Shared} {env : Env} {b : Bs} {P : PM} {L : Addr} {m : Mp} {N N' : List (Addr × Kd)}
theorem ldI {a : Addr} {o : Obj} {Q : Obj → Shared → Prop} (F : Fm b P L s.heap m N) (hm : (a, Kd.is o) ∈ N) (h : Q o s) : wpAny (model prog w) A (load a) Q E s := by
  obtain ⟨o', e, _, rfl⟩ := F.led _ hm; exact wpAny_load e h
theorem lpI {a : Addr} {o : Obj} {part : Option Value} {Q : Obj → Shared → Prop} (F : Fm b P L s.heap m N) (hm : (a, Kd.is o) ∈ N) (h : Q o s) : wpAny (model prog w) A (loadPart a part) Q E s := by
  obtain ⟨o', e, _, rfl⟩ := F.led _ hm; exact wpAny_loadPart e h
theorem lpP {a : Addr} {o : Obj} {part : Option Value} {Q : Obj → Shared → Prop} (F : Fm b P L s.heap m N) (hm : P a = some o) (h : Q o s) : wpAny (model prog w) A (loadPart a part) Q E s :=
  wpAny_loadPart (F.ex.fz _ _ hm).1 h
theorem alI {o : Obj} {Q : Addr → Shared → Prop} (F : Fm b P L s.heap m N) (hc : o.cls ≠ fcls) (hf : o.isFreed = false) (h : ∀ D h', Fm b P L h' m ((D, .is o) :: N) → Q D ⟨h', s.gens, s.drawn, s.toks, s.os⟩) :
    wpAny (model prog w) A (alloc o) Q E s := wpAny_alloc (h _ _ (F.push rfl hc hf))
theorem uoI {a : Addr} {o : Obj} {f : Obj → Obj} {part : Option Value} {Q : Unit → Shared → Prop} (F : Fm b P L s.heap m N) (u : Up a (.is o) (.is (f o)) N N') (hc : (f o).cls ≠ fcls) (hf : (f o).isFreed = false)
    (h : ∀ h', Fm b P L h' m N' → Q () ⟨h', s.gens, s.drawn, s.toks, s.os⟩) : wpAny (model prog w) A (updatePart a part f) Q E s := by
  obtain ⟨o', e, _, rfl⟩ := F.led _ u.mem
  exact wpAny_updatePart e (h _ (F.upd u (Heap.SameBut.update ..) (Heap.get?_update_self _ e hf) hc rfl))
theorem gtD {a : Addr} {kvs : KV} {x : PySem.Str} {Q : Option Value → Shared → Prop} (F : Fm b P L s.heap m N) (hm : (a, Kd.dct kvs) ∈ N) (h : Q (kget kvs x) s) : wpAny (model prog w) A (nsGet a x) Q E s := by
  obtain ⟨⟨c, d, dt, sl⟩, e, _, _, _, _, es, ep, hd, hE⟩ := F.led _ hm
  dsimp only at hd
  subst hd
  unfold nsGet
  refine wpAny_bind (wpAny_loadPart e ?_)
  obtain ⟨en, h1, h2⟩ := hE.find x false
  simp only [nsLook, h1]
  cases en with
  | none => exact wpAny_pure (by rw [← h2] at h; exact h)
  | some en => exact wpAny_pure (by rw [← h2] at h; exact h)
theorem stD {a : Addr} {kvs : KV} {x : PySem.Str} {v : Value} {Q : Unit → Shared → Prop} (F : Fm b P L s.heap m N) (u : Up a (.dct kvs) (.dct (kset kvs x v)) N N') (h : ∀ h' tk, Fm b P L h' m N' → Q () ⟨h', s.gens, s.drawn, tk, s.os⟩) :
    wpAny (model prog w) A (nsSet a x v) Q E s := by
  obtain ⟨⟨c, d, dt, sl⟩, e, hcl, h1, h2, h3, es, ep, hd, hE⟩ := F.led _ u.mem
  dsimp only at hd h1 h2 h3 hcl
  subst hd h1 h2 h3
  unfold nsSet strHash
  refine wpAny_bind (wpAny_bind (wpAny_askSetting (wpAny_pure ?_)))
  refine wpAny_bind (wpAny_mkText ?_)
  refine wpAny_bind (wpAny_loadPart e ?_)
  obtain ⟨en, g1, g2⟩ := hE.find x false
  have g3 : aRefKeyMayBeTheName x es = false := by
    unfold aRefKeyMayBeTheName
    rw [g1]; cases en <;> rfl
  simp only [g3, Bool.false_eq_true, if_false]
  refine wpAny_updatePart e ?_
  obtain ⟨n, es', hput, hp⟩ := hE.putName x (if x.cps.isEmpty = true then 0 else reduceHash ((model prog w).w.params.strHash x.cps)) s.toks v ep
  refine h _ _ (F.upd u (Heap.SameBut.update ..) (Heap.get?_update_self _ e (by rw [hput]; rfl)) (by rw [hput]; exact hcl) ?_)
  rw [hput]
  exact ⟨rfl, rfl, rfl, es', n, rfl, hp⟩
theorem dlD {a : Addr} {kvs : KV} {x : PySem.Str} {Q : Bool → Shared → Prop} (F : Fm b P L s.heap m N) (u : Up a (.dct kvs) (.dct (kdel kvs x)) N N') (hx : (kget kvs x).isSome = true) (h : ∀ h', Fm b P L h' m N' → Q true ⟨h', s.gens, s.drawn, s.toks, s.os⟩) :
    wpAny (model prog w) A (nsDel a x) Q E s := by
  obtain ⟨⟨c, d, dt, sl⟩, e, hcl, h1, h2, h3, es, ep, hd, hE⟩ := F.led _ u.mem
  dsimp only at hd h1 h2 h3 hcl
  subst hd h1 h2 h3
  unfold nsDel
  refine wpAny_bind (wpAny_loadPart e ?_)
  obtain ⟨en, g1, g2⟩ := hE.find x false
  simp only [nsHas, g1]
  cases en with
  | none => rw [← g2] at hx; cases hx
  | some en =>
    refine wpAny_bind (wpAny_pure ?_)
    simp only [if_true]
    refine wpAny_bind (wpAny_updatePart e ?_)
    have hp := hE.drop x
    have hput : ∃ n, Obj.dropName x ⟨.type "dict", none, .dict es ep, #[]⟩ = ⟨.type "dict", none, .dict ((nsDropIn x.cps.size x.cps.toList es.toList).getD es.toList).toArray n, #[]⟩ := by
      unfold Obj.dropName
      dsimp only
      split
      · rename_i r hr; exact ⟨ep + 1, by rw [hr]; rfl⟩
      · rename_i hr; exact ⟨ep, by rw [hr]; rfl⟩
    obtain ⟨n, hput⟩ := hput
    refine wpAny_pure (h _ (F.upd u (Heap.SameBut.update ..) (Heap.get?_update_self _ e (by rw [hput]; rfl)) (by rw [hput]; exact hcl) ?_))
    rw [hput]
    exact ⟨rfl, rfl, rfl, _, n, rfl, by simpa using hp⟩
end
end Mine
end

/-! text New -/
section
open PySem PySem.W PyProof.Rows PySem.Calls PySem.Spec
set_option maxRecDepth 100000
set_option maxHeartbeats 4000000
set_option pp.deepTerms false
set_option pp.maxSteps 6000
namespace Mine
local macro_rules | `(tactic| omega) => `(tactic| with_reducible first
  | assumption
  | exact Nat.zero_le _
  | exact Int.natCast_nonneg _
  | exact om0 (by assumption)
  | exact om1 (by assumption) (by decide)
  | exact om2 (by assumption) (by decide)
  | exact om3 (by assumption) (by decide)
  | exact om4 (by assumption) (by decide)
  | exact omT (by assumption)
  | exact omI (by assumption) (by assumption)
  | exact omI' (by assumption) (by assumption)
  | exact omL (by assumption) (by first | assumption | decide)
  | exact omLt (by assumption) (by first | assumption | decide)
  | exact omS (by assumption) (by first | assumption | decide)
  | exact omV (by assumption) (by first | assumption | decide)
  | exact omW (by assumption) (by first | assumption | decide)
  | exact omE (by assumption) (by assumption) (by first | assumption | decide)
  | exact omE' (by assumption) (by assumption) (by first | assumption | decide)
  | exact om1l (by assumption) (by decide)
  | exact om2l (by assumption) (by decide)
  | exact om1t (by assumption) (by assumption) (by decide)
  | exact om2t (by assumption) (by assumption) (by decide)
  | exact om3t (by assumption) (by assumption) (by decide)
  | exact omC (by assumption) (by decide)
  | exact omCi (by assumption) (by assumption) (by decide)
  | exact omCe (by assumption) (by assumption) (by assumption) (by decide)
  | exact omQ (by assumption) (by assumption) (by decide)
  | exact omD (by assumption)
  | exact omJ (by assumption) (by assumption)
  | exact omK (by assumption) (by assumption)
  | exact omN (by assumption) (by assumption)
  | exact omU (by assumption))
section
variable {M : Model} {A : Around} {E : Value → Shared → Prop} {s : Shared} {α β : Type}
theorem iteT {c : Prop} [Decidable c] {x y : Sem α} {Q : α → Shared → Prop} (hc : c) (h : wpAny M A x Q E s) : wpAny M A (if c then x else y) Q E s := by rw [if_pos hc]; exact h
theorem iteF {c : Prop} [Decidable c] {x y : Sem α} {Q : α → Shared → Prop} (hc : ¬ c) (h : wpAny M A y Q E s) : wpAny M A (if c then x else y) Q E s := by rw [if_neg hc]; exact h
theorem eqP {t : Sem α} (r : α) {Q : α → Shared → Prop} (e : t = pure r) (h : Q r s) : wpAny M A t Q E s := by rw [e]; exact wpAny_pure h
theorem fiC {x : α} {xs : List α} {i : β} {f : α → β → Sem (ForInStep β)} {Q : β → Shared → Prop} (h : wpAny M A (f x i) (fun r s' => match r with | .done j => Q j s' | .yield j => wpAny M A (forIn xs j f) Q E s') E s) : wpAny M A (forIn (x :: xs) i f) Q E s := by
  rw [List.forIn_cons]
  refine wpAny_bind (wpAny_mono h (fun r s' q => ?_) fun _ _ e => e)
  cases r with
  | done j => exact wpAny_pure q
  | yield j => exact q
theorem fiA {xs : Array α} {i : β} {f : α → β → Sem (ForInStep β)} {Q : β → Shared → Prop} (h : wpAny M A (forIn xs.toList i f) Q E s) : wpAny M A (forIn xs i f) Q E s := by rw [← Array.forIn_toList]; exact h
theorem fiN {i : β} {f : α → β → Sem (ForInStep β)} {Q : β → Shared → Prop} (h : Q i s) : wpAny M A (forIn [] i f) Q E s := by rw [List.forIn_nil]; exact wpAny_pure h
end
local macro_rules | `(tactic| walk_at "mem") => `(tactic| first | exact .head _ | exact .tail _ (.head _) | exact .tail _ (.tail _ (.head _)) | exact .tail _ (.tail _ (.tail _ (.head _))) | exact .tail _ (.tail _ (.tail _ (.tail _ (.head _)))) | exact .tail _ (.tail _ (.tail _ (.tail _ (.tail _ (.head _))))) | exact .tail _ (.tail _ (.tail _ (.tail _ (.tail _ (.tail _ (.head _)))))) | assumption)
local macro_rules | `(tactic| walk_at "up") => `(tactic| first | exact .head | exact .tail .head | exact .tail (.tail .head) | exact .tail (.tail (.tail .head)) | exact .tail (.tail (.tail (.tail .head))) | exact .tail (.tail (.tail (.tail (.tail .head)))) | exact .tail (.tail (.tail (.tail (.tail (.tail .head))))))
noncomputable abbrev kvsK (n1 n2 f sl a1 a2 a3 a4 a5 a6 st : Value) : KV := [("__module__", n1), ("__qualname__", n2), ("__firstlineno__", f), ("__slots__", sl), ("__init__", a1), ("__lt__", a2), ("__gt__", a3), ("__eq__", a4), ("__le__", a5), ("__ge__", a6), ("__hash__", .none), ("__static_attributes__", st)]
section
variable {prog : Program} {w : World} {A : Around} {E : Value → Shared → Prop} {s : Shared} {b : Bs} {P : PM} {L : Addr} {m : Mp} {N N' : List (Addr × Kd)}
theorem isI {a : Addr} {c base : Value} {d dt sl} {r : Bool} {Q : Bool → Shared → Prop} (F : Fm b P L s.heap m N) (hm : (a, Kd.is ⟨c, d, dt, sl⟩) ∈ N) (e : isSubtype c base = pure r) (h : Q r s) : wpAny (model prog w) A (isInstance (.ref a) base) Q E s :=
  wpAny_bind (wpAny_bind (lpI F hm (wpAny_pure (eqP r e h))))
theorem lpD {a : Addr} {kvs : KV} {part : Option Value} {Q : Obj → Shared → Prop} (F : Fm b P L s.heap m N) (hm : (a, Kd.dct kvs) ∈ N) (h : ∀ es ep, Ents es.toList kvs → Q ⟨.type "dict", none, .dict es ep, #[]⟩ s) : wpAny (model prog w) A (loadPart a part) Q E s := by
  obtain ⟨⟨c, d, dt, sl⟩, e, _, h1, h2, h3, es, ep, hd, hE⟩ := F.led _ hm
  dsimp only at h1 h2 h3 hd
  subst h1 h2 h3 hd
  exact wpAny_loadPart e (h es ep hE)
theorem isD {a : Addr} {kvs : KV} {base : Value} {r : Bool} {Q : Bool → Shared → Prop} (F : Fm b P L s.heap m N) (hm : (a, Kd.dct kvs) ∈ N) (e : isSubtype (.type "dict") base = pure r) (h : Q r s) : wpAny (model prog w) A (isInstance (.ref a) base) Q E s :=
  wpAny_bind (wpAny_bind (lpD F hm fun _ _ _ => wpAny_pure (eqP r e h)))
theorem spD {a : Addr} {kvs : KV} {x : PySem.Str} {r : Option Value} {Q : Option Value → Shared → Prop} (F : Fm b P L s.heap m N) (hm : (a, Kd.dct kvs) ∈ N) (e : typeLookup (.type "dict") x = pure r) (h : Q r s) : wpAny (model prog w) A (specialOf (.ref a) x) Q E s :=
  wpAny_bind (wpAny_bind (lpD F hm fun _ _ _ => wpAny_pure (eqP r e h)))
theorem enD {a : Addr} {kvs : KV} {part : Option Value} {Q : Array DictEntry → Shared → Prop} (F : Fm b P L s.heap m N) (hm : (a, Kd.dct kvs) ∈ N) (h : ∀ es, Ents es.toList kvs → Q es s) : wpAny (model prog w) A (dictEntries a part) Q E s :=
  wpAny_bind (lpD F hm fun es _ hE => wpAny_pure (h es hE))
theorem sqI {a : Addr} {c : Value} {d sl n} {xs : Array Value} {Q : Option (Array Value) → Shared → Prop} (F : Fm b P L s.heap m N) (hm : (a, Kd.is ⟨c, d, .seq xs n, sl⟩) ∈ N) (h : Q (some xs) s) : wpAny (model prog w) A (seqItems? (.ref a)) Q E s :=
  wpAny_bind (ldI F hm (wpAny_pure h))
end
theorem Ents.findE {es : Array DictEntry} {kvs : KV} (hE : Ents es.toList kvs) (x : PySem.Str) : (es.find? (·.key.isStr x)).map (·.val) = kget kvs x := by
  obtain ⟨en, h1, h2⟩ := hE.find x false
  rw [← nsNameIn_fst, h1]; exact h2
theorem Ents.anyE {es : Array DictEntry} {kvs : KV} (hE : Ents es.toList kvs) (x : PySem.Str) : es.any (·.key.isStr x) = (kget kvs x).isSome := by
  rw [nswAny_arr (fun e : DictEntry => e.key.isStr x) es, ← hE.findE x]
  cases es.find? (·.key.isStr x) <;> rfl
theorem slRead {prog : Program} {w : World} {A : Around} {E : Value → Shared → Prop} {s : Shared} {b : Bs} {P : PM} {L : Addr} {m : Mp} {N : List (Addr × Kd)} {Q : Builtin.Slots.Plan → Shared → Prop} {sl : Addr} {t2 : Tok} {kvs : KV} {es : Array DictEntry}
    (F : Fm b P L s.heap m N) (hsl : (sl, Kd.list [.str "obj" t2]) ∈ N) (hE : Ents es.toList kvs) (h1 : kget kvs "__slots__" = some (.ref sl)) (h2 : kget kvs "obj" = none)
    (h : ∀ h', Fm b P L h' m N → Q { names := ["obj"], dict := false, weak := false, inherited := [] } ⟨h', s.gens, s.drawn, s.toks, s.os⟩) :
    wpAny (model prog w) A (Builtin.Slots.read "K" [.type "object"] es) Q E s := by
  unfold Builtin.Slots.read
  refine wpAny_bind ?_
  refine eqP (.type "object") (by kernel_rfl) ?_
  refine wpAny_bind ?_
  refine eqP [] (by kernel_rfl) ?_
  refine wpAny_bind ?_
  refine eqP false (by kernel_rfl) ?_
  refine wpAny_bind ?_
  refine eqP false (by kernel_rfl) ?_
  refine wpAny_bind ?_
  refine eqP false (by kernel_rfl) ?_
  have hf := hE.findE "__slots__"
  rw [h1] at hf
  obtain ⟨e, he, hv⟩ := Option.map_eq_some_iff.mp hf
  dsimp only
  rw [he]
  refine wpAny_bind ?_
  refine wpAny_rule ?_
  refine wpAny_bind ?_
  rw [hv]
  obtain ⟨oS, eS, cS, hS1, hS2, nS, hS3⟩ := F.led _ hsl
  refine wpAny_bind (wpAny_load eS ?_)
  rw [hS3]
  refine wpAny_pure ?_
  refine iteF (by decide) ?_
  refine wpAny_bind ?_
  refine wpAny_collect_seq sl (.inl rfl) eS hS1 hS3 (fun h' hk => ?_) (by simp [sizeLine])
  have F' := F.keepAll hk
  refine iteT (by rfl) ?_
  refine wpAny_bind ?_
  refine eqP false (by kernel_rfl) ?_
  refine iteF (by decide) ?_
  refine wpAny_bind ?_
  refine fiC ?_
  refine wpAny_bind ?_
  refine eqP (some ("obj" : PySem.Str)) (by rfl) ?_
  refine wpAny_bind ?_
  refine wpAny_pure ?_
  dsimp only
  rw [show Builtin.Slots.isIdentifier "obj" = some true from by decide +kernel]
  refine wpAny_bind ?_
  refine wpAny_pure ?_
  refine iteF (by decide) ?_
  refine iteF (by decide) ?_
  refine iteF (by decide) ?_
  refine wpAny_pure ?_
  refine fiN ?_
  refine wpAny_bind ?_
  refine fiA ?_
  refine fiC ?_
  refine iteF (by decide +kernel) ?_
  refine iteF (by
    rw [show Builtin.Slots.mangle "K" "obj" = "obj" from by decide +kernel, hE.anyE, h2]; decide) ?_
  refine iteF (by decide +kernel) ?_
  refine wpAny_pure ?_
  refine fiN ?_
  refine wpAny_bind ?_
  refine fiC ?_
  refine iteF (by decide +kernel) ?_
  refine wpAny_pure ?_
  refine fiN ?_
  refine wpAny_pure ?_
  exact h _ F'
theorem Ents.length {es : List DictEntry} {kvs : KV} (e : Ents es kvs) : es.length = kvs.length := by
  induction e with
  | nil => rfl
  | cons _ ih => simp only [List.length_cons, ih]
section
variable {prog : Program} {w : World} {A : Around} {E : Value → Shared → Prop} {s : Shared} {b : Bs} {P : PM} {L : Addr} {m : Mp} {N N' : List (Addr × Kd)}
theorem nwD {es : Array DictEntry} {kvs : KV} {Q : Value → Shared → Prop} (F : Fm b P L s.heap m N) (hE : Ents es.toList kvs) (hl : kvs.length ≤ 1000) (h : ∀ D h', Fm b P L h' m ((D, .dct kvs) :: N) → Q (.ref D) ⟨h', s.gens, s.drawn, s.toks, s.os⟩) :
    wpAny (model prog w) A (newObj (.type "dict") (.dict es)) Q E s := by
  refine wpAny_newObj_type (h _ _ (F.push (k := .dct kvs) ⟨rfl, rfl, rfl, es, 0, rfl, hE⟩ (ty_ne "dict") rfl)) ?_
  have := hE.length
  have h2 : es.size = es.toList.length := by simp
  have h3 : (1000 : Nat) ≤ sizeLine := by decide
  show es.size ≤ sizeLine + 1
  omega
theorem ssI {a : Addr} {c : Value} {dd : Option Addr} {dt : Data} {sl sl' : Array (Option Value)} {i : Nat} {v : Option Value} {Q : Unit → Shared → Prop} (F : Fm b P L s.heap m N) (u : Up a (.is ⟨c, dd, dt, sl⟩) (.is ⟨c, dd, dt, sl'⟩) N N')
    (h : ∀ h', Fm b P L h' m N' → Q () ⟨h', s.gens, s.drawn, s.toks, s.os⟩) (e : (sl ++ Array.replicate (i + 1 - sl.size) none).setIfInBounds i v = sl' := by rfl) (hi : i < sizeLine := by decide) (hc : c ≠ fcls := by exact ty_ne "type") (hf : (Obj.mk c dd dt sl').isFreed = false := by rfl) :
    wpAny (model prog w) A (setSlotAt a i v) Q E s := by
  subst e
  unfold setSlotAt
  refine iteF (by omega) ?_
  exact uoI F u hc hf h
theorem ucI {a : Addr} {c : Value} {dd : Option Addr} {cd cd' : ClassData} {sl : Array (Option Value)} {f : ClassData → ClassData} {Q : Unit → Shared → Prop} (F : Fm b P L s.heap m N) (u : Up a (.is ⟨c, dd, .cls cd, sl⟩) (.is ⟨c, dd, .cls cd', sl⟩) N N')
    (h : ∀ h', Fm b P L h' m N' → Q () ⟨h', s.gens, s.drawn, s.toks, s.os⟩) (e : f cd = cd' := by rfl) (hl : (Data.cls cd').pastItsLine = none := by rfl) (hc : c ≠ fcls := by exact ty_ne "type") :
    wpAny (model prog w) A (updateCls a f) Q E s := by
  subst e
  unfold updateCls
  refine wpAny_bind (ldI F u.mem ?_)
  refine wpAny_bind (wpAny_mono (Q := fun _ s' => ∃ h', Fm b P L h' m N' ∧ s' = ⟨h', s.gens, s.drawn, s.toks, s.os⟩) (E := E) (uoI (part := none) F u hc rfl fun h' F' => ⟨h', F', rfl⟩) ?_ fun _ _ e => e)
  rintro _ s' ⟨h', F', rfl⟩
  unfold lookBehind
  have hm : (a, Kd.is ⟨c, dd, .cls (f cd), sl⟩) ∈ N' := by
    clear h F' F
    induction u with
    | head => exact .head _
    | tail _ ih => exact .tail _ ih
  refine wpAny_bind (lpI F' hm ?_)
  dsimp only
  rw [hl]
  exact wpAny_pure (h h' F')
theorem saI {a : Addr} {c : Value} {dd : Option Addr} {dt : Data} {sl : Array (Option Value)} {i : Nat} {Q : Option Value → Shared → Prop} (F : Fm b P L s.heap m N) (hm : (a, Kd.is ⟨c, dd, dt, sl⟩) ∈ N) (h : Q (sl[i]?).join s) :
    wpAny (model prog w) A (slotAt a i) Q E s := wpAny_bind (lpI F hm (wpAny_pure h))
theorem cdI {a : Addr} {c : Value} {dd : Option Addr} {cd : ClassData} {sl : Array (Option Value)} {Q : ClassData → Shared → Prop} (F : Fm b P L s.heap m N) (hm : (a, Kd.is ⟨c, dd, .cls cd, sl⟩) ∈ N) (h : Q cd s) :
    wpAny (model prog w) A (classData a) Q E s := wpAny_bind (ldI F hm (wpAny_pure h))
theorem moI {a : Addr} {c : Value} {dd : Option Addr} {cd : ClassData} {sl : Array (Option Value)} {Q : List Value → Shared → Prop} (F : Fm b P L s.heap m N) (hm : (a, Kd.is ⟨c, dd, .cls cd, sl⟩) ∈ N) (h : Q cd.mro s) :
    wpAny (model prog w) A (mroOf (.ref a)) Q E s := wpAny_bind (cdI F hm (wpAny_pure h))
/-- a name looked up along a class of two -/
theorem tlI {a : Addr} {c : Value} {dd : Option Addr} {cd : ClassData} {sl : Array (Option Value)} {kvs : KV} {x : PySem.Str} {r : Option Value} {Q : Option Value → Shared → Prop} (F : Fm b P L s.heap m N) (hm : (a, Kd.is ⟨c, dd, .cls cd, sl⟩) ∈ N) (hmro : cd.mro = [.ref a, .type "object"]) (hd : (cd.ns, Kd.dct kvs) ∈ N)
    (hx : kget kvs x = none) (e : classOwn (.type "object") x = pure r) (h : Q r s) : wpAny (model prog w) A (typeLookup (.ref a) x) Q E s := by
  unfold typeLookup
  refine wpAny_bind (moI F hm ?_)
  rw [hmro]
  refine wpAny_bind (fiC ?_)
  refine wpAny_bind ?_
  refine wpAny_bind (cdI F hm (gtD F hd ?_))
  rw [hx]
  refine wpAny_pure ?_
  refine fiC ?_
  refine wpAny_bind (eqP r e ?_)
  cases r with
  | none => exact wpAny_pure (fiN (wpAny_pure h))
  | some v => exact wpAny_pure (wpAny_pure h)
end
noncomputable abbrev clsO (d : Addr) (mro : List Value) (hasDict : Bool) (slotNames : List PySem.Str) (sl : Array (Option Value)) : Obj := ⟨.type "type", none, .cls { name := "K", bases := [.type "object"], mro := mro, ns := d, qualname := "cmp_to_key.<locals>.K", hasDict := hasDict, slotNames := slotNames }, sl⟩
theorem rfMk {prog : Program} {w : World} {A : Around} {E : Value → Shared → Prop} {s : Shared} {b : Bs} {P : PM} {L : Addr} {m : Mp} {N : List (Addr × Kd)} {Q : Unit → Shared → Prop} {c d : Addr} {kvs : KV} {hd : Bool} {sn : List PySem.Str} {sl : Array (Option Value)} {v : Value}
    (F : Fm b P L s.heap m N) (hm : (c, Kd.is (clsO d [.ref c, .type "object"] hd sn sl)) ∈ N) (hd : (d, Kd.dct kvs) ∈ N) (hs : (sl[4]?).join = some v) (hx : kget kvs "__new__" = none) (h : Q () s) :
    wpAny (model prog w) A (Bind.refreshMaker c) Q E s := by
  unfold Bind.refreshMaker
  refine wpAny_bind (saI F hm ?_)
  rw [hs]
  refine iteF (by simp) ?_
  refine wpAny_bind (tlI F hm rfl hd hx (r := some (.builtin "object.__new__")) (by kernel_rfl) ?_)
  refine iteF (by decide +kernel) ?_
  exact wpAny_pure h
theorem slInst {prog : Program} {w : World} {A : Around} {E : Value → Shared → Prop} {s : Shared} {b : Bs} {P : PM} {L : Addr} {m : Mp} {N : List (Addr × Kd)} {Q : Unit → Shared → Prop} {c d : Addr} {kvs : KV} {mro : List Value} {sl : Array (Option Value)}
    (F : Fm b P L s.heap m ((c, .is (clsO d mro true [] sl)) :: (d, .dct kvs) :: N)) (hx : kget kvs "obj" = none) (hl : kvs.length ≤ 1000)
    (h : ∀ md h' tk tn, Fm b P L h' m ((md, .is ⟨.type "member_descriptor", none, .fields #[.str "obj" tn, .ref c, .builtin "proto.slot", .builtin "proto.slot#set", rawInt 0], #[]⟩) :: (c, .is (clsO d mro false ["obj"] sl)) :: (d, .dct (kset kvs "obj" (.ref md))) :: N) → Q () ⟨h', s.gens, s.drawn, tk, s.os⟩) :
    wpAny (model prog w) A (Builtin.Slots.install (.ref c) d [.type "object"] { names := ["obj"], dict := false, weak := false, inherited := [] }) Q E s := by
  unfold Builtin.Slots.install
  refine wpAny_bind ?_
  refine fiC ?_
  refine wpAny_bind ?_
  refine gtD F (.tail _ (.head _)) ?_
  rw [hx]
  refine iteT (by rfl) ?_
  refine wpAny_bind ?_
  refine wpAny_mkStr ?_ (by decide)
  refine wpAny_bind ?_
  refine wpAny_newObj_type ?_ (by size_fits)
  have F := F.push (o := ⟨.type "member_descriptor", none, .fields #[.str "obj" s.toks, .ref c, .builtin "proto.slot", .builtin "proto.slot#set", rawInt 0], #[]⟩) (k := .is _) rfl (ty_ne "member_descriptor") rfl
  refine wpAny_bind ?_
  unfold nsSetByValue
  refine wpAny_bind ?_
  refine lpD (by exact F) (.tail _ (.tail _ (.head _))) fun es ep hE => ?_
  refine iteF (by
    have := hE.length
    have h2 : es.size = es.toList.length := by simp
    have h3 : (1000 : Nat) ≤ sizeLine := by decide
    simp only [Bool.and_eq_true, decide_eq_true_eq, not_and]
    intro h4
    omega) ?_
  refine stD (by exact F) (.tail (.tail .head)) fun h₂ tk₂ F => ?_
  refine wpAny_pure ?_
  refine fiN ?_
  refine wpAny_bind ?_
  refine fiC ?_
  refine wpAny_bind ?_
  refine eqP false (by kernel_rfl) ?_
  refine iteF (by decide) ?_
  refine wpAny_pure ?_
  refine fiN ?_
  refine iteF (by decide) ?_
  refine ucI (cd' := { name := "K", bases := [.type "object"], mro := mro, ns := d, qualname := "cmp_to_key.<locals>.K", hasDict := false, slotNames := ["obj"] }) F (.tail .head) fun h₃ F => ?_
  exact h _ _ _ _ F
end Mine
end

/-! text New2 -/
section
open PySem PySem.W PyProof.Rows PySem.Calls PySem.Spec
set_option maxRecDepth 100000
set_option maxHeartbeats 4000000
namespace Mine
local macro_rules | `(tactic| omega) => `(tactic| with_reducible first
  | assumption
  | exact Nat.zero_le _
  | exact Int.natCast_nonneg _
  | exact om0 (by assumption)
  | exact om1 (by assumption) (by decide)
  | exact om2 (by assumption) (by decide)
  | exact om3 (by assumption) (by decide)
  | exact om4 (by assumption) (by decide)
  | exact omT (by assumption)
  | exact omI (by assumption) (by assumption)
  | exact omI' (by assumption) (by assumption)
  | exact omL (by assumption) (by first | assumption | decide)
  | exact omLt (by assumption) (by first | assumption | decide)
  | exact omS (by assumption) (by first | assumption | decide)
  | exact omV (by assumption) (by first | assumption | decide)
  | exact omW (by assumption) (by first | assumption | decide)
  | exact omE (by assumption) (by assumption) (by first | assumption | decide)
  | exact omE' (by assumption) (by assumption) (by first | assumption | decide)
  | exact om1l (by assumption) (by decide)
  | exact om2l (by assumption) (by decide)
  | exact om1t (by assumption) (by assumption) (by decide)
  | exact om2t (by assumption) (by assumption) (by decide)
  | exact om3t (by assumption) (by assumption) (by decide)
  | exact omC (by assumption) (by decide)
  | exact omCi (by assumption) (by assumption) (by decide)
  | exact omCe (by assumption) (by assumption) (by assumption) (by decide)
  | exact omQ (by assumption) (by assumption) (by decide)
  | exact omD (by assumption)
  | exact omJ (by assumption) (by assumption)
  | exact omK (by assumption) (by assumption)
  | exact omN (by assumption) (by assumption)
  | exact omU (by assumption))
theorem wpAny_le {M : Model} {A A' : Around} {E : Value → Shared → Prop} {s : Shared} {α : Type} {t : Sem α} {Q : α → Shared → Prop} (h1 : A.handled = A'.handled) (h2 : A.depth ≤ A'.depth) (h3 : A'.frames = none) (h4 : A'.guards = none) (h5 : A.units ≤ A'.units) (h : wpAny M A' t Q E s) : wpAny M A t Q E s :=
  fun Γ p hΓ => h Γ p ⟨hΓ.1.trans h1, Nat.le_trans hΓ.2.1 h2, fun l hl => by rw [h3] at hl; (cases hl), fun g hg => by rw [h4] at hg; (cases hg), Nat.le_trans hΓ.2.2.2.2 h5⟩
noncomputable abbrev A0 : Around := { depth := 500, units := 1000 }
structure InA (A : Around) : Prop where
  h : A.handled = none
  d : A.depth ≤ 500
  u : A.units ≤ 1000
theorem InA.go {M : Model} {A : Around} (x : InA A) {E : Value → Shared → Prop} {s : Shared} {α : Type} {t : Sem α} {Q : α → Shared → Prop} (h : wpAny M A0 t Q E s) : wpAny M A t Q E s := wpAny_le (A' := A0) x.h x.d rfl rfl x.u h
local macro_rules | `(tactic| x_close) => `(tactic| first | (apply_assumption; assumption) | apply_assumption)
theorem supCall {prog : Program} {w : World} {s : Shared} {Q E : Value → Shared → Prop} {c d : Addr} {sl : Array (Option Value)}
    (hc : s.heap.get? c = some ⟨.type "type", none, .cls { name := "K", bases := [.type "object"], mro := [.ref c, .type "object"], ns := d, qualname := "cmp_to_key.<locals>.K", hasDict := false, slotNames := ["obj"] }, sl⟩)
    (hQ : ∀ a h, X.Mem s.heap h [] [(a, ⟨.type "super", none, .fields ⟨[.ref c, .ref c, .ref c]⟩, #[]⟩)] → Q (.ref a) ⟨h, s.gens, s.drawn, s.toks, s.os⟩) :
    wpAny (model prog w) A0 (call (.type "super") [.ref c, .ref c]) Q E s := by
  x_run
theorem cmGet {prog : Program} {w : World} {s : Shared} {Q E : Value → Shared → Prop} {c d : Addr} {sl : Array (Option Value)}
    (hc : s.heap.get? c = some ⟨.type "type", none, .cls { name := "K", bases := [.type "object"], mro := [.ref c, .type "object"], ns := d, qualname := "cmp_to_key.<locals>.K", hasDict := false, slotNames := ["obj"] }, sl⟩)
    (hQ : ∀ a h, X.Mem s.heap h [] [(a, ⟨.type "builtin_function_or_method", none, .fields ⟨[.builtin "object.__init_subclass__", .ref c]⟩, #[]⟩)] → Q (.ref a) ⟨h, s.gens, s.drawn, s.toks, s.os⟩) :
    wpAny (model prog w) A0 (call (.builtin "classmethod_descriptor.__get__") [.builtin "object.__init_subclass__", .none, .ref c]) Q E s := by
  x_run
theorem isCall {prog : Program} {w : World} {s : Shared} {Q E : Value → Shared → Prop} {c d f : Addr} {sl : Array (Option Value)}
    (hc : s.heap.get? c = some ⟨.type "type", none, .cls { name := "K", bases := [.type "object"], mro := [.ref c, .type "object"], ns := d, qualname := "cmp_to_key.<locals>.K", hasDict := false, slotNames := ["obj"] }, sl⟩)
    (hf : s.heap.get? f = some ⟨.type "builtin_function_or_method", none, .fields ⟨[.builtin "object.__init_subclass__", .ref c]⟩, #[]⟩)
    (hQ : ∀ tk, Q .none ⟨s.heap, s.gens, s.drawn, tk, s.os⟩) :
    wpAny (model prog w) A0 (call (.ref f) []) Q E s := by
  x_run
theorem tgaPrep {prog : Program} {w : World} {s : Shared} {Q E : Value → Shared → Prop} {tk : Tok}
    (hQ : ∀ a h, X.Mem s.heap h [] [(a, ⟨.type "builtin_function_or_method", none, .fields ⟨[.builtin "type.__prepare__", .type "type"]⟩, #[]⟩)] → Q (.ref a) ⟨h, s.gens, s.drawn, s.toks, s.os⟩) :
    wpAny (model prog w) A0 (call (.builtin "type.__getattribute__") [.type "type", .str "__prepare__" tk]) Q E s := by
  x_run
theorem memAll {h h' : Heap} {news : List (Addr × Obj)} (D : X.Mem h h' [] news) : ∀ b o, h.get? b = some o → h'.get? b = some o := fun b o e => D.keep b o e (by simp [X.away])
theorem Fm.noKey {b : Bs} {P : PM} {L : Addr} {h : Heap} {m : Mp} {N : List (Addr × Kd)} {M : Model} (F : Fm b P L h m N) (S : Sta b.P) (x : PySem.Str) : Looks M h (nsGet cStatics x) none := by
  obtain ⟨mc, e, r⟩ := S.lim
  intro A Q E s k q
  have := (e.mono F.ex.sub).ns F.ex.fz
  obtain ⟨o, es, ep, e1, e2⟩ := this
  exact wpAny_nsGet ⟨o, es, ep, k _ _ e1, e2⟩ (by rw [r]; exact q)
theorem Fm.noOpaque {b : Bs} {P : PM} {L : Addr} {h : Heap} {m : Mp} {N : List (Addr × Kd)} {M : Model} (F : Fm b P L h m N) (S : Sta b.P) {c : Addr} : Looks M h (opaqueClassAbove (.ref c)) none :=
  Looks.andThen (a := false) ((F.noKey S _).andThen .now) (by show Looks M h (if (!false) = true then pure none else _) none; rw [if_pos (show (!false) = true from rfl)]; exact .now)
theorem entry_sga : entryFor table "super.__getattribute__" = some Builtin.«super.__getattribute__» := entryFor_of_tree (by kernel_rfl)
theorem args_sga (a b : Value) : argsOk "super.__getattribute__" ⟨[a, b], []⟩ := by unfold argsOk; kernel_rfl
theorem kind_sga : builtinKind "super.__getattribute__" = some .slot := by decide +kernel
theorem split_sga : splitId "super.__getattribute__" = some ("super", "__getattribute__") := by decide +kernel
theorem plain_sga : plainId "super.__getattribute__" = true := by decide +kernel
theorem supInit {prog : Program} {w : World} {A : Around} {E : Value → Shared → Prop} {s : Shared} {b : Bs} {P : PM} {L : Addr} {m : Mp} {N : List (Addr × Kd)} {Q : Unit → Shared → Prop} {c d : Addr} {sl : Array (Option Value)} (I : InA A.in1)
    (F : Fm b P L s.heap m N) (S : Sta b.P) (hc : (c, Kd.is (clsO d [.ref c, .type "object"] false ["obj"] sl)) ∈ N) (h : ∀ h' tk, Fm b P L h' m N → Q () ⟨h', s.gens, s.drawn, tk, s.os⟩) :
    wpAny (model prog w) A (do let sup ← call (.type "super") [.ref c, .ref c]; let f ← holding [sup] (getAttr sup "__init_subclass__"); let _ ← call f [] []; pure ()) Q E s := by
  have I0 : InA A := ⟨I.h, I.d, by have := I.u; simp at this; omega⟩
  obtain ⟨oc, ec, _, rfl⟩ := F.led _ hc
  refine wpAny_bind (I0.go (supCall ec fun a h₁ D => ?_))
  have k1 := memAll D
  have F1 := F.keepAll k1
  have hsup := D.at 0 _ _ rfl
  refine wpAny_bind ?_
  refine wpAny_holding ?_
  refine wpAny_bind (wpAny_mkText (wpAny_holding ?_))
  refine wpAny_bind (wpAny_bind (wpAny_loadPart hsup (wpAny_pure ?_)))
  refine wpAny_bind (eqP (some (.builtin "super.__getattribute__")) (by kernel_rfl) ?_)
  refine iteF Bool.false_ne_true ?_
  refine wpAny_bind (eqP none (by rfl) ?_)
  refine wpAny_bind (wpAny_attempt (wpAny_holding ?_))
  refine iteF Bool.false_ne_true ?_
  refine wpAny_bind (eqP (.builtin "super.__getattribute__", [.ref a]) (by kernel_rfl) ?_)
  show wpAny _ _ (call (.builtin "super.__getattribute__") [.ref a, .str "__init_subclass__" _]) _ _ _
  refine wpAny_call ?_
  refine codeAny_call_builtin plain_sga entry_sga ?_
  have hk : Looks (model prog w) h₁ (isInstance (.ref a) (.type "super")) true := by
    intro A' Q' E' s' k q
    exact wpAny_bind (wpAny_bind (wpAny_loadPart (k _ _ hsup) (wpAny_pure (eqP true (by kernel_rfl) q))))
  refine @check_slot (model prog w) _ _ ⟨h₁, s.gens, s.drawn, s.toks + 1, s.os⟩ "super.__getattribute__" "super" "__getattribute__" (.ref a) [.str "__init_subclass__" s.toks] [] _ kind_sga split_sga hk (args_sga _ _) ?_
  unfold Builtin.«super.__getattribute__»
  refine wpAny_bind (eqP (some ("__init_subclass__" : PySem.Str)) (by rfl) ?_)
  refine iteF (by decide) ?_
  refine wpAny_bind (eqP (some ("__init_subclass__" : PySem.Str)) (by rfl) ?_)
  refine wpAny_bind (wpAny_field (x := .ref c) hsup rfl rfl ?_)
  refine wpAny_bind (wpAny_field (x := .ref c) hsup rfl rfl ?_)
  refine wpAny_bind (wpAny_field (x := .ref c) hsup rfl rfl ?_)
  refine iteF (by rw [show (Value.ref c == Value.none) = false from rfl]; decide) ?_
  refine wpAny_bind (wpAny_bind ((F1.noOpaque S).at (wpAny_pure ?_)))
  refine iteF (by rw [show (Value.ref c == Value.type "module") = false from rfl]; decide) ?_
  refine wpAny_bind (moI F1 hc ?_)
  dsimp only
  rw [show List.drop 1 (List.dropWhile (fun x => x != Value.ref c) [Value.ref c, Value.type "object"]) = [Value.type "object"] from by simp]
  refine wpAny_bind (fiC ?_)
  refine wpAny_bind (eqP (some (.builtin "object.__init_subclass__")) (by kernel_rfl) ?_)
  refine wpAny_bind (eqP (.type "classmethod_descriptor") (by kernel_rfl) ?_)
  refine wpAny_bind (eqP (some (.builtin "classmethod_descriptor.__get__")) (by kernel_rfl) ?_)
  refine wpAny_bind (wpAny_holding ?_)
  rw [show (Value.ref c == Value.ref c) = true from by simp, if_pos rfl]
  refine I.go (cmGet (k1 _ _ ec) fun f h₂ D2 => ?_)
  have k2 := memAll D2
  have F2 := F1.keepAll k2
  have hf := D2.at 0 _ _ rfl
  refine wpAny_bind (wpAny_pure ?_)
  refine wpAny_pure ?_
  refine wpAny_pure ?_
  refine wpAny_pure ?_
  refine wpAny_bind (I0.go (isCall (k2 _ _ (k1 _ _ ec)) hf fun tk => ?_))
  exact wpAny_pure (h _ _ F2)
end Mine
end

/-! text New3 -/
section
open PySem PySem.W PyProof.Rows PySem.Calls PySem.Spec
set_option maxRecDepth 100000
set_option maxHeartbeats 4000000
set_option pp.deepTerms false
set_option pp.maxSteps 6000
namespace Mine
noncomputable abbrev kvsF (n1 f sl a1 a2 a3 a4 a5 a6 st md : Value) : KV := [("__module__", n1), ("__firstlineno__", f), ("__slots__", sl), ("__init__", a1), ("__lt__", a2), ("__gt__", a3), ("__eq__", a4), ("__le__", a5), ("__ge__", a6), ("__hash__", .none), ("__static_attributes__", st), ("obj", md), ("__doc__", .none)]
noncomputable abbrev mdO (tn : Tok) (c : Addr) : Obj := ⟨.type "member_descriptor", none, .fields #[.str "obj" tn, .ref c, .builtin "proto.slot", .builtin "proto.slot#set", rawInt 0], #[]⟩
noncomputable abbrev clsS (bT : Addr) (t t3 : Tok) : Array (Option Value) := #[some (.ref bT), none, some (.str "K" t), some (.str "cmp_to_key.<locals>.K" t3), some (.builtin "object.__new__"), some (.bool false)]
inductive TyN (N : List (Addr × Kd)) : Value → Prop
  | int {i : Int} {t : Tok} : TyN N (.int i t)
  | str {x : PySem.Str} {t : Tok} : TyN N (.str x t)
  | none : TyN N .none
  | is {a : Addr} {o : Obj} {T : String} : (a, Kd.is o) ∈ N → o.cls = .type T → typeLookup (.type T) "__set_name__" = pure Option.none → TyN N (.ref a)
  | lst {a : Addr} {its : List Value} : (a, Kd.list its) ∈ N → TyN N (.ref a)
theorem TyN.tail {N : List (Addr × Kd)} {p : Addr × Kd} {v : Value} (x : TyN N v) : TyN (p :: N) v := by
  cases x with
  | int => exact .int
  | str => exact .str
  | none => exact .none
  | is h1 h2 h3 => exact .is (.tail _ h1) h2 h3
  | lst h1 => exact .lst (.tail _ h1)
theorem TyN.held {N : List (Addr × Kd)} {v : Value} (x : TyN N v) {k : PySem.Str} {tk : Tok} : Builtin.laidUnderItsOwnName (.str k tk) v = false := by cases x <;> rfl
theorem TyN.sp {prog : Program} {w : World} {A : Around} {E : Value → Shared → Prop} {s : Shared} {b : Bs} {P : PM} {L : Addr} {m : Mp} {N : List (Addr × Kd)} {v : Value} {Q : Option Value → Shared → Prop} (x : TyN N v) (F : Fm b P L s.heap m N) (h : Q Option.none s) : wpAny (model prog w) A (specialOf v "__set_name__") Q E s := by
  cases x with
  | int => exact eqP Option.none (by kernel_rfl) h
  | str => exact eqP Option.none (by kernel_rfl) h
  | none => exact eqP Option.none (by kernel_rfl) h
  | is h1 h2 h3 => exact wpAny_bind (wpAny_bind (lpI F h1 (wpAny_pure (by rw [h2]; exact eqP Option.none h3 h))))
  | lst h1 =>
    obtain ⟨o, e, _, hc, _⟩ := F.led _ h1
    exact wpAny_bind (wpAny_bind (wpAny_loadPart e (wpAny_pure (by rw [hc]; exact eqP Option.none (by kernel_rfl) h))))
theorem fiEs {M : Model} {A : Around} {E : Value → Shared → Prop} {s : Shared} {β : Type} {es : List DictEntry} {kvs : KV} (hE : Ents es kvs) {i : β} {f : DictEntry → β → Sem (ForInStep β)} {Q : β → Shared → Prop}
    (hf : ∀ hs tk k v, (k, v) ∈ kvs → ∀ (Q' : ForInStep β → Shared → Prop), Q' (.yield i) s → wpAny M A (f ⟨hs, .str k tk, v⟩ i) Q' E s) (h : Q i s) : wpAny M A (forIn es i f) Q E s := by
  induction hE with
  | nil => exact fiN h
  | cons t ih => exact fiC (hf _ _ _ _ (.head _) _ (ih fun hs tk k v hm => hf hs tk k v (.tail _ hm)))
theorem tyNew {prog : Program} {w : World} {A : Around} {E : Value → Shared → Prop} {s : Shared} {b : Bs} {P : PM} {L : Addr} {m : Mp} {N : List (Addr × Kd)} {Q : PySem.Fin → Shared → Prop} {bT nsA sl : Addr} {t t1 t2 t3 : Tok} {f a1 a2 a3 a4 a5 a6 st : Value} {n1 : PySem.Str}
    (F : Fm b P L s.heap m N) (S : Sta b.P) (hne : nsA ≠ sysModules) (hb : (bT, Kd.is ⟨.type "tuple", none, .seq #[.type "object"] 0, #[]⟩) ∈ N) (hsl : (sl, Kd.list [.str "obj" t2]) ∈ N)
    (hn : (nsA, Kd.dct (kvsK (.str n1 t1) (.str "cmp_to_key.<locals>.K" t3) f (.ref sl) a1 a2 a3 a4 a5 a6 st)) ∈ N) (I : InA A.in1) (hv : ∀ v ∈ [f, a1, a2, a3, a4, a5, a6, st], TyN N v)
    (h : ∀ c d md tn h' tk, Fm b P L h' m ((md, .is (mdO tn c)) :: (c, .is (clsO d [.ref c, .type "object"] false ["obj"] (clsS bT t t3))) :: (d, .dct (kvsF (.str n1 t1) f (.ref sl) a1 a2 a3 a4 a5 a6 st (.ref md))) :: N) → Q (.done (.ret (.ref c))) ⟨h', s.gens, s.drawn, tk, s.os⟩) :
    wpAny (model prog w) A (Builtin.«type.__new__» ⟨[.type "type", .str "K" t, .ref bT, .ref nsA], []⟩) Q E s := by
  unfold Builtin.«type.__new__»
  refine wpAny_bind ?_
  refine eqP (some ("K" : PySem.Str)) (by rfl) ?_
  refine wpAny_bind ?_
  refine isI F hb (r := true) (by kernel_rfl) ?_
  refine iteF (by decide) ?_
  refine wpAny_bind ?_
  refine isD F hn (r := true) (by kernel_rfl) ?_
  refine iteF (by decide) ?_
  refine wpAny_bind ?_
  refine sqI F hb ?_
  refine iteF (by decide) ?_
  refine wpAny_bind ?_
  refine fiC ?_
  refine wpAny_bind ?_
  refine eqP true (by rfl) ?_
  refine iteF (by decide) ?_
  refine wpAny_pure ?_
  refine fiN ?_
  refine wpAny_bind ?_
  refine fiC ?_
  refine wpAny_bind ?_
  refine eqP (.type "type") (by kernel_rfl) ?_
  refine wpAny_bind ?_
  refine eqP true (by kernel_rfl) ?_
  refine iteT (by decide) ?_
  refine wpAny_pure ?_
  refine fiN ?_
  refine iteF (by decide) ?_
  refine wpAny_bind ?_
  refine eqP () (by kernel_rfl) ?_
  refine wpAny_bind ?_
  refine eqP (.type "object") (by kernel_rfl) ?_
  refine iteF (by simpa using hne) ?_
  refine wpAny_bind ?_
  refine enD F hn fun es hE => ?_
  refine wpAny_bind ?_
  refine spD F hn (r := some (.builtin "dict.__iter__")) (by kernel_rfl) ?_
  refine iteT (by simp) ?_
  refine wpAny_bind ?_
  refine wpAny_pure ?_
  refine wpAny_bind ?_
  refine wpAny_holding ?_
  refine slRead F hsl hE rfl rfl fun h' F => ?_
  refine wpAny_bind ?_
  refine nwD F hE (by simp) fun d h₂ F => ?_
  refine iteF (by show ¬ (!(es.any fun x => x.key.isStr _)) = true; rw [hE.anyE]; show ¬ (!true) = true; decide) ?_
  refine wpAny_bind ?_
  refine iteF (by decide +kernel) ?_
  refine wpAny_pure ?_
  refine iteF (by decide +kernel) ?_
  refine wpAny_bind ?_
  refine gtD F (.head _) ?_
  refine wpAny_bind ?_
  refine gtD F (.head _) ?_
  refine wpAny_bind ?_
  refine eqP (some ("cmp_to_key.<locals>.K" : PySem.Str)) (by rfl) ?_
  refine wpAny_bind ?_
  refine wpAny_pure ?_
  refine wpAny_bind ?_
  refine gtD F (.head _) ?_
  refine wpAny_bind ?_
  refine alI (o := clsO d [] true [] #[]) F (ty_ne "type") rfl fun c h₃ F => ?_
  refine iteT (by rfl) ?_
  refine wpAny_bind ?_
  refine ssI (sl' := #[some (.ref bT)]) F .head fun h₄ F => ?_
  refine wpAny_bind ?_
  refine ssI (sl' := #[some (.ref bT), none, some (.str "K" t)]) F .head fun h₅ F => ?_
  refine wpAny_bind ?_
  refine ssI (sl' := #[some (.ref bT), none, some (.str "K" t), some (.str "cmp_to_key.<locals>.K" t3)]) F .head fun h₆ F => ?_
  refine wpAny_bind ?_
  refine dlD F (.tail .head) rfl fun h₇ F => ?_
  refine wpAny_bind ?_
  refine gtD F (.tail _ (.head _)) ?_
  refine wpAny_bind ?_
  refine fiC ?_
  refine wpAny_bind ?_
  refine gtD F (.tail _ (.head _)) ?_
  refine wpAny_pure ?_
  refine fiC ?_
  refine wpAny_bind ?_
  refine gtD F (.tail _ (.head _)) ?_
  refine wpAny_pure ?_
  refine fiN ?_
  refine wpAny_bind ?_
  refine gtD F (.tail _ (.head _)) ?_
  refine wpAny_bind ?_
  refine gtD F (.tail _ (.head _)) ?_
  refine wpAny_bind ?_
  refine eqP none (by kernel_rfl) ?_
  refine wpAny_bind ?_
  refine eqP [.type "object"] (by kernel_rfl) ?_
  refine wpAny_bind ?_
  refine wpAny_pure ?_
  refine wpAny_bind ?_
  rw [show List.filter (fun x => x != Value.ref c) [Value.ref c, Value.type "object"] = [Value.type "object"] from by simp]
  refine eqP false (by kernel_rfl) ?_
  refine wpAny_bind ?_
  refine ucI (cd' := { name := "K", bases := [.type "object"], mro := [.ref c, .type "object"], ns := d, qualname := "cmp_to_key.<locals>.K" }) F .head (fun h₈ F => ?_) (by dsimp only; rw [hE.anyE]; rfl)
  refine wpAny_bind ?_
  refine eqP (some "object.__new__") (by kernel_rfl) ?_
  refine wpAny_bind ?_
  refine ssI (sl' := #[some (.ref bT), none, some (.str "K" t), some (.str "cmp_to_key.<locals>.K" t3), some (.builtin "object.__new__")]) F .head fun h₉ F => ?_
  refine wpAny_bind ?_
  refine rfMk F (.head _) (.tail _ (.head _)) rfl rfl ?_
  refine wpAny_bind ?_
  refine slInst F rfl (Nat.le_of_ble_eq_true rfl) fun md h₁₀ tk₁₀ tn F => ?_
  refine wpAny_bind ?_
  refine eqP false (by kernel_rfl) ?_
  refine wpAny_bind ?_
  refine ssI (sl' := #[some (.ref bT), none, some (.str "K" t), some (.str "cmp_to_key.<locals>.K" t3), some (.builtin "object.__new__"), some (.bool false)]) F (.tail .head) fun h₁₁ F => ?_
  refine iteF (by decide) ?_
  refine iteF (by decide) ?_
  refine wpAny_bind ?_
  refine gtD F (.tail _ (.tail _ (.head _))) ?_
  refine iteT (by rfl) ?_
  refine wpAny_bind ?_
  refine stD F (.tail (.tail .head)) fun h₁₂ tk₁₂ F => ?_
  refine wpAny_bind ?_
  refine gtD F (.tail _ (.tail _ (.head _))) ?_
  refine iteT (by rfl) ?_
  refine wpAny_bind ?_
  refine gtD F (.tail _ (.tail _ (.head _))) ?_
  refine iteF Bool.false_ne_true ?_
  refine wpAny_bind ?_
  refine fiC ?_
  refine wpAny_bind (eqP () (by kernel_rfl) ?_)
  refine wpAny_pure ?_
  refine fiN ?_
  have F : Fm b P L h₁₂ m ((md, .is (mdO tn c)) :: (c, .is (clsO d [.ref c, .type "object"] false ["obj"] (clsS bT t t3))) :: (d, .dct (kvsF (.str n1 t1) f (.ref sl) a1 a2 a3 a4 a5 a6 st (.ref md))) :: N) := F
  refine wpAny_bind ?_
  refine wpAny_tryCatch ?_
  refine wpAny_holding ?_
  refine wpAny_bind (enD F (.tail _ (.tail _ (.head _))) fun es' hE' => ?_)
  refine wpAny_bind (fiA (fiEs hE' (fun hs tk k v hkv Q' q => ?_) ?_))
  · refine wpAny_bind (eqP (some k) (by rfl) ?_)
    refine iteF Bool.false_ne_true ?_
    exact wpAny_pure q
  refine iteF (by decide) ?_
  refine wpAny_bind (enD F (.tail _ (.tail _ (.head _))) fun es'' hE'' => ?_)
  refine wpAny_bind (fiA (fiEs hE'' (fun hs tk k v hkv Q' q => ?_) ?_))
  · have hty : TyN ((md, .is (mdO tn c)) :: (c, .is (clsO d [.ref c, .type "object"] false ["obj"] (clsS bT t t3))) :: (d, .dct (kvsF (.str n1 t1) f (.ref sl) a1 a2 a3 a4 a5 a6 st (.ref md))) :: N) v := by
      have up : ∀ {v}, TyN N v → TyN ((md, .is (mdO tn c)) :: (c, .is (clsO d [.ref c, .type "object"] false ["obj"] (clsS bT t t3))) :: (d, .dct (kvsF (.str n1 t1) f (.ref sl) a1 a2 a3 a4 a5 a6 st (.ref md))) :: N) v := fun x => ((x.tail).tail).tail
      simp only [List.mem_cons, Prod.mk.injEq, List.not_mem_nil, or_false] at hkv
      rcases hkv with ⟨_, rfl⟩ | ⟨_, rfl⟩ | ⟨_, rfl⟩ | ⟨_, rfl⟩ | ⟨_, rfl⟩ | ⟨_, rfl⟩ | ⟨_, rfl⟩ | ⟨_, rfl⟩ | ⟨_, rfl⟩ | ⟨_, rfl⟩ | ⟨_, rfl⟩ | ⟨_, rfl⟩ | ⟨_, rfl⟩
      · exact .str
      · exact up (hv _ (by simp))
      · exact up (.lst hsl)
      · exact up (hv _ (by simp))
      · exact up (hv _ (by simp))
      · exact up (hv _ (by simp))
      · exact up (hv _ (by simp))
      · exact up (hv _ (by simp))
      · exact up (hv _ (by simp))
      · exact .none
      · exact up (hv _ (by simp))
      · exact .is (.head _) rfl (by kernel_rfl)
      · exact .none
    refine iteF (by rw [hty.held]; decide) ?_
    refine wpAny_bind (hty.sp F ?_)
    exact wpAny_pure q
  refine supInit I F S (.tail _ (.head _)) fun h₁₃ tk₁₃ F => ?_
  exact wpAny_pure (h _ _ _ _ _ _ F)
end Mine
end

/-! text New4 -/
section
open PySem PySem.W PyProof.Rows PySem.Calls PySem.Spec
set_option maxRecDepth 100000
set_option maxHeartbeats 4000000
set_option pp.deepTerms false
set_option pp.maxSteps 6000
namespace Mine
theorem entry_tnew : entryFor table "type.__new__" = some Builtin.«type.__new__» := entryFor_of_tree (by kernel_rfl)
theorem plain_tnew : plainId "type.__new__" = true := by decide +kernel
theorem entry_tinit : entryFor table "type.__init__" = some Builtin.«type.__init__» := entryFor_of_tree (by kernel_rfl)
theorem plain_tinit : plainId "type.__init__" = true := by decide +kernel
theorem kind_tinit : builtinKind "type.__init__" = some .slot := by decide +kernel
theorem split_tinit : splitId "type.__init__" = some ("type", "__init__") := by decide +kernel
theorem args_tinit (a b c d : Value) : argsOk "type.__init__" ⟨[a, b, c, d], []⟩ := by unfold argsOk; kernel_rfl
theorem entry_tcall : entryFor table "type.__call__" = some Builtin.«type.__call__» := entryFor_of_tree (by kernel_rfl)
theorem tyCall {prog : Program} {w : World} {A : Around} {E : Value → Shared → Prop} {s : Shared} {b : Bs} {P : PM} {L : Addr} {m : Mp} {N : List (Addr × Kd)} {Q : Value → Shared → Prop} {bT nsA sl : Addr} {t t1 t2 t3 : Tok} {f a1 a2 a3 a4 a5 a6 st : Value} {n1 : PySem.Str}
    (F : Fm b P L s.heap m N) (S : Sta b.P) (hne : nsA ≠ sysModules) (hb : (bT, Kd.is ⟨.type "tuple", none, .seq #[.type "object"] 0, #[]⟩) ∈ N) (hsl : (sl, Kd.list [.str "obj" t2]) ∈ N)
    (hn : (nsA, Kd.dct (kvsK (.str n1 t1) (.str "cmp_to_key.<locals>.K" t3) f (.ref sl) a1 a2 a3 a4 a5 a6 st)) ∈ N) (I : InA A.in1.in1.in1) (hv : ∀ v ∈ [f, a1, a2, a3, a4, a5, a6, st], TyN N v)
    (h : ∀ c d md tn h' tk, Fm b P L h' m ((md, .is (mdO tn c)) :: (c, .is (clsO d [.ref c, .type "object"] false ["obj"] (clsS bT t t3))) :: (d, .dct (kvsF (.str n1 t1) f (.ref sl) a1 a2 a3 a4 a5 a6 st (.ref md))) :: N) → Q (.ref c) ⟨h', s.gens, s.drawn, tk, s.os⟩) :
    wpAny (model prog w) A (call (.type "type") [.str "K" t, .ref bT, .ref nsA]) Q E s := by
  refine wpAny_call (codeAny_of_tree ?_)
  show wpAny _ _ (callAny (.type "type") _) _ _ _
  refine wpAny_pure ⟨Code.quiet_builtin _ (by decide +kernel), codeAny_builtin entry_tcall ?_⟩
  rw [Around.under_plain (weight_type_call_type "type" _ []) (units_type_call_type "type" _ [])]
  unfold Builtin.«type.__call__»
  refine iteT (by decide) ?_
  refine iteF Bool.false_ne_true ?_
  refine iteF Bool.false_ne_true ?_
  refine iteF (by decide +kernel) ?_
  refine wpAny_bind (eqP () (by kernel_rfl) ?_)
  refine wpAny_bind (eqP [.type "type", .type "object"] (by kernel_rfl) ?_)
  refine iteF (by decide) ?_
  refine wpAny_bind (eqP (some "type.__new__") (by kernel_rfl) ?_)
  refine wpAny_bind (wpAny_pure ?_)
  refine wpAny_bind (wpAny_holding ?_)
  refine wpAny_call (codeAny_call_builtin plain_tnew entry_tnew ?_)
  refine eqP () (by kernel_rfl) ?_
  refine tyNew F S hne hb hsl hn I hv fun c d md tn h' tk F => ?_
  refine wpAny_bind (isI F (.tail _ (.head _)) (r := true) (by kernel_rfl) ?_)
  refine iteF (by decide) ?_
  refine wpAny_bind (wpAny_holding ?_)
  refine wpAny_bind (wpAny_bind (wpAny_bind (lpI F (.tail _ (.head _)) (wpAny_pure ?_))))
  refine eqP (some (.builtin "type.__init__")) (by kernel_rfl) ?_
  refine wpAny_holding ?_
  refine wpAny_bind (eqP (.builtin "type.__init__", [.ref c]) (by kernel_rfl) ?_)
  refine wpAny_bind (wpAny_call (codeAny_call_builtin plain_tinit entry_tinit ?_))
  have hk : Looks (model prog w) h' (isInstance (.ref c) (.type "type")) true := by
    obtain ⟨oc, ec, _, rfl⟩ := F.led _ (.tail _ (.head _))
    intro A' Q' E' s' k q
    exact wpAny_bind (wpAny_bind (wpAny_loadPart (k _ _ ec) (wpAny_pure (eqP true (by kernel_rfl) q))))
  refine @check_slot (model prog w) _ _ ⟨h', s.gens, s.drawn, tk, s.os⟩ "type.__init__" "type" "__init__" (.ref c) [.str "K" t, .ref bT, .ref nsA] [] _ kind_tinit split_tinit hk (args_tinit _ _ _ _) ?_
  unfold Builtin.«type.__init__»
  refine iteF Bool.false_ne_true ?_
  refine iteF Bool.false_ne_true ?_
  refine wpAny_pure ?_
  refine wpAny_pure ?_
  refine iteF (by decide) ?_
  exact wpAny_pure (h _ _ _ _ _ _ F)
end Mine
end

/-! text Mkf -/
section
open PySem PySem.W PyProof.Rows PySem.Calls PySem.Spec
set_option maxRecDepth 100000
set_option maxHeartbeats 4000000
namespace Mine
section
variable {b : Bs} {P : PM} {L : Addr} {h h' : Heap} {m : Mp} {N N' : List (Addr × Kd)}
/-- an object is laid onto the ledger -/
theorem Fm.add (F : Fm b P L h m N) {a : Addr} {o : Obj} {k : Kd} (ho : h.get? a = some o) (hc : o.cls ≠ fcls) (hk : k.ok o) (hp : P a = none) (hu : b.h.objs.size ≤ a ∨ a ∈ b.X) (hn : a ∉ N.map (·.1)) : Fm b P L h m ((a, k) :: N) where
  ex := F.ex
  ns := F.ns
  fr := F.fr
  led := fun p hp' => by
    rcases List.mem_cons.mp hp' with rfl | hp'
    · exact ⟨o, ho, hc, hk⟩
    · exact F.led p hp'
  off := fun p hp' => by
    rcases List.mem_cons.mp hp' with rfl | hp'
    · exact hp
    · exact F.off p hp'
  nd := by rw [List.map_cons, List.nodup_cons]; exact ⟨hn, F.nd⟩
  up := ⟨F.up.1, fun p hp' => by
    rcases List.mem_cons.mp hp' with rfl | hp'
    · exact hu
    · exact F.up.2 p hp'⟩
/-- a new object is frozen at once -/
theorem Fm.ice (F : Fm b P L h m N) {a : Addr} {o : Obj} (ho : h.get? a = some o) (hc : o.cls ≠ fcls) (hp : P a = none) (hu : b.h.objs.size ≤ a) (hn : a ∉ N.map (·.1)) : Fm b (pset P a o) L h m N where
  ex := F.ex.freeze ho hc hp hu
  ns := F.ns
  fr := F.fr
  led := F.led
  off := fun p hp' => by
    unfold pset
    rw [if_neg (fun q => hn (List.mem_map.mpr ⟨p, hp', q⟩))]
    exact F.off p hp'
  nd := F.nd
  up := F.up
/-- all but one object of the ledger kept, and that one turned -/
theorem Fm.turn {T : Addr} {k k' : Kd} {o : Obj} (F : Fm b P L h m ((T, k) :: N)) (hx : Heap.ExtBut T h h') (ho : h'.get? T = some o) (hc : o.cls ≠ fcls) (hk : k'.ok o) : Fm b P L h' m ((T, k') :: N) := by
  have nd := F.nd
  rw [List.map_cons, List.nodup_cons] at nd
  exact (F.extBut hx).add ho hc hk (F.off _ (.head _)) (F.up.2 _ (.head _)) nd.1
theorem Fm.old (F : Fm b P L h m N) {c : Addr} (hc : h.objs.size ≤ c) : P c = none ∧ c ∉ N.map (·.1) := by
  refine ⟨?_, fun hm => ?_⟩
  · cases q : P c with
    | none => rfl
    | some o => exact absurd (Heap.lt_size (F.ex.fz _ _ q).1) (Nat.not_lt.mpr hc)
  · obtain ⟨p, hp, rfl⟩ := List.mem_map.mp hm
    exact absurd (F.lt hp) (Nat.not_lt.mpr hc)
end
noncomputable def fnO (name qual : PySem.Str) (params : Arguments) (body : FuncBody) (scope : Scope) (clos : List (PySem.Str × Addr)) (pm : Value) (code ctv doc : Value) : Obj :=
  { cls := .type "function", data := .func { name := name, qualname := qual, params := params, body := body, scope := scope, globals := mainGlobals, closure := clos, closureTuple := ctv, code := code, builtins := builtinsNs, defaults := .none, kwdefaults := .none, annotations := none, pyModule := pm, doc := doc } }
section
variable {prog : Program} {w : World} {A : Around} {E : Value → Shared → Prop} {s : Shared} {b : Bs} {P : PM} {L : Addr} {m : Mp} {N N' : List (Addr × Kd)}
theorem Fm.glob {h : Heap} (F : Fm b P L h m N) (S : Sta b.P) : ∃ mg n t ob, h.Ns mainGlobals mg ∧ mg "__name__" = some (.str n t) ∧ mg "__builtins__" = some (.ref 4) ∧ P 4 = some ob ∧ P mainGlobals ≠ none ∧ ob.cls = .type "module" ∧ ob.dict = some builtinsNs ∧ ob.data = .plain := by
  obtain ⟨mg, e, r, n, t, hn⟩ := S.g
  obtain ⟨ob, e4, r1, r2, r3⟩ := S.bm
  refine ⟨mg, n, t, ob, (e.mono F.ex.sub).ns F.ex.fz, hn, r _ _ rfl, F.ex.sub _ _ e4, ?_, r1, r2, r3⟩
  obtain ⟨o, es, ep, e1, _⟩ := e
  rw [F.ex.sub _ _ e1]
  exact fun q => nomatch q
/-- a code's table: open on the ledger, or frozen -/
theorem mkTail_new {name qual : PySem.Str} {params : Arguments} {body : FuncBody} {scope : Scope} {env : Env} {clos : List (PySem.Str × Addr)} {c T : Addr} {ps : List Value} {pos : Pos} {firstLine : Nat} {Q : Value → Shared → Prop}
    (F : Fm b P L s.heap m ((T, .tab ps) :: N)) (S : Sta b.P) (hcl : closureFor scope env = pure clos) (hge : env.globals = mainGlobals) (hcode : env.code = .ref c) (C : CodeHdP P c T) (ht : TriplesOk ps) (hnf : codeAmong pos ps = none)
    (h : ∀ f c' ctv doc pm h' tk P', Fm b P' L h' m ((f, .is (fnO name qual params body scope clos pm (.ref c') ctv doc)) :: (T, .tab (ps ++ [rawInt pos.line, rawInt pos.col, .ref c'])) :: N) → (∀ c o, P c = some o → P' c = some o) → CodeRecP P' c' qual →
      Q (.ref f) ⟨h', s.gens, s.drawn, tk, s.os⟩) :
    wpAny (model prog w) A (makeTail name qual params body scope env .none .none none pos firstLine) Q E s := by
  unfold makeTail
  rw [hcl, hge]
  refine wpAny_bind (wpAny_pure ?_)
  have rest : ∀ (ctv : Value) (s₁ : Shared), Fm b P L s₁.heap m ((T, .tab ps) :: N) → s₁.gens = s.gens → s₁.drawn = s.drawn → s₁.os = s.os →
      wpAny (model prog w) A (functionCode env pos firstLine name qual params scope body >>= fun code => builtinsFor mainGlobals env.builtins >>= fun bi => nsGet mainGlobals "__name__" >>= fun pm =>
        (match body with | .stmts b => (match docOf b with | some s => mkText s | none => pure .none) | .expr _ => pure .none) >>= fun doc =>
        newObj (.type "function") (.func { name := name, qualname := qual, params := params, body := body, scope := scope, globals := mainGlobals, closure := clos, closureTuple := ctv, code := code, builtins := bi, defaults := .none, kwdefaults := .none, annotations := none, pyModule := pm.getD .none, doc := doc })) Q E s₁ := by
    intro ctv s₁ F e1 e2 e3
    obtain ⟨oT, hT, cT, rT⟩ := F.led _ (.head _)
    have rT : oT = tabObj ps.toArray := rT
    subst rT
    have CH := C.hd F.ex.fz
    refine wpAny_bind (wpAny_functionCodeX hcode (CH.code hT (by simpa using ht)) (CH.tab hT) (by simpa using hnf) fun c' h' tk hx hge hlt _ hrec htb hnew => ?_)
    have ho := F.old hge
    have F2 := F.turn (k' := .tab (ps ++ [rawInt pos.line, rawInt pos.col, .ref c'])) hx htb.2 (fun q => nomatch q) (by show _ = tabObj _; simp [tabObj])
    obtain ⟨T', _, _, ⟨⟨oc, vs, g1, g2, _⟩, _⟩⟩ := hnew
    have F3 := F2.ice g1 (by rw [g2]; exact ty_ne "code") ho.1 (Nat.le_trans F.ex.size hge) ho.2
    have hcr : CodeRecP (pset P c' oc) c' qual := by
      obtain ⟨c₂, o₂, vs₂, t₂, q1, q2, q3, q4⟩ := hrec
      cases q1
      rw [g1] at q2; cases q2
      exact ⟨_, vs₂, t₂, by unfold pset; rw [if_pos rfl], q3, q4⟩
    obtain ⟨mg, n, t, ob, hg', hn, hbm, h4, _, hc1, hc2, hc3⟩ := F2.glob S
    refine wpAny_bind (wpAny_builtinsFor hg' hbm (by decide) (F2.ex.fz _ _ h4).1 hc1 hc2 hc3 ?_)
    refine wpAny_bind (wpAny_nsGet hg' ?_)
    have fin : ∀ (doc : Value) (tk : Nat), wpAny (model prog w) A (newObj (.type "function") (.func { name := name, qualname := qual, params := params, body := body, scope := scope, globals := mainGlobals, closure := clos, closureTuple := ctv, code := .ref c', builtins := builtinsNs, defaults := .none, kwdefaults := .none, annotations := none, pyModule := (mg "__name__").getD .none, doc := doc })) Q E ⟨h', s₁.gens, s₁.drawn, tk, s₁.os⟩ := by
      intro doc tk
      refine wpAny_newObj_type ?_ (by size_fits)
      rw [e1, e2, e3]
      exact h _ c' ctv doc _ _ _ _ (F3.push (k := .is _) rfl (ty_ne "function") rfl) (pset_sub ho.1) hcr
    refine wpAny_bind ?_
    cases body with
    | expr e => exact wpAny_pure (fin _ _)
    | stmts bs =>
      dsimp only
      cases docOf bs with
      | none => exact wpAny_pure (fin _ _)
      | some d => exact wpAny_mkText (fin _ _)
  cases clos with
  | nil =>
    refine iteT (by rfl) ?_
    refine wpAny_bind (wpAny_pure ?_)
    cases body <;> exact rest .none s F rfl rfl rfl
  | cons q r =>
    refine iteF (by simp) ?_
    refine wpAny_bind (wpAny_newTextTuple ?_)
    cases body <;> exact rest _ ⟨_, s.gens, s.drawn, s.toks, s.os⟩ (F.push0 _) rfl rfl rfl
theorem mkTail_hit {name qual : PySem.Str} {params : Arguments} {body : FuncBody} {scope : Scope} {env : Env} {clos : List (PySem.Str × Addr)} {c T : Addr} {ps : List Value} {pos : Pos} {firstLine : Nat} {cv : Value} {Q : Value → Shared → Prop}
    (F : Fm b P L s.heap m N) (S : Sta b.P) (hcl : closureFor scope env = pure clos) (hge : env.globals = mainGlobals) (hcode : env.code = .ref c) (C : CodeHdP P c T) (hT : P T = some (tabObj ps.toArray)) (ht : TriplesOk ps) (hf : codeAmong pos ps = some cv)
    (h : ∀ f ctv doc pm h' tk, Fm b P L h' m ((f, .is (fnO name qual params body scope clos pm cv ctv doc)) :: N) → Q (.ref f) ⟨h', s.gens, s.drawn, tk, s.os⟩) :
    wpAny (model prog w) A (makeTail name qual params body scope env .none .none none pos firstLine) Q E s := by
  unfold makeTail
  rw [hcl, hge]
  refine wpAny_bind (wpAny_pure ?_)
  have rest : ∀ (ctv : Value) (s₁ : Shared), Fm b P L s₁.heap m N → s₁.gens = s.gens → s₁.drawn = s.drawn → s₁.os = s.os →
      wpAny (model prog w) A (functionCode env pos firstLine name qual params scope body >>= fun code => builtinsFor mainGlobals env.builtins >>= fun bi => nsGet mainGlobals "__name__" >>= fun pm =>
        (match body with | .stmts b => (match docOf b with | some s => mkText s | none => pure .none) | .expr _ => pure .none) >>= fun doc =>
        newObj (.type "function") (.func { name := name, qualname := qual, params := params, body := body, scope := scope, globals := mainGlobals, closure := clos, closureTuple := ctv, code := code, builtins := bi, defaults := .none, kwdefaults := .none, annotations := none, pyModule := pm.getD .none, doc := doc })) Q E s₁ := by
    intro ctv s₁ F e1 e2 e3
    have CH := C.hd F.ex.fz
    refine wpAny_bind (wpAny_functionCode_hit hcode (CH.code (F.ex.fz _ _ hT).1 (by simpa using ht)) (by simpa using hf) ?_)
    obtain ⟨mg, n, t, ob, hg', hn, hbm, h4, _, hc1, hc2, hc3⟩ := F.glob S
    refine wpAny_bind (wpAny_builtinsFor hg' hbm (by decide) (F.ex.fz _ _ h4).1 hc1 hc2 hc3 ?_)
    refine wpAny_bind (wpAny_nsGet hg' ?_)
    have fin : ∀ (doc : Value) (tk : Nat), wpAny (model prog w) A (newObj (.type "function") (.func { name := name, qualname := qual, params := params, body := body, scope := scope, globals := mainGlobals, closure := clos, closureTuple := ctv, code := cv, builtins := builtinsNs, defaults := .none, kwdefaults := .none, annotations := none, pyModule := (mg "__name__").getD .none, doc := doc })) Q E ⟨s₁.heap, s₁.gens, s₁.drawn, tk, s₁.os⟩ := by
      intro doc tk
      refine wpAny_newObj_type ?_ (by size_fits)
      rw [e1, e2, e3]
      exact h _ ctv doc _ _ _ (F.push (k := .is _) rfl (ty_ne "function") rfl)
    refine wpAny_bind ?_
    cases body with
    | expr e => exact wpAny_pure (fin _ _)
    | stmts bs =>
      dsimp only
      cases docOf bs with
      | none => exact wpAny_pure (fin _ _)
      | some d => exact wpAny_mkText (fin _ _)
  cases clos with
  | nil =>
    refine iteT (by rfl) ?_
    refine wpAny_bind (wpAny_pure ?_)
    cases body <;> exact rest .none s F rfl rfl rfl
  | cons q r =>
    refine iteF (by simp) ?_
    refine wpAny_bind (wpAny_newTextTuple ?_)
    cases body <;> exact rest _ ⟨_, s.gens, s.drawn, s.toks, s.os⟩ (F.push0 _) rfl rfl rfl
/-- a class body's code: made, or found -/
theorem clCode_new {name qual : PySem.Str} {scope : Scope} {env : Env} {c T : Addr} {ps : List Value} {pos : Pos} {firstLine : Nat} {Q : Value → Shared → Prop}
    (F : Fm b P L s.heap m ((T, .tab ps) :: N)) (hcode : env.code = .ref c) (C : CodeHdP P c T) (ht : TriplesOk ps) (hnf : codeAmong pos ps = none)
    (h : ∀ c' T' h' tk P', Fm b P' L h' m ((T', .tab []) :: (T, .tab (ps ++ [rawInt pos.line, rawInt pos.col, .ref c'])) :: N) → (∀ c o, P c = some o → P' c = some o) → CodeHdP P' c' T' → CodeRecP P' c' qual →
      Q (.ref c') ⟨h', s.gens, s.drawn, tk, s.os⟩) :
    wpAny (model prog w) A (classCode env pos firstLine name qual scope) Q E s := by
  obtain ⟨oT, hT, cT, rT⟩ := F.led _ (.head _)
  have rT : oT = tabObj ps.toArray := rT
  subst rT
  have CH := C.hd F.ex.fz
  obtain ⟨o, vs, file, tf, flags, tg, inF, text, tt, ho, hcl, hd, h11', h11, h18, h7, h9, h10, hne⟩ := CH
  unfold classCode codeAt
  rw [hcode]
  refine iteF Bool.false_ne_true ?_
  refine wpAny_bind (wpAny_fieldsOf ho hd ?_)
  rw [h11]
  refine wpAny_bind (wpAny_fieldsOf hT rfl ?_)
  rw [hnf, h18, h7, h9, h10]
  refine wpAny_bind (wpAny_newCodeX fun c' T' h' tk hk hc' hT' hcode' htab' hrec' => ?_)
  have F1 := F.keepAll hk
  have HH := CodeHd.of hcode' htab'
  obtain ⟨oc, vc, file', tf', flags', tg', inF', text', tt', g1, g2, g3, g4, g5, g6, g7, g8, g9, g10⟩ := HH
  have o1 := F.old hc'
  have o2 := F.old hT'
  have F2 := F1.ice g1 (by rw [g2]; exact ty_ne "code") o1.1 (Nat.le_trans F.ex.size hc') o1.2
  have F3 := F2.add (k := .tab []) htab'.2 (fun q => nomatch q) rfl (by unfold pset; rw [if_neg (Ne.symm g10)]; exact o2.1) (.inl (Nat.le_trans F.ex.size hT')) o2.2
  have hT2 : h'.get? T = some (tabObj ps.toArray) := hk _ _ hT
  have hnew : (Obj.mapFields (fun vs => if (codeAmong pos vs.toList).isSome = true then vs else vs ++ #[rawInt pos.line, rawInt pos.col, .ref c']) (tabObj ps.toArray)) = tabObj (ps ++ [rawInt pos.line, rawInt pos.col, .ref c']).toArray := by
    simp [Obj.mapFields, tabObj, hnf]
  have hget := Heap.get?_update_self (h := h') (fun o => Obj.mapFields (fun vs => if (codeAmong pos vs.toList).isSome = true then vs else vs ++ #[rawInt pos.line, rawInt pos.col, .ref c']) o) hT2 (by rw [hnew]; rfl)
  rw [hnew] at hget
  refine wpAny_bind (wpAny_updateFieldsOfTheText hT2 rfl ?_)
  have F4 := F3.upd (k' := .tab (ps ++ [rawInt pos.line, rawInt pos.col, .ref c'])) (.tail .head) (Heap.SameBut.update ..) hget (fun q => nomatch q) rfl
  refine wpAny_bind (wpAny_fieldsOf hget rfl ?_)
  rw [show (ps ++ [rawInt pos.line, rawInt pos.col, Value.ref c']).toArray.toList = ps ++ [rawInt pos.line, rawInt pos.col, .ref c'] by simp, codeAmong_snoc _ ht hnf]
  refine wpAny_pure (h c' T' _ _ _ F4 (pset_sub o1.1) ⟨oc, vc, file', tf', flags', tg', inF', text', tt', by unfold pset; rw [if_pos rfl], g2, g3, g4, g5, g6, g7, g8, g9, g10⟩ ?_)
  obtain ⟨c₂, o₂, vs₂, t₂, q1, q2, q3, q4⟩ := hrec'
  cases q1
  rw [g1] at q2; cases q2
  exact ⟨_, vs₂, t₂, by unfold pset; rw [if_pos rfl], q3, q4⟩
theorem clCode_hit {name qual : PySem.Str} {scope : Scope} {env : Env} {c T : Addr} {ps : List Value} {pos : Pos} {firstLine : Nat} {cv : Value} {Q : Value → Shared → Prop}
    (F : Fm b P L s.heap m ((T, .tab ps) :: N)) (hcode : env.code = .ref c) (C : CodeHdP P c T) (ht : TriplesOk ps) (hf : codeAmong pos ps = some cv) (h : Q cv s) :
    wpAny (model prog w) A (classCode env pos firstLine name qual scope) Q E s := by
  obtain ⟨oT, hT, cT, rT⟩ := F.led _ (.head _)
  have rT : oT = tabObj ps.toArray := rT
  subst rT
  exact wpAny_codeAt_hit hcode ((C.hd F.ex.fz).code hT (by simpa using ht)) (by simpa using hf) h
end
end Mine
end

/-! text Tst -/
section
open PySem PySem.W PyProof.Rows PySem.Calls PySem.Spec
set_option maxRecDepth 100000
set_option maxHeartbeats 4000000
namespace Mine
theorem Up.app {D : Addr} {k k' : Kd} {N N' : List (Addr × Kd)} (u : Up D k k' N N') : ∀ NT : List (Addr × Kd), Up D k k' (NT ++ N) (NT ++ N')
  | [] => u
  | _ :: r => .tail (u.app r)
noncomputable def lns : List Int := [52, 55, 58, 61, 64, 67]
noncomputable def qls : List PySem.Str := ["cmp_to_key.<locals>.K.__init__", "cmp_to_key.<locals>.K.__lt__", "cmp_to_key.<locals>.K.__gt__", "cmp_to_key.<locals>.K.__eq__", "cmp_to_key.<locals>.K.__le__", "cmp_to_key.<locals>.K.__ge__"]
noncomputable def tabL : List Int → List Addr → List Value
  | l :: ls, c :: cs => rawInt l :: rawInt 8 :: .ref c :: tabL ls cs
  | _, _ => []
theorem tabL_ok : ∀ ls cs, TriplesOk (tabL ls cs)
  | [], _ => trivial
  | _ :: _, [] => trivial
  | _ :: ls, _ :: cs => tabL_ok ls cs
/-- the class body's code table: open on the ledger with the codes so far, or whole and frozen -/
inductive Tst (P : PM) (T : Addr) (cs : List Addr) : List (Addr × Kd) → Prop
  | op : All2 (CodeRecP P) cs (qls.take cs.length) → Tst P T cs [(T, .tab (tabL lns cs))]
  | fu (all : List Addr) : All2 (CodeRecP P) all qls → cs <+: all → P T = some (tabObj (tabL lns all).toArray) → Tst P T cs []
section
variable {prog : Program} {w : World} {A : Around} {E : Value → Shared → Prop} {s : Shared} {b : Bs} {P : PM} {L : Addr} {m : Mp} {N N' NT : List (Addr × Kd)}
theorem mkF_any {name qual : PySem.Str} {params : Arguments} {body : FuncBody} {scope : Scope} {env : Env} {clos : List (PySem.Str × Addr)} {c T : Addr} {cs : List Addr} {pos : Pos} {firstLine : Nat} {Q : Value → Shared → Prop}
    (F : Fm b P L s.heap m (NT ++ N)) (st : Tst P T cs NT) (S : Sta b.P) (C : CodeHdP P c T) (hcl : closureFor scope env = pure clos) (hge : env.globals = mainGlobals) (hcode : env.code = .ref c)
    (hnew : codeAmong pos (tabL lns cs) = none) (hq : qls[cs.length]? = some qual)
    (htab : ∀ c', tabL lns (cs ++ [c']) = tabL lns cs ++ [rawInt pos.line, rawInt pos.col, .ref c'])
    (hhit : ∀ all : List Addr, all.length = 6 → cs <+: all → ∃ c', codeAmong pos (tabL lns all) = some (.ref c') ∧ (cs ++ [c']) <+: all)
    (h : ∀ f c' ctv doc pm h' tk P' NT', Fm b P' L h' m (NT' ++ (f, .is (fnO name qual params body scope clos pm (.ref c') ctv doc)) :: N) → (∀ c o, P c = some o → P' c = some o) → CodeRecP P' c' qual → Tst P' T (cs ++ [c']) NT' →
      Q (.ref f) ⟨h', s.gens, s.drawn, tk, s.os⟩) :
    wpAny (model prog w) A (makeFunction name qual params body scope env [] [] [] pos firstLine) Q E s := by
  rw [makeFunction_eq]
  simp only [List.zip_nil_right, List.filterMap_nil, List.isEmpty_nil, if_true, pure_bind]
  cases st with
  | op hr =>
    refine mkTail_new (ps := tabL lns cs) F S hcl hge hcode C (tabL_ok _ _) hnew fun f c' ctv doc pm h' tk P' F' sub hrec => ?_
    refine h f c' ctv doc pm h' tk P' _ (F'.perm ?_) sub hrec (.op ?_)
    · rw [htab]
      exact List.Perm.swap ..
    · have e : qls.take (cs ++ [c']).length = qls.take cs.length ++ [qual] := by
        rw [List.length_append, List.length_singleton, List.take_add_one, hq]; rfl
      rw [e]
      exact (hr.mono fun _ _ q => q.mono sub).snoc hrec
  | fu all hr hp hP =>
    have hl : all.length = 6 := hr.length
    obtain ⟨c', hc, hp'⟩ := hhit all hl hp
    refine mkTail_hit (ps := tabL lns all) F S hcl hge hcode C hP (tabL_ok _ _) hc fun f ctv doc pm h' tk F' => ?_
    refine h f c' ctv doc pm h' tk P [] F' (fun _ _ e => e) ?_ (.fu all hr hp' hP)
    obtain ⟨r, hr'⟩ := hp'
    have : all[cs.length]? = some c' := by rw [← hr']; simp
    obtain ⟨q, hq', hrec⟩ := hr.get this
    rw [hq] at hq'; cases hq'
    exact hrec
/-- cmp_to_key's code table: empty, or holding the class body's code -/
noncomputable def K37 (P : PM) (ps : List Value) : Prop := ps = [] ∨ ∃ cK T all, ps = [rawInt 48, rawInt 4, .ref cK] ∧ CodeHdP P cK T ∧ P T = some (tabObj (tabL lns all).toArray) ∧ All2 (CodeRecP P) all qls
noncomputable def KTab (P : PM) (h : Heap) : Prop := P 37 = none ∧ ∃ ps : List Value, h.get? 37 = some (tabObj ps.toArray) ∧ K37 P ps
theorem clK_any {name qual : PySem.Str} {scope : Scope} {env : Env} {c T : Addr} {ps : List Value} {pos : Pos} {firstLine : Nat} {Q : Value → Shared → Prop}
    (F : Fm b P L s.heap m ((T, .tab ps) :: N)) (hk : K37 P ps) (hcode : env.code = .ref c) (C : CodeHdP P c T) (h1 : pos.line = 48) (h2 : pos.col = 4)
    (h : ∀ cK TK h' tk P' NT, Fm b P' L h' m (NT ++ (T, .tab [rawInt 48, rawInt 4, .ref cK]) :: N) → (∀ c o, P c = some o → P' c = some o) → CodeHdP P' cK TK → Tst P' TK [] NT → Q (.ref cK) ⟨h', s.gens, s.drawn, tk, s.os⟩) :
    wpAny (model prog w) A (classCode env pos firstLine name qual scope) Q E s := by
  rcases hk with rfl | ⟨cK, TK, all, rfl, hc, hT, hr⟩
  · refine clCode_new F hcode C trivial rfl fun c' T' h' tk P' F' sub hd hrec => ?_
    rw [h1, h2] at F'
    exact h c' T' h' tk P' [(T', .tab [])] F' sub hd (.op .nil)
  · refine clCode_hit F hcode C trivial (cv := .ref cK) ?_ (h cK TK _ _ P [] F (fun _ _ e => e) hc (.fu all hr (List.nil_prefix) hT))
    obtain ⟨l, cl, x, y⟩ := pos
    dsimp only at h1 h2
    subst h1 h2
    rfl
end
end Mine
end

/-! text C3p -/
section
namespace Mine
local macro_rules | `(tactic| omega) => `(tactic| with_reducible first
  | assumption
  | exact Nat.zero_le _
  | exact Int.natCast_nonneg _
  | exact om0 (by assumption)
  | exact om1 (by assumption) (by decide)
  | exact om2 (by assumption) (by decide)
  | exact om3 (by assumption) (by decide)
  | exact om4 (by assumption) (by decide)
  | exact omT (by assumption)
  | exact omI (by assumption) (by assumption)
  | exact omI' (by assumption) (by assumption)
  | exact omL (by assumption) (by first | assumption | decide)
  | exact omLt (by assumption) (by first | assumption | decide)
  | exact omS (by assumption) (by first | assumption | decide)
  | exact omV (by assumption) (by first | assumption | decide)
  | exact omW (by assumption) (by first | assumption | decide)
  | exact omE (by assumption) (by assumption) (by first | assumption | decide)
  | exact omE' (by assumption) (by assumption) (by first | assumption | decide)
  | exact om1l (by assumption) (by decide)
  | exact om2l (by assumption) (by decide)
  | exact om1t (by assumption) (by assumption) (by decide)
  | exact om2t (by assumption) (by assumption) (by decide)
  | exact om3t (by assumption) (by assumption) (by decide)
  | exact omC (by assumption) (by decide)
  | exact omCi (by assumption) (by assumption) (by decide)
  | exact omCe (by assumption) (by assumption) (by assumption) (by decide)
  | exact omQ (by assumption) (by assumption) (by decide)
  | exact omD (by assumption)
  | exact omJ (by assumption) (by assumption)
  | exact omK (by assumption) (by assumption)
  | exact omN (by assumption) (by assumption)
  | exact omU (by assumption))
noncomputable abbrev Wd := List Int
noncomputable def blk (ss : List (List Wd)) (h : Wd) : Bool := ss.any fun s => decide (h ∈ s.tail)
noncomputable def pick (ss : List (List Wd)) : Option Wd := (ss.filterMap List.head?).find? fun h => !blk ss h
noncomputable def adv (ss : List (List Wd)) (h : Wd) : List (List Wd) := ss.map fun s => if s.head? = some h then s.tail else s
noncomputable def c3 : Nat → List (List Wd) → Option (List Wd)
  | 0, ss => if ss.all (·.isEmpty) = true then some [] else none
  | f + 1, ss => if ss.all (·.isEmpty) = true then some [] else match pick ss with
    | none => none
    | some h => (c3 f (adv ss h)).map (h :: ·)
noncomputable def NE (ss : List (List Wd)) (k : Nat) : Bool := !(ss.getD k []).isEmpty
noncomputable def hd (ss : List (List Wd)) (k : Nat) : Wd := (ss.getD k []).headD []
theorem ranGet {β : Type} (ws : List β) (e : β) : (List.range ws.length).map (fun i => ws.getD i e) = ws := by
  apply List.ext_getElem (by simp)
  intro i h1 h2
  simp at h1
  simp [List.getD_eq_getElem?_getD, h1]
theorem headsEq (ss : List (List Wd)) : ss.filterMap List.head? = ((List.range ss.length).filter (NE ss)).map (hd ss) := by
  have key : ∀ l : List Nat, (l.map fun k => ss.getD k []).filterMap List.head? = (l.filter (NE ss)).map (hd ss) := by
    intro l
    induction l with
    | nil => rfl
    | cons k l ih =>
      rw [List.map_cons, List.filterMap_cons, List.filter_cons]
      cases h : ss.getD k [] with
      | nil =>
        have : NE ss k = false := by unfold NE; rw [h]; rfl
        rw [this, if_neg (by decide), ← ih]
        rfl
      | cons x r =>
        have : NE ss k = true := by unfold NE; rw [h]; rfl
        rw [this]
        have h2 : hd ss k = x := by unfold hd; rw [h]; rfl
        rw [if_pos rfl, List.map_cons, h2, ← ih]
        rfl
  have := key (List.range ss.length)
  rwa [ranGet] at this
theorem blk_iff {ss : List (List Wd)} {h : Wd} : blk ss h = true ↔ ∃ k, k < ss.length ∧ NE ss k = true ∧ h ∈ (ss.getD k []).tail := by
  unfold blk
  rw [List.any_eq_true]
  constructor
  · rintro ⟨s, hs, hh⟩
    obtain ⟨k, hk⟩ := List.mem_iff_getElem?.mp hs
    obtain ⟨h1, h2⟩ := List.getElem?_eq_some_iff.mp hk
    have e : ss.getD k [] = s := by rw [List.getD_eq_getElem?_getD, hk]; rfl
    have hh : h ∈ s.tail := of_decide_eq_true hh
    refine ⟨k, h1, ?_, by rw [e]; exact hh⟩
    unfold NE
    rw [e]
    cases s with
    | nil => simp at hh
    | cons _ _ => rfl
  · rintro ⟨k, h1, _, h3⟩
    refine ⟨ss.getD k [], ?_, decide_eq_true h3⟩
    rw [List.getD_eq_getElem?_getD, List.getElem?_eq_getElem h1]
    exact List.getElem_mem _
theorem pick_at {ss : List (List Wd)} {ks : List Nat} (hk : ks = (List.range ss.length).filter (NE ss)) {i : Nat} (hi : i < ks.length) (h1 : ∀ j (h : j < ks.length), j < i → blk ss (hd ss ks[j]) = true) (h2 : blk ss (hd ss ks[i]) = false) : pick ss = some (hd ss ks[i]) := by
  unfold pick
  rw [headsEq, ← hk, List.find?_eq_some_iff_getElem]
  refine ⟨by rw [h2]; rfl, i, by simpa using hi, by simp, fun j hj => ?_⟩
  rw [List.getElem_map, h1 j (by omega) hj]
  rfl
theorem pick_none {ss : List (List Wd)} {ks : List Nat} (hk : ks = (List.range ss.length).filter (NE ss)) (h1 : ∀ j (h : j < ks.length), blk ss (hd ss ks[j]) = true) : pick ss = none := by
  unfold pick
  rw [headsEq, ← hk, List.find?_eq_none]
  intro x hx
  obtain ⟨k, hk', rfl⟩ := List.mem_map.mp hx
  obtain ⟨j, hj⟩ := List.mem_iff_getElem?.mp hk'
  obtain ⟨q1, q2⟩ := List.getElem?_eq_some_iff.mp hj
  rw [← q2, h1 j q1]
  decide
theorem allE {ss : List (List Wd)} : ss.all (·.isEmpty) = true ↔ (List.range ss.length).filter (NE ss) = [] := by
  rw [List.filter_eq_nil_iff, List.all_eq_true]
  constructor
  · intro h k hk
    have hk : k < ss.length := by simpa using hk
    unfold NE
    have := h ss[k] (List.getElem_mem _)
    rw [List.getD_eq_getElem?_getD, List.getElem?_eq_getElem hk]
    simp at this
    simp [this]
  · intro h s hs
    obtain ⟨k, hk⟩ := List.mem_iff_getElem?.mp hs
    obtain ⟨h1, h2⟩ := List.getElem?_eq_some_iff.mp hk
    have := h k (by simpa using h1)
    unfold NE at this
    rw [List.getD_eq_getElem?_getD, hk] at this
    simpa using this
theorem adv_get {ss : List (List Wd)} {h : Wd} {k : Nat} (hk : k < ss.length) : (adv ss h).getD k [] = if (ss.getD k []).head? = some h then (ss.getD k []).tail else ss.getD k [] := by
  unfold adv
  rw [List.getD_eq_getElem?_getD, List.getElem?_map, List.getD_eq_getElem?_getD, List.getElem?_eq_getElem hk]
  rfl
theorem adv_len {ss : List (List Wd)} {h : Wd} : (adv ss h).length = ss.length := by unfold adv; simp
theorem adv_NE {ss : List (List Wd)} {h : Wd} {k : Nat} (hk : k < ss.length) (hn : NE (adv ss h) k = true) : NE ss k = true := by
  unfold NE at *
  rw [adv_get hk] at hn
  cases e : ss.getD k [] with
  | nil => rw [e] at hn; simp at hn
  | cons _ _ => rfl
theorem c3_step {f : Nat} {ss : List (List Wd)} {out : List Wd} (hc : c3 f ss = some out) (hne : ¬ ss.all (·.isEmpty) = true) : ∃ g h rest, f = g + 1 ∧ pick ss = some h ∧ c3 g (adv ss h) = some rest ∧ out = h :: rest := by
  cases f with
  | zero => unfold c3 at hc; rw [if_neg hne] at hc; cases hc
  | succ g =>
    unfold c3 at hc
    rw [if_neg hne] at hc
    cases hp : pick ss with
    | none => rw [hp] at hc; cases hc
    | some h =>
      rw [hp] at hc
      obtain ⟨rest, h1, h2⟩ := Option.map_eq_some_iff.mp hc
      exact ⟨g, h, rest, rfl, rfl, h1, h2.symm⟩
theorem c3_end {f : Nat} {ss : List (List Wd)} {out : List Wd} (hc : c3 f ss = some out) (he : ss.all (·.isEmpty) = true) : out = [] := by
  cases f with
  | zero => unfold c3 at hc; rw [if_pos he] at hc; cases hc; rfl
  | succ g => unfold c3 at hc; rw [if_pos he] at hc; cases hc; rfl
end Mine
end

/-! text PlainA -/
section
local macro_rules | `(tactic| omega) => `(tactic| lia)
namespace Mine
local macro_rules | `(tactic| omega) => `(tactic| with_reducible first
  | assumption
  | exact Nat.zero_le _
  | exact Int.natCast_nonneg _
  | exact om0 (by assumption)
  | exact om1 (by assumption) (by decide)
  | exact om2 (by assumption) (by decide)
  | exact om3 (by assumption) (by decide)
  | exact om4 (by assumption) (by decide)
  | exact omT (by assumption)
  | exact omI (by assumption) (by assumption)
  | exact omI' (by assumption) (by assumption)
  | exact omL (by assumption) (by first | assumption | decide)
  | exact omLt (by assumption) (by first | assumption | decide)
  | exact omS (by assumption) (by first | assumption | decide)
  | exact omV (by assumption) (by first | assumption | decide)
  | exact omW (by assumption) (by first | assumption | decide)
  | exact omE (by assumption) (by assumption) (by first | assumption | decide)
  | exact omE' (by assumption) (by assumption) (by first | assumption | decide)
  | exact om1l (by assumption) (by decide)
  | exact om2l (by assumption) (by decide)
  | exact om1t (by assumption) (by assumption) (by decide)
  | exact om2t (by assumption) (by assumption) (by decide)
  | exact om3t (by assumption) (by assumption) (by decide)
  | exact omC (by assumption) (by decide)
  | exact omCi (by assumption) (by assumption) (by decide)
  | exact omCe (by assumption) (by assumption) (by assumption) (by decide)
  | exact omQ (by assumption) (by assumption) (by decide)
  | exact omD (by assumption)
  | exact omJ (by assumption) (by assumption)
  | exact omK (by assumption) (by assumption)
  | exact omN (by assumption) (by assumption)
  | exact omU (by assumption))
/-- the first q beginnings of a word; all of them -/
noncomputable def bgs (w : Wd) (q : Nat) : List Wd := (List.range q).map fun i => w.take (i + 1)
noncomputable def pre (w : Wd) : List Wd := bgs w w.length
/-- each row's elements that no later row holds, the later rows first -/
noncomputable def FR : List (List Wd) → List Wd
  | [] => []
  | r :: rs => FR rs ++ r.filter fun x => decide (x ∉ rs.flatten)
theorem FR_mem {x : Wd} : ∀ {rs : List (List Wd)}, x ∈ FR rs ↔ x ∈ rs.flatten
  | [] => by simp [FR]
  | r :: rs => by
    rw [FR, List.mem_append, List.mem_filter, FR_mem (rs := rs), List.flatten_cons, List.mem_append]
    by_cases h : x ∈ rs.flatten <;> simp [h]
theorem FR_nodup : ∀ {rs : List (List Wd)}, (∀ r ∈ rs, r.Nodup) → (FR rs).Nodup
  | [], _ => by simp [FR]
  | r :: rs, h => by
    rw [FR, List.nodup_append]
    refine ⟨FR_nodup fun r hr => h r (.tail _ hr), (h r (.head _)).filter _, fun a ha b hb q => ?_⟩
    subst q
    have := (List.mem_filter.mp hb).2
    exact of_decide_eq_true this (FR_mem.mp ha)
theorem FR_pw : ∀ {rs : List (List Wd)}, (FR rs).Pairwise fun x y => ∀ a b, rs = a ++ b → y ∈ b.flatten → x ∈ b.flatten
  | [] => by simp [FR]
  | r :: rs => by
    rw [FR, List.pairwise_append]
    have cut : ∀ {a b : List (List Wd)}, r :: rs = a ++ b → b = r :: rs ∨ ∃ a', rs = a' ++ b := fun {a b} e => by
      cases a with
      | nil => exact .inl e.symm
      | cons _ a' => exact .inr ⟨a', (List.cons.inj e).2⟩
    refine ⟨(FR_pw (rs := rs)).imp_of_mem fun {x y} hx hy q a b e hb => ?_, ?_, fun x hx y hy a b e hb => ?_⟩
    · rcases cut e with rfl | ⟨a', e'⟩
      · rw [List.flatten_cons]; exact List.mem_append_right _ (FR_mem.mp hx)
      · exact q a' b e' hb
    · refine List.Pairwise.imp_of_mem (R := fun _ _ => True) (fun {x y} hx hy _ a b e hb => ?_) (List.pairwise_of_forall fun _ _ => trivial)
      rcases cut e with rfl | ⟨a', e'⟩
      · rw [List.flatten_cons]; exact List.mem_append_left _ (List.mem_filter.mp hx).1
      · refine absurd ?_ (of_decide_eq_true (List.mem_filter.mp hy).2)
        rw [e', List.flatten_append]
        exact List.mem_append_right _ hb
    · rcases cut e with rfl | ⟨a', e'⟩
      · rw [List.flatten_cons]; exact List.mem_append_right _ (FR_mem.mp hx)
      · refine absurd ?_ (of_decide_eq_true (List.mem_filter.mp hy).2)
        rw [e', List.flatten_append]
        exact List.mem_append_right _ hb
theorem bgs_succ {w : Wd} {q : Nat} : bgs w (q + 1) = bgs w q ++ [w.take (q + 1)] := by
  unfold bgs; rw [List.range_succ, List.map_append]; rfl
theorem pre_mem {w x : Wd} : x ∈ pre w ↔ ∃ q, q < w.length ∧ x = w.take (q + 1) := by
  unfold pre bgs
  rw [List.mem_map]
  constructor
  · rintro ⟨q, h1, h2⟩; exact ⟨q, List.mem_range.mp h1, h2.symm⟩
  · rintro ⟨q, h1, h2⟩; exact ⟨q, List.mem_range.mpr h1, h2.symm⟩
theorem take_of {w w1 : Wd} {q : Nat} (hq : q < w.length) (h : w.take (q + 1) ∈ pre w1) : q < w1.length ∧ w.take (q + 1) = w1.take (q + 1) := by
  obtain ⟨q', h1, h2⟩ := pre_mem.mp h
  have e := congrArg List.length h2
  rw [List.length_take, List.length_take] at e
  have : q' = q := by omega
  subst this
  exact ⟨h1, h2⟩
theorem FR_sub : ∀ {rs : List (List Wd)}, (∀ r ∈ rs, ∃ w, r = pre w) → ∀ r ∈ rs, r.Sublist (FR rs)
  | [], _, r, hr => nomatch hr
  | r0 :: rs, h, r, hr => by
    have ih := FR_sub (rs := rs) fun r hr => h r (.tail _ hr)
    rw [FR]
    rcases List.mem_cons.mp hr with rfl | hr
    · obtain ⟨w, rfl⟩ := h r (.head _)
      have key : ∀ q, q ≤ w.length → (bgs w q).Sublist (FR rs ++ (bgs w q).filter fun x => decide (x ∉ rs.flatten)) := by
        intro q
        induction q with
        | zero => intro _; simp [bgs]
        | succ q ihq =>
          intro hq
          by_cases hm : w.take (q + 1) ∈ rs.flatten
          · obtain ⟨r1, hr1, hx⟩ := List.mem_flatten.mp hm
            obtain ⟨w1, rfl⟩ := h r1 (.tail _ hr1)
            obtain ⟨h1, h2⟩ := take_of (by omega) hx
            have e : bgs w (q + 1) = bgs w1 (q + 1) := by
              unfold bgs
              refine List.map_congr_left fun i hi => ?_
              have hi := List.mem_range.mp hi
              have := congrArg (List.take (i + 1)) h2
              rwa [List.take_take, List.take_take, Nat.min_eq_left (by omega)] at this
            have s1 : (bgs w1 (q + 1)).Sublist (pre w1) := (List.range_sublist.mpr h1).map _
            rw [e]
            exact (s1.trans (ih _ hr1)).trans (List.sublist_append_left _ _)
          · rw [bgs_succ, List.filter_append, List.filter_cons, if_pos (decide_eq_true hm), List.filter_nil, ← List.append_assoc]
            exact (ihq (by omega)).append (List.Sublist.refl _)
      exact key _ (Nat.le_refl _)
    · exact (ih r hr).trans (List.sublist_append_left _ _)
theorem pre_nodup {w : Wd} : (pre w).Nodup := by
  unfold pre bgs
  refine List.Pairwise.map _ (R := fun i j => i < j ∧ j < w.length) ?_ ?_
  · rintro i j ⟨h1, h2⟩ e
    have := congrArg List.length e
    rw [List.length_take, List.length_take] at this
    omega
  · exact (List.pairwise_lt_range).imp_of_mem fun {i j} hi hj q => ⟨q, List.mem_range.mp hj⟩
end Mine
end

/-! text PlainB -/
section
namespace Mine
theorem findHd {B : Wd → Bool} {u : Wd} (hu : B u = false) : ∀ {ss : List (List Wd)}, (∃ s ∈ ss, s.head? = some u) → (∀ a s b, ss = a ++ s :: b → (∀ t ∈ a ++ [s], t.head? ≠ some u) → ∀ h, s.head? = some h → B h = true) → (ss.filterMap List.head?).find? (fun h => !B h) = some u
  | [], he, _ => by obtain ⟨_, h, _⟩ := he; cases h
  | s :: ss, he, hb => by
    by_cases hs : s.head? = some u
    · rw [List.filterMap_cons, hs]
      show List.find? _ (u :: _) = _
      rw [List.find?_cons, hu]; rfl
    · have ih := findHd hu (ss := ss) (by
        obtain ⟨t, h1, h2⟩ := he
        rcases List.mem_cons.mp h1 with rfl | h1
        · exact absurd h2 hs
        · exact ⟨t, h1, h2⟩) (fun a t b e hn => hb (s :: a) t b (by rw [e]; rfl) (fun x hx => by
          rcases List.mem_cons.mp hx with rfl | hx
          · exact hs
          · exact hn x hx))
      rw [List.filterMap_cons]
      cases e : s.head? with
      | none => exact ih
      | some h =>
        have := hb [] s ss rfl (fun x hx => by rw [List.mem_singleton.mp hx]; exact hs) h e
        show List.find? _ (h :: _) = _
        rw [List.find?_cons, this]
        exact ih
theorem subHead {u : Wd} {o l : List Wd} (nd : (u :: o).Nodup) (h : l.Sublist (u :: o)) (hm : u ∈ l) : ∃ l', l = u :: l' ∧ u ∉ l' := by
  cases h with
  | cons _ h => exact absurd (h.subset hm) (List.nodup_cons.mp nd).1
  | cons_cons _ h => exact ⟨_, rfl, fun q => (List.nodup_cons.mp nd).1 (h.subset q)⟩
theorem filtSub {r done rest : List Wd} (nd : (done ++ rest).Nodup) (h : r.Sublist (done ++ rest)) : (r.filter fun x => decide (x ∈ rest)).Sublist rest := by
  have h1 := h.filter fun x => decide (x ∈ rest)
  rw [List.filter_append] at h1
  have e1 : (done.filter fun x => decide (x ∈ rest)) = [] := List.filter_eq_nil_iff.mpr fun x hx q => (List.nodup_append.mp nd).2.2 x hx x (of_decide_eq_true q) rfl
  have e2 : (rest.filter fun x => decide (x ∈ rest)) = rest := List.filter_eq_self.mpr fun x hx => decide_eq_true hx
  rw [e1, e2] at h1
  exact h1
/-- the merge gives the list o, if the rows lie in o in order and every head that stands before o's next is blocked -/
theorem c3_lin {rr : List (List Wd)} {o : List Wd} (hn : o.Nodup) (hs : ∀ r ∈ rr, r.Sublist o) (hcov : ∀ x ∈ o, ∃ r ∈ rr, x ∈ r)
    (hc : ∀ done u rest, o = done ++ u :: rest → ∀ a r b, rr = a ++ r :: b → (∀ t ∈ a ++ [r], u ∉ t) → ∀ h t, (r.filter fun x => decide (x ∈ u :: rest)) = h :: t → ∃ r' ∈ rr, h ∈ (r'.filter fun x => decide (x ∈ u :: rest)).tail) :
    ∀ {f : Nat}, o.length ≤ f → c3 f rr = some o := by
  have key : ∀ rest done, o = done ++ rest → ∀ f, rest.length ≤ f → c3 f (rr.map fun r => r.filter fun x => decide (x ∈ rest)) = some rest := by
    intro rest
    induction rest with
    | nil =>
      intro done _ f _
      have : (rr.map fun r => r.filter fun x => decide (x ∈ ([] : List Wd))).all (·.isEmpty) = true := by simp
      cases f with
      | zero => unfold c3; rw [if_pos this]
      | succ f => unfold c3; rw [if_pos this]
    | cons u rest ih =>
      intro done e f hf
      cases f with
      | zero => simp at hf
      | succ f =>
        have nd : (done ++ u :: rest).Nodup := e ▸ hn
        have nd2 : (u :: rest).Nodup := (List.nodup_append.mp nd).2.1
        have hsub : ∀ r ∈ rr, (r.filter fun x => decide (x ∈ u :: rest)).Sublist (u :: rest) := fun r hr => filtSub nd (e ▸ hs r hr)
        have hhd : ∀ r ∈ rr, u ∈ r → ∃ l', (r.filter fun x => decide (x ∈ u :: rest)) = u :: l' ∧ u ∉ l' := fun r hr hu => subHead nd2 (hsub r hr) (List.mem_filter.mpr ⟨hu, decide_eq_true (.head _)⟩)
        obtain ⟨r0, hr0, hu0⟩ := hcov u (by rw [e]; exact List.mem_append_right _ (.head _))
        obtain ⟨l0, e0, _⟩ := hhd r0 hr0 hu0
        have hne : ¬ (rr.map fun r => r.filter fun x => decide (x ∈ u :: rest)).all (·.isEmpty) = true := fun q => by
          have := List.all_eq_true.mp q _ (List.mem_map_of_mem hr0)
          rw [e0] at this
          cases this
        have hub : blk (rr.map fun r => r.filter fun x => decide (x ∈ u :: rest)) u = false := by
          rw [Bool.eq_false_iff]
          intro q
          obtain ⟨s, h1, h2⟩ := List.any_eq_true.mp q
          obtain ⟨r, hr, rfl⟩ := List.mem_map.mp h1
          have h2 := of_decide_eq_true h2
          have hur : u ∈ r := (List.mem_filter.mp (List.mem_of_mem_tail h2)).1
          obtain ⟨l', e1, e2⟩ := hhd r hr hur
          rw [e1] at h2
          exact e2 h2
        have hp : pick (rr.map fun r => r.filter fun x => decide (x ∈ u :: rest)) = some u := by
          unfold pick
          refine findHd hub ⟨_, List.mem_map_of_mem hr0, by rw [e0]; rfl⟩ fun a s b es hna h hh => ?_
          obtain ⟨a', b', q1, q2, q3⟩ := List.map_eq_append_iff.mp es
          obtain ⟨r, b'', q4, q5, q6⟩ := List.map_eq_cons_iff.mp q3
          subst q2 q4 q5
          have hr : r ∈ rr := by rw [q1]; exact List.mem_append_right _ (.head _)
          obtain ⟨t, et⟩ : ∃ t, (r.filter fun x => decide (x ∈ u :: rest)) = h :: t := by
            cases er : (r.filter fun x => decide (x ∈ u :: rest)) with
            | nil => rw [er] at hh; cases hh
            | cons x t => rw [er] at hh; cases hh; exact ⟨t, rfl⟩
          obtain ⟨r', hr', hb⟩ := hc done u rest e a' r b'' q1 (fun t ht hu => by
            have ht' : t ∈ rr := by
              rw [q1]
              rcases List.mem_append.mp ht with ht | ht
              · exact List.mem_append_left _ ht
              · rw [List.mem_singleton.mp ht]; exact List.mem_append_right _ (.head _)
            obtain ⟨l', e1, _⟩ := hhd t ht' hu
            refine hna _ ?_ (show List.head? (t.filter fun x => decide (x ∈ u :: rest)) = some u by rw [e1]; rfl)
            rcases List.mem_append.mp ht with ht | ht
            · exact List.mem_append_left _ (List.mem_map_of_mem ht)
            · rw [List.mem_singleton.mp ht]; exact List.mem_append_right _ (.head _)) h t et
          exact List.any_eq_true.mpr ⟨_, List.mem_map_of_mem hr', decide_eq_true hb⟩
        have ha : adv (rr.map fun r => r.filter fun x => decide (x ∈ u :: rest)) u = rr.map fun r => r.filter fun x => decide (x ∈ rest) := by
          unfold adv
          rw [List.map_map]
          refine List.map_congr_left fun r hr => ?_
          show (if (r.filter fun x => decide (x ∈ u :: rest)).head? = some u then (r.filter fun x => decide (x ∈ u :: rest)).tail else (r.filter fun x => decide (x ∈ u :: rest))) = _
          have hff : ((r.filter fun x => decide (x ∈ u :: rest)).filter fun x => decide (x ∈ rest)) = r.filter fun x => decide (x ∈ rest) := by
            rw [List.filter_filter]
            refine List.filter_congr fun x _ => ?_
            by_cases q : x ∈ rest <;> simp [q]
          by_cases hu : u ∈ r
          · obtain ⟨l', e1, e2⟩ := hhd r hr hu
            rw [← hff, e1, if_pos (show List.head? (u :: l') = some u from rfl)]
            show l' = _
            rw [List.filter_cons, if_neg (fun q => (List.nodup_cons.mp nd2).1 (of_decide_eq_true q))]
            refine (List.filter_eq_self.mpr fun x hx => ?_).symm
            have : x ∈ (r.filter fun x => decide (x ∈ u :: rest)) := by rw [e1]; exact .tail _ hx
            rcases List.mem_cons.mp (of_decide_eq_true (List.mem_filter.mp this).2) with rfl | q
            · exact absurd hx e2
            · exact decide_eq_true q
          · have e1 : (r.filter fun x => decide (x ∈ u :: rest)) = r.filter fun x => decide (x ∈ rest) := by
              refine List.filter_congr fun x hx => ?_
              have : x ≠ u := fun q => hu (q ▸ hx)
              simp [this]
            rw [if_neg, e1]
            intro q
            have := List.mem_of_mem_head? (Option.mem_def.mpr q)
            exact hu (List.mem_filter.mp this).1
        unfold c3
        rw [if_neg hne, hp]
        show Option.map _ (c3 f (adv _ u)) = _
        rw [ha, ih (done ++ [u]) (by rw [e]; simp) f (by simpa using hf)]
        rfl
  intro f hf
  have := key o [] rfl f hf
  have e : (rr.map fun r => r.filter fun x => decide (x ∈ o)) = rr := by
    refine (List.map_congr_left (g := id) fun r hr => ?_).trans (List.map_id _)
    exact List.filter_eq_self.mpr fun x hx => decide_eq_true ((hs r hr).subset hx)
  rwa [e] at this
end Mine
end

/-! text PlainC -/
section
namespace Mine
local macro_rules | `(tactic| omega) => `(tactic| with_reducible first
  | assumption
  | exact Nat.zero_le _
  | exact Int.natCast_nonneg _
  | exact om0 (by assumption)
  | exact om1 (by assumption) (by decide)
  | exact om2 (by assumption) (by decide)
  | exact om3 (by assumption) (by decide)
  | exact om4 (by assumption) (by decide)
  | exact omT (by assumption)
  | exact omI (by assumption) (by assumption)
  | exact omI' (by assumption) (by assumption)
  | exact omL (by assumption) (by first | assumption | decide)
  | exact omLt (by assumption) (by first | assumption | decide)
  | exact omS (by assumption) (by first | assumption | decide)
  | exact omV (by assumption) (by first | assumption | decide)
  | exact omW (by assumption) (by first | assumption | decide)
  | exact omE (by assumption) (by assumption) (by first | assumption | decide)
  | exact omE' (by assumption) (by assumption) (by first | assumption | decide)
  | exact om1l (by assumption) (by decide)
  | exact om2l (by assumption) (by decide)
  | exact om1t (by assumption) (by assumption) (by decide)
  | exact om2t (by assumption) (by assumption) (by decide)
  | exact om3t (by assumption) (by assumption) (by decide)
  | exact omC (by assumption) (by decide)
  | exact omCi (by assumption) (by assumption) (by decide)
  | exact omCe (by assumption) (by assumption) (by assumption) (by decide)
  | exact omQ (by assumption) (by assumption) (by decide)
  | exact omD (by assumption)
  | exact omJ (by assumption) (by assumption)
  | exact omK (by assumption) (by assumption)
  | exact omN (by assumption) (by assumption)
  | exact omU (by assumption))
theorem FR_len : ∀ {rs : List (List Wd)}, (FR rs).length ≤ rs.flatten.length
  | [] => Nat.le_refl _
  | r :: rs => by
    rw [FR, List.length_append, List.flatten_cons, List.length_append]
    have := FR_len (rs := rs)
    have := List.length_filter_le (fun x => decide (x ∉ rs.flatten)) r
    omega
theorem flat3 : ∀ {rs : List (List Wd)}, (∀ r ∈ rs, r.length ≤ 3) → rs.flatten.length ≤ 3 * rs.length
  | [], _ => Nat.le_refl _
  | r :: rs, h => by
    rw [List.flatten_cons, List.length_append, List.length_cons]
    have := flat3 (rs := rs) fun r hr => h r (.tail _ hr)
    have := h r (.head _)
    omega
theorem preIs {ws : List Wd} : ∀ r ∈ ws.map pre, ∃ w, r = pre w := fun r hr => by
  obtain ⟨w, _, rfl⟩ := List.mem_map.mp hr
  exact ⟨w, rfl⟩
theorem preNd {ws : List Wd} : ∀ r ∈ ws.map pre, r.Nodup := fun r hr => by
  obtain ⟨w, rfl⟩ := preIs r hr
  exact pre_nodup
theorem c3_up {ws : List Wd} {f : Nat} (hf : (FR (ws.map pre).reverse).length ≤ f) : c3 f (ws.map pre) = some (FR (ws.map pre).reverse) := by
  refine c3_lin (FR_nodup fun r hr => preNd r (List.mem_reverse.mp hr)) (fun r hr => FR_sub (fun r hr => preIs r (List.mem_reverse.mp hr)) r (List.mem_reverse.mpr hr)) (fun x hx => ?_) ?_ hf
  · obtain ⟨r, h1, h2⟩ := List.mem_flatten.mp (FR_mem.mp hx)
    exact ⟨r, List.mem_reverse.mp h1, h2⟩
  · intro done u rest e a r b er hu h t ef
    exfalso
    have hm : h ∈ r.filter fun x => decide (x ∈ u :: rest) := by rw [ef]; exact .head _
    obtain ⟨h1, h2⟩ := List.mem_filter.mp hm
    have hr : r ∈ a ++ [r] := List.mem_append_right _ (.head _)
    rcases List.mem_cons.mp (of_decide_eq_true h2) with rfl | h3
    · exact hu r hr h1
    · have pw := FR_pw (rs := (ws.map pre).reverse)
      rw [e] at pw
      have := List.rel_of_pairwise_cons (List.pairwise_append.mp pw).2.1 h3 b.reverse (a ++ [r]).reverse (by rw [er, ← List.reverse_append]; simp) (List.mem_flatten.mpr ⟨r, List.mem_reverse.mpr hr, h1⟩)
      obtain ⟨t', h4, h5⟩ := List.mem_flatten.mp this
      exact hu t' (List.mem_reverse.mp h4) h5
theorem lastSplit {h : Wd} : ∀ {b : List (List Wd)}, h ∈ b.flatten → ∃ a1 r b1, b = a1 ++ r :: b1 ∧ h ∈ r ∧ h ∉ b1.flatten
  | [], q => by simp at q
  | r :: b, q => by
    by_cases hb : h ∈ b.flatten
    · obtain ⟨a1, r', b1, e, h1, h2⟩ := lastSplit hb
      exact ⟨r :: a1, r', b1, by rw [e]; rfl, h1, h2⟩
    · rw [List.flatten_cons] at q
      exact ⟨[], r, b, rfl, (List.mem_append.mp q).resolve_right hb, hb⟩
theorem tailOf {h : Wd} : ∀ {l : List Wd}, h ∈ l → l.head? ≠ some h → h ∈ l.tail
  | [], q, _ => nomatch q
  | x :: l, q, n => by
    rcases List.mem_cons.mp q with rfl | q
    · exact absurd rfl n
    · exact q
theorem pre_rev {w : Wd} (hw : w ≠ []) : ∃ l, (pre w).reverse = w :: l := by
  unfold pre
  cases e : w.length with
  | zero => exact absurd (List.eq_nil_of_length_eq_zero e) hw
  | succ q =>
    rw [bgs_succ, List.reverse_append, List.take_of_length_le (by omega)]
    exact ⟨_, rfl⟩
theorem pre_self {w : Wd} (hw : w ≠ []) : w ∈ pre w := by
  obtain ⟨l, e⟩ := pre_rev hw
  exact List.mem_reverse.mp (by rw [e]; exact .head _)
noncomputable def Pf (ws : List Wd) : Prop := ws.Pairwise fun x y => ¬ x <+: y ∧ ¬ y <+: x
theorem c3_dn {ws : List Wd} {f : Nat} (hp : Pf ws) (hne : ∀ w ∈ ws, w ≠ []) (hf : (FR (ws.map pre)).length ≤ f) : c3 f ((ws.map pre).map List.reverse) = some (FR (ws.map pre)).reverse := by
  have hsub : ∀ r ∈ ws.map pre, r.reverse.Sublist (FR (ws.map pre)).reverse := fun r hr => (FR_sub preIs r hr).reverse
  have hnd : (FR (ws.map pre)).reverse.Nodup := (List.reverse_perm _).nodup_iff.mpr (FR_nodup preNd)
  refine c3_lin hnd (fun r hr => ?_) (fun x hx => ?_) ?_ (by rw [List.length_reverse]; exact hf)
  · obtain ⟨r0, h0, rfl⟩ := List.mem_map.mp hr
    exact hsub r0 h0
  · obtain ⟨r, h1, h2⟩ := List.mem_flatten.mp (FR_mem.mp (List.mem_reverse.mp hx))
    exact ⟨r.reverse, List.mem_map_of_mem h1, List.mem_reverse.mpr h2⟩
  · intro done u rest e a r b er hu h t ef
    obtain ⟨a0, b0', q1, q2, q3⟩ := List.map_eq_append_iff.mp er
    obtain ⟨r0, b0, q4, q5, q6⟩ := List.map_eq_cons_iff.mp q3
    subst q2 q4 q5
    have eF : FR (ws.map pre) = rest.reverse ++ u :: done.reverse := by
      have := congrArg List.reverse e
      rw [List.reverse_reverse] at this
      rw [this]; simp
    have pw := FR_pw (rs := ws.map pre)
    rw [eF] at pw
    obtain ⟨_, pw2, pw3⟩ := List.pairwise_append.mp pw
    have R1 : ∀ x ∈ rest, ∀ a b, ws.map pre = a ++ b → u ∈ b.flatten → x ∈ b.flatten := fun x hx => pw3 x (List.mem_reverse.mpr hx) u (.head _)
    have R2 : ∀ y ∈ done, ∀ a b, ws.map pre = a ++ b → y ∈ b.flatten → u ∈ b.flatten := fun y hy => List.rel_of_pairwise_cons pw2 (List.mem_reverse.mpr hy)
    have hu0 : ∀ t ∈ a0 ++ [r0], u ∉ t := fun t ht q => hu t.reverse (by
      rcases List.mem_append.mp ht with ht | ht
      · exact List.mem_append_left _ (List.mem_map_of_mem ht)
      · rw [List.mem_singleton.mp ht]; exact List.mem_append_right _ (.head _)) (List.mem_reverse.mpr q)
    have q1' : ws.map pre = (a0 ++ [r0]) ++ b0 := by rw [q1]; simp
    have huo : u ∈ FR (ws.map pre) := by rw [eF]; exact List.mem_append_right _ (.head _)
    have hub : u ∈ b0.flatten := by
      have := FR_mem.mp huo
      rw [q1', List.flatten_append] at this
      rcases List.mem_append.mp this with q | q
      · obtain ⟨t, h1, h2⟩ := List.mem_flatten.mp q
        exact absurd h2 (hu0 t h1)
      · exact q
    have hm : h ∈ r0.reverse.filter fun x => decide (x ∈ u :: rest) := by rw [ef]; exact .head _
    obtain ⟨h1, h2⟩ := List.mem_filter.mp hm
    have h1 := List.mem_reverse.mp h1
    have hhu : h ≠ u := fun q => hu0 r0 (List.mem_append_right _ (.head _)) (q ▸ h1)
    have hh := of_decide_eq_true h2
    have hrest : h ∈ rest := (List.mem_cons.mp hh).resolve_left hhu
    obtain ⟨a1, r', b1, eb, hr', hb1⟩ := lastSplit (R1 h hrest _ _ q1' hub)
    have er' : ws.map pre = (a0 ++ [r0] ++ a1) ++ (r' :: b1) := by rw [q1', eb]; simp
    have hmem' : r' ∈ ws.map pre := by rw [er']; exact List.mem_append_right _ (.head _)
    refine ⟨r'.reverse, List.mem_map_of_mem hmem', tailOf (List.mem_filter.mpr ⟨List.mem_reverse.mpr hr', h2⟩) ?_⟩
    by_cases hur : u ∈ r'
    · have s1 := filtSub (e ▸ hnd) (e ▸ hsub r' hmem')
      obtain ⟨l', e1, _⟩ := subHead (List.nodup_append.mp (e ▸ hnd : (done ++ u :: rest).Nodup)).2.1 s1 (List.mem_filter.mpr ⟨List.mem_reverse.mpr hur, decide_eq_true (.head _)⟩)
      rw [e1]
      intro q
      exact hhu (Option.some.inj q).symm
    · have hub1 : u ∉ b1.flatten := fun q => hb1 (R1 h hrest (a0 ++ [r0] ++ a1 ++ [r']) b1 (by rw [er']; simp) q)
      -- the words
      obtain ⟨A1, B1, w1, w2, w3⟩ := List.map_eq_append_iff.mp q1
      obtain ⟨w, B2, w4, w5, w6⟩ := List.map_eq_cons_iff.mp w3
      have hw'B : r' ∈ B2.map pre := by rw [w6, eb]; exact List.mem_append_right _ (.head _)
      obtain ⟨w', hw', rfl⟩ := List.mem_map.mp hw'B
      have hpf : ¬ w' <+: w := by
        unfold Pf at hp
        rw [w1, w4] at hp
        exact (List.rel_of_pairwise_cons (List.pairwise_append.mp hp).2.1 hw').2
      have hw'ne : w' ≠ [] := hne w' (by rw [w1, w4]; exact List.mem_append_right _ (.tail _ hw'))
      have hself := pre_self hw'ne
      have hin : w' ∈ u :: rest := by
        have : w' ∈ done ++ u :: rest := by
          rw [← e]
          exact List.mem_reverse.mpr (FR_mem.mpr (List.mem_flatten.mpr ⟨_, hmem', hself⟩))
        rcases List.mem_append.mp this with q | q
        · have := R2 w' q _ _ er' (by rw [List.flatten_cons]; exact List.mem_append_left _ hself)
          rw [List.flatten_cons] at this
          rcases List.mem_append.mp this with q | q
          · exact absurd q hur
          · exact absurd q hub1
        · exact q
      obtain ⟨l, el⟩ := pre_rev hw'ne
      rw [el, List.filter_cons, if_pos (decide_eq_true hin)]
      intro q
      have q : w' = h := Option.some.inj q
      subst q
      rw [← w5] at h1
      obtain ⟨i, _, e1⟩ := pre_mem.mp h1
      exact hpf (by rw [e1]; exact List.take_prefix _ _)
end Mine
end

section
open PySem PySem.W PyProof.Rows PySem.Calls PySem.Spec
set_option maxRecDepth 100000
namespace Mine
local macro_rules | `(tactic| walk_at "mv") => `(tactic| first | rfl | assumption | fail "mv")
local macro_rules | `(tactic| walk_at "mem") => `(tactic| first | exact .head _ | exact .tail _ (.head _) | exact .tail _ (.tail _ (.head _)) | exact .tail _ (.tail _ (.tail _ (.head _))) | exact .tail _ (.tail _ (.tail _ (.tail _ (.head _)))) | exact .tail _ (.tail _ (.tail _ (.tail _ (.tail _ (.head _))))) | exact .tail _ (.tail _ (.tail _ (.tail _ (.tail _ (.tail _ (.head _)))))) | assumption)
local macro_rules | `(tactic| walk_at "up") => `(tactic| first | exact .head | exact .tail .head | exact .tail (.tail .head) | exact .tail (.tail (.tail .head)) | exact .tail (.tail (.tail (.tail .head))) | exact .tail (.tail (.tail (.tail (.tail .head)))) | exact .tail (.tail (.tail (.tail (.tail (.tail .head))))))
local macro_rules | `(tactic| walk_at "lst") => `(tactic| first | assumption | exact Lst.led (by walk_at "mem") | exact Lst.frz (by assumption))
local macro_rules | `(tactic| walk_at "eval Name") => `(tactic| first
  | refine nmL (by assumption) (by walk_at "mv") ?_
  | refine nmN (by assumption) (by walk_at "mem") (by walk_at "mv") ?_
  | refine nmC (by assumption) (by rfl) (by walk_at "mem") ?_
  | refine nmF (by assumption) (by rfl) (by walk_at "mem") ?_
  | refine nmG (by assumption) (by assumption) (by rfl) ?_
  | refine nmB (by assumption) (by assumption) (by rfl) (by rfl) ?_)
local macro_rules | `(tactic| walk_at "storeName") => `(tactic| ((try dsimp only); first
  | (refine stL (by assumption) ?_; intro _ _ _; (try dsimp only))
  | (refine stC (by assumption) (by rfl) (by walk_at "up") ?_; intro _ _; (try dsimp only))
  | (refine stN (by assumption) (by walk_at "up") ?_; intro _ _ _; (try dsimp only))))
local macro_rules | `(tactic| walk_at "newList") => `(tactic| ((try dsimp only); refine nwL (by assumption) ?_ (by first | decide | walk_at "len"); intro _ _ _; (try dsimp only)))
local macro_rules | `(tactic| walk_at "ints") => `(tactic| first | assumption | exact .nil)
local macro_rules | `(tactic| walk_at "units") => `(tactic| (have hcL9 := cLine_is; simp only [Around.deeper_units, Around.in1_units, Around.mark_units] at *; omega))
local macro_rules | `(tactic| walk_at "compareOp Eq ref ref") => `(tactic| first
  | refine eqW (Fm.rdI (by assumption) (by walk_at "lst") (by walk_at "ints")) (Fm.rdI (by assumption) (by walk_at "lst") (by walk_at "ints")) (by walk_at "units") ?_)
local macro_rules | `(tactic| walk_at "compareOp NotIn int ref") => `(tactic| refine notin_list_ints (Fm.lst (by assumption) (by walk_at "lst")) (by walk_at "ints") ?_)
local macro_rules | `(tactic| walk_at "eval Call Attribute") => `(tactic| refine apN (by assumption) (by walk_at "mv") (by walk_at "mem") ?_)
local macro_rules | `(tactic| walk_at "call builtin:list.append") => `(tactic| (refine apL (by assumption) (by walk_at "up") (by walk_at "small") ?_; intro _ _; (try dsimp only)))
local macro_rules | `(tactic| walk_at "callWith ref") => `(tactic| refine callWith_F (Fm.fn (by assumption) (by assumption)) ?_)
local macro_rules | `(tactic| walk_at "go") => `(tactic| repeat' (first | ((with_reducible refine Hid.to (by assumption) ?_); (try dsimp only)) | ((with_reducible show wpAny _ _ _ _ _ _); walk1) | ((with_reducible show ite _ _ _); walk1) | ((with_reducible show FnAt _ _ ∧ _); refine ⟨Fm.fn (by assumption) (by assumption), ?_⟩; (try simp only [List.nil_append]))))
local macro_rules | `(tactic| walk_at "small") => `(tactic| first | decide | (refine Nat.le_trans ?_ (show 1000 ≤ sizeLine by decide); omega))
local macro_rules | `(tactic| walk_at "sub") => `(tactic| first | exact List.Sublist.refl _ | exact .cons _ (List.Sublist.refl _) | exact .cons _ (.cons _ (List.Sublist.refl _)) | exact .cons _ (.cons _ (.cons _ (List.Sublist.refl _))))
local macro_rules | `(tactic| walk_at "part") => `(tactic| first | exact IsPart.none | exact IsPart.int _ _)
local macro_rules | `(tactic| walk_at "nn") => `(tactic| first | decide | omega | assumption)
local macro_rules | `(tactic| walk_at "pick") => `(tactic| first | exact pick_upto (by walk_at "nn") | exact pick_from (by walk_at "nn") | exact pick_rev)
local macro_rules | `(tactic| walk_at "slice") => `(tactic| ((try dsimp only); refine slL (by assumption) (by walk_at "lst") (by walk_at "part") (by walk_at "part") (by walk_at "part") (by decide) (by walk_at "pick") (by walk_at "small") ?_; intro _ _ _; (try dsimp only)))
local macro_rules | `(tactic| walk_at "room") => `(tactic| first | assumption | (show Around.depth _ + 1 < _; omega) | omega)
local macro_rules | `(tactic| walk_at "binaryOp Add ref ref") => `(tactic| ((try dsimp only); refine adL (by assumption) (by walk_at "lst") (by walk_at "lst") (by walk_at "len") ?_; intro _ _ _; (try dsimp only)))
local macro_rules | `(tactic| walk_at "len") => `(tactic| (simp only [List.length_cons, List.length_nil, List.length_append, List.length_take, List.length_drop]; walk_at "small"))
local macro_rules | `(tactic| walk_at "to") => `(tactic| ((with_reducible refine Hid.to (by assumption) ?_); (try dsimp only)))

/-! text Cls -/
section
open PySem PySem.W PyProof.Rows PySem.Calls PySem.Spec
set_option maxRecDepth 100000
set_option maxHeartbeats 4000000
set_option pp.deepTerms false
set_option pp.maxSteps 4000
local macro_rules | `(tactic| omega) => `(tactic| with_reducible first
  | assumption
  | exact Nat.zero_le _
  | exact Int.natCast_nonneg _
  | exact om0 (by assumption)
  | exact om1 (by assumption) (by decide)
  | exact om2 (by assumption) (by decide)
  | exact om3 (by assumption) (by decide)
  | exact om4 (by assumption) (by decide)
  | exact omT (by assumption)
  | exact omI (by assumption) (by assumption)
  | exact omI' (by assumption) (by assumption)
  | exact omL (by assumption) (by first | assumption | decide)
  | exact omLt (by assumption) (by first | assumption | decide)
  | exact omS (by assumption) (by first | assumption | decide)
  | exact omV (by assumption) (by first | assumption | decide)
  | exact omW (by assumption) (by first | assumption | decide)
  | exact omE (by assumption) (by assumption) (by first | assumption | decide)
  | exact omE' (by assumption) (by assumption) (by first | assumption | decide)
  | exact om1l (by assumption) (by decide)
  | exact om2l (by assumption) (by decide)
  | exact om1t (by assumption) (by assumption) (by decide)
  | exact om2t (by assumption) (by assumption) (by decide)
  | exact om3t (by assumption) (by assumption) (by decide)
  | exact omC (by assumption) (by decide)
  | exact omCi (by assumption) (by assumption) (by decide)
  | exact omCe (by assumption) (by assumption) (by assumption) (by decide)
  | exact omQ (by assumption) (by assumption) (by decide)
  | exact omD (by assumption)
  | exact omJ (by assumption) (by assumption)
  | exact omK (by assumption) (by assumption)
  | exact omN (by assumption) (by assumption)
  | exact omU (by assumption))
section
variable {prog : Program} {w : World} {A : Around} {E : Value → Shared → Prop} {s : Shared} {b : Bs} {P : PM} {L : Addr} {m : Mp} {N N' : List (Addr × Kd)}
theorem evalArgs_one {f : Value} {x : Sem Value} {Q : Args → Shared → Prop} (h : wpAny (model prog w) A x (fun v s' => Q ⟨[v], []⟩ s') E s) : wpAny (model prog w) A (evalArgs f false [(false, x)] []) Q E s := by
  unfold evalArgs
  refine wpAny_bind (wpAny_bind ?_)
  refine wpAny_mono h (fun v s' q => ?_) fun _ _ e => e
  refine iteF (by decide) ?_
  refine wpAny_bind (wpAny_pure ?_)
  refine wpAny_bind (wpAny_holding ?_)
  refine wpAny_pure ?_
  refine wpAny_pure ?_
  refine wpAny_bind (wpAny_pure ?_)
  refine wpAny_holding ?_
  exact wpAny_bind (wpAny_pure (wpAny_bind (wpAny_pure (wpAny_pure q))))
theorem lgK {env : Env} {x : PySem.Str} {C : Addr} {kvs : KV} {Q : Option Value → Shared → Prop} (F : Fm b P L s.heap m N) (hm : (C, Kd.dct kvs) ∈ N) (h : Q (kget kvs x) s) (hL : env.locals = C := by rfl) :
    wpAny (model prog w) A (localGet env x) Q E s := by
  subst hL
  unfold localGet
  refine wpAny_bind (wpAny_mono (Q := fun o s' => o.cls = .type "dict" ∧ s' = s) (E := E) ?_ ?_ fun _ _ e => e)
  · obtain ⟨o, eo, _, hc, _⟩ := F.led _ hm
    exact wpAny_load eo ⟨hc, rfl⟩
  · rintro o s' ⟨hc, rfl⟩
    refine iteT (by rw [hc]; rfl) ?_
    exact gtD F hm h
/-- a store in a class's own scope -/
theorem stK {env : Env} {x : PySem.Str} {v : Value} {C : Addr} {kvs : KV} {Q : Unit → Shared → Prop} (F : Fm b P L s.heap m N) (u : Up C (.dct kvs) (.dct (kset kvs x v)) N N') (h : ∀ h' tk, Fm b P L h' m N' → Q () ⟨h', s.gens, s.drawn, tk, s.os⟩)
    (hL : env.locals = C := by rfl) (e : storeName env x v = localSet env x v := by rfl) : wpAny (model prog w) A (storeName env x v) Q E s := by
  subst hL
  rw [e]
  unfold localSet
  refine wpAny_bind (wpAny_mono (Q := fun o s' => o.cls = .type "dict" ∧ s' = s) (E := E) ?_ ?_ fun _ _ e => e)
  · obtain ⟨o, eo, _, hc, _⟩ := F.led _ u.mem
    exact wpAny_load eo ⟨hc, rfl⟩
  · rintro o s' ⟨hc, rfl⟩
    refine iteT (by rw [hc]; rfl) ?_
    exact stD F u h
end
theorem entry_tprep : entryFor table "type.__prepare__" = some Builtin.«type.__prepare__» := entryFor_of_tree (by kernel_rfl)
theorem plain_tprep : plainId "type.__prepare__" = true := by decide +kernel
section
variable {prog : Program} {w : World} {A : Around} {E : Value → Shared → Prop} {s : Shared} {b : Bs} {P : PM} {L : Addr} {m : Mp} {N N' : List (Addr × Kd)}
noncomputable abbrev prepO : Obj := ⟨.type "builtin_function_or_method", none, .fields ⟨[.builtin "type.__prepare__", .type "type"]⟩, #[]⟩
theorem prepK {Q : Option Value → Shared → Prop} (I : InA A) (F : Fm b P L s.heap m N) (h : ∀ a h' tk, Fm b P L h' m N → h'.get? a = some prepO → Q (some (.ref a)) ⟨h', s.gens, s.drawn, tk, s.os⟩) :
    wpAny (model prog w) A (getAttr? (.type "type") "__prepare__") Q E s := by
  refine wpAny_bind (wpAny_mkText ?_)
  refine wpAny_bind (wpAny_attempt (wpAny_holding ?_))
  refine wpAny_bind (eqP (.type "type") (by kernel_rfl) ?_)
  refine wpAny_bind (eqP (some (.builtin "type.__getattribute__")) (by kernel_rfl) ?_)
  refine iteF Bool.false_ne_true ?_
  refine wpAny_bind (eqP none (by rfl) ?_)
  refine wpAny_bind (wpAny_attempt (wpAny_holding ?_))
  refine iteF Bool.false_ne_true ?_
  refine wpAny_bind (eqP (.builtin "type.__getattribute__", [.type "type"]) (by kernel_rfl) ?_)
  refine I.go (tgaPrep fun a h₁ D => ?_)
  refine wpAny_pure ?_
  exact wpAny_pure (h _ _ _ (F.keepAll (memAll D)) (D.at 0 _ _ rfl))
theorem prepC {Q : Value → Shared → Prop} {a : Addr} {v1 v2 : Value} (F : Fm b P L s.heap m N) (ho : s.heap.get? a = some prepO) (h : ∀ D h', Fm b P L h' m ((D, .dct []) :: N) → Q (.ref D) ⟨h', s.gens, s.drawn, s.toks, s.os⟩) :
    wpAny (model prog w) A (call (.ref a) [v1, v2]) Q E s := by
  refine wpAny_call (codeAny_of_tree ?_)
  show wpAny _ _ (callAny (.ref a) _) _ _ _
  unfold callAny
  refine wpAny_bind (wpAny_load ho ?_)
  refine iteT (by decide) ?_
  refine iteT (by decide) ?_
  refine wpAny_bind (eqP () (by kernel_rfl) ?_)
  refine wpAny_pure ⟨plainId_quiet plain_tprep _, codeAny_builtin entry_tprep ?_⟩
  rw [Around.under_plainId plain_tprep _]
  refine wpAny_bind ?_
  refine nwD F (kvs := []) .nil (Nat.zero_le _) fun D h' F' => ?_
  exact wpAny_pure (h _ _ F')
end
noncomputable def kBody : Stmt → List Stmt
  | .ClassDef _ _ _ body .. => body
  | _ => []
noncomputable def kDef (i : Nat) : Stmt := ((kBody (((bodyOf (stm 6))[0]?).getD (.Pass default)))[i]?).getD (.Pass default)
theorem Fm.frz {P P0 : PM} {L : Addr} {h h0 : Heap} {m : Mp} {N : List (Addr × Kd)} {D : Addr} {k k37 : Kd} (F : Fm ⟨[37], P0, h0⟩ P L h m ((D, k) :: N)) (h37 : (37, k37) ∈ N) :
    ∃ P' o, Fm ⟨[37], P0, h0⟩ P' L h m N ∧ P' D = some o ∧ k.ok o ∧ ∀ c o, P c = some o → P' c = some o := by
  obtain ⟨o, e, hc, hk⟩ := F.led (D, k) (.head _)
  have nd := F.nd
  rw [List.map_cons, List.nodup_cons] at nd
  have hX : D ∉ [37] := fun q => nd.1 (by
    have e : D = 37 := by simpa using q
    rw [e]
    exact List.mem_map.mpr ⟨_, h37, rfl⟩)
  refine ⟨pset P D o, o, F.freeze ((F.up.2 _ (.head _)).elim id fun q => absurd q hX) e, ?_, hk, pset_sub (F.off (D, k) (.head _))⟩
  unfold pset; rw [if_pos rfl]
/-- all of the ledger but X is frozen at once -/
theorem Fm.iceAll {b : Bs} {P : PM} {L : Addr} {h : Heap} {m : Mp} {N : List (Addr × Kd)} (F : Fm b P L h m N) :
    ∃ P', Ex b P' h ∧ (∀ p ∈ N, p.1 ∉ b.X → ∃ o, P' p.1 = some o ∧ h.get? p.1 = some o ∧ p.2.ok o) ∧ (∀ a ∈ b.X, P' a = P a) ∧ (∀ c o, P c = some o → P' c = some o) := by
  classical
  let P' : PM := fun c => if c ∈ N.map (·.1) ∧ c ∉ b.X then h.get? c else P c
  have hoff : ∀ c, c ∈ N.map (·.1) → P c = none := fun c hc => by
    obtain ⟨p, hp, rfl⟩ := List.mem_map.mp hc
    exact F.off p hp
  have hsub : ∀ c o, P c = some o → P' c = some o := fun c o e => by
    show (if _ then _ else _) = _
    rw [if_neg]
    · exact e
    · intro q; rw [hoff c q.1] at e; cases e
  refine ⟨P', ⟨fun c o e => ?_, fun c o e => hsub c o (F.ex.sub c o e), fun c hl => ?_, F.ex.keep, F.ex.frm, F.ex.size, F.ex.frk⟩, fun p hp hX => ?_, fun a ha => ?_, hsub⟩
  · have e : (if c ∈ N.map (·.1) ∧ c ∉ b.X then h.get? c else P c) = some o := e
    split at e
    · rename_i q
      obtain ⟨p, hp, rfl⟩ := List.mem_map.mp q.1
      obtain ⟨o', e', hc, _⟩ := F.led p hp
      rw [e'] at e; cases e
      exact ⟨e', hc⟩
    · exact F.ex.fz c o e
  · show (if c ∈ N.map (·.1) ∧ c ∉ b.X then h.get? c else P c) = _
    rw [if_neg]
    · exact F.ex.pnew c hl
    · rintro ⟨q1, q2⟩
      obtain ⟨p, hp, rfl⟩ := List.mem_map.mp q1
      exact (F.up.2 p hp).elim (fun q => absurd hl (Nat.not_lt.mpr q)) q2
  · obtain ⟨o, e, _, hk⟩ := F.led p hp
    refine ⟨o, ?_, e, hk⟩
    show (if p.1 ∈ N.map (·.1) ∧ p.1 ∉ b.X then h.get? p.1 else P p.1) = _
    rw [if_pos ⟨List.mem_map.mpr ⟨p, hp, rfl⟩, hX⟩, e]
  · show (if a ∈ N.map (·.1) ∧ a ∉ b.X then h.get? a else P a) = _
    rw [if_neg (fun q => q.2 ha)]
/-- the class that cmp_to_key makes -/
noncomputable def KCls (P : PM) (v : Value) : Prop := ∃ c d md fI fL cl bT t t3 tn n1 f sl a3 a4 a5 a6 st od es ep cI cL ctI docI pmI ctL docL pmL, v = .ref c ∧ P c = some (clsO d [.ref c, .type "object"] false ["obj"] (clsS bT t t3)) ∧
  P d = some od ∧ od.cls = .type "dict" ∧ od.data = .dict es ep ∧ Ents es.toList (kvsF n1 f sl (.ref fI) (.ref fL) a3 a4 a5 a6 st (.ref md)) ∧ P md = some (mdO tn c) ∧
  P fI = some (fnO "__init__" "cmp_to_key.<locals>.K.__init__" (paramsOf (kDef 2)) (.stmts (bodyOf (kDef 2))) (scopeOf (kDef 2)) [] pmI (.ref cI) ctI docI) ∧ CodeRecP P cI "cmp_to_key.<locals>.K.__init__" ∧
  P fL = some (fnO "__lt__" "cmp_to_key.<locals>.K.__lt__" (paramsOf (kDef 3)) (.stmts (bodyOf (kDef 3))) (scopeOf (kDef 3)) [("mycmp", cl)] pmL (.ref cL) ctL docL) ∧ CodeRecP P cL "cmp_to_key.<locals>.K.__lt__" ∧
  ∃ oc, P cl = some oc ∧ oc.data = .cell (some (.ref 35))
theorem keyU : ∀ {l : List (Addr × Kd)}, (l.map (·.1)).Nodup → ∀ {p q : Addr × Kd}, p ∈ l → q ∈ l → p.1 = q.1 → p = q
  | [], _, _, _, hp, _, _ => nomatch hp
  | x :: l, hn, p, q, hp, hq, e => by
    rw [List.map_cons, List.nodup_cons] at hn
    rcases List.mem_cons.mp hp with h1 | h1 <;> rcases List.mem_cons.mp hq with h2 | h2
    · rw [h1, h2]
    · exact absurd (List.mem_map.mpr ⟨q, h2, by rw [← e, h1]⟩) hn.1
    · exact absurd (List.mem_map.mpr ⟨p, h1, by rw [e, h2]⟩) hn.1
    · exact keyU hn.2 h1 h2 e
theorem ctk_end {P P0 : PM} {L : Addr} {h h0 : Heap} {m : Mp} {N NT : List (Addr × Kd)} {c d md bT cK TK f1 f2 c1 c2 c3 c4 c5 c6 cl : Addr} {t t3 tn : Tok} {n1 f sl a3 a4 a5 a6 st pm1 ctv1 doc1 pm2 ctv2 doc2 : Value}
    (F : Fm ⟨[37], P0, h0⟩ P L h m N) (hmd : (md, Kd.is (mdO tn c)) ∈ N) (hc : (c, Kd.is (clsO d [.ref c, .type "object"] false ["obj"] (clsS bT t t3))) ∈ N) (hd : (d, Kd.dct (kvsF n1 f sl (.ref f1) (.ref f2) a3 a4 a5 a6 st (.ref md))) ∈ N)
    (h1 : (f1, Kd.is (fnO "__init__" "cmp_to_key.<locals>.K.__init__" (paramsOf (kDef 2)) (.stmts (bodyOf (kDef 2))) (scopeOf (kDef 2)) [] pm1 (.ref c1) ctv1 doc1)) ∈ N)
    (h2 : (f2, Kd.is (fnO "__lt__" "cmp_to_key.<locals>.K.__lt__" (paramsOf (kDef 3)) (.stmts (bodyOf (kDef 3))) (scopeOf (kDef 3)) [("mycmp", cl)] pm2 (.ref c2) ctv2 doc2)) ∈ N)
    (hcl : (cl, Kd.cell (some (.ref 35))) ∈ N) (h37 : (37, Kd.tab [rawInt 48, rawInt 4, .ref cK]) ∈ N) (hNT : ∀ p ∈ NT, p ∈ N) (tst : Tst P TK [c1, c2, c3, c4, c5, c6] NT) (hdK : CodeHdP P cK TK)
    (r1 : CodeRecP P c1 "cmp_to_key.<locals>.K.__init__") (r2 : CodeRecP P c2 "cmp_to_key.<locals>.K.__lt__") :
    ∃ P', Ex ⟨[37], P0, h0⟩ P' h ∧ KTab P' h ∧ KCls P' (.ref c) := by
  obtain ⟨P', ex, hled, hX, hsub⟩ := F.iceAll
  have nd := F.nd
  have ne : ∀ p ∈ N, (∀ ps, p.2 ≠ Kd.tab ps) → p.1 ∉ [37] := fun p hp hk hm => by
    have e : p.1 = 37 := by simpa using hm
    have := keyU nd hp h37 e
    exact hk _ (by rw [this])
  have e37 := F.off _ h37
  have get : ∀ {a : Addr} {k : Kd}, (a, k) ∈ N → (∀ ps, k ≠ Kd.tab ps) → ∃ o, P' a = some o ∧ k.ok o := fun {a k} hp hk => by
    obtain ⟨o, q1, _, q2⟩ := hled _ hp (ne _ hp hk)
    exact ⟨o, q1, q2⟩
  obtain ⟨o1, g1, rfl⟩ := get hmd (fun _ q => nomatch q)
  obtain ⟨o2, g2, rfl⟩ := get hc (fun _ q => nomatch q)
  obtain ⟨od, g3, k1, k2, k3, es, ep, k4, k5⟩ := get hd (fun _ q => nomatch q)
  obtain ⟨o4, g4, rfl⟩ := get h1 (fun _ q => nomatch q)
  obtain ⟨o5, g5, rfl⟩ := get h2 (fun _ q => nomatch q)
  obtain ⟨oc, g6, k6, k7⟩ := get hcl (fun _ q => nomatch q)
  refine ⟨P', ex, ⟨(hX 37 (.head _)).trans e37, _, ?_, .inr ⟨cK, TK, [c1, c2, c3, c4, c5, c6], rfl, hdK.mono hsub, ?_, ?_⟩⟩, ?_⟩
  · obtain ⟨o, e, _, hk⟩ := F.led _ h37
    have hk : o = tabObj _ := hk
    subst hk
    exact e
  · cases tst with
    | op hr =>
      have hm := hNT _ (.head _)
      have hne : TK ∉ [37] := fun q => by
        have e : TK = 37 := by simpa using q
        have := keyU nd hm h37 e
        cases this
      obtain ⟨o, q1, _, q2⟩ := hled _ hm hne
      have q2 : o = tabObj _ := q2
      subst q2
      exact q1
    | fu all hr hp hP =>
      have hl : all.length = 6 := hr.length
      obtain ⟨r, e⟩ := hp
      have : r = [] := by
        rw [← e] at hl
        simp at hl
        exact hl
      subst this
      rw [List.append_nil] at e
      rw [e]
      exact hsub _ _ hP
  · cases tst with
    | op hr => exact hr.mono fun _ _ q => q.mono hsub
    | fu all hr hp hP =>
      have hl : all.length = 6 := hr.length
      obtain ⟨r, e⟩ := hp
      have : r = [] := by
        rw [← e] at hl
        simp at hl
        exact hl
      subst this
      rw [List.append_nil] at e
      rw [e]
      exact hr.mono fun _ _ q => q.mono hsub
  · exact ⟨c, d, md, f1, f2, cl, bT, t, t3, tn, n1, f, sl, a3, a4, a5, a6, st, od, es, ep, c1, c2, ctv1, doc1, pm1, ctv2, doc2, pm2, rfl, g2, g3, k1, k4, k5, g1, g4, r1.mono hsub, g5, r2.mono hsub, oc, g6, k7⟩
theorem dfK {prog : Program} {w : World} {A : Around} {E : Value → Shared → Prop} {s : Shared} {b : Bs} {P : PM} {L : Addr} {m : Mp} {NT N : List (Addr × Kd)} {N' : Addr → List (Addr × Kd)} {name bind : PySem.Str} {as : List Arg} {body : List Stmt} {scope : Scope} {pos : Pos} {env : Env} {clos : List (PySem.Str × Addr)}
    {c T nsA : Addr} {cs : List Addr} {kvs : KV} {Q : Flow → Shared → Prop}
    (F : Fm b P L s.heap m (NT ++ N)) (st : Tst P T cs NT) (S : Sta b.P) (C : CodeHdP P c T) (u : ∀ f, Up nsA (.dct kvs) (.dct (kset kvs bind (.ref f))) N (N' f)) (hcl : closureFor scope env = pure clos) (hge : env.globals = mainGlobals) (hcode : env.code = .ref c)
    (hnew : codeAmong pos (tabL lns cs) = none) (hq : qls[cs.length]? = some (qualnameIn env name bind))
    (htab : ∀ c', tabL lns (cs ++ [c']) = tabL lns cs ++ [rawInt pos.line, rawInt pos.col, .ref c'])
    (hhit : ∀ all : List Addr, all.length = 6 → cs <+: all → ∃ c', codeAmong pos (tabL lns all) = some (.ref c') ∧ (cs ++ [c']) <+: all)
    (ha : evalNamed (annotationsOf as env) = pure []) (hL : env.locals = nsA) (e : ∀ v, storeName env bind v = localSet env bind v)
    (h : ∀ f c' ctv doc pm h' tk P' NT', Fm b P' L h' m (NT' ++ (f, .is (fnO name (qualnameIn env name bind) ⟨[], as, none, [], [], none, []⟩ (.stmts body) scope clos pm (.ref c') ctv doc)) :: N' f) → (∀ c o, P c = some o → P' c = some o) → CodeRecP P' c' (qualnameIn env name bind) →
      Tst P' T (cs ++ [c']) NT' → Q .next ⟨h', s.gens, s.drawn, tk, s.os⟩) :
    wpAny (model prog w) A (exec (.FunctionDef name ⟨[], as, none, [], [], none, []⟩ body [] none [] scope none bind pos) env) Q E s := by
  rw [arm_exec_FunctionDef]
  unfold defStmt
  refine iteF (by decide) ?_
  refine wpAny_bind (wpAny_pure ?_)
  refine wpAny_bind (wpAny_standAt ?_)
  refine wpAny_bind (wpAny_holding ?_)
  refine wpAny_bind (eqP [] (by rfl) ?_)
  refine wpAny_bind (wpAny_holding (eqP [] (by rfl) ?_))
  refine wpAny_holding ?_
  refine wpAny_bind (eqP [] (by simpa [evalOpt] using ha) ?_)
  refine mkF_any (c := c) (T := T) (cs := cs) (clos := clos) F st S C hcl hge hcode hnew hq htab hhit fun f c' ctv doc pm h' tk P' NT' F sub rec tst => ?_
  refine wpAny_bind (wpAny_pure ?_)
  refine wpAny_bind (wpAny_standAt ?_)
  refine wpAny_bind (wpAny_bindName (stK (by exact F) (Up.app (.tail (u f)) NT') (fun h₂ tk₂ F => ?_) hL (e _)))
  exact wpAny_pure (h _ _ _ _ _ _ _ _ _ F sub rec tst)
theorem c_ctk {prog : Program} {w : World} {A : Around} {s : Shared} {P : PM} (hz : Fz P s.heap) (S : Sta P) (hroom : A.depth ≤ 400) (hA : A.handled = none) (hu : A.units ≤ 900) (hT : KTab P s.heap) :
    Con prog w A [37] P s (.ref 42) [.ref 35] (fun P' h' v => KTab P' h' ∧ KCls P' v) := by
  intro Q E hQ
  obtain ⟨hT0, ps, hT, hcase⟩ := hT
  refine wpAny_call (enterI (X := [37]) (c := 41) 6 hz S (by decide) (Nat.lt_of_le_of_lt hroom (by decide)) (fun pm => rfl) fun h₁ F hk₁ => ?_)
  have F := F.take (k := .tab ps) (hk₁ _ _ hT) (fun q => nomatch q) rfl hT0 (.head _) (by
    intro hm
    obtain ⟨p, hp, e⟩ := List.mem_map.mp hm
    have : p.1 = s.heap.objs.size + 1 := by
      rcases List.mem_cons.mp hp with rfl | hp
      · rfl
      · exact nomatch hp
    have h37 := Heap.lt_size hT
    have e : p.1 = 37 := e
    rw [← e, this] at h37
    exact absurd h37 (Nat.not_lt.mpr (Nat.le_succ _)))
  refine stC F (by rfl) (.tail .head) fun h₂ F => ?_
  refine ⟨(S.mono F.ex.sub).noLimit F.ex.fz, ?_⟩
  unfold bodyOf
  refine wpAny_execs_cons ?_
  rw [arm_exec_ClassDef]
  refine wpAny_bind (wpAny_pure ?_)
  refine wpAny_bind (wpAny_standAt ?_)
  refine wpAny_bind ?_
  unfold buildClassGuard
  obtain ⟨mb, eb, rb⟩ := S.b
  refine wpAny_bind (wpAny_nsGet ((eb.mono F.ex.sub).ns F.ex.fz) ?_)
  rw [rb _ _ (show List.lookup ("__build_class__" : PySem.Str) btab = some (Value.builtin "__build_class__") from rfl)]
  refine wpAny_pure ?_
  refine wpAny_bind (wpAny_holding ?_)
  refine wpAny_bind ?_
  refine evalArgs_one ?_
  refine iteF (by decide) ?_
  walk_at "go"
  refine wpAny_bind (wpAny_standAt ?_)
  refine wpAny_holding ?_
  refine hideQ fun K0 hK0 => ?_
  unfold buildClass
  refine wpAny_bind ?_
  refine wpAny_newObj_type ?_ (by size_fits)
  have F := F.push (o := ⟨.type "tuple", none, .seq #[.type "object"] 0, #[]⟩) (k := .is _) rfl (ty_ne "tuple") rfl
  generalize hbT : h₂.objs.size = bT at F
  refine wpAny_bind (fiC ?_)
  refine wpAny_bind (eqP true (by rfl) ?_)
  refine iteT (by decide) ?_
  refine iteF (by decide) ?_
  refine wpAny_pure ?_
  refine fiN ?_
  refine wpAny_bind (eqP (.type "type") (by kernel_rfl) ?_)
  refine wpAny_bind (eqP true (by rfl) ?_)
  refine iteT (by decide) ?_
  refine wpAny_bind (fiC ?_)
  refine wpAny_bind (eqP (.type "type") (by kernel_rfl) ?_)
  refine wpAny_bind (eqP true (by kernel_rfl) ?_)
  refine iteT (by decide) ?_
  refine wpAny_pure ?_
  refine fiN ?_
  refine wpAny_bind (wpAny_mkText ?_)
  refine iteF (by decide) ?_
  refine wpAny_bind (wpAny_pure ?_)
  refine wpAny_holding ?_
  have I : ∀ {B : Around}, B.handled = none → B.depth ≤ A.depth + 1 → B.units ≤ A.units + 20 → InA B := fun e1 e2 e3 => ⟨e1, by omega, by omega⟩
  refine wpAny_bind (prepK (I hA (Nat.le_refl _) (by simp)) (by exact F) fun aP h₃ tk₃ F hP => ?_)
  refine wpAny_bind (prepC (by exact F) (by exact hP) fun nsA h₄ F => ?_)
  have hne : nsA ≠ sysModules := by
    have h37 := Heap.lt_size hT
    intro q
    rcases F.up.2 _ (.head _) with hu | hu
    · have hu : s.heap.objs.size ≤ nsA := hu
      rw [q] at hu
      exact absurd (Nat.lt_of_lt_of_le h37 hu) (by decide)
    · have hu : nsA ∈ [37] := hu
      rw [q] at hu
      exact absurd hu (by decide)
  refine wpAny_bind (iteF (by simpa using hne) ?_)
  refine wpAny_pure ?_
  refine wpAny_bind (spD F (.head _) (r := some (.builtin "dict.__getitem__")) (by kernel_rfl) ?_)
  refine iteF Bool.false_ne_true ?_
  refine wpAny_holding ?_
  refine iteF (by decide) ?_
  refine wpAny_bind (wpAny_pure ?_)
  refine iteF (by decide) ?_
  refine wpAny_bind (wpAny_pure ?_)
  have F := F.perm (N' := (37, .tab ps) :: (nsA, .dct []) :: (bT, .is ⟨.type "tuple", none, .seq #[.type "object"] 0, #[]⟩) :: [(s.heap.objs.size + 1, .cell (some (.ref 35)))]) (by
    show List.Perm _ ((nsA, Kd.dct []) :: (bT, Kd.is _) :: (37, Kd.tab ps) :: [(s.heap.objs.size + 1, Kd.cell (some (.ref 35)))])
    exact (List.perm_middle (l₁ := [(nsA, Kd.dct []), (bT, Kd.is _)])).symm)
  refine wpAny_bind (clK_any (by exact F) hcase rfl (S.cd.1.mono F.ex.sub) rfl rfl fun cK TK h₅ tk₅ P1 NT F sub1 hdK tst => ?_)
  obtain ⟨mg, nm, tn, ob, hg', hn, hbm, h4, _, hc1, hc2, hc3⟩ := F.glob S
  refine wpAny_bind (wpAny_builtinsFor hg' hbm (by decide) (F.ex.fz _ _ h4).1 hc1 hc2 hc3 ?_)
  refine wpAny_bind ?_
  unfold newBodyFrame
  refine wpAny_bind (wpAny_nsGet hg' ?_)
  rw [hn]
  refine wpAny_alloc ?_
  have F := F.push0 { cls := .type "frame", slots := #[some (.ref cK), some (.ref mainGlobals), some (.ref nsA), none, some (.str nm tn), none, some (.ref builtinsNs)] }
  dsimp (zeta := false) only
  refine wpAny_bind (eqP [(("mycmp" : PySem.Str), s.heap.objs.size + 1)] (by rfl) ?_)
  refine wpAny_holding ?_
  have NL := (S.mono F.ex.sub).noLimit F.ex.fz
  refine wpAny_bind (wpAny_enterFrame NL (Nat.lt_of_le_of_lt (Nat.succ_le_succ hroom) (by decide)) ?_)
  refine wpAny_bind (wpAny_onRaise ?_)
  refine wpAny_bind ?_
  unfold loadName
  refine iteF Bool.false_ne_true ?_
  refine iteF (by decide) ?_
  refine wpAny_bind (lgK (by exact F) (List.mem_append_right _ (.tail _ (.head _))) ?_)
  refine wpAny_bind (wpAny_nsGet (by exact hg'.push _) ?_)
  rw [hn]
  refine wpAny_pure ?_
  refine wpAny_bind (stK (by exact F) (Up.app (.tail .head) NT) fun h₆ tk₆ F => ?_)
  refine wpAny_bind (wpAny_mkText ?_)
  refine wpAny_bind (stK (by exact F) (Up.app (.tail .head) NT) fun h₇ tk₇ F => ?_)
  refine wpAny_bind (wpAny_mkInt ?_)
  refine wpAny_bind (stK (by exact F) (Up.app (.tail .head) NT) fun h₈ tk₈ F => ?_)
  refine wpAny_pure ?_
  refine wpAny_bind ?_
  dsimp (zeta := false) only
  refine wpAny_run ?_
  refine codeAny_body (by decide) (by decide) ?_
  refine hideQ fun K1 hK1 => ?_
  refine wpAny_execs_cons ?_
  walk1
  walk1
  refine stK (by exact F) (Up.app (.tail .head) NT) fun h₉ tk₉ F => ?_
  refine wpAny_execs_cons ?_
  walk1
  walk1
  walk1
  walk1
  walk1
  refine nwL (by exact F) (fun sl h₁₀ F => ?_) (Nat.le_of_ble_eq_true rfl)
  have F := F.perm (N' := NT ++ (sl, .list [.str "obj" tk₉]) :: _) (List.perm_middle)
  refine stK (by exact F) (Up.app (.tail (.tail .head)) NT) fun h₁₁ tk₁₁ F => ?_
  refine wpAny_execs_cons ?_
  refine dfK (c := cK) (T := TK) (cs := []) (clos := []) (by exact F) tst S hdK (fun _ => (.tail (.tail (.head)))) (by rfl) rfl rfl (by rfl) (by rfl) (fun _ => rfl) ?_ (by rfl) rfl (fun _ => rfl) fun f1 c1 ctv1 doc1 pm1 hB1 tB1 Q1 NT1 F sub1 rec1 tst => ?_
  · intro all hl hp
    rcases all with _ | ⟨a1, _ | ⟨a2, _ | ⟨a3, _ | ⟨a4, _ | ⟨a5, _ | ⟨a6, _ | _⟩⟩⟩⟩⟩⟩ <;> simp at hl
    exact ⟨a1, rfl, by simpa using hp⟩
  have hdK := hdK.mono sub1
  refine wpAny_execs_cons ?_
  dsimp (zeta := false) only
  refine dfK (c := cK) (T := TK) (cs := [c1]) (clos := [(("mycmp" : PySem.Str), s.heap.objs.size + 1)]) (by exact F) tst S hdK (fun _ => (.tail (.tail (.tail (.head))))) (by rfl) rfl rfl (by rfl) (by rfl) (fun _ => rfl) ?_ (by rfl) rfl (fun _ => rfl) fun f2 c2 ctv2 doc2 pm2 hB2 tB2 Q2 NT2 F sub2 rec2 tst => ?_
  · intro all hl hp
    rcases all with _ | ⟨a1, _ | ⟨a2, _ | ⟨a3, _ | ⟨a4, _ | ⟨a5, _ | ⟨a6, _ | _⟩⟩⟩⟩⟩⟩ <;> simp at hl
    exact ⟨a2, rfl, by simpa using hp⟩
  have hdK := hdK.mono sub2
  refine wpAny_execs_cons ?_
  dsimp (zeta := false) only
  refine dfK (c := cK) (T := TK) (cs := [c1, c2]) (clos := [(("mycmp" : PySem.Str), s.heap.objs.size + 1)]) (by exact F) tst S hdK (fun _ => (.tail (.tail (.tail (.tail (.head)))))) (by rfl) rfl rfl (by rfl) (by rfl) (fun _ => rfl) ?_ (by rfl) rfl (fun _ => rfl) fun f3 c3 ctv3 doc3 pm3 hB3 tB3 Q3 NT3 F sub3 rec3 tst => ?_
  · intro all hl hp
    rcases all with _ | ⟨a1, _ | ⟨a2, _ | ⟨a3, _ | ⟨a4, _ | ⟨a5, _ | ⟨a6, _ | _⟩⟩⟩⟩⟩⟩ <;> simp at hl
    exact ⟨a3, rfl, by simpa using hp⟩
  have hdK := hdK.mono sub3
  refine wpAny_execs_cons ?_
  dsimp (zeta := false) only
  refine dfK (c := cK) (T := TK) (cs := [c1, c2, c3]) (clos := [(("mycmp" : PySem.Str), s.heap.objs.size + 1)]) (by exact F) tst S hdK (fun _ => (.tail (.tail (.tail (.tail (.tail (.head))))))) (by rfl) rfl rfl (by rfl) (by rfl) (fun _ => rfl) ?_ (by rfl) rfl (fun _ => rfl) fun f4 c4 ctv4 doc4 pm4 hB4 tB4 Q4 NT4 F sub4 rec4 tst => ?_
  · intro all hl hp
    rcases all with _ | ⟨a1, _ | ⟨a2, _ | ⟨a3, _ | ⟨a4, _ | ⟨a5, _ | ⟨a6, _ | _⟩⟩⟩⟩⟩⟩ <;> simp at hl
    exact ⟨a4, rfl, by simpa using hp⟩
  have hdK := hdK.mono sub4
  refine wpAny_execs_cons ?_
  dsimp (zeta := false) only
  refine dfK (c := cK) (T := TK) (cs := [c1, c2, c3, c4]) (clos := [(("mycmp" : PySem.Str), s.heap.objs.size + 1)]) (by exact F) tst S hdK (fun _ => (.tail (.tail (.tail (.tail (.tail (.tail (.head)))))))) (by rfl) rfl rfl (by rfl) (by rfl) (fun _ => rfl) ?_ (by rfl) rfl (fun _ => rfl) fun f5 c5 ctv5 doc5 pm5 hB5 tB5 Q5 NT5 F sub5 rec5 tst => ?_
  · intro all hl hp
    rcases all with _ | ⟨a1, _ | ⟨a2, _ | ⟨a3, _ | ⟨a4, _ | ⟨a5, _ | ⟨a6, _ | _⟩⟩⟩⟩⟩⟩ <;> simp at hl
    exact ⟨a5, rfl, by simpa using hp⟩
  have hdK := hdK.mono sub5
  refine wpAny_execs_cons ?_
  dsimp (zeta := false) only
  refine dfK (c := cK) (T := TK) (cs := [c1, c2, c3, c4, c5]) (clos := [(("mycmp" : PySem.Str), s.heap.objs.size + 1)]) (by exact F) tst S hdK (fun _ => (.tail (.tail (.tail (.tail (.tail (.tail (.tail (.head))))))))) (by rfl) rfl rfl (by rfl) (by rfl) (fun _ => rfl) ?_ (by rfl) rfl (fun _ => rfl) fun f6 c6 ctv6 doc6 pm6 hB6 tB6 Q6 NT6 F sub6 rec6 tst => ?_
  · intro all hl hp
    rcases all with _ | ⟨a1, _ | ⟨a2, _ | ⟨a3, _ | ⟨a4, _ | ⟨a5, _ | ⟨a6, _ | _⟩⟩⟩⟩⟩⟩ <;> simp at hl
    exact ⟨a6, rfl, by simpa using hp⟩
  have hdK := hdK.mono sub6
  refine wpAny_execs_cons ?_
  dsimp (zeta := false) only
  walk1
  walk1
  refine stK (by exact F) (Up.app (.tail (.tail (.tail (.tail (.tail (.tail (.tail (.tail .head)))))))) NT6) fun hC tC F => ?_
  walk1
  refine Hid.to hK1 ?_
  refine wpAny_bind (wpAny_onRaise ?_)
  refine wpAny_bind (wpAny_mkStrs fun fs => ?_)
  refine wpAny_bind (wpAny_newTextTuple ?_)
  have F := F.push (o := ⟨.type "tuple", none, .seq fs.toArray 0, #[]⟩) (k := .is _) rfl (ty_ne "tuple") rfl
  generalize hst : hC.objs.size = st at F
  have F := F.perm (N' := NT6 ++ (st, .is ⟨.type "tuple", none, .seq fs.toArray 0, #[]⟩) :: _) (List.perm_middle)
  dsimp (zeta := false) only
  refine wpAny_bind (stK (by exact F) (Up.app (.tail (.tail (.tail (.tail (.tail (.tail (.tail (.tail (.tail .head))))))))) NT6) fun hD tD F => ?_)
  refine wpAny_pure ?_
  refine iteF (by decide) ?_
  refine wpAny_bind ?_
  dsimp (zeta := false) only
  refine tyCall (sl := sl) (bT := bT) (nsA := nsA) (by exact F) S hne (List.mem_append_right _ (.tail _ (.tail _ (.tail _ (.tail _ (.tail _ (.tail _ (.tail _ (.tail _ (.tail _ (.tail _ (.head _)))))))))))) (List.mem_append_right _ (.tail _ (.tail _ (.tail _ (.tail _ (.tail _ (.tail _ (.tail _ (.head _))))))))) (List.mem_append_right _ (.tail _ (.tail _ (.tail _ (.tail _ (.tail _ (.tail _ (.tail _ (.tail _ (.tail _ (.head _))))))))))) (I hA (Nat.le_refl _) (by simp)) ?_ fun c d md tn hE tE F => ?_
  · intro v hv
    simp only [List.mem_cons, List.not_mem_nil, or_false] at hv
    rcases hv with rfl | rfl | rfl | rfl | rfl | rfl | rfl | rfl
    · exact .int
    · exact .is (List.mem_append_right _ (.tail _ (.tail _ (.tail _ (.tail _ (.tail _ (.tail _ (.head _)))))))) rfl (by kernel_rfl)
    · exact .is (List.mem_append_right _ (.tail _ (.tail _ (.tail _ (.tail _ (.tail _ (.head _))))))) rfl (by kernel_rfl)
    · exact .is (List.mem_append_right _ (.tail _ (.tail _ (.tail _ (.tail _ (.head _)))))) rfl (by kernel_rfl)
    · exact .is (List.mem_append_right _ (.tail _ (.tail _ (.tail _ (.head _))))) rfl (by kernel_rfl)
    · exact .is (List.mem_append_right _ (.tail _ (.tail _ (.head _)))) rfl (by kernel_rfl)
    · exact .is (List.mem_append_right _ (.tail _ (.head _))) rfl (by kernel_rfl)
    · exact .is (List.mem_append_right _ (.head _)) rfl (by kernel_rfl)
  refine wpAny_pure ?_
  refine Hid.to hK0 ?_
  refine wpAny_bind (wpAny_pure ?_)
  refine wpAny_bind (wpAny_standAt ?_)
  refine wpAny_bind (wpAny_bindName ?_)
  refine stL (by exact F) fun hF tF F => ?_
  refine wpAny_pure ?_
  walk_at "go"
  dsimp only [retOf]
  obtain ⟨P', ex, kt, kc⟩ := ctk_end (c1 := c1) (c2 := c2) (c3 := c3) (c4 := c4) (c5 := c5) (c6 := c6) (cK := cK) (TK := TK) (NT := NT6) (by exact F) (.head _) (.tail _ (.head _)) (.tail _ (.tail _ (.head _)))
    (.tail _ (.tail _ (.tail _ (List.mem_append_right _ (.tail _ (.tail _ (.tail _ (.tail _ (.tail _ (.tail _ (.head _)))))))))))
    (.tail _ (.tail _ (.tail _ (List.mem_append_right _ (.tail _ (.tail _ (.tail _ (.tail _ (.tail _ (.head _))))))))))
    (.tail _ (.tail _ (.tail _ (List.mem_append_right _ (.tail _ (.tail _ (.tail _ (.tail _ (.tail _ (.tail _ (.tail _ (.tail _ (.tail _ (.tail _ (.tail _ (.head _))))))))))))))))
    (.tail _ (.tail _ (.tail _ (List.mem_append_right _ (.tail _ (.tail _ (.tail _ (.tail _ (.tail _ (.tail _ (.tail _ (.tail _ (.head _)))))))))))))
    (fun p hp => .tail _ (.tail _ (.tail _ (List.mem_append_left _ hp)))) tst hdK
    (((((rec1.mono sub2).mono sub3).mono sub4).mono sub5).mono sub6) ((((rec2.mono sub3).mono sub4).mono sub5).mono sub6)
  exact hQ _ _ _ P' ex ⟨kt, kc⟩
end

/-! text K1 -/
section
open PySem PySem.W PyProof.Rows PySem.Calls PySem.Spec
set_option maxRecDepth 100000
set_option maxHeartbeats 4000000
set_option pp.deepTerms false
set_option pp.maxSteps 6000
theorem frag_in {K : Frag} {h : Heap} (x : ∀ p ∈ K, h.get? p.1 = some p.2) : K.In h := fun a o e => by
  have : (a, o) ∈ K := by
    induction K with
    | nil => cases e
    | cons p r ih =>
      obtain ⟨b, ob⟩ := p
      unfold List.lookup at e
      split at e
      · rename_i q; cases e
        have : a = b := by simpa using q
        subst this; exact .head _
      · exact .tail _ (ih (fun p hp => x p (.tail _ hp)) e)
  exact x _ this
theorem lkH {K : Frag} {a : Addr} {o : Obj} : List.lookup a ((a, o) :: K) = some o := by unfold List.lookup; simp
theorem lkT {K : Frag} {a b : Addr} {o : Obj} {r : Option Obj} (h : a ≠ b) (e : List.lookup a K = r) : List.lookup a ((b, o) :: K) = r := by
  unfold List.lookup
  rw [show (a == b) = false from by simpa using h]
  exact e
theorem Ents.noRef {es : List DictEntry} {kvs : KV} (e : Ents es kvs) : es.any (·.refKey) = false := by
  induction e with
  | nil => rfl
  | cons t ih => rw [List.any_cons, ih]; rfl
theorem Ents.nsIn {K : Frag} {d : Addr} {od : Obj} {es : Array DictEntry} {ep : Nat} {kvs : KV} (hl : K.lookup d = some od) (hd : od.data = .dict es ep) (hE : Ents es.toList kvs) (x : PySem.Str) : nsIn K d x = some (kget kvs x) := by
  obtain ⟨oc, odi, oda, osl⟩ := od
  dsimp only at hd
  subst hd
  unfold PySem.W.nsIn
  rw [hl]
  dsimp only
  have h1 := hE.findE x
  rw [← Array.find?_toList] at h1
  cases q : es.toList.find? (·.key.isStr x) with
  | some e => rw [q] at h1; dsimp only; rw [← h1]; rfl
  | none =>
    rw [q] at h1
    dsimp only
    rw [hE.noRef, ← h1]; rfl

/-- the class K in hand: a fragment of frozen objects -/
structure KAt (P : PM) (c md fI fL : Addr) (K : Frag) : Prop where
  inn : ∀ p ∈ K, P p.1 = some p.2
  makes : makesIn K c = true
  init : findIn K (.ref c) "__init__" = some (some (.ref fI))
  lt : findIn K (.ref c) "__lt__" = some (some (.ref fL))
  ga : findIn K (.ref c) "__getattribute__" = some (some (.builtin "object.__getattribute__"))
  gt : findIn K (.ref c) "__getattr__" = some none
  sa : findIn K (.ref c) "__setattr__" = some (some (.builtin "object.__setattr__"))
  over : plainOver K c = true
  taker : takerIn K c "obj" = some (some (.ref md))
  find : findObj K c (some emptyDict) "obj" = some (.bind (.builtin "member_descriptor.__get__") (.ref md))
  slot : slotIn K md c = some 0
  tI : typeIn K (.ref fI) = some (.type "function")
  tL : typeIn K (.ref fL) = some (.type "function")
  tM : typeIn K (.ref md) = some (.type "member_descriptor")
  gI : ∃ cI ctI docI pmI, P fI = some (fnO "__init__" "cmp_to_key.<locals>.K.__init__" (paramsOf (kDef 2)) (.stmts (bodyOf (kDef 2))) (scopeOf (kDef 2)) [] pmI (.ref cI) ctI docI) ∧ CodeRecP P cI "cmp_to_key.<locals>.K.__init__"
  gL : ∃ cL ctL docL pmL cl oc, P fL = some (fnO "__lt__" "cmp_to_key.<locals>.K.__lt__" (paramsOf (kDef 3)) (.stmts (bodyOf (kDef 3))) (scopeOf (kDef 3)) [("mycmp", cl)] pmL (.ref cL) ctL docL) ∧ CodeRecP P cL "cmp_to_key.<locals>.K.__lt__" ∧
    P cl = some oc ∧ oc.data = .cell (some (.ref 35))
theorem KAt.mono {P P' : PM} {c md fI fL : Addr} {K : Frag} (x : KAt P c md fI fL K) (hs : ∀ c o, P c = some o → P' c = some o) : KAt P' c md fI fL K :=
  { x with
    inn := fun p hp => hs _ _ (x.inn p hp)
    gI := by obtain ⟨cI, ctI, docI, pmI, e, r⟩ := x.gI; exact ⟨cI, ctI, docI, pmI, hs _ _ e, r.mono hs⟩
    gL := by obtain ⟨cL, ctL, docL, pmL, cl, oc, e, r, q, z⟩ := x.gL; exact ⟨cL, ctL, docL, pmL, cl, oc, hs _ _ e, r.mono hs, hs _ _ q, z⟩ }
theorem KAt.frag {P : PM} {c md fI fL : Addr} {K : Frag} (x : KAt P c md fI fL K) {h : Heap} (hz : Fz P h) : K.In h := frag_in fun p hp => (hz _ _ (x.inn p hp)).1

theorem KCls.at {P : PM} {v : Value} (x : KCls P v) : ∃ c md fI fL K, v = .ref c ∧ KAt P c md fI fL K := by
  obtain ⟨c, d, md, fI, fL, cl, bT, t, t3, tn, n1, f, sl, a3, a4, a5, a6, st, od, es, ep, cI, cL, ctI, docI, pmI, ctL, docL, pmL, rfl, hc, hd, hdc, hdd, hE, hmd, hI, hcI, hL, hcL, oc, hcl, hcd⟩ := x
  have key : ∀ {a b : Addr} {o o' : Obj}, P a = some o → P b = some o' → (o.data = o'.data → False) → a ≠ b := fun {a b o o'} e1 e2 hn q => by
    subst q
    rw [e1] at e2
    exact hn (congrArg Obj.data (Option.some.inj e2))
  have ne1 : d ≠ c := key hd hc fun q => by rw [hdd] at q; cases q
  have ne2 : md ≠ c := key hmd hc fun q => by cases q
  have ne3 : md ≠ d := key hmd hd fun q => by rw [hdd] at q; cases q
  have ne4 : fI ≠ c := key hI hc fun q => by cases q
  have ne5 : fI ≠ d := key hI hd fun q => by rw [hdd] at q; cases q
  have ne6 : fI ≠ md := key hI hmd fun q => by cases q
  have ne7 : fL ≠ c := key hL hc fun q => by cases q
  have ne8 : fL ≠ d := key hL hd fun q => by rw [hdd] at q; cases q
  have ne9 : fL ≠ md := key hL hmd fun q => by cases q
  have ne10 : fL ≠ fI := key hL hI fun q => by
    injection q with q
    have : ("__lt__" : PySem.Str) = "__init__" := congrArg FuncData.name q
    exact absurd this (by decide)
  let oC : Obj := clsO d [.ref c, .type "object"] false ["obj"] (clsS bT t t3)
  let oI := fnO "__init__" "cmp_to_key.<locals>.K.__init__" (paramsOf (kDef 2)) (.stmts (bodyOf (kDef 2))) (scopeOf (kDef 2)) [] pmI (.ref cI) ctI docI
  let oL := fnO "__lt__" "cmp_to_key.<locals>.K.__lt__" (paramsOf (kDef 3)) (.stmts (bodyOf (kDef 3))) (scopeOf (kDef 3)) [("mycmp", cl)] pmL (.ref cL) ctL docL
  obtain ⟨K, hK⟩ : ∃ K : Frag, K = [(c, oC), (d, od), (md, mdO tn c), (fI, oI), (fL, oL)] := ⟨_, rfl⟩
  have l1 : K.lookup c = some oC := by rw [hK]; exact lkH
  have l2 : K.lookup d = some od := by rw [hK]; exact lkT ne1 lkH
  have l3 : K.lookup md = some (mdO tn c) := by rw [hK]; exact lkT ne2 (lkT ne3 lkH)
  have l4 : K.lookup fI = some oI := by rw [hK]; exact lkT ne4 (lkT ne5 (lkT ne6 lkH))
  have l5 : K.lookup fL = some oL := by rw [hK]; exact lkT ne7 (lkT ne8 (lkT ne9 (lkT ne10 lkH)))
  have hns := hE.nsIn l2 hdd
  have hcd : clsIn K c = some { name := "K", bases := [.type "object"], mro := [.ref c, .type "object"], ns := d, qualname := "cmp_to_key.<locals>.K", hasDict := false, slotNames := ["obj"] } := by unfold clsIn; rw [l1]
  have own : ∀ x, ownIn K x (.ref c) = some (kget (kvsF n1 f sl (.ref fI) (.ref fL) a3 a4 a5 a6 st (.ref md)) x) := fun x => by unfold ownIn; dsimp only; rw [l1]; exact hns x
  have fnd : ∀ x v, kget (kvsF n1 f sl (.ref fI) (.ref fL) a3 a4 a5 a6 st (.ref md)) x = some v → findIn K (.ref c) x = some (some v) := fun x v e => by
    unfold findIn; dsimp only; rw [l1]
    show alongIn K x [.ref c, .type "object"] = _
    unfold alongIn
    rw [own, e]
  have fno : ∀ x, kget (kvsF n1 f sl (.ref fI) (.ref fL) a3 a4 a5 a6 st (.ref md)) x = none → findIn K (.ref c) x = alongIn K x [.type "object"] := fun x e => by
    unfold findIn; dsimp only; rw [l1]
    show alongIn K x [.ref c, .type "object"] = _
    rw [alongIn, own, e]
  have tM : typeIn K (.ref md) = some (.type "member_descriptor") := by unfold typeIn; dsimp only; rw [l3]; rfl
  have tk : takesIn K (.ref md) = some true := by
    unfold takesIn specialIn
    rw [tM]
    rfl
  have fobj := fnd "obj" (.ref md) rfl
  have slot : slotIn K md c = some 0 := by
    unfold slotIn
    rw [hcd]
    have : recIn K md "member_descriptor" = some [.str "obj" tn, .ref c, .builtin "proto.slot", .builtin "proto.slot#set", rawInt 0] := by
      unfold recIn; rw [l3]; rfl
    rw [this]
    show (if _ then _ else _) = _
    rw [if_pos]
    · rfl
    · simp
  refine ⟨c, md, fI, fL, K, rfl, ?_⟩
  refine { inn := ?_, makes := ?_, init := fnd _ _ rfl, lt := fnd _ _ rfl, ga := ?_, gt := ?_, sa := ?_, over := ?_, taker := ?_, find := ?_, slot := slot, tI := ?_, tL := ?_, tM := tM, gI := ⟨cI, ctI, docI, pmI, hI, hcI⟩, gL := ⟨cL, ctL, docL, pmL, cl, oc, hL, hcL, hcl, by assumption⟩ }
  · rw [hK]
    intro p hp
    simp only [List.mem_cons, List.not_mem_nil, or_false] at hp
    rcases hp with rfl | rfl | rfl | rfl | rfl
    · exact hc
    · exact hd
    · exact hmd
    · exact hI
    · exact hL
  · unfold makesIn
    rw [l1]
    have q1 : specialIn K (.ref c) "__call__" = some (some (.builtin "type.__call__")) := by
      unfold specialIn typeIn; dsimp only; rw [l1]; kernel_rfl
    have q2 : instIn K (.ref c) (.type "type") = some true := by
      unfold instIn typeIn; dsimp only; rw [l1]; kernel_rfl
    show (_ && _ && _ && _ && _ && _ && _ && _) = true
    rw [q1, q2]
    simp [clsS]
  · rw [fno _ rfl]; rfl
  · rw [fno _ rfl]; rfl
  · rw [fno _ rfl]; rfl
  · unfold plainOver; rw [hcd]; rfl
  · unfold takerIn; rw [fobj]; show Option.map _ (takesIn K (.ref md)) = _; rw [tk]; rfl
  · unfold findObj
    rw [hcd, Option.bind_some, fobj, Option.bind_some]
    have : specialIn K (.ref md) "__get__" = some (some (.builtin "member_descriptor.__get__")) := by unfold specialIn; rw [tM]; rfl
    show Option.bind (specialIn K (.ref md) "__get__") _ = _
    rw [this, Option.bind_some]
    show Option.bind (takesIn K (.ref md)) _ = _
    rw [tk]; rfl
  · unfold typeIn; dsimp only; rw [l4]; rfl
  · unfold typeIn; dsimp only; rw [l5]; rfl
end

/-! text K2 -/
section
open PySem PySem.W PyProof.Rows PySem.Calls PySem.Spec
set_option maxRecDepth 100000
set_option maxHeartbeats 4000000
set_option pp.deepTerms false
set_option pp.maxSteps 6000
local macro_rules | `(tactic| omega) => `(tactic| with_reducible first
  | assumption
  | exact Nat.zero_le _
  | exact Int.natCast_nonneg _
  | exact om0 (by assumption)
  | exact om1 (by assumption) (by decide)
  | exact om2 (by assumption) (by decide)
  | exact om3 (by assumption) (by decide)
  | exact om4 (by assumption) (by decide)
  | exact omT (by assumption)
  | exact omI (by assumption) (by assumption)
  | exact omI' (by assumption) (by assumption)
  | exact omL (by assumption) (by first | assumption | decide)
  | exact omLt (by assumption) (by first | assumption | decide)
  | exact omS (by assumption) (by first | assumption | decide)
  | exact omV (by assumption) (by first | assumption | decide)
  | exact omW (by assumption) (by first | assumption | decide)
  | exact omE (by assumption) (by assumption) (by first | assumption | decide)
  | exact omE' (by assumption) (by assumption) (by first | assumption | decide)
  | exact om1l (by assumption) (by decide)
  | exact om2l (by assumption) (by decide)
  | exact om1t (by assumption) (by assumption) (by decide)
  | exact om2t (by assumption) (by assumption) (by decide)
  | exact om3t (by assumption) (by assumption) (by decide)
  | exact omC (by assumption) (by decide)
  | exact omCi (by assumption) (by assumption) (by decide)
  | exact omCe (by assumption) (by assumption) (by assumption) (by decide)
  | exact omQ (by assumption) (by assumption) (by decide)
  | exact omD (by assumption)
  | exact omJ (by assumption) (by assumption)
  | exact omK (by assumption) (by assumption)
  | exact omN (by assumption) (by assumption)
  | exact omU (by assumption))
noncomputable abbrev kI (c dx : Addr) (v : Value) : Obj := { cls := .ref c, dict := some dx, data := .plain, slots := #[some v] }
section
variable {prog : Program} {w : World} {A : Around} {E : Value → Shared → Prop} {s : Shared} {b : Bs} {P : PM} {L : Addr} {m : Mp} {N N' : List (Addr × Kd)} {c md fI fL : Addr} {K : Frag}
open Builtin Builtin.ObjectAttr Builtin.Getset_descriptor
/-- self.obj = v of an object of class K on the ledger -/
theorem kSet {x dx : Addr} {v : Value} {Q : Unit → Shared → Prop} (F : Fm b P L s.heap m N) (k : KAt P c md fI fL K) (u : Up x (.is (instObj c dx)) (.is (kI c dx v)) N N') (hdx : s.heap.get? dx = some emptyDict)
    (h : ∀ h' tk, Fm b P L h' m N' → Q () ⟨h', s.gens, s.drawn, tk, s.os⟩) : wpAny (model prog w) A (setAttr (.ref x) "obj" v) Q E s := by
  have X := k.frag F.ex.fz
  have hx : s.heap.get? x = some (instObj c dx) := by obtain ⟨o, e, _, rfl⟩ := F.led _ u.mem; exact e
  have I : InstAt s.heap x (instObj c dx) c (some emptyDict) := ⟨hx, rfl, rfl, hdx⟩
  refine set_plain X I k.sa ?_
  refine osa_descr (s := { s with toks := s.toks + 1 }) KF.slot_mset X I k.over k.taker k.tM ?_
  obtain ⟨n, tn, owner, behind, tb, d, sl, cd, ho, hc, hm, hb, hi⟩ := slot_of X k.slot
  obtain ⟨hh, g, dr, t, os⟩ := s
  have L0 := I.type (M := model prog w)
  have L1 := looks_mroIn (M := model prog w) X hm
  have L2 : Looks (model prog w) hh (Slots.slotNamesOf (.ref c)) cd.slotNames := (looks_clsIn X hc).andThen .now
  dsimp only at ho hx L0 L1
  have f0 := looks_field (M := model prog w) ho 0 (v := .str n tn) rfl
  have f1 := looks_field (M := model prog w) ho 1 (v := owner) rfl
  have f3 := looks_field (M := model prog w) ho 3 (v := .builtin "proto.slot#set") rfl
  have f4 := looks_field (M := model prog w) ho 4 (v := .int behind tb) rfl
  refine codeAny_call_builtin KF.slot_mset.plain KF.entry_mset (KF.slot_mset.check _ _ _ _ _ _ _ _ ⟨_, ho, rfl⟩ (KF.args_mset _ _ _) ?_)
  unfold Builtin.«member_descriptor.__set__» descrSet descrStoreThrough descrCheckInstance descrNameAndClass isInstance
  have f5 : Looks (model prog w) hh (descrItself (.ref md)) [.ref md] := ((Looks.ld (part := none) ho).andThen .now).andThen (Looks.of_pure (by kernel_rfl))
  repeat lk
  refine ⟨Code.quiet_builtin _ (by decide +kernel), codeAny_builtin KF.entry_slotset ?_⟩
  unfold Builtin.«proto.slot#set» Slots.target
  repeat lk
  rw [if_neg hb]
  refine wpAny_pure (wpAny_bind ?_)
  rw [← hi]
  refine ssI (sl' := #[some v]) F u (fun h' F' => ?_) rfl (by decide) (by exact fun q => nomatch q)
  exact wpAny_pure (h _ _ F')
/-- x.obj read -/
theorem kGet {x dx : Addr} {v : Value} {expr : Bool} {Q : Value → Shared → Prop} (F : Fm b P L s.heap m N) (k : KAt P c md fI fL K) (hx : P x = some (kI c dx v)) (hdx : P dx = some emptyDict) (hv : handedIn v = true)
    (h : ∀ tk, Q v ⟨s.heap, s.gens, s.drawn, tk, s.os⟩) : wpAny (model prog w) A (getAttr (.ref x) "obj" expr) Q E s := by
  have X := k.frag F.ex.fz
  have I : InstAt s.heap x (kI c dx v) c (some emptyDict) := ⟨(F.ex.fz _ _ hx).1, rfl, rfl, (F.ex.fz _ _ hdx).1⟩
  refine get_bind X I k.ga k.find k.gt ?_
  refine wpAny_call (slot_get (s := { s with toks := s.toks + 1 }) X I k.slot (v := v) rfl ?_)
  show wpAny _ _ (handedOut v) _ _ _
  rw [handedOut_of hv]
  exact wpAny_pure (h _)
end
theorem c_K {prog : Program} {w : World} {A : Around} {s : Shared} {P : PM} {c md fI fL : Addr} {K : Frag} (hz : Fz P s.heap) (S : Sta P) (hroom : A.depth + 1 < recursionLimit) (k : KAt P c md fI fL K) (v : Value) :
    Con prog w A [] P s (.ref c) [v] (fun P' _ r => ∃ x dx, r = .ref x ∧ P' x = some (kI c dx v) ∧ P' dx = some emptyDict) := by
  intro Q E hQ
  obtain ⟨h, g, d, t, os⟩ := s
  have X := k.frag hz
  refine wpAny_call (make_core (makes_of X k.makes) (looks_findIn X k.init) (fun self => bind_fn X self k.tI) (.inl rfl) ?_)
  have E2 : Ex ⟨[], P, h⟩ P ((h.push emptyDict).push (instObj c h.objs.size)) := ((Ex.start [] hz).push _).push _
  have gx : ((h.push emptyDict).push (instObj c h.objs.size)).get? (h.objs.size + 1) = some (instObj c h.objs.size) := by heap_get
  have gd : ((h.push emptyDict).push (instObj c h.objs.size)).get? h.objs.size = some emptyDict := by heap_get
  have sz : ((h.push emptyDict).push (instObj c h.objs.size)).objs.size = h.objs.size + 2 := by rw [Heap.size_push, Heap.size_push]
  generalize ((h.push emptyDict).push (instObj c h.objs.size)) = h2 at E2 gx gd sz ⊢
  obtain ⟨cI, ctI, docI, pmI, hI, hcI⟩ := k.gI
  obtain ⟨oc, vs, tt, e1, e2, e3⟩ := hcI
  have px : P (h.objs.size + 1) = none := by
    cases q : P (h.objs.size + 1) with
    | none => rfl
    | some o => exact absurd (Heap.lt_size (hz _ _ q).1) (by show ¬ h.objs.size + 1 < h.objs.size; omega)
  have pd : P h.objs.size = none := by
    cases q : P h.objs.size with
    | none => rfl
    | some o => exact absurd (Heap.lt_size (hz _ _ q).1) (by show ¬ h.objs.size < h.objs.size; omega)
  refine enter (X := [h.objs.size + 1]) (P := P) (body := bodyOf (kDef 2)) (binds := [("self", .ref (h.objs.size + 1)), ("obj", v)]) E2.fz (by rw [depth_under_kw]; exact hroom) (E2.fz _ _ hI).1 rfl ⟨cI, oc, vs, tt, rfl, (E2.fz _ _ e1).1, e2, e3⟩ rfl (fun Q E q => by exact wpAny_pure q) fun h₁ F hk => ?_
  have F := F.take (k := .is (instObj c h.objs.size)) (hk _ _ gx) (fun q => nomatch q) rfl px (.head _) (by
    intro hm
    exact nomatch hm)
  refine stL F fun h₃ tk₃ F => ?_
  refine stL F fun h₄ tk₄ F => ?_
  refine ⟨(S.mono F.ex.sub).noLimit F.ex.fz, ?_⟩
  unfold bodyOf kDef
  walk_at "go"
  have gd4 : h₄.get? h.objs.size = some emptyDict := F.ex.keep _ _ gd (by show h.objs.size ∉ [h.objs.size + 1]; simp) (ty_ne "dict")
  refine kSet (by exact F) k .head gd4 fun h₅ tk₅ F => ?_
  walk_at "go"
  refine ⟨rfl, ?_⟩
  have F : Fm ⟨[h.objs.size + 1], P, h2⟩ P h2.objs.size h₅ _ [(h.objs.size + 1, .is (kI c h.objs.size v))] := F
  have gx5 : h₅.get? (h.objs.size + 1) = some (kI c h.objs.size v) := by obtain ⟨o, e, _, rfl⟩ := F.led _ (.head _); exact e
  have gd5 : h₅.get? h.objs.size = some emptyDict := F.ex.keep _ _ gd (by show h.objs.size ∉ [h.objs.size + 1]; simp) (ty_ne "dict")
  have E5 : Ex ⟨[], P, h⟩ P h₅ := E2.keeps F.ex (fun a ha => .inl (by
    have : a = h.objs.size + 1 := by simpa using ha
    subst this
    exact Nat.le_succ _))
  have E6 := E5.freeze gx5 (fun q => nomatch q) px (Nat.le_succ _)
  have E7 := E6.freeze gd5 (ty_ne "dict") (by unfold pset; rw [if_neg (Ne.symm (Nat.succ_ne_self _))]; exact pd) (Nat.le_refl _)
  refine hQ _ _ _ _ E7 ⟨h.objs.size + 1, h.objs.size, rfl, ?_, ?_⟩
  · unfold pset; rw [if_neg (Nat.succ_ne_self _), if_pos rfl]
  · unfold pset; rw [if_pos rfl]
end

/-! text K3 -/
section
open PySem PySem.W PyProof.Rows PySem.Calls PySem.Spec
set_option maxRecDepth 100000
set_option maxHeartbeats 400000
set_option pp.deepTerms false
set_option pp.maxSteps 6000
local macro_rules | `(tactic| omega) => `(tactic| with_reducible first
  | assumption
  | exact Nat.zero_le _
  | exact Int.natCast_nonneg _
  | exact om0 (by assumption)
  | exact om1 (by assumption) (by decide)
  | exact om2 (by assumption) (by decide)
  | exact om3 (by assumption) (by decide)
  | exact om4 (by assumption) (by decide)
  | exact omT (by assumption)
  | exact omI (by assumption) (by assumption)
  | exact omI' (by assumption) (by assumption)
  | exact omL (by assumption) (by first | assumption | decide)
  | exact omLt (by assumption) (by first | assumption | decide)
  | exact omS (by assumption) (by first | assumption | decide)
  | exact omV (by assumption) (by first | assumption | decide)
  | exact omW (by assumption) (by first | assumption | decide)
  | exact omE (by assumption) (by assumption) (by first | assumption | decide)
  | exact omE' (by assumption) (by assumption) (by first | assumption | decide)
  | exact om1l (by assumption) (by decide)
  | exact om2l (by assumption) (by decide)
  | exact om1t (by assumption) (by assumption) (by decide)
  | exact om2t (by assumption) (by assumption) (by decide)
  | exact om3t (by assumption) (by assumption) (by decide)
  | exact omC (by assumption) (by decide)
  | exact omCi (by assumption) (by assumption) (by decide)
  | exact omCe (by assumption) (by assumption) (by assumption) (by decide)
  | exact omQ (by assumption) (by assumption) (by decide)
  | exact omD (by assumption)
  | exact omJ (by assumption) (by assumption)
  | exact omK (by assumption) (by assumption)
  | exact omN (by assumption) (by assumption)
  | exact omU (by assumption))
local macro_rules | `(tactic| walk_at "compareOp Gt ref ref") => `(tactic| refine gtW' (by assumption) (by assumption) (by assumption) (by walk_at "units") ?_)
local macro_rules | `(tactic| walk_at "compareOp Lt ref ref") => `(tactic| refine ltW' (by assumption) (by assumption) (by assumption) (by walk_at "units") ?_)
theorem c_twc {prog : Program} {w : World} {A : Around} {s : Shared} {P : PM} (hz : Fz P s.heap) (S : Sta P) (hroom : A.depth < recursionLimit) (hu : A.units + 200 < cLine)
    {a a' : Addr} {u u' : List Int} (x : WP P (.ref a) u) (y : WP P (.ref a') u') :
    Con prog w A [] P s (.ref 35) [.ref a, .ref a'] (fun P' _ r => P' = P ∧ ∃ t, r = .int (b2i (wlt u' u) - b2i (wlt u u')) t) := by
  intro Q E hQ
  refine wpAny_call (enterI (X := []) (c := 34) 4 hz S (by decide) hroom (fun pm => rfl) fun h₁ F hk₁ => ?_)
  refine stL F fun h₂ tk F => ?_
  refine stL F fun h₂ tk F => ?_
  refine ⟨(S.mono F.ex.sub).noLimit F.ex.fz, ?_⟩
  unfold bodyOf
  walk_at "go"
  dsimp only [retOf]
  exact hQ _ _ _ _ (Fm.ex (by assumption)) ⟨rfl, _, rfl⟩
section
variable {M : Model} {A : Around} {E : Value → Shared → Prop} {s : Shared} {env : Env} {b : Bs} {P : PM} {L : Addr} {m : Mp} {N N' : List (Addr × Kd)} {x : PySem.Str} {v : Value} {pos : Pos}
theorem nmZ {Q : Value → Shared → Prop} {c : Addr} {o : Obj} (F : Fm b P L s.heap m N) (hc : env.cells.lookup x = some c) (hm : P c = some o) (hd : o.data = .cell (some v)) (h : Q v s)
    (hk : env.scope.kind = .function := by rfl) (hl : env.kindOf x = some .free := by rfl) (hn : (x == ("__classdict__" : PySem.Str)) = false := by decide)
    (hdb : (x == ("__debug__" : PySem.Str)) = false := by decide) : wpAny M A (eval (.Name x pos) env) Q E s := wpAny_Name (wpAny_loadName_free hk hl hc ⟨o, (F.ex.fz _ _ hm).1, hd⟩ h hn) hdb
end
theorem c_lt {prog : Program} {w : World} {A : Around} {s : Shared} {P : PM} {c md fI fL : Addr} {K : Frag} (hz : Fz P s.heap) (S : Sta P) (hroom : A.depth + 1 < recursionLimit) (hu : A.units + 300 < cLine) (k : KAt P c md fI fL K)
    {x y dx dy a a' : Addr} {u u' : List Int} (px : P x = some (kI c dx (.ref a))) (pdx : P dx = some emptyDict) (py : P y = some (kI c dy (.ref a'))) (pdy : P dy = some emptyDict) (wx : WP P (.ref a) u) (wy : WP P (.ref a') u') :
    Con prog w A [] P s (.ref fL) [.ref x, .ref y] (fun P' _ r => P' = P ∧ r = .bool (wlt u u')) := by
  intro Q E hQ
  obtain ⟨cL, ctL, docL, pmL, cl, oc, hL, hcL, hcl, hcd⟩ := k.gL
  obtain ⟨o3, vs, tt, e1, e2, e3⟩ := hcL
  refine wpAny_call (enter (X := []) (P := P) (body := bodyOf (kDef 3)) (binds := [("self", .ref x), ("other", .ref y)]) hz (by omega) (hz _ _ hL).1 rfl ⟨cL, o3, vs, tt, rfl, (hz _ _ e1).1, e2, e3⟩ rfl (fun Q E q => by exact wpAny_pure q) fun h₁ F hk => ?_)
  refine stL F fun h₃ tk₃ F => ?_
  refine stL F fun h₄ tk₄ F => ?_
  refine ⟨(S.mono F.ex.sub).noLimit F.ex.fz, ?_⟩
  have F : Fm ⟨[], P, s.heap⟩ P s.heap.objs.size h₄ (mset (mset (fun _ => none) "self" (.ref x)) "other" (.ref y)) [] := F
  unfold bodyOf kDef
  walk1
  walk1
  walk1
  walk1
  refine nmZ (by exact F) rfl hcl hcd ?_
  walk1
  walk1
  refine Attribute_name (nmL (by exact F) rfl ?_)
  refine kGet (by exact F) k px pdx rfl fun tk₅ => ?_
  walk1
  refine Attribute_name (nmL (by exact F) rfl ?_)
  refine kGet (by exact F) k py pdy rfl fun tk₆ => ?_
  walk_at "go"
  refine Con.use ?_ (c_twc (by exact F.ex.fz) (F.sta S) (by show A.depth + 1 < _; exact hroom) (by walk_at "units") wx wy)
  rintro v h' tk' P'' ex ⟨rfl, t', rfl⟩
  have F7 := F.call ex (by simp) (by simp)
  walk_at "go"
  dsimp only [retOf]
  refine hQ _ _ _ _ F7.ex ⟨rfl, ?_⟩
  congr 1
  cases h1 : wlt u u' <;> cases h2 : wlt u' u <;> first | rfl | (rw [wlt_asymm h1] at h2; cases h2)
end

/-! text Srt -/
section
open PySem PySem.W PyProof.Rows PySem.Calls PySem.Spec
set_option maxRecDepth 100000
set_option maxHeartbeats 1000000
set_option pp.deepTerms false
set_option pp.maxSteps 6000
local macro_rules | `(tactic| omega) => `(tactic| with_reducible first
  | assumption
  | exact Nat.zero_le _
  | exact Int.natCast_nonneg _
  | exact om0 (by assumption)
  | exact om1 (by assumption) (by decide)
  | exact om2 (by assumption) (by decide)
  | exact om3 (by assumption) (by decide)
  | exact om4 (by assumption) (by decide)
  | exact omT (by assumption)
  | exact omI (by assumption) (by assumption)
  | exact omI' (by assumption) (by assumption)
  | exact omL (by assumption) (by first | assumption | decide)
  | exact omLt (by assumption) (by first | assumption | decide)
  | exact omS (by assumption) (by first | assumption | decide)
  | exact omV (by assumption) (by first | assumption | decide)
  | exact omW (by assumption) (by first | assumption | decide)
  | exact omE (by assumption) (by assumption) (by first | assumption | decide)
  | exact omE' (by assumption) (by assumption) (by first | assumption | decide)
  | exact om1l (by assumption) (by decide)
  | exact om2l (by assumption) (by decide)
  | exact om1t (by assumption) (by assumption) (by decide)
  | exact om2t (by assumption) (by assumption) (by decide)
  | exact om3t (by assumption) (by assumption) (by decide)
  | exact omC (by assumption) (by decide)
  | exact omCi (by assumption) (by assumption) (by decide)
  | exact omCe (by assumption) (by assumption) (by assumption) (by decide)
  | exact omQ (by assumption) (by assumption) (by decide)
  | exact omD (by assumption)
  | exact omJ (by assumption) (by assumption)
  | exact omK (by assumption) (by assumption)
  | exact omN (by assumption) (by assumption)
  | exact omU (by assumption))
theorem all2_perm {α β : Type} {R : α → β → Prop} {vs : List α} {ws : List β} (h : All2 R vs ws) (d : α) (e : β) : ∀ (p : List Nat), (∀ i ∈ p, i < vs.length) → All2 R (p.map fun i => vs.getD i d) (p.map fun i => ws.getD i e)
  | [], _ => .nil
  | i :: p, hp => by
    have hi : i < vs.length := hp i (.head _)
    have hi' : i < ws.length := by rw [← h.length]; exact hi
    refine .cons ?_ (all2_perm h d e p fun j hj => hp j (.tail _ hj))
    obtain ⟨b, e1, e2⟩ := h.get (List.getElem?_eq_getElem hi)
    rw [List.getElem?_eq_getElem hi'] at e1
    cases e1
    show R (vs.getD i d) (ws.getD i e)
    rw [List.getD_eq_getElem?_getD, List.getD_eq_getElem?_getD, List.getElem?_eq_getElem hi, List.getElem?_eq_getElem hi']
    exact e2
theorem range_getD {β : Type} (ws : List β) (e : β) : (List.range ws.length).map (fun i => ws.getD i e) = ws := by
  apply List.ext_getElem (by simp)
  intro i h1 h2
  simp at h1
  simp [List.getD_eq_getElem?_getD, h1]
theorem sort_out {ws : List (List Int)} {p : Array Nat} (g : Gd ws.length p) (hs : SoTo (fun i => ws.getD i []) p ws.length) : (p.toList.map fun i => ws.getD i []) = wsort ws := by
  refine sorted_unique ?_ ?_ (wsort_pw ws)
  · refine ((g.perm.map _).trans ?_).trans (wsort_perm ws).symm
    rw [range_getD]
  · rw [List.pairwise_iff_getElem]
    intro i j hi hj hij
    have hz := g.size
    simp at hi hj
    have := hs i j (Nat.le_of_lt hij) (by omega)
    unfold KW at this
    have e1 : p.getD i 0 = p[i] := by simp [Array.getD, hi]
    have e2 : p.getD j 0 = p[j] := by simp [Array.getD, hj]
    rw [e1, e2] at this
    simpa using this
theorem wsort_short {ws : List (List Int)} (h : ws.length < 2) : wsort ws = ws := by
  match ws, h with
  | [], _ => rfl
  | [_], _ => rfl
  | _ :: _ :: _, h => simp at h; omega

theorem kit {kA : Array Value} {vs : List Value} {i : Nat} (hk : i < kA.size) (hv : i < vs.length) : kas_item (kA.zip vs.toArray) i = (kA[i], vs[i]) := by
  simp [kas_item, Array.getD, Nat.lt_min, hk, hv]
/-- the keys made so far -/
noncomputable def KeysAt (P : PM) (c : Addr) (vs : List Value) (kA : Array Value) (i : Nat) : Prop := kA.size = i ∧ ∀ j v, j < i → vs[j]? = some v → ∃ x dx, kA[j]? = some (.ref x) ∧ P x = some (kI c dx v) ∧ P dx = some emptyDict
theorem KeysAt.mono {P P' : PM} {c : Addr} {vs : List Value} {kA : Array Value} {i : Nat} (x : KeysAt P c vs kA i) (hs : ∀ c o, P c = some o → P' c = some o) : KeysAt P' c vs kA i :=
  ⟨x.1, fun j v hj hv => let ⟨x, dx, e1, e2, e3⟩ := x.2 j v hj hv; ⟨x, dx, e1, hs _ _ e2, hs _ _ e3⟩⟩
section
variable {prog : Program} {w : World} {A : Around} {E : Value → Shared → Prop} {s : Shared} {b : Bs} {P : PM} {L : Addr} {m : Mp} {N N' : List (Addr × Kd)} {c md fI fL : Addr} {K : Frag} {vs : List Value} {ws : List (List Int)} {a kS : Addr} {e1 : Nat}

theorem luI {D : Addr} {xs : Array Value} {n : Nat} {f : Array Value → Array Value} {Q : Unit → Shared → Prop} (F : Fm b P L s.heap m N) (u : Up D (.is (seqObj "list" xs n)) (.is (seqObj "list" (f xs) (if (f xs).size == xs.size then n else n + 1))) N N')
    (h : ∀ h', Fm b P L h' m N' → Q () ⟨h', s.gens, s.drawn, s.toks, s.os⟩) (hz : xs.size ≤ 100) (hz2 : (f xs).size ≤ 100) : wpAny (model prog w) A (Builtin.List.listUpdate (.ref D) f) Q E s := by
  have l100 : (100 : Nat) ≤ sizeLine := by decide
  obtain ⟨o1, g1, _, rfl⟩ := F.led _ u.mem
  exact listUpdate_at g1 rfl (h _ (F.upd u (Heap.SameBut.update ..) (get?_update_seq g1 _) (ty_ne "list") rfl)) (by omega) (by omega)
theorem Fm.relist {D : Addr} {h : Heap} {xs : Array Value} {n : Nat} {its : List Value} (F : Fm b P L h m ((D, .is (seqObj "list" xs n)) :: N)) (e : xs.toList = its) : Fm b P L h m ((D, .list its) :: N) := by
  obtain ⟨o1, g1, hc, rfl⟩ := F.led _ (.head _)
  refine ⟨F.ex, F.ns, F.fr, fun p hp => ?_, fun p hp => ?_, F.nd, F.up.1, fun p hp => ?_⟩
  · rcases List.mem_cons.mp hp with rfl | hp
    · exact ⟨_, g1, hc, rfl, rfl, n, by subst e; simp⟩
    · exact F.led p (.tail _ hp)
  · rcases List.mem_cons.mp hp with rfl | hp
    · exact F.off (D, .is (seqObj "list" xs n)) (.head _)
    · exact F.off p (.tail _ hp)
  · rcases List.mem_cons.mp hp with rfl | hp
    · exact F.up.2 (D, .is (seqObj "list" xs n)) (.head _)
    · exact F.up.2 p (.tail _ hp)
theorem srtTail {st : SortSt} {Q : PySem.Fin → Shared → Prop} {kA : Array Value} {e : Nat} (F : Fm b P L s.heap m ((kS, .is (seqObj "list" kA e)) :: (a, .is (seqObj "list" #[] e1)) :: N)) (hk : kA.size ≤ 100) (hf : failedOf st = none) (hz : (arrOf st).size ≤ 100)
    (h : ∀ h' tk, Fm b P L h' m ((a, .list ((arrOf st).map (·.2)).toList) :: N) → Q (.done (.ret .none)) ⟨h', s.gens, s.drawn, tk, s.os⟩) : wpAny (model prog w) A (ksk_tail a false e1 (.ref kS) st) Q E s := by
  unfold ksk_tail
  refine wpAny_bind (luI F .head (fun h₁ F => ?_) hk (Nat.zero_le _))
  refine wpAny_bind (wpAny_letGo ?_)
  obtain ⟨o2, g2, _, rfl⟩ := F.led _ (.tail _ (.head _))
  refine wpAny_bind (seqEpoch_at g2 rfl ?_)
  refine wpAny_bind (luI (by exact F) (.tail .head) (fun h₂ F => ?_) (Nat.zero_le _) (by simp only [Bool.false_eq_true, if_false, Array.size_map]; exact hz))
  rw [hf]
  simp only [bne_self_eq_false, Bool.false_eq_true, if_false]
  exact wpAny_pure (h _ _ ((F.drop (.cons _ (List.Sublist.refl _))).relist (by simp)))

theorem srtLt {x y dx dy a a' : Addr} {u u' : List Int} {Q : Bool → Shared → Prop} (F : Fm b P L s.heap m N) (S : Sta b.P) (hd : A.depth + 1 < recursionLimit) (hu : A.units + 300 < cLine) (k : KAt P c md fI fL K)
    (px : P x = some (kI c dx (.ref a))) (pdx : P dx = some emptyDict) (py : P y = some (kI c dy (.ref a'))) (pdy : P dy = some emptyDict) (wx : WP P (.ref a) u) (wy : WP P (.ref a') u')
    (h : ∀ h' tk, Fm b P L h' m N → Q (wlt u u') ⟨h', s.gens, s.drawn, tk, s.os⟩) : wpAny (model prog w) A (keyLt' oneType' (.ref x) (.ref y)) Q E s := by
  have I : InstAt s.heap x (kI c dx (.ref a)) c (some emptyDict) := ⟨(F.ex.fz _ _ px).1, rfl, rfl, (F.ex.fz _ _ pdx).1⟩
  rw [keyLt'_oneType, oneLt'_eq]
  simp only [if_true]
  refine wpAny_bind (wpAny_cRoomFor (by omega) ?_)
  refine wpAny_bind (ifBound_K (k.frag F.ex.fz) I k.lt (by unfold isFn; rw [k.tL]; rfl) ?_)
  refine Con.use ?_ (c_lt F.ex.fz (F.sta S) hd hu k px pdx py pdy wx wy)
  rintro v h' tk P' ex ⟨rfl, rfl⟩
  exact wpAny_truthy_bool (h _ _ (F.call ex (by simp) (by simp)))

theorem srtEnd {Q : PySem.Fin → Shared → Prop} {kA : Array Value} {e : Nat} (F : Fm b P L s.heap m ((kS, .is (seqObj "list" kA e)) :: (a, .is (seqObj "list" #[] e1)) :: N)) (S : Sta b.P) (hd : A.depth + 1 < recursionLimit) (hu : A.units + 300 < cLine) (k : KAt P c md fI fL K)
    (hka : KeysAt P c vs kA vs.length) (hw : All2 (WP P) vs ws) (h64 : vs.length < 64)
    (h : ∀ h' tk out, Fm b P L h' m ((a, .list out) :: N) → All2 (WP P) out (wsort ws) → Q (.done (.ret .none)) ⟨h', s.gens, s.drawn, tk, s.os⟩) :
    wpAny (model prog w) A (ksk_end a false vs.toArray e1 (.ref kS) kA) Q E s := by
  have hks : kA.size = vs.length := hka.1
  have hzs : (kA.zip vs.toArray).size = vs.length := by rw [Array.size_zip, hks, List.size_toArray, Nat.min_self]
  have hwl := hw.length
  unfold ksk_end
  dsimp only
  simp only [Bool.false_eq_true, if_false]
  by_cases h2 : vs.toArray.size < 2
  · rw [if_pos h2, if_pos h2]
    refine wpAny_bind (wpAny_pure ?_)
    rw [StateT.run_pure]
    refine wpAny_bind (wpAny_pure ?_)
    dsimp only
    refine srtTail (by exact F) (by omega) rfl (by show (kA.zip vs.toArray).size ≤ 100; omega) fun h' tk F => ?_
    refine h _ _ _ F ?_
    show All2 (WP P) ((kA.zip vs.toArray).map (·.2)).toList (wsort ws)
    rw [wsort_short (by rw [List.size_toArray] at h2; omega)]
    have : ((kA.zip vs.toArray).map (·.2)).toList = vs := by
      rw [Array.toList_map, ksk_zip]
      rw [List.map_snd_zip]
      show vs.length ≤ kA.size; omega
    rw [this]
    exact hw
  · rw [if_neg h2, if_neg h2]
    rw [List.size_toArray] at h2
    have hT : ∀ v ∈ kA.toList, Looks (model prog w) s.heap (typeOf v) (.ref c) := fun v hv => by
      obtain ⟨j, hj⟩ := List.mem_iff_getElem?.mp hv
      have hj' : j < kA.size := by have := (List.getElem?_eq_some_iff.mp hj).1; simpa using this
      obtain ⟨x, dx, q1, q2, q3⟩ := hka.2 j _ (by omega) (List.getElem?_eq_getElem (by omega))
      rw [← Array.getElem?_toList, hj] at q1
      cases q1
      have I : InstAt s.heap x (kI c dx vs[j]) c (some emptyDict) := ⟨(F.ex.fz _ _ q2).1, rfl, rfl, (F.ex.fz _ _ q3).1⟩
      exact I.type
    have ek : kA = kA.toList.toArray := by simp
    rw [show keyKind' kA = keyKind' kA.toList.toArray by simp]
    refine wpAny_bind (kas_kind (T := .ref c) (by rw [Array.length_toList]; omega) hT (by rfl) (by simp) ?_)
    have it := kas_range (kA.zip vs.toArray)
    rw [hzs] at it
    have est : SortSt.mk' oneType' (kA.zip vs.toArray) #[] 7 none = kas_st oneType' (kA.zip vs.toArray) (List.toArray (List.range vs.length)) := by
      unfold kas_st; rw [it]
    rw [est]
    have run := kas_runs (prog := prog) (w := w) (A := A) (κ := oneType') (it := kA.zip vs.toArray) (E := E) (s := s) (n := vs.length) (Q := fun _ st' s' => ∃ p : Array Nat, arrOf st' = p.map (kas_item (kA.zip vs.toArray)) ∧ failedOf st' = none ∧ Gd vs.length p ∧ SoTo (fun i => ws.getD i []) p vs.length ∧ ∃ h' tk, s' = ⟨h', s.gens, s.drawn, tk, s.os⟩ ∧ Fm b P L h' m ((kS, .is (seqObj "list" kA e)) :: (a, .is (seqObj "list" #[] e1)) :: N))
      (G := fun p s' => Gd vs.length p ∧ SoTo (fun i => ws.getD i []) p vs.length ∧ ∃ h' tk, s' = ⟨h', s.gens, s.drawn, tk, s.os⟩ ∧ Fm b P L h' m ((kS, .is (seqObj "list" kA e)) :: (a, .is (seqObj "list" #[] e1)) :: N))
      (by omega) h64 (fun p' st' s' a1 a2 a3 a4 => ⟨p', a2, a3, a4⟩) (wpK_go (n := vs.length) (key := fun i => ws.getD i []) (fun s' => ∃ h' tk, s' = ⟨h', s.gens, s.drawn, tk, s.os⟩ ∧ Fm b P L h' m ((kS, .is (seqObj "list" kA e)) :: (a, .is (seqObj "list" #[] e1)) :: N))
        (fun i j C s' hi hj hI hC => ?_) (fun p s' hp hI => ⟨hp.1, hp.2, hI⟩) _ _ (wpK_sort (by omega)) ⟨s.heap, s.toks, rfl, F⟩)
    · refine wpAny_bind (wpAny_mono run ?_ fun _ _ e => e)
      rintro ⟨⟨⟩, st'⟩ s' ⟨p, har, hf, g, so, h', tk, rfl, F'⟩
      dsimp only
      have hp := g.size
      refine srtTail (by exact F') (by omega) hf (by rw [har, Array.size_map]; omega) fun h3 tk3 F3 => ?_
      refine h _ _ _ F3 ?_
      rw [har, Array.map_map, Array.toList_map]
      have e1 : (p.toList.map ((fun x => x.2) ∘ kas_item (kA.zip vs.toArray))) = p.toList.map fun i => vs.getD i .none := by
        refine List.map_congr_left fun i hi => ?_
        have hi' : i < vs.length := by have := g.perm.subset hi; simpa using this
        have hz : i < (kA.zip vs.toArray).size := by omega
        show (kas_item (kA.zip vs.toArray) i).2 = _
        rw [kit (by omega) hi']
        simp [List.getD_eq_getElem?_getD, hi']
      rw [e1]
      rw [hwl] at g so
      rw [← sort_out g so]
      exact all2_perm hw _ _ _ fun i hi => by have := g.perm.subset hi; simp at this; omega
    · obtain ⟨h', tk, rfl, F'⟩ := hI
      have at_ : ∀ i, i < vs.length → ∃ x dx a, (kas_item (kA.zip vs.toArray) i).1 = .ref x ∧ P x = some (kI c dx (.ref a)) ∧ P dx = some emptyDict ∧ WP P (.ref a) (ws.getD i []) := fun i hi => by
        obtain ⟨x, dx, q1, q2, q3⟩ := hka.2 i _ hi (List.getElem?_eq_getElem hi)
        obtain ⟨u, w1, w2⟩ := hw.get (List.getElem?_eq_getElem hi)
        have hz : i < (kA.zip vs.toArray).size := by omega
        obtain ⟨a, as, z1, z2⟩ := id w2
        refine ⟨x, dx, a, ?_, by rw [← z1]; exact q2, q3, ?_⟩
        · have : i < kA.size := by omega
          rw [Array.getElem?_eq_getElem this] at q1
          rw [kit this hi]
          exact Option.some.inj q1
        · rw [List.getD_eq_getElem?_getD, w1, ← z1]; exact w2
      obtain ⟨x, dx, ax, i1, i2, i3, i4⟩ := at_ i hi
      obtain ⟨y, dy, ay, j1, j2, j3, j4⟩ := at_ j hj
      unfold kas_cmp
      rw [i1, j1]
      exact srtLt (by exact F') S hd hu k i2 i3 j2 j3 i4 j4 fun h'' tk'' F'' => hC _ ⟨_, _, rfl, F''⟩

theorem srtRest {Q : PySem.Fin → Shared → Prop} (F : Fm b P L s.heap m ((kS, .is (seqObj "list" #[] 0)) :: (a, .is (seqObj "list" #[] e1)) :: N)) (S : Sta b.P) (hd : A.depth + 1 < recursionLimit) (hu : A.units + 300 < cLine) (k : KAt P c md fI fL K)
    (hw : All2 (WP P) vs ws) (h64 : vs.length < 64)
    (h : ∀ P' h' tk out, (∀ c o, P c = some o → P' c = some o) → Fm b P' L h' m ((a, .list out) :: N) → All2 (WP P') out (wsort ws) → Q (.done (.ret .none)) ⟨h', s.gens, s.drawn, tk, s.os⟩) :
    wpAny (model prog w) A (ksk_rest a (.ref c) false vs.toArray e1 (.ref kS)) Q E s := by
  unfold ksk_rest
  refine wpAny_bind (wpAny_rule ?_)
  refine wpAny_bind (fiA ?_)
  rw [List.toList_toArray]
  refine ksk_fold (fun i s' => ∃ P' h' tk kA e, s' = ⟨h', s.gens, s.drawn, tk, s.os⟩ ∧ (∀ c o, P c = some o → P' c = some o) ∧ Fm b P' L h' m ((kS, .is (seqObj "list" kA e)) :: (a, .is (seqObj "list" #[] e1)) :: N) ∧ KeysAt P' c vs kA i) vs 0 s
    ⟨P, s.heap, s.toks, #[], 0, rfl, fun _ _ e => e, F, rfl, fun j v hj => absurd hj (Nat.not_lt_zero _)⟩ ?_ ?_
  · rintro j x s' hx ⟨P', h', tk, kA, e, rfl, sub, F', hk⟩
    rw [Nat.zero_add] at hk ⊢
    have hj : j < vs.length := (List.getElem?_eq_some_iff.mp hx).1
    refine wpAny_bind (wpAny_attempt (Con.use ?_ (c_K (by exact F'.ex.fz) (F'.sta S) hd (k.mono sub) x)))
    rintro v h2 tk2 P2 ex ⟨ix, dx, rfl, q1, q2⟩
    have F2 := F'.call ex (by simp) (by simp)
    have hks := hk.1
    refine wpAny_bind (luI (by exact F2) .head (fun h3 F3 => ?_) (by omega) (by rw [Array.size_push]; omega))
    refine wpAny_pure ⟨rfl, P2, h3, _, _, _, rfl, fun c o q => ex.sub _ _ (sub _ _ q), F3, by rw [Array.size_push]; omega, fun i v hi hv => ?_⟩
    by_cases hij : i = j
    · subst hij
      rw [hx] at hv; cases hv
      refine ⟨ix, dx, ?_, q1, q2⟩
      have : i = kA.size := by omega
      subst this
      simp
    · obtain ⟨x', dx', z1, z2, z3⟩ := hk.2 i v (by omega) hv
      refine ⟨x', dx', ?_, ex.sub _ _ z2, ex.sub _ _ z3⟩
      rw [Array.getElem?_push, if_neg (by omega)]
      exact z1
  · rintro s' ⟨P', h', tk, kA, e, rfl, sub, F', hk⟩
    rw [Nat.zero_add] at hk
    obtain ⟨o, go, _, rfl⟩ := F'.led _ (.head _)
    refine wpAny_bind (listItems_at go rfl ?_)
    exact srtEnd (by exact F') S hd hu (k.mono sub) hk (hw.mono fun _ _ q => q.mono sub) h64 fun h3 tk3 out F3 ho => h P' h3 tk3 out sub F3 ho

theorem srtSort {Q : PySem.Fin → Shared → Prop} {n : Nat} (F : Fm b P L s.heap m ((a, .is (seqObj "list" vs.toArray n)) :: N)) (S : Sta b.P) (hd : A.depth + 1 < recursionLimit) (hu : A.units + 300 < cLine) (k : KAt P c md fI fL K)
    (hw : All2 (WP P) vs ws) (h64 : vs.length < 64)
    (h : ∀ P' h' tk out, (∀ c o, P c = some o → P' c = some o) → Fm b P' L h' m ((a, .list out) :: N) → All2 (WP P') out (wsort ws) → Q (.done (.ret .none)) ⟨h', s.gens, s.drawn, tk, s.os⟩) :
    wpAny (model prog w) A (ksk_tree a (.ref c) false) Q E s := by
  have l100 : (100 : Nat) ≤ sizeLine := by decide
  obtain ⟨o, go, _, rfl⟩ := F.led _ (.head _)
  unfold ksk_tree
  refine wpAny_bind (listItems_at go rfl ?_)
  refine wpAny_bind (luI F .head (fun h₁ F => ?_) (by rw [List.size_toArray]; omega) (Nat.zero_le _))
  obtain ⟨o, go, _, rfl⟩ := F.led _ (.head _)
  refine wpAny_bind (seqEpoch_at go rfl ?_)
  refine wpAny_bind (wpAny_newTuple ?_ (by rw [List.toList_toArray]; omega))
  have F := F.push0 (seqObj "tuple" vs.toArray 0)
  refine wpAny_bind (wpAny_newList ?_ (Nat.zero_le _))
  have F := F.push (o := seqObj "list" #[] 0) (k := .is _) rfl (ty_ne "list") rfl
  refine wpAny_holding ?_
  exact srtRest (by exact F) S hd hu k hw h64 h

theorem srt {l : Addr} {Q : Value → Shared → Prop} (F : Fm b P L s.heap m N) (S : Sta b.P) (hd : A.depth + 1 < recursionLimit) (hu : A.units + 400 < cLine) (k : KAt P c md fI fL K) (hl : Lst P N l vs) (hw : All2 (WP P) vs ws) (h64 : vs.length < 64)
    (h : ∀ D P' h' tk out, (∀ c o, P c = some o → P' c = some o) → Fm b P' L h' m ((D, .list out) :: N) → All2 (WP P') out (wsort ws) → Q (.ref D) ⟨h', s.gens, s.drawn, tk, s.os⟩) :
    wpAny (model prog w) A (call (.builtin "sorted") [.ref l] [(PySem.Str.ofString "key", .ref c)]) Q E s := by
  have l100 : (100 : Nat) ≤ sizeLine := by decide
  have hL := F.lst hl
  refine call_function_entry_kw kind_sorted plain_sorted entry_sorted (ksk_s1 _ _) ?_
  unfold Builtin.«sorted»
  refine wpAny_bind (m := checkCount "sorted" 1 1 _) (wpAny_pure ?_)
  refine wpAny_bind (collect_list hL ?_ (by omega))
  have F := F.push (o := seqObj "list" #[] 0) (k := .is _) rfl (ty_ne "list") rfl
  have g0 : (s.heap.push (seqObj "list" #[] 0)).get? s.heap.objs.size = some (seqObj "list" #[] 0) := Heap.get?_push_size _ rfl
  have F := F.upd (k' := .is _) .head (Heap.SameBut.update _ s.heap.objs.size (Obj.mapSeq (· ++ vs.toArray))) (get?_update_seq g0 (· ++ vs.toArray)) (ty_ne "list") rfl
  have F := F.drop (.cons _ (List.Sublist.refl _))
  refine wpAny_bind (wpAny_newList ?_ (by omega))
  have F := F.push (o := seqObj "list" vs.toArray 0) (k := .is _) rfl (ty_ne "list") rfl
  obtain ⟨o, go, _, rfl⟩ := F.led _ (.head _)
  refine wpAny_bind (wpAny_holding (wpAny_call_entry_kw slot_list_sort ⟨_, go, rfl⟩ entry_list_sort ?_ (ksk_l1 _ _)))
  rw [ksk_t1]
  refine srtSort (by exact F) S hd (by simp only [Around.in1_units]; omega) k hw h64 fun P' h' tk out sub F' ho => ⟨_, rfl, ?_⟩
  exact wpAny_pure ⟨_, rfl, h _ P' _ _ _ sub F' ho⟩
end
end

/-! text Comp2 -/
section
open PySem PySem.W PyProof.Rows PySem.Calls PySem.Spec
set_option maxRecDepth 100000
set_option maxHeartbeats 1000000
set_option pp.deepTerms false
set_option pp.maxSteps 6000
local macro_rules | `(tactic| omega) => `(tactic| with_reducible first
  | assumption
  | exact Nat.zero_le _
  | exact Int.natCast_nonneg _
  | exact om0 (by assumption)
  | exact om1 (by assumption) (by decide)
  | exact om2 (by assumption) (by decide)
  | exact om3 (by assumption) (by decide)
  | exact om4 (by assumption) (by decide)
  | exact omT (by assumption)
  | exact omI (by assumption) (by assumption)
  | exact omI' (by assumption) (by assumption)
  | exact omL (by assumption) (by first | assumption | decide)
  | exact omLt (by assumption) (by first | assumption | decide)
  | exact omS (by assumption) (by first | assumption | decide)
  | exact omV (by assumption) (by first | assumption | decide)
  | exact omW (by assumption) (by first | assumption | decide)
  | exact omE (by assumption) (by assumption) (by first | assumption | decide)
  | exact omE' (by assumption) (by assumption) (by first | assumption | decide)
  | exact om1l (by assumption) (by decide)
  | exact om2l (by assumption) (by decide)
  | exact om1t (by assumption) (by assumption) (by decide)
  | exact om2t (by assumption) (by assumption) (by decide)
  | exact om3t (by assumption) (by assumption) (by decide)
  | exact omC (by assumption) (by decide)
  | exact omCi (by assumption) (by assumption) (by decide)
  | exact omCe (by assumption) (by assumption) (by assumption) (by decide)
  | exact omQ (by assumption) (by assumption) (by decide)
  | exact omD (by assumption)
  | exact omJ (by assumption) (by assumption)
  | exact omK (by assumption) (by assumption)
  | exact omN (by assumption) (by assumption)
  | exact omU (by assumption))
section
variable {prog : Program} {w : World} {A : Around} {E : Value → Shared → Prop} {R : Result → Shared → Prop} {s : Shared} {env : Env} {b : Bs} {P : PM} {L : Addr} {m mc : Mp} {N N' : List (Addr × Kd)}
noncomputable abbrev cE2 (iter : Expr) (x y : PySem.Str) (p1 p2 p3 p4 pos : Pos) (scope : Scope) : Expr := .ListComp (.Name y p1) [⟨.Name x p2, iter, [], 0⟩, ⟨.Name y p3, .Name x p4, [], 0⟩] scope pos
theorem turn0 (iter : Expr) (x y : PySem.Str) (p1 p2 p3 p4 pos : Pos) (scope : Scope) (it acc : Value) (env : Env) :
    compTurn (cE2 iter x y p1 p2 p3 p4 pos scope) 0 it acc env = (do
      standAt iter.pos
      match ← pyNext it with
      | none => pure (.done .next)
      | some v =>
        letOwnedTupleGo (.Name x p2) it v
        assign (.Name x p2) env v
        let z ← eval (.Name x p4) env
        standAt (Expr.Name x p4).pos
        let z ← foldedSetIterable (.Name x p4) env z
        let _ ← runOwn (.compStart (cE2 iter x y p1 p2 p3 p4 pos scope) 1 (← holding [z] (pyIter z)) acc env) env
        again (.compLoop (cE2 iter x y p1 p2 p3 p4 pos scope) 0 it acc env)) := by rfl
theorem turn1 (iter : Expr) (x y : PySem.Str) (p1 p2 p3 p4 pos : Pos) (scope : Scope) (it acc : Value) (env : Env) :
    compTurn (cE2 iter x y p1 p2 p3 p4 pos scope) 1 it acc env = (do
      standAt (Expr.Name x p4).pos
      match ← pyNext it with
      | none => pure (.done .next)
      | some v =>
        letOwnedTupleGo (.Name y p3) it v
        assign (.Name y p3) env v
        (do let _ ← call (.builtin "list.append") [acc, ← eval (.Name y p1) env])
        again (.compLoop (cE2 iter x y p1 p2 p3 p4 pos scope) 1 it acc env)) := by rfl

theorem inner2 {iter : Expr} {x y : PySem.Str} {p1 p2 p3 p4 pos : Pos} {scope : Scope} {cl : List (PySem.Str × Addr)} {J C D r : Addr} {its : List Value} (hA : A.handled = none) (hkind : scope.kind = .function) (hy : (compEnvC scope cl 0 env).kindOf y = some .local) (hd : (y == ("__debug__" : PySem.Str)) = false)
    (hr : LP P r its) (out : List Value) (F : Fm b P L s.heap m ((J, .liter r 0) :: (C, .ns mc) :: (D, .list out) :: N)) (hz : out.length + its.length ≤ sizeLine)
    (h : ∀ h' tk mc', Fm b P L h' m ((C, .ns mc') :: (D, .list (out ++ its)) :: N) → R (.ok .next) ⟨h', s.gens, s.drawn, tk, s.os⟩) :
    codeAny (model prog w) A (.compLoop (cE2 iter x y p1 p2 p3 p4 pos scope) 1 (.ref J) (.ref D) (compEnvC scope cl C env)) R s := by
  refine codeAny_loop rfl (fun n s' => Same s s' ∧ ∃ i mc, n = its.length - i ∧ i ≤ its.length ∧ Fm b P L s'.heap m ((J, .liter r i) :: (C, .ns mc) :: (D, .list (out ++ its.take i)) :: N)) (fun n s' hI => ?_) (its.length - 0) ⟨⟨rfl, rfl, rfl⟩, 0, mc, rfl, Nat.zero_le _, by simpa using F⟩
  obtain ⟨hs, i, mc, hn, hi, F'⟩ := hI
  rw [hs.eq]
  show wpAny _ A ((compTurn (cE2 iter x y p1 p2 p3 p4 pos scope) 1 (.ref J) (.ref D) (compEnvC scope cl C env)).onRaise (fun x => do noteFrame x (compEnvC scope cl C env); theTreesLotGoes x)) _ _ _
  refine wpAny_noted ?_
  rw [turn1]
  refine wpAny_bind (wpAny_standAt (wpAny_bind ?_))
  have hl : Lst P ((C, Kd.ns mc) :: (D, Kd.list (out ++ its.take i)) :: N) r its := .frz hr
  by_cases hlt : i < its.length
  · refine nxL F' hl (List.getElem?_eq_getElem hlt) fun h₂ F₂ => ?_
    refine wpAny_bind (wpAny_of_eq (by rfl) ?_)
    refine wpAny_bind (wpAny_assign_Name (stN F₂ (.tail .head) (fun h₃ tk F₃ => ?_) rfl (by show (relabel scope env).kind = _; exact hkind) hy))
    refine wpAny_bind (wpAny_bind ?_)
    refine nmN (by exact F₃) (.tail _ (.head _)) (by unfold mset; rw [if_pos rfl]) ?_ rfl (by show (relabel scope env).kind = _; exact hkind) hy hd
    refine wpAny_bind (apL (by exact F₃) (.tail (.tail .head)) (by simp; omega) fun h₄ F₄ => ?_)
    have e : out ++ its.take i ++ [its[i]] = out ++ its.take (i + 1) := by
      rw [List.append_assoc, List.take_add_one, List.getElem?_eq_getElem hlt]; rfl
    rw [e] at F₄
    exact wpAny_pure (wpAny_pure ⟨rfl, its.length - (i + 1), by omega, ⟨rfl, rfl, rfl⟩, i + 1, _, rfl, hlt, F₄⟩)
  · have : i = its.length := by omega
    subst this
    refine nxE hA F' hl (Nat.le_refl _) fun h₂ F₂ => ?_
    refine wpAny_pure (h _ _ mc ?_)
    rw [List.take_length] at F₂
    exact F₂
theorem start1 {iter : Expr} {x y : PySem.Str} {p1 p2 p3 p4 pos : Pos} {scope : Scope} {it acc : Value}
    (h0 : codeAny (model prog w) A (.compLoop (cE2 iter x y p1 p2 p3 p4 pos scope) 1 it acc env) R s)
    (h : wpAny (model prog w) A (pyIter it) (fun it' s' => codeAny (model prog w) A (.compLoop (cE2 iter x y p1 p2 p3 p4 pos scope) 1 it' acc env) R s')
      (notedBy (model prog w) A env fun x s' => R (.error x) s') s) :
    codeAny (model prog w) A (.compStart (cE2 iter x y p1 p2 p3 p4 pos scope) 1 it acc env) R s := by
  refine codeAny_of_tree ?_
  show wpAny _ _ ((compStart (cE2 iter x y p1 p2 p3 p4 pos scope) 1 it acc env).onRaise (fun x => do noteFrame x env; standAt theWindowsPlace)) _ _ s
  refine wpAny_notedAt ?_
  unfold compStart
  show wpAny _ _ (ask >>= _) _ _ s
  refine wpAny_bind (wpAny_askSetting (wpAny_ite ?_))
  split
  · first
      | exact wpAny_bind (wpAny_pure (wpAny_pure (And.intro rfl h0)))
      | exact wpAny_pure (And.intro rfl h0)
  · refine wpAny_bind (wpAny_rule ?_)
    show wpAny _ _ (standAt (Expr.Name x p4).pos >>= _) _ _ s
    exact wpAny_bind (wpAny_standAt (wpAny_bind (wpAny_mono h (fun it' s' h' => wpAny_pure (And.intro rfl h')) fun _ _ x => x)))

/-- a comprehension over the words of all rows -/
theorem comp2 {iter : Expr} {x y : PySem.Str} {p1 p2 p3 p4 pos : Pos} {scope : Scope} {cl : List (PySem.Str × Addr)} {l : Addr} {vs : List Value} {rr : List (List (List Int))} {Q : Value → Shared → Prop} (hA : A.handled = none)
    (hi : wpAny (model prog w) A (eval iter env) (fun v s₁ => v = .ref l ∧ Same s s₁ ∧ Fm b P L s₁.heap m N) E s) (hl : Lst P N l vs) (hr : All2 (RP P) vs rr) (hz : rr.flatten.length ≤ sizeLine)
    (fin : ∀ D h tk out, All2 (WP P) out rr.flatten → Fm b P L h m ((D, .list out) :: N) → Q (.ref D) ⟨h, s.gens, s.drawn, tk, s.os⟩)
    (hclos : closureFor scope env = pure cl := by rfl) (hcell : ∀ x ∈ scope.names, x.2 ≠ .cell := by decide) (hkind : scope.kind = .function := by rfl) (hx : (compEnvC scope cl 0 env).kindOf x = some .local := by rfl) (hy : (compEnvC scope cl 0 env).kindOf y = some .local := by rfl)
    (hdx : (x == ("__debug__" : PySem.Str)) = false := by decide) (hdy : (y == ("__debug__" : PySem.Str)) = false := by decide)
    (hnames : ∀ x ∈ scope.names, x.2 = .local → scope.names.lookup x.1 = some .local := by decide) (hs : ∀ x, foldedSetIterable iter env x = pure x := by intro _; rfl) :
    wpAny (model prog w) A (eval (cE2 iter x y p1 p2 p3 p4 pos scope) env) Q E s := by
  rw [eval_ListComp]
  refine wpAny_comprehension_free rfl hs hclos hkind hnames (wpAny_mono hi (fun v s₁ q => ?_) fun _ _ e => e)
  obtain ⟨rfl, q1, F⟩ := q
  refine itL F hl fun I h₁ F₁ => ?_
  refine nwL (by exact F₁) (fun D h₂ F₂ => ?_) (Nat.zero_le _)
  refine compEnv_ (by exact F₂) hcell fun C h₃ F₃ => ?_
  dsimp only [newEnv]
  show codeAny _ _ (.compStart (cE2 iter x y p1 p2 p3 p4 pos scope) 0 (.ref I) (.ref D) (compEnvC scope cl C env)) _ _
  have loop : ∀ s', Same s s' → Fm b P L s'.heap m ((C, .ns fun _ => none) :: (D, .list []) :: (I, .liter l 0) :: N) → codeAny (model prog w) A (.compLoop (cE2 iter x y p1 p2 p3 p4 pos scope) 0 (.ref I) (.ref D) (compEnvC scope cl C env)) (compPost (model prog w) A E none Q (.ref D) C) s' := by
    intro s' hs' Fs
    refine codeAny_loop rfl (fun n s' => Same s s' ∧ ∃ i mc out, n = vs.length - i ∧ i ≤ vs.length ∧ All2 (WP P) out (rr.take i).flatten ∧ Fm b P L s'.heap m ((C, .ns mc) :: (D, .list out) :: (I, .liter l i) :: N)) (fun n s' hI => ?_) (vs.length - 0)
      ⟨hs', 0, _, [], rfl, Nat.zero_le _, .nil, Fs⟩
    obtain ⟨hs, i, mc, out, hn, hi, ho, F'⟩ := hI
    rw [hs.eq]
    show wpAny _ A ((compTurn (cE2 iter x y p1 p2 p3 p4 pos scope) 0 (.ref I) (.ref D) (compEnvC scope cl C env)).onRaise (fun x => do noteFrame x (compEnvC scope cl C env); theTreesLotGoes x)) _ _ _
    refine wpAny_noted ?_
    rw [turn0]
    refine wpAny_bind (wpAny_standAt (wpAny_bind ?_))
    have Fr : Fm b P L s'.heap m ((I, .liter l i) :: (C, .ns mc) :: (D, .list out) :: N) := F'.perm (by
      refine List.Perm.symm ?_
      exact (List.Perm.cons _ (List.Perm.swap _ _ _)).trans (List.Perm.swap _ _ _))
    have hl' : Lst P ((C, Kd.ns mc) :: (D, Kd.list out) :: N) l vs := by
      cases hl with
      | led q => exact .led (.tail _ (.tail _ q))
      | frz q => exact .frz q
    by_cases hlt : i < vs.length
    · refine nxL Fr hl' (List.getElem?_eq_getElem hlt) fun h₂ F₂ => ?_
      have F₂ : Fm b P L h₂ m ((C, .ns mc) :: (D, .list out) :: (I, .liter l (i + 1)) :: N) := F₂.perm ((List.Perm.cons _ (List.Perm.swap _ _ _)).trans (List.Perm.swap _ _ _))
      obtain ⟨ro, hro, a, its, ea, hla, hw⟩ := hr.get (List.getElem?_eq_getElem hlt)
      rw [ea]
      refine wpAny_bind (wpAny_of_eq (by rfl) ?_)
      refine wpAny_bind (wpAny_assign_Name (stN F₂ .head (fun h₃ tk F₃ => ?_) rfl (by show (relabel scope env).kind = _; exact hkind) hx))
      refine wpAny_bind ?_
      refine nmN (by exact F₃) (.head _) (by unfold mset; rw [if_pos rfl]) ?_ rfl (by show (relabel scope env).kind = _; exact hkind) hx hdx
      refine wpAny_bind (wpAny_standAt (wpAny_bind (wpAny_of_eq (by rfl) ?_)))
      refine wpAny_bind (wpAny_holding ?_)
      refine itL (by exact F₃) (.frz hla) fun J h₄ F₄ => ?_
      have hol := ho.length
      have hwl := hw.length
      have hfl : (rr.take (i + 1)).flatten = (rr.take i).flatten ++ ro := by rw [List.take_add_one, hro]; simp
      have hsub : (rr.take (i + 1)).flatten.length ≤ rr.flatten.length := by
        have : rr.flatten = (rr.take (i + 1)).flatten ++ (rr.drop (i + 1)).flatten := by rw [← List.flatten_append, List.take_append_drop]
        rw [this, List.length_append]; omega
      have hzz : out.length + its.length ≤ sizeLine := by
        rw [hfl, List.length_append] at hsub
        omega
      have go : ∀ s'', Same s s'' → Fm b P L s''.heap m ((J, .liter a 0) :: (C, .ns (mset mc x (.ref a))) :: (D, .list out) :: (I, .liter l (i + 1)) :: N) →
          codeAny (model prog w) (A.mark none) (.compLoop (cE2 iter x y p1 p2 p3 p4 pos scope) 1 (.ref J) (.ref D) (compEnvC scope cl C env)) (fun r s' => match r with
            | .ok f => wpAny (model prog w) A (again (.compLoop (cE2 iter x y p1 p2 p3 p4 pos scope) 0 (.ref I) (.ref D) (compEnvC scope cl C env))) (fun fin s' => match fin with | .done f => compPost (model prog w) A E none Q (.ref D) C (.ok f) s' | .again c' => c' = .compLoop (cE2 iter x y p1 p2 p3 p4 pos scope) 0 (.ref I) (.ref D) (compEnvC scope cl C env) ∧ ∃ m_1, m_1 < n ∧ Same s s' ∧ ∃ i mc out, m_1 = vs.length - i ∧ i ≤ vs.length ∧ All2 (WP P) out (rr.take i).flatten ∧ Fm b P L s'.heap m ((C, .ns mc) :: (D, .list out) :: (I, .liter l i) :: N)) (notedBy (model prog w) A (compEnvC scope cl C env) fun e s' => compPost (model prog w) A E none Q (.ref D) C (.error e) s') s'
            | .error e => cameBackBy (model prog w) A (compEnvC scope cl C env) (notedBy (model prog w) A (compEnvC scope cl C env) fun e s' => compPost (model prog w) A E none Q (.ref D) C (.error e) s') e s') s'' := by
        intro s'' hs'' F''
        refine inner2 (by exact hA) hkind hy hdy hla out F'' hzz fun h₅ tk₅ mc₅ F₅ => ?_
        refine wpAny_pure ⟨rfl, vs.length - (i + 1), by omega, ⟨hs''.gens, hs''.drawn, hs''.os⟩, i + 1, mc₅, out ++ its, rfl, hlt, ?_, F₅⟩
        rw [hfl]
        exact ho.append hw
      refine wpAny_bind (wpAny_runOwn ?_)
      refine start1 (go _ ⟨rfl, rfl, rfl⟩ F₄) ?_
      obtain ⟨o, e, hc, h1, h2⟩ := F₄.led (J, .liter a 0) (.head _)
      exact wpAny_pyIter_listiter ⟨o, e, h1, h2⟩ (go _ ⟨rfl, rfl, rfl⟩ F₄)
    · have : i = vs.length := by omega
      subst this
      refine nxE hA Fr hl' (Nat.le_refl _) fun h₂ F₂ => ?_
      rw [hr.length, List.take_length] at ho
      exact wpAny_pure ⟨mc, F₂.nsAt (.head _), fun h' hs' => fin D h' _ out ho (F₂.extBut hs'.extBut)⟩
  have hsame : ∀ h tk, Same s ⟨h, s₁.gens, s₁.drawn, tk, s₁.os⟩ := fun h tk => ⟨q1.gens, q1.drawn, q1.os⟩
  refine codeAny_compStart_list (loop _ (hsame _ _) F₃) ?_
  obtain ⟨o, e, hc, h1, h2⟩ := F₃.led (I, .liter l 0) (.tail _ (.tail _ (.head _)))
  exact wpAny_pyIter_listiter ⟨o, e, h1, h2⟩ (loop _ (hsame _ _) F₃)
end
end

/-! text Rising -/
section
open PySem PySem.W PyProof.Rows PySem.Calls PySem.Spec
set_option maxRecDepth 100000
set_option maxHeartbeats 400000
set_option pp.deepTerms false
set_option pp.maxSteps 6000
local macro_rules | `(tactic| omega) => `(tactic| with_reducible first
  | assumption
  | exact Nat.zero_le _
  | exact Int.natCast_nonneg _
  | exact om0 (by assumption)
  | exact om1 (by assumption) (by decide)
  | exact om2 (by assumption) (by decide)
  | exact om3 (by assumption) (by decide)
  | exact om4 (by assumption) (by decide)
  | exact omT (by assumption)
  | exact omI (by assumption) (by assumption)
  | exact omI' (by assumption) (by assumption)
  | exact omL (by assumption) (by first | assumption | decide)
  | exact omLt (by assumption) (by first | assumption | decide)
  | exact omS (by assumption) (by first | assumption | decide)
  | exact omV (by assumption) (by first | assumption | decide)
  | exact omW (by assumption) (by first | assumption | decide)
  | exact omE (by assumption) (by assumption) (by first | assumption | decide)
  | exact omE' (by assumption) (by assumption) (by first | assumption | decide)
  | exact om1l (by assumption) (by decide)
  | exact om2l (by assumption) (by decide)
  | exact om1t (by assumption) (by assumption) (by decide)
  | exact om2t (by assumption) (by assumption) (by decide)
  | exact om3t (by assumption) (by assumption) (by decide)
  | exact omC (by assumption) (by decide)
  | exact omCi (by assumption) (by assumption) (by decide)
  | exact omCe (by assumption) (by assumption) (by assumption) (by decide)
  | exact omQ (by assumption) (by assumption) (by decide)
  | exact omD (by assumption)
  | exact omJ (by assumption) (by assumption)
  | exact omK (by assumption) (by assumption)
  | exact omN (by assumption) (by assumption)
  | exact omU (by assumption))
theorem K37.mono {P P' : PM} {ps : List Value} (k : K37 P ps) (hs : ∀ c o, P c = some o → P' c = some o) : K37 P' ps := by
  rcases k with rfl | ⟨cK, T, all, e, h1, h2, h3⟩
  · exact .inl rfl
  · exact .inr ⟨cK, T, all, e, h1.mono hs, hs _ _ h2, h3.mono fun _ _ q => q.mono hs⟩
section
variable {b : Bs} {P : PM} {L : Addr} {h : Heap} {m : Mp} {N : List (Addr × Kd)} {ps : List Value}
theorem Fm.ktab (F : Fm b P L h m N) (hm : (37, Kd.tab ps) ∈ N) (k : K37 P ps) : KTab P h := by
  obtain ⟨o, e, _, hk⟩ := F.led _ hm
  have hk : o = tabObj _ := hk
  subst hk
  exact ⟨F.off _ hm, ps, e, k⟩
theorem Fm.take37 (F : Fm b P L h m N) (k : KTab P h) (hX : 37 ∈ b.X) (hn : 37 ∉ N.map (·.1)) : ∃ ps, Fm b P L h m ((37, .tab ps) :: N) ∧ K37 P ps := by
  obtain ⟨h0, ps, e, k⟩ := k
  exact ⟨ps, F.take (k := .tab ps) e (fun q => nomatch q) rfl h0 hX hn, k⟩
end
theorem c_rising {prog : Program} {w : World} {A : Around} {s : Shared} {P : PM} (hz : Fz P s.heap) (S : Sta P) (hroom : A.depth ≤ 390) (hA : A.handled = none) (hu : A.units ≤ 700) (hT : KTab P s.heap)
    {a : Addr} {vs : List Value} {rr : List (List (List Int))} (hl : LP P a vs) (hr : All2 (RP P) vs rr) (hlen : rr.flatten.length < 64) :
    Con prog w A [37] P s (.ref 80) [.ref a] (fun P' h' v => KTab P' h' ∧ RP P' v (wsort rr.flatten)) := by
  intro Q E hQ
  have h37 : 37 < s.heap.objs.size := let ⟨_, _, e, _⟩ := hT; Heap.lt_size e
  have hroom' : A.depth + 20 < recursionLimit := Nat.lt_of_le_of_lt (Nat.add_le_add_right hroom 20) (by decide)
  refine wpAny_call (enterI (X := [37]) (c := 79) 14 hz S (by decide) (by omega) (fun pm => rfl) fun h₁ F hk₁ => ?_)
  have F : Fm ⟨[37], P, s.heap⟩ P s.heap.objs.size h₁ (fun _ => none) [] := F
  obtain ⟨ps, F, k37⟩ := F.take37 (let ⟨e0, ps, e, k⟩ := hT; ⟨e0, ps, hk₁ _ _ e, k⟩) (.head _) (by simp)
  refine stL F fun h₂ tk F => ?_
  refine ⟨(S.mono F.ex.sub).noLimit F.ex.fz, ?_⟩
  unfold bodyOf
  walk1
  walk1
  walk1
  walk1
  walk1
  walk1
  refine comp2 (b := ⟨[37], P, s.heap⟩) (L := s.heap.objs.size) (l := a) (vs := vs) (rr := rr) (P := P) (m := mset (fun _ => none) "rows" (.ref a)) (N := [(37, .tab ps)]) hA ?_ (.frz hl) hr (Nat.le_trans (Nat.le_of_lt hlen) (by decide)) fun D h₃ tk₃ out ho F => ?_
  · walk1
    exact ⟨rfl, ⟨rfl, rfl, rfl⟩, F⟩
  walk_at "go"
  have kt := F.ktab (.tail _ (.head _)) k37
  have hD : D ∉ [37] := fun q => by
    have e : D = 37 := by simpa using q
    rcases F.up.2 _ (.head _) with hu | hu
    · have hu : s.heap.objs.size ≤ D := hu
      rw [e] at hu
      exact absurd h37 (Nat.not_lt.mpr hu)
    · have nd := F.nd
      rw [List.map_cons, List.nodup_cons] at nd
      exact nd.1 (by rw [e]; exact .head _)
  refine Con.use ?_ (c_ctk (by exact F.ex.fz) (F.sta S) (by show A.depth + 1 ≤ 400; omega) hA (by simp only [Around.deeper_units]; omega) kt)
  rintro v h₄ tk₄ P₄ ex ⟨kt4, kc4⟩
  have F := (F.drop (N' := [(D, .list out)]) (.cons_cons _ (.cons _ (List.Sublist.refl _)))).call ex (fun a ha => .inr ha) (by
    intro p hp
    rw [List.mem_singleton.mp hp]
    exact hD)
  obtain ⟨ps4, F, k374⟩ := F.take37 kt4 (.head _) (by
    intro hm
    exact hD (by
      have : (37 : Addr) = D := by simpa using hm
      rw [← this]; exact .head _))
  obtain ⟨c, md, fI, fL, K, rfl, ka⟩ := kc4.at
  walk_at "go"
  show wpAny _ _ (call (.builtin "sorted") [.ref D] [(PySem.Str.ofString "key", .ref c)]) _ _ _
  have hol := ho.length
  refine srt (by exact F) S (by show A.depth + 1 + 1 < _; omega) (by simp only [Around.deeper_units]; have := cLine_is; omega) ka (.led (.tail _ (.head _))) (ho.mono fun _ _ q => q.mono ex.sub) (by omega) fun R P₅ h₅ tk₅ out₅ sub F hw => ?_
  walk_at "go"
  dsimp only [retOf]
  have hR : R ∉ [37] := fun q => by
    have e : R = 37 := by simpa using q
    have nd := F.nd
    rw [List.map_cons, List.nodup_cons] at nd
    exact nd.1 (by rw [e]; exact .head _)
  obtain ⟨P₆, F, l₆, sub₆⟩ := F.frzL hR
  exact hQ _ _ _ P₆ F.ex ⟨F.ktab (.head _) ((k374.mono sub).mono sub₆), R, out₅, rfl, l₆, hw.mono fun _ _ q => q.mono sub₆⟩
end

/-! text Exc -/
section
open PySem PySem.W PyProof.Rows PySem.Calls PySem.Spec
set_option maxRecDepth 100000
set_option maxHeartbeats 400000
/-- an object that stands apart: neither old nor frozen nor on the ledger -/
noncomputable def Apart (b : Bs) (P : PM) (L : Addr) (N : List (Addr × Kd)) (a : Addr) : Prop := b.h.get? a = none ∧ P a = none ∧ a ∉ N.map (·.1) ∧ a ≠ L
noncomputable def FrsOk (h : Heap) (l : List Env) : Prop := ∀ env ∈ l, env.scope.kind ≠ .module ∧ ∃ L o, env.frame = some L ∧ h.get? L = some o ∧ o.cls = fcls ∧ ∀ vs, o.data ≠ .fields vs
section
variable {b : Bs} {P : PM} {L a : Addr} {h h' : Heap} {m : Mp} {N N' : List (Addr × Kd)}
theorem Fm.alter (F : Fm b P L h m N) (ha : Apart b P L N a) (hs : Heap.SameBut a h h') : Fm b P L h' m N := by
  obtain ⟨h1, h2, h3, h4⟩ := ha
  have ne : ∀ p ∈ N, p.1 ≠ a := fun p hp q => h3 (List.mem_map.mpr ⟨p, hp, q⟩)
  refine ⟨⟨fun c o e => ?_, F.ex.sub, F.ex.pnew, fun c o e hx hf => ?_, fun c o e hf => ?_, Nat.le_trans F.ex.size (Nat.le_of_eq hs.1.symm), fun c o e hf hx => (hs.2 c (fun q => by rw [q, h1] at e; cases e)).trans (F.ex.frk c o e hf hx)⟩, F.ns.sameBut hs (Ne.symm h4), ?_, fun p hp => ?_, F.off, F.nd, F.up⟩
  · have hc : c ≠ a := fun q => by rw [q, h2] at e; cases e
    exact ⟨(hs.2 c hc).trans (F.ex.fz c o e).1, (F.ex.fz c o e).2⟩
  · have hc : c ≠ a := fun q => by rw [q, h1] at e; cases e
    exact (hs.2 c hc).trans (F.ex.keep c o e hx hf)
  · have hc : c ≠ a := fun q => by rw [q, h1] at e; cases e
    obtain ⟨sl, e'⟩ := F.ex.frm c o e hf
    exact ⟨sl, (hs.2 c hc).trans e'⟩
  · obtain ⟨o, e, q⟩ := F.fr
    exact ⟨o, (hs.2 L (Ne.symm h4)).trans e, q⟩
  · obtain ⟨o, e, r⟩ := F.led p hp
    exact ⟨o, (hs.2 p.1 (ne p hp)).trans e, r⟩
theorem Fm.apart (F : Fm b P L h m N) (hX : ∀ a ∈ b.X, ∃ o, b.h.get? a = some o ∧ o.cls = fcls) (ha : h.get? a = none) : Apart b P L N a := by
  refine ⟨?_, ?_, fun hm => ?_, fun q => ?_⟩
  · cases q : b.h.get? a with
    | none => rfl
    | some o =>
      exfalso
      by_cases hf : o.cls = fcls
      · obtain ⟨sl, e⟩ := F.ex.frm a o q hf
        rw [ha] at e; cases e
      · have e := F.ex.keep a o q (fun hm => by
          obtain ⟨o', e', hc⟩ := hX a hm
          rw [q] at e'; cases e'; exact hf hc) hf
        rw [ha] at e; cases e
  · cases q : P a with
    | none => rfl
    | some o => have e := (F.ex.fz _ _ q).1; rw [ha] at e; cases e
  · obtain ⟨p, hp, rfl⟩ := List.mem_map.mp hm
    obtain ⟨o, e, _⟩ := F.led p hp
    rw [ha] at e; cases e
  · obtain ⟨o, e, _⟩ := F.fr
    rw [← q, ha] at e; cases e
theorem Fm.slots {S : List Addr} (F : Fm b P L h m N) (hs : Heap.SlotsOnly S h h') (hS : ∀ a ∈ S, ∃ o, h.get? a = some o ∧ o.cls = fcls) (hS2 : ∀ a ∈ S, b.h.objs.size ≤ a ∨ a ∈ b.X) : Fm b P L h' m N := by
  have other : ∀ c o, h.get? c = some o → o.cls ≠ fcls → h'.get? c = some o := fun c o e hn => (hs.2.1 c fun hm => by
    obtain ⟨o', e', hc⟩ := hS c hm
    rw [e] at e'; cases e'; exact hn hc).trans e
  refine ⟨⟨fun c o e => ⟨other c o (F.ex.fz c o e).1 (F.ex.fz c o e).2, (F.ex.fz c o e).2⟩, F.ex.sub, F.ex.pnew, fun c o e hx hf => other c o (F.ex.keep c o e hx hf) hf, fun c o e hf => ?_, Nat.le_trans F.ex.size (Nat.le_of_eq hs.1.symm), fun c o e hf hx => (hs.2.1 c fun hm => (hS2 c hm).elim (fun hu => absurd (Heap.lt_size e) (Nat.not_lt.mpr hu)) hx).trans (F.ex.frk c o e hf hx)⟩, ?_, ?_, fun p hp => ?_, F.off, F.nd, F.up⟩
  · obtain ⟨sl, e'⟩ := F.ex.frm c o e hf
    obtain ⟨sl', e''⟩ := hs.2.2 c _ e'
    exact ⟨sl', e''⟩
  · obtain ⟨o, es, ep, e, r⟩ := F.ns
    obtain ⟨sl, e'⟩ := hs.2.2 L o e
    exact ⟨_, es, ep, e', r⟩
  · obtain ⟨o, e, q⟩ := F.fr
    obtain ⟨sl, e'⟩ := hs.2.2 L o e
    exact ⟨_, e', q⟩
  · obtain ⟨o, e, hc, r⟩ := F.led p hp
    exact ⟨o, other _ _ e hc, hc, r⟩
theorem FrsOk.ex {l : List Env} (x : Ex b P h) (f : FrsOk b.h l) : FrsOk h l := fun env he => by
  obtain ⟨hk, L, o, hf, e, hc, hd⟩ := f env he
  obtain ⟨sl, e'⟩ := x.frm L o e hc
  exact ⟨hk, L, _, hf, e', hc, hd⟩
theorem Fm.frs {env : Env} {outer : List Env} (F : Fm b P L h m N) (f : FrsOk b.h outer) (hk : env.scope.kind = .function) (hf : env.frame = some L) : FrsOk h (env :: outer) := fun env' he => by
  rcases List.mem_cons.mp he with rfl | he
  · refine ⟨(by rw [hk]; intro q; cases q), L, ?_⟩
    obtain ⟨o, e, hc⟩ := F.fr
    obtain ⟨o', es, ep, e', hd, _⟩ := F.ns
    rw [e] at e'; cases e'
    exact ⟨o, hf, e, hc, fun vs q => by rw [hd] at q; cases q⟩
  · exact FrsOk.ex F.ex f env' he
theorem FrsOk.fun {l : List Env} : FrsOk h l → Heap.FunFrames h {} l := by
  induction l with
  | nil => intro _; trivial
  | cons env r ih =>
    intro f
    obtain ⟨hk, L, o, hf, e, hc, hd⟩ := f env (.head _)
    exact ⟨hk, ⟨L, o, hf, Heap.get?_none_of_le (Nat.zero_le _), e, hd⟩, ih fun env' he => f env' (.tail _ he)⟩
theorem FrsOk.all {l : List Env} (f : FrsOk h l) : ∀ a ∈ l.filterMap (·.frame), ∃ o, h.get? a = some o ∧ o.cls = fcls := fun a ha => by
  obtain ⟨env, he, q⟩ := List.mem_filterMap.mp ha
  obtain ⟨_, L, o, hf, e, hc, _⟩ := f env he
  rw [hf] at q; cases q
  exact ⟨o, e, hc⟩
theorem FrsOk.xfr {l : List Env} (f : FrsOk b.h l) (hX : b.X = l.filterMap (·.frame)) : ∀ a ∈ b.X, ∃ o, b.h.get? a = some o ∧ o.cls = fcls := fun a ha => f.all a (hX ▸ ha)
theorem Fm.offX (F : Fm b P L h m N) (hX : ∀ a ∈ b.X, ∃ o, b.h.get? a = some o ∧ o.cls = fcls) {p : Addr × Kd} (hp : p ∈ N) : p.1 ∉ b.X := fun q => by
  obtain ⟨o, e, hc⟩ := hX _ q
  obtain ⟨sl, e'⟩ := F.ex.frm _ _ e hc
  obtain ⟨o2, e2, hc2, _⟩ := F.led p hp
  rw [e'] at e2; cases e2
  exact hc2 hc
theorem Fm.offFr (F : Fm b P L h m N) {l : List Env} (fr : FrsOk h l) {p : Addr × Kd} (hp : p ∈ N) : p.1 ∉ l.filterMap (·.frame) := fun q => by
  obtain ⟨o, e, hc⟩ := fr.all _ q
  obtain ⟨o2, e2, hc2, _⟩ := F.led p hp
  rw [e] at e2; cases e2
  exact hc2 hc
theorem Fm.upFr (F : Fm b P L h m N) {env : Env} {outer : List Env} (hf : env.frame = some L) (hX : ∀ a ∈ outer.filterMap (·.frame), a ∈ b.X) : ∀ a ∈ (env :: outer).filterMap (·.frame), b.h.objs.size ≤ a ∨ a ∈ b.X := fun a ha => by
  rw [List.filterMap_cons, hf] at ha
  rcases List.mem_cons.mp ha with rfl | ha
  · exact .inl F.up.1
  · exact .inr (hX a ha)
/-- the ledger's newest is none of X -/
theorem Fm.newX {D : Addr} {k : Kd} (F : Fm b P L h m ((D, k) :: N)) (hX : ∀ a ∈ b.X, a ∈ N.map (·.1) ∨ ∃ o, b.h.get? a = some o ∧ o.cls = fcls) : D ∉ b.X := fun q => by
  rcases hX D q with hm | ⟨o, e, hc⟩
  · have nd := F.nd
    rw [List.map_cons, List.nodup_cons] at nd
    exact nd.1 hm
  · obtain ⟨sl, e'⟩ := F.ex.frm _ _ e hc
    obtain ⟨o2, e2, hc2, _⟩ := F.led _ (.head _)
    rw [e'] at e2; cases e2
    exact hc2 hc
theorem FrsOk.x37 {outer : List Env} (fo : FrsOk h outer) (hm : 37 ∈ N.map (·.1)) : ∀ a ∈ 37 :: outer.filterMap (·.frame), a ∈ N.map (·.1) ∨ ∃ o, h.get? a = some o ∧ o.cls = fcls := fun a ha => by
  rcases List.mem_cons.mp ha with rfl | ha
  · exact .inl hm
  · exact .inr (fo.all a ha)
end

/-- an IndexError of this call's own: raised just now -/
noncomputable def Xn (b : Bs) (P : PM) (L : Addr) (N : List (Addr × Kd)) (h : Heap) (e : Addr) : Prop := ∃ oe vs, Apart b P L N e ∧ h.get? e = some oe ∧ oe.cls = .type "IndexError" ∧ oe.data = .fields vs ∧ vs[1]? = some .none
/-- .. or with its traceback -/
noncomputable def Xf (b : Bs) (P : PM) (L : Addr) (N : List (Addr × Kd)) (h : Heap) (e : Addr) (fl : Value) : Prop := ∃ oe vs tb ot tvs, Apart b P L N e ∧ h.get? e = some oe ∧ oe.cls = .type "IndexError" ∧ oe.data = .fields vs ∧ vs[1]? = some (.ref tb) ∧
  Apart b P L N tb ∧ tb ≠ e ∧ h.get? tb = some ot ∧ ot.data = .fields tvs ∧ tvs[3]? = some fl
section
variable {prog : Program} {w : World} {A : Around} {E : Value → Shared → Prop} {s : Shared} {env : Env} {b : Bs} {P : PM} {L e : Addr} {m : Mp} {N N' : List (Addr × Kd)} {outer : List Env}
theorem noteX {Q : Unit → Shared → Prop} (F : Fm b P L s.heap m N) (hX : b.X = outer.filterMap (·.frame)) (hfr : A.frames = some (env :: outer)) (fo : FrsOk b.h outer) (hk : env.scope.kind = .function) (hf : env.frame = some L) (x : Xn b P L N s.heap e ∨ Xf b P L N s.heap e (rawInt L))
    (h : ∀ h', Fm b P L h' m N → Xf b P L N h' e (rawInt L) → Q () ⟨h', s.gens, s.drawn, s.toks, s.os⟩) : wpAny (model prog w) A (noteFrame (.ref e) env) Q E s := by
  rcases x with ⟨oe, vs, ha, he, hc, hd, h1⟩ | x
  · have hsz : 1 < vs.size := (Array.getElem?_eq_some_iff.mp h1).1
    have fr := F.frs fo hk hf
    have hene : e ∉ (env :: outer).filterMap (·.frame) := fun hm => by
      obtain ⟨o, e', hc'⟩ := fr.all e hm
      rw [he] at e'; cases e'
      rw [hc] at hc'
      exact ty_ne "IndexError" (by decide) hc'
    unfold noteFrame
    simp only [hf]
    refine wpAny_bind (wpAny_field he hd h1 ?_)
    rw [if_neg (by decide)]
    refine wpAny_bind (wpAny_frameOf_fun hfr fr.fun hf fun h₁ hs₁ => ?_)
    have F1 := F.slots hs₁ fr.all (fun a ha => by
      rw [List.filterMap_cons, hf] at ha
      rcases List.mem_cons.mp ha with rfl | ha
      · exact .inl F.up.1
      · exact .inr (by rw [hX]; exact ha))
    have he₁ : h₁.get? e = some oe := (hs₁.2.1 e hene).trans he
    refine wpAny_bind (wpAny_entryPlaceOf fun pl hpl => ?_)
    unfold EntryCells.newEntry newFields
    refine wpAny_bind (wpAny_newObj_type ?_ (hpl.sizeOk5 _ _ _ _ _))
    have F2 := F1.push0 { cls := .type "traceback", dict := none, data := .fields ([Value.none, .ref L, .none, rawInt L, .none] ++ (if pl.isEmpty then List.replicate 6 Value.none else pl)).toArray }
    have he₂ := Heap.get?_push_of_some (h := h₁) { cls := .type "traceback", dict := none, data := .fields ([Value.none, .ref L, .none, rawInt L, .none] ++ (if pl.isEmpty then List.replicate 6 Value.none else pl)).toArray } he₁
    refine wpAny_setField he₂ hd hsz ?_
    have hd₃ := Obj.data_mapFields hd (·.setIfInBounds 1 (Value.ref h₁.objs.size))
    have hT : Apart b P L N h₁.objs.size := F1.apart (fo.xfr hX) (Heap.get?_none_of_le (Nat.le_refl _))
    have hTe : h₁.objs.size ≠ e := Nat.ne_of_gt (Heap.lt_size he₁)
    refine h _ (F2.alter ha (Heap.SameBut.update ..)) ⟨_, _, h₁.objs.size, { cls := .type "traceback", dict := none, data := .fields ([Value.none, .ref L, .none, rawInt L, .none] ++ (if pl.isEmpty then List.replicate 6 Value.none else pl)).toArray }, ([Value.none, .ref L, .none, rawInt L, .none] ++ (if pl.isEmpty then List.replicate 6 Value.none else pl)).toArray, ha, Heap.get?_update_self _ he₂ (Obj.isFreed_of_fields hd₃), (Obj.cls_mapFields _ _).trans hc, hd₃, by simp [hsz], hT, hTe, ?_, rfl, by simp⟩
    rw [Heap.get?_update_other _ _ (Ne.symm hTe)]
    exact Heap.get?_push_size h₁ rfl
  · obtain ⟨oe, vs, tb, ot, tvs, ha, he, hc, hd, h1, hT, hTe, ht, hdt, h3⟩ := id x
    exact wpAny_noteFrame_inFlight hf he hd h1 ht hdt h3 (h _ F x)
theorem flightX {Q : Unit → Shared → Prop} {fr : Option Addr} {fl : Value} (F : Fm b P L s.heap m N) (x : Xf b P L N s.heap e fl)
    (h : ∀ h', Fm b P L h' m N → Xf b P L N h' e (fr.elim .none fun f => rawInt f) → Q () ⟨h', s.gens, s.drawn, s.toks, s.os⟩) : wpAny (model prog w) A (setFlight (.ref e) fr) Q E s := by
  obtain ⟨oe, vs, tb, ot, tvs, ha, he, hc, hd, h1, hT, hTe, ht, hdt, h3⟩ := x
  have hsz : 3 < tvs.size := (Array.getElem?_eq_some_iff.mp h3).1
  unfold setFlight
  refine wpAny_bind (wpAny_field he hd h1 ?_)
  rw [if_pos (show (Value.ref tb != Value.none) = true from by simp)]
  refine wpAny_setField ht hdt hsz ?_
  have hd₃ := Obj.data_mapFields hdt (·.setIfInBounds 3 (fr.elim Value.none fun f => rawInt f))
  refine h _ (F.alter hT (Heap.SameBut.update ..)) ⟨oe, vs, tb, _, _, ha, ?_, hc, hd, h1, hT, hTe, Heap.get?_update_self _ ht (Obj.isFreed_of_fields hd₃), hd₃, by simp [hsz]⟩
  rw [Heap.get?_update_other _ _ hTe]
  exact he

/-- a way out by an IndexError -/
noncomputable def Exi (b : Bs) (P : PM) (L : Addr) (s : Shared) (J : Mp → List (Addr × Kd) → Prop) (v : Value) (s' : Shared) : Prop :=
  ∃ e m N, v = .ref e ∧ Same s s' ∧ Fm b P L s'.heap m N ∧ (Xn b P L N s'.heap e ∨ Xf b P L N s'.heap e (rawInt L)) ∧ J m N
theorem Exi.noted {J : Mp → List (Addr × Kd) → Prop} {s₀ : Shared} {v : Value} {E' : Value → Shared → Prop} (x : Exi b P L s₀ J v s) (hX : b.X = outer.filterMap (·.frame)) (hfr : A.frames = some (env :: outer)) (fo : FrsOk b.h outer) (hk : env.scope.kind = .function) (hf : env.frame = some L)
    (h : ∀ s', (∃ e m N, v = .ref e ∧ Same s₀ s' ∧ Fm b P L s'.heap m N ∧ Xf b P L N s'.heap e (rawInt L) ∧ J m N) → E' v s') : notedBy (model prog w) A env E' v s := by
  obtain ⟨e, m, N, rfl, hs, F, x, j⟩ := x
  exact noteX F hX hfr fo hk hf x fun h' F' x' => h _ ⟨e, m, N, rfl, ⟨hs.gens, hs.drawn, hs.os⟩, F', x', j⟩
theorem Exi.came {J : Mp → List (Addr × Kd) → Prop} {s₀ : Shared} {v : Value} {E' : Value → Shared → Prop} (x : ∃ e m N, v = .ref e ∧ Same s₀ s ∧ Fm b P L s.heap m N ∧ Xf b P L N s.heap e (rawInt L) ∧ J m N) (hf : env.frame = some L)
    (h : ∀ s', Exi b P L s₀ J v s' → E' v s') : cameBackBy (model prog w) A env E' v s := by
  obtain ⟨e, m, N, rfl, hs, F, x, j⟩ := x
  unfold cameBackBy
  obtain ⟨oe, vs, tb, ot, tvs, ha, he, hc, hd, h1, _⟩ := id x
  refine wpAny_bind (wpAny_field he hd h1 ?_)
  rw [if_neg (by simp)]
  rw [hf]
  exact flightX F x fun h' F' x' => h _ ⟨e, m, N, rfl, ⟨hs.gens, hs.drawn, hs.os⟩, F', .inr x', j⟩
/-- a while, ways out by an IndexError too -/
theorem whlX {test : Expr} {body orelse : List Stmt} {pos : Pos} {Q : Flow → Shared → Prop} {s₀ : Shared} (J : Nat → Mp → List (Addr × Kd) → Prop) (JX : Mp → List (Addr × Kd) → Prop) (hs₀ : Same s₀ s) (hX : b.X = outer.filterMap (·.frame)) (hfr : A.frames = some (env :: outer)) (fo : FrsOk b.h outer) (hk : env.scope.kind = .function) (hf : env.frame = some L)
    (F : Fm b P L s.heap m N) (n : Nat) (start : J n m N) (hE : ∀ v s', Exi b P L s₀ JX v s' → E v s')
    (turn : ∀ n m N h tk (K : Flow → Shared → Prop), Hid (fun f s₃ => match f with
        | .next | .cont => Same s₀ s₃ ∧ ∃ n' m' N', n' < n ∧ Fm b P L s₃.heap m' N' ∧ J n' m' N'
        | .brk => Q .next s₃
        | .ret v => Q (.ret v) s₃) K → J n m N → Fm b P L h m N → wpAny (model prog w) A (isTrue test env (eval test env)) (fun c s₂ =>
      if c = true then wpAny (model prog w) A (execs body env) K (Exi b P L s₀ JX) s₂
      else wpAny (model prog w) A (execs orelse env) Q (Exi b P L s₀ JX) s₂) (Exi b P L s₀ JX) ⟨h, s₀.gens, s₀.drawn, tk, s₀.os⟩) :
    wpAny (model prog w) A (exec (.While test body orelse pos) env) Q E s := by
  have up : ∀ v s', Exi b P L s₀ JX v s' → notedBy (model prog w) A env (fun e s' => cameBackBy (model prog w) A env E e s') v s' := fun v s' x => x.noted hX hfr fo hk hf fun s'' x' => Exi.came x' hf fun s3 x3 => hE _ _ x3
  refine wpAny_While (codeAny_whileLoop (fun n s' => Same s₀ s' ∧ ∃ m N, Fm b P L s'.heap m N ∧ J n m N) (fun n s' hI => ?_) n ⟨hs₀, m, N, F, start⟩)
  obtain ⟨hs, m', N', F', hj⟩ := hI
  rw [hs.eq]
  refine wpAny_mono (turn n m' N' _ _ _ (fun _ _ q => q) hj F') (fun c s₂ q => ?_) up
  cases c with
  | true =>
    rw [if_pos rfl] at q ⊢
    refine wpAny_mono q (fun f s₃ r => ?_) up
    cases f with
    | next => obtain ⟨r1, n', m3, N3, r2, r3, r4⟩ := r; exact ⟨n', r2, r1, m3, N3, r3, r4⟩
    | cont => obtain ⟨r1, n', m3, N3, r2, r3, r4⟩ := r; exact ⟨n', r2, r1, m3, N3, r3, r4⟩
    | brk => exact r
    | ret v => exact r
  | false =>
    rw [if_neg (by simp)] at q ⊢
    exact wpAny_mono q (fun _ _ r => r) up
/-- try .. except IndexError -/
theorem tryX {body : List Stmt} {t : Expr} {b₀ : Stmt} {suite : List Stmt} {p1 pos : Pos} {Q : Flow → Shared → Prop} (JX : Mp → List (Addr × Kd) → Prop) (hX : b.X = outer.filterMap (·.frame)) (hfr : A.frames = some (env :: outer)) (fo : FrsOk b.h outer) (hk : env.scope.kind = .function) (hf : env.frame = some L)
    (hb : wpAny (model prog w) A (execs body env) (fun f s₁ => Q f s₁) (Exi b P L s JX) s)
    (ht : ∀ e h tk m N Q', Fm b P L h m N → Q' (.type "IndexError") ⟨h, s.gens, s.drawn, tk, s.os⟩ → wpAny (model prog w) (A.mark (some (.ref e))) (eval t env) Q' (fun _ _ => False) ⟨h, s.gens, s.drawn, tk, s.os⟩)
    (hh : ∀ e h tk m N, Fm b P L h m N → JX m N → wpAny (model prog w) (A.mark (some (.ref e))) (execs (b₀ :: suite) env) Q (fun _ _ => False) ⟨h, s.gens, s.drawn, tk, s.os⟩) :
    wpAny (model prog w) A (exec (.Try body [.ExceptHandler (some t) none (b₀ :: suite) p1] [] [] pos) env) Q E s := by
  refine wpAny_Try_except (wpAny_mono hb (fun f s₁ q => ?_) fun v s₁ x => ?_)
  · cases f with
    | next => exact wpAny_pure q
    | _ => exact q
  · obtain ⟨e, m, N, rfl, hs, F, x, j⟩ := x
    refine noteX F hX hfr fo hk hf x fun h₂ F₂ x₂ => ?_
    refine flightX F₂ x₂ fun h₃ F₃ x₃ => ?_
    rw [hs.gens, hs.drawn, hs.os]
    refine wpAny_handleBy_builtin PySem.F.isExc_IndexError PySem.F.notTuple_IndexError PySem.F.self_IndexError ?_
    refine wpAny_mono (ht e h₃ _ m N (fun c s₁' => c = .type "IndexError" ∧ s₁' = ⟨h₃, s.gens, s.drawn, s₁.toks, s.os⟩) F₃ ⟨rfl, rfl⟩) (fun c s₄ q => ?_) fun _ _ f => f.elim
    obtain ⟨rfl, rfl⟩ := q
    refine ⟨rfl, ?_, ?_⟩
    · obtain ⟨oe, vs, tb, ot, tvs, ha, he, hc, hd, h1, _⟩ := x₃
      exact ⟨oe, he, hc⟩
    · rw [if_pos rfl]
      refine flightX F₃ x₃ fun h₅ F₅ x₅ => ?_
      exact wpAny_mono (hh e h₅ _ m N F₅ j) (fun _ _ q => q) fun _ _ f => f.elim
end
end

/-! text Ext -/
section
open PySem PySem.W PyProof.Rows PySem.Calls PySem.Spec
set_option maxRecDepth 100000
set_option maxHeartbeats 400000
local macro_rules | `(tactic| omega) => `(tactic| with_reducible first
  | assumption
  | exact Nat.zero_le _
  | exact Int.natCast_nonneg _
  | exact om0 (by assumption)
  | exact om1 (by assumption) (by decide)
  | exact om2 (by assumption) (by decide)
  | exact om3 (by assumption) (by decide)
  | exact om4 (by assumption) (by decide)
  | exact omT (by assumption)
  | exact omI (by assumption) (by assumption)
  | exact omI' (by assumption) (by assumption)
  | exact omL (by assumption) (by first | assumption | decide)
  | exact omLt (by assumption) (by first | assumption | decide)
  | exact omS (by assumption) (by first | assumption | decide)
  | exact omV (by assumption) (by first | assumption | decide)
  | exact omW (by assumption) (by first | assumption | decide)
  | exact omE (by assumption) (by assumption) (by first | assumption | decide)
  | exact omE' (by assumption) (by assumption) (by first | assumption | decide)
  | exact om1l (by assumption) (by decide)
  | exact om2l (by assumption) (by decide)
  | exact om1t (by assumption) (by assumption) (by decide)
  | exact om2t (by assumption) (by assumption) (by decide)
  | exact om3t (by assumption) (by assumption) (by decide)
  | exact omC (by assumption) (by decide)
  | exact omCi (by assumption) (by assumption) (by decide)
  | exact omCe (by assumption) (by assumption) (by assumption) (by decide)
  | exact omQ (by assumption) (by assumption) (by decide)
  | exact omD (by assumption)
  | exact omJ (by assumption) (by assumption)
  | exact omK (by assumption) (by assumption)
  | exact omN (by assumption) (by assumption)
  | exact omU (by assumption))
section
variable {prog : Program} {w : World} {A : Around} {E : Value → Shared → Prop} {s : Shared} {env : Env} {b : Bs} {P : PM} {L : Addr} {m : Mp} {N N' : List (Addr × Kd)}
/-- xs.METHOD(e), xs a name that holds a list of the ledger -/
theorem meN {x name : PySem.Str} {id : String} {px : Pos} {elt : Expr} {apos pos : Pos} {D : Addr} {its : List Value} {Q : Value → Shared → Prop} (slot : Slot "list" name id) (hty : typeOf (.builtin id) = pure (.type "method_descriptor"))
    (F : Fm b P L s.heap m N) (hv : m x = some (.ref D)) (hm : (D, Kd.list its) ∈ N)
    (h : wpAny (model prog w) A (eval elt env) (fun y s₂ => wpAny (model prog w) A (call (.builtin id) [.ref D, y]) Q E s₂) E s)
    (hL : env.locals = L := by rfl) (hk : env.scope.kind = .function := by rfl) (hl : env.kindOf x = some .local := by rfl) (hd : (x == ("__debug__" : PySem.Str)) = false := by decide)
    (hbase : attributeBase (.Name x px) name env (eval (.Name x px) env) = eval (.Name x px) env := by rfl)
    (hfew : methodCallForm (([elt] : List Expr).length + ([] : List Keyword).length) (backTo pos (starEach [elt] env)) (backToKw pos (keywordEach [] env)) = true := by rfl)
    (hline : (apos.endLine == pos.line) = true := by rfl)
    (htrees : backTo pos (starEach [elt] env) = [(false, eval elt env)] := by rfl) :
    wpAny (model prog w) A (eval (.Call (.Attribute (.Name x px) name apos) [elt] [] pos) env) Q E s := by
  rw [arm_eval_Call, hbase]
  refine wpAny_bind (nmL F hv ?_ hL hk hl hd)
  refine wpAny_bind (wpAny_standAt ?_)
  have hpos : methodCallPos true (.Name x px) env apos pos = pure pos := by unfold methodCallPos; simp [hline]
  unfold methodCall
  rw [hfew]
  obtain ⟨o, e, hf, hc, hdn, n, hdt⟩ := F.led _ hm
  refine wpAny_bind (wpAny_holding (getMethod_list_of slot hty (F.lst (.led hm)) ⟨o, e, hdn⟩ ?_))
  refine wpAny_bind (wpAny_of_eq hpos ?_)
  rw [htrees]
  exact Calls.callWith_builtin rfl (Calls.evalArgs_plain (Calls.spliced_cons (wpAny_mono h (fun y s₂ h₂ => Calls.spliced_nil h₂) fun _ _ e => e)))
theorem exL {D l : Addr} {out its : List Value} {Q : Value → Shared → Prop} (F : Fm b P L s.heap m N) (u : Up D (.list out) (.list (out ++ its)) N N') (hl : Lst P N l its) (hsz : out.length + its.length ≤ 1000)
    (h : ∀ h', Fm b P L h' m N' → Q .none ⟨h', s.gens, s.drawn, s.toks, s.os⟩) : wpAny (model prog w) A (call (.builtin "list.extend") [.ref D, .ref l]) Q E s := by
  obtain ⟨o, e, hf, hc, hdn, n, hd⟩ := F.led _ u.mem
  have lD := F.lst (.led u.mem)
  have l2 := F.lst hl
  have l1000 : (1000 : Nat) ≤ sizeLine := by decide
  obtain ⟨o2, e2, hc2, n2, hd2⟩ := id l2
  refine wpAny_call_entry PySem.F.slot_list_extend lD.typeIs PySem.F.entry_list_extend ?_ (PySem.F.args_list_extend_2 _ _)
  show wpAny _ _ (Builtin.List.listExtendWith (.ref D) (.ref l) .none) _ _ s
  unfold Builtin.List.listExtendWith
  refine wpAny_bind (wpAny_typeOf (T := "list") l2.typeIs ?_)
  have ht : (Value.type "list" == Value.type "list") = true := by rfl
  rw [if_pos (by rw [ht]; simp)]
  refine wpAny_bind (listItems_at e2 hd2 ?_)
  refine wpAny_bind (listItems_at e hd ?_)
  rw [if_neg (extend_door (by simp; omega))]
  refine wpAny_bind (listUpdate_at e hd ?_ (by simp; omega) (by simp; omega))
  obtain ⟨n', hd'⟩ := Obj.data_mapSeq hd (· ++ its.toArray)
  refine wpAny_pure ⟨.none, rfl, h _ (F.upd u (Heap.SameBut.update ..) (Heap.get?_update_self _ e (Obj.isFreed_of_seq hd')) ?_ ⟨(Obj.cls_mapSeq ..).trans hc, ?_, n', by rw [hd']; simp⟩)⟩
  · rw [(Obj.cls_mapSeq ..).trans hc]; exact ty_ne "list"
  · obtain ⟨c, d, dt, sl⟩ := o
    subst hd
    exact hdn
end
end

/-! text Rng -/
section
open PySem PySem.W PyProof.Rows PySem.Calls PySem.Spec
set_option maxRecDepth 100000
set_option maxHeartbeats 400000
local macro_rules | `(tactic| omega) => `(tactic| with_reducible first
  | assumption
  | exact Nat.zero_le _
  | exact Int.natCast_nonneg _
  | exact om0 (by assumption)
  | exact om1 (by assumption) (by decide)
  | exact om2 (by assumption) (by decide)
  | exact om3 (by assumption) (by decide)
  | exact om4 (by assumption) (by decide)
  | exact omT (by assumption)
  | exact omI (by assumption) (by assumption)
  | exact omI' (by assumption) (by assumption)
  | exact omL (by assumption) (by first | assumption | decide)
  | exact omLt (by assumption) (by first | assumption | decide)
  | exact omS (by assumption) (by first | assumption | decide)
  | exact omV (by assumption) (by first | assumption | decide)
  | exact omW (by assumption) (by first | assumption | decide)
  | exact omE (by assumption) (by assumption) (by first | assumption | decide)
  | exact omE' (by assumption) (by assumption) (by first | assumption | decide)
  | exact om1l (by assumption) (by decide)
  | exact om2l (by assumption) (by decide)
  | exact om1t (by assumption) (by assumption) (by decide)
  | exact om2t (by assumption) (by assumption) (by decide)
  | exact om3t (by assumption) (by assumption) (by decide)
  | exact omC (by assumption) (by decide)
  | exact omCi (by assumption) (by assumption) (by decide)
  | exact omCe (by assumption) (by assumption) (by assumption) (by decide)
  | exact omQ (by assumption) (by assumption) (by decide)
  | exact omD (by assumption)
  | exact omJ (by assumption) (by assumption)
  | exact omK (by assumption) (by assumption)
  | exact omN (by assumption) (by assumption)
  | exact omU (by assumption))
noncomputable abbrev rgO (a b c : Int) (t u v : Tok) : Obj := { cls := .type "range", data := .fields #[.int a t, .int b u, .int c v] }
noncomputable abbrev riO (x left st : Int) : Obj := { cls := .type "range_iterator", data := .fields #[rawInt x, rawInt left, rawInt st] }
section
variable {prog : Program} {w : World} {A : Around} {E : Value → Shared → Prop} {s : Shared} {env : Env} {b : Bs} {P : PM} {L : Addr} {m : Mp} {N N' : List (Addr × Kd)}
theorem lnL {l : Addr} {its : List Value} {Q : Value → Shared → Prop} (F : Fm b P L s.heap m N) (hl : Lst P N l its) (hz : its.length ≤ 1000) (h : ∀ t tk, Q (.int its.length t) ⟨s.heap, s.gens, s.drawn, tk, s.os⟩) :
    wpAny (model prog w) A (call (.builtin "len") [.ref l]) Q E s := by
  have h63 : (1000 : Int) < 2 ^ 63 := by decide
  exact call_len_list (F.lst hl) (by simp; omega) (by simpa using h _ _)
theorem rg1 {n : Int} {t : Tok} {Q : Value → Shared → Prop} (F : Fm b P L s.heap m N) (h : ∀ r t' u' h' tk, Fm b P L h' m ((r, .is (rgO 0 n 1 t' t u')) :: N) → Q (.ref r) ⟨h', s.gens, s.drawn, tk, s.os⟩) :
    wpAny (model prog w) A (call (.type "range") [.int n t]) Q E s := call_range_1 (h _ _ _ _ _ (F.push rfl (ty_ne "range") rfl))
theorem rg2 {a n : Int} {t u : Tok} {Q : Value → Shared → Prop} (F : Fm b P L s.heap m N) (h : ∀ r u' h' tk, Fm b P L h' m ((r, .is (rgO a n 1 t u u')) :: N) → Q (.ref r) ⟨h', s.gens, s.drawn, tk, s.os⟩) :
    wpAny (model prog w) A (call (.type "range") [.int a t, .int n u]) Q E s := call_range_2 (h _ _ _ _ (F.push rfl (ty_ne "range") rfl))
theorem rg3 {a n c : Int} {t u v : Tok} {Q : Value → Shared → Prop} (F : Fm b P L s.heap m N) (hc : c ≠ 0) (hp : Builtin.divisionGoesByPylong (n - a) c = false) (h : ∀ r h' tk, Fm b P L h' m ((r, .is (rgO a n c t u v)) :: N) → Q (.ref r) ⟨h', s.gens, s.drawn, tk, s.os⟩) :
    wpAny (model prog w) A (call (.type "range") [.int a t, .int n u, .int c v]) Q E s := call_range_3 hc (h _ _ _ (F.push rfl (ty_ne "range") rfl)) (.inl hp)
theorem itR {r : Addr} {a n c : Int} {t u v : Tok} {k : Nat} {Q : Value → Shared → Prop} (F : Fm b P L s.heap m ((r, .is (rgO a n c t u v)) :: N)) (hs : Builtin.Range.small a n c = true) (hk : Builtin.Range.rangeSize a n c = k)
    (h : ∀ I h', Fm b P L h' m ((I, .is (riO a k c)) :: N) → Q (.ref I) ⟨h', s.gens, s.drawn, s.toks, s.os⟩) : wpAny (model prog w) A (pyIter (.ref r)) Q E s := by
  obtain ⟨o, e, _, rfl⟩ := F.led _ (.head _)
  refine wpAny_pyIter_range e hs ?_
  rw [hk]
  exact h _ _ ((F.drop (.cons _ (List.Sublist.refl _))).push rfl (ty_ne "range_iterator") rfl)
theorem nxR {I : Addr} {x left st : Int} {Q : Option Value → Shared → Prop} (F : Fm b P L s.heap m ((I, .is (riO x left st)) :: N)) (hl : 0 < left)
    (h : ∀ h' tk t, Fm b P L h' m ((I, .is (riO (x + st) (left - 1) st)) :: N) → Q (some (.int x t)) ⟨h', s.gens, s.drawn, tk, s.os⟩) : wpAny (model prog w) A (pyNext (.ref I)) Q E s := by
  obtain ⟨o, e, _, rfl⟩ := F.led _ (.head _)
  exact wpAny_pyNext_range_item e hl fun h' hi hs => h h' _ _ (F.upd .head hs hi (ty_ne "range_iterator") rfl)
theorem nxRE {I : Addr} {x left st : Int} {Q : Option Value → Shared → Prop} (hA : A.handled = none) (F : Fm b P L s.heap m ((I, .is (riO x left st)) :: N)) (hl : left ≤ 0)
    (h : ∀ h', Fm b P L h' m N → Q none ⟨h', s.gens, s.drawn, s.toks, s.os⟩) : wpAny (model prog w) A (pyNext (.ref I)) Q E s := by
  obtain ⟨o, e, _, rfl⟩ := F.led _ (.head _)
  exact wpAny_pyNext_range_end hA e hl fun h' hx => h h' (F.extBut hx)
/-- a for over a range -/
theorem forR {target : Expr} {body orelse : List Stmt} {r : Addr} {a n c : Int} {t u v : Tok} {k : Nat} {Q : Flow → Shared → Prop} (J : Nat → PM → Mp → List (Addr × Kd) → Prop) (hA : A.handled = none)
    (F : Fm b P L s.heap m ((r, .is (rgO a n c t u v)) :: N)) (hs : Builtin.Range.small a n c = true) (hk : Builtin.Range.rangeSize a n c = k) (start : J 0 P m N)
    (turn : ∀ i P m N I h tk t, i < k → ∀ K : Flow → Shared → Prop, Hid (fun f s₃ => match f with
        | .next | .cont => Same s s₃ ∧ ∃ P' m' N', Fm b P' L s₃.heap m' ((I, .is (riO (a + i * c + c) (k - i - 1) c)) :: N') ∧ J (i + 1) P' m' N'
        | .brk => Q .next s₃
        | .ret v => Q (.ret v) s₃) K → J i P m N → Fm b P L h m ((I, .is (riO (a + i * c + c) (k - i - 1) c)) :: N) →
      wpAny (model prog w) A (assign target env (.int (a + i * c) t)) (fun _ s₂ => wpAny (model prog w) A (execs body env) K (fun _ _ => False) s₂) (fun _ _ => False) ⟨h, s.gens, s.drawn, tk, s.os⟩)
    (fin : ∀ P m N h tk, J k P m N → Fm b P L h m N → wpAny (model prog w) A (execs orelse env) Q (fun _ _ => False) ⟨h, s.gens, s.drawn, tk, s.os⟩)
    (ht : ∀ it v, letOwnedTupleGo target it v = pure () := by intro _ _; rfl) :
    wpAny (model prog w) A (pyIter (.ref r)) (fun it s₂ => codeAny (model prog w) A (.forLoop target it body orelse env) (fun r s' => match r with | .ok f => Q f s' | .error e => cameBackBy (model prog w) A env E e s') s₂) E s := by
  refine itR F hs hk fun I h₁ F₁ => ?_
  refine codeAny_forLoop (fun n s' => Same s s' ∧ ∃ i P m N, n = k - i ∧ i ≤ k ∧ Fm b P L s'.heap m ((I, .is (riO (a + i * c) (k - i) c)) :: N) ∧ J i P m N) (fun n s' hI => ?_) (k - 0)
    ⟨⟨rfl, rfl, rfl⟩, 0, P, m, N, rfl, Nat.zero_le _, by simpa using F₁, start⟩ (fun v => ht _ v)
  obtain ⟨hs, i, P', m', N', hn, hi, F', hj⟩ := hI
  rw [hs.eq]
  by_cases hlt : i < k
  · refine nxR F' (by omega) fun h₂ tk t F₂ => ?_
    refine wpAny_mono (turn i P' m' N' I h₂ _ t hlt _ (fun _ _ q => q) hj F₂) (fun _ s₂ q => wpAny_mono q (fun f s₃ r => ?_) fun _ _ f => f.elim) fun _ _ f => f.elim
    have e1 : a + (i : Int) * c + c = a + ((i + 1 : Nat) : Int) * c := by rw [Int.natCast_succ, Int.add_mul]; omega
    have e2 : (k : Int) - i - 1 = k - ((i + 1 : Nat) : Int) := by omega
    cases f with
    | next => obtain ⟨r1, P3, m3, N3, r2, r3⟩ := r; rw [e1, e2] at r2; exact ⟨k - (i + 1), by omega, r1, i + 1, P3, m3, N3, rfl, hlt, r2, r3⟩
    | cont => obtain ⟨r1, P3, m3, N3, r2, r3⟩ := r; rw [e1, e2] at r2; exact ⟨k - (i + 1), by omega, r1, i + 1, P3, m3, N3, rfl, hlt, r2, r3⟩
    | brk => exact r
    | ret v => exact r
  · have : i = k := by omega
    subst this
    refine nxRE hA F' (by omega) fun h₂ F₂ => ?_
    exact wpAny_mono (fin P' m' N' h₂ _ hj F₂) (fun _ _ q => q) fun _ _ f => f.elim
end
theorem sizeUp (n : Nat) : Builtin.Range.rangeSize 0 n 1 = n := by rw [rangeSize_one]; split <;> omega
theorem sizeUp1 (n : Nat) : Builtin.Range.rangeSize 1 (n + 1) 1 = n := by rw [rangeSize_one]; split <;> omega
theorem sizeDown (n : Nat) : Builtin.Range.rangeSize n 0 (-1) = n := by
  unfold Builtin.Range.rangeSize
  simp
  omega
theorem smallDown {n : Nat} (h : n ≤ 1000) : Builtin.Range.small n 0 (-1) = true := by
  unfold Builtin.Range.small
  rw [sizeDown]
  have h63 : (1000 : Int) < 2 ^ 62 := by decide
  simp only [Builtin.Range.rangeFitsLong, Bool.and_eq_true, Bool.or_eq_true, decide_eq_true_eq, beq_iff_eq]
  simp
  omega
end

/-! text CompX -/
section
open PySem PySem.W PyProof.Rows PySem.Calls PySem.Spec
set_option maxRecDepth 100000
set_option maxHeartbeats 400000
section
variable {prog : Program} {w : World} {A : Around} {E : Value → Shared → Prop} {s : Shared} {env : Env} {b : Bs} {P : PM} {L : Addr} {m : Mp} {N N' : List (Addr × Kd)}
/-- a comprehension over a list that its head makes -/
theorem compLx {elt iter : Expr} {x : PySem.Str} {px pos : Pos} {ifs : List Expr} {scope : Scope} {cl : List (PySem.Str × Addr)} {its : List Value} {Q : Value → Shared → Prop}
    (J : Addr → Nat → PM → Mp → List (Addr × Kd) → List Value → Prop) (hA : A.handled = none)
    (hi : wpAny (model prog w) A (eval iter env) (fun v s₁ => ∃ l, v = .ref l ∧ Same s s₁ ∧ ∃ P m N, Fm b P L s₁.heap m N ∧ J l 0 P m N []) E s)
    (hJ : ∀ l i P m N out, J l i P m N out → Lst P N l its ∧ out.length ≤ sizeLine)
    (turn : ∀ l i P m N out C D I mc h tk v, its[i]? = some v → ∀ K : Value → Shared → Prop, Hid (fun y s₄ => Same s s₄ ∧ ∃ P' m' N' mc', Fm b P' L s₄.heap m' ((C, .ns mc') :: (D, .list out) :: (I, .liter l (i + 1)) :: N') ∧ J l (i + 1) P' m' N' (out ++ [y])) K → ∀ K0 : Unit → Shared → Prop, Hid (fun _ s₃ => Same s s₃ ∧ ∃ P' m' N' mc', Fm b P' L s₃.heap m' ((C, .ns mc') :: (D, .list out) :: (I, .liter l (i + 1)) :: N') ∧ J l (i + 1) P' m' N' out) K0 → J l i P m N out → Fm b P L h m ((C, .ns (mset mc x v)) :: (D, .list out) :: (I, .liter l (i + 1)) :: N) →
      wpAny (model prog w) A (forIn ifs true fun c r => if r = true then do let ok ← isTrue c (compEnvC scope cl C env) (eval c (compEnvC scope cl C env)); pure (ForInStep.yield ok) else pure (ForInStep.yield r)) (fun ok s₃ =>
        if ok = true then wpAny (model prog w) A (eval elt (compEnvC scope cl C env)) K (fun _ _ => False) s₃
        else K0 () s₃) (fun _ _ => False) ⟨h, s.gens, s.drawn, tk, s.os⟩)
    (fin : ∀ l P m N out D h tk, J l its.length P m N out → Fm b P L h m ((D, .list out) :: N) → Q (.ref D) ⟨h, s.gens, s.drawn, tk, s.os⟩)
    (hclos : closureFor scope env = pure cl := by rfl) (hcell : ∀ x ∈ scope.names, x.2 ≠ .cell := by decide) (hkind : scope.kind = .function := by rfl) (hx : (compEnvC scope cl 0 env).kindOf x = some .local := by rfl)
    (hnames : ∀ x ∈ scope.names, x.2 = .local → scope.names.lookup x.1 = some .local := by decide) (hs : ∀ x, foldedSetIterable iter env x = pure x := by intro _; rfl) :
    wpAny (model prog w) A (eval (.ListComp elt [⟨.Name x px, iter, ifs, 0⟩] scope pos) env) Q E s := by
  rw [eval_ListComp]
  refine wpAny_comprehension_free rfl hs hclos hkind hnames (wpAny_mono hi (fun v s₁ q => ?_) fun _ _ e => e)
  obtain ⟨l, rfl, q1, P, m, N, F, hj⟩ := q
  refine compT (RR := fun acc C => compPost (model prog w) A E none Q acc C) (J l) hA F hcell hkind hx (hJ l) hj (fun i P m N out C D I mc h tk v hv hj F => ?_) fun P m N out C D mc h tk hj F => ?_
  · rw [q1.gens, q1.drawn, q1.os]
    exact wpAny_mono (turn l i P m N out C D I mc h tk v hv _ (fun _ _ q => q) _ (fun _ _ q => q) hj F) (fun ok s₃ r => by
      by_cases hok : ok = true
      · rw [if_pos hok] at r ⊢; exact wpAny_mono r (fun y s₄ r => ⟨⟨r.1.gens.trans q1.gens.symm, r.1.drawn.trans q1.drawn.symm, r.1.os.trans q1.os.symm⟩, r.2⟩) fun _ _ e => e
      · rw [if_neg hok] at r ⊢; exact ⟨⟨r.1.gens.trans q1.gens.symm, r.1.drawn.trans q1.drawn.symm, r.1.os.trans q1.os.symm⟩, r.2⟩) fun _ _ e => e
  · rw [q1.gens, q1.drawn, q1.os]
    exact ⟨mc, F.nsAt (.head _), fun h' hs' => fin l P m N out D h' tk hj (F.extBut hs'.extBut)⟩
end
end

/-! text Firsts -/
section
open PySem PySem.W PyProof.Rows PySem.Calls PySem.Spec
set_option maxRecDepth 100000
set_option maxHeartbeats 400000
set_option pp.deepTerms false
set_option pp.maxSteps 6000
local macro_rules | `(tactic| omega) => `(tactic| with_reducible first
  | assumption
  | exact Nat.zero_le _
  | exact Int.natCast_nonneg _
  | exact om0 (by assumption)
  | exact om1 (by assumption) (by decide)
  | exact om2 (by assumption) (by decide)
  | exact om3 (by assumption) (by decide)
  | exact om4 (by assumption) (by decide)
  | exact omT (by assumption)
  | exact omI (by assumption) (by assumption)
  | exact omI' (by assumption) (by assumption)
  | exact omL (by assumption) (by first | assumption | decide)
  | exact omLt (by assumption) (by first | assumption | decide)
  | exact omS (by assumption) (by first | assumption | decide)
  | exact omV (by assumption) (by first | assumption | decide)
  | exact omW (by assumption) (by first | assumption | decide)
  | exact omE (by assumption) (by assumption) (by first | assumption | decide)
  | exact omE' (by assumption) (by assumption) (by first | assumption | decide)
  | exact om1l (by assumption) (by decide)
  | exact om2l (by assumption) (by decide)
  | exact om1t (by assumption) (by assumption) (by decide)
  | exact om2t (by assumption) (by assumption) (by decide)
  | exact om3t (by assumption) (by assumption) (by decide)
  | exact omC (by assumption) (by decide)
  | exact omCi (by assumption) (by assumption) (by decide)
  | exact omCe (by assumption) (by assumption) (by assumption) (by decide)
  | exact omQ (by assumption) (by assumption) (by decide)
  | exact omD (by assumption)
  | exact omJ (by assumption) (by assumption)
  | exact omK (by assumption) (by assumption)
  | exact omN (by assumption) (by assumption)
  | exact omU (by assumption))
local macro_rules | `(tactic| walk_at "mem") => `(tactic| first | assumption | exact .head _ | exact .tail _ (.head _) | exact .tail _ (.tail _ (.head _)) | exact .tail _ (.tail _ (.tail _ (.head _))) | exact .tail _ (.tail _ (.tail _ (.tail _ (.head _)))) | exact .tail _ (.tail _ (.tail _ (.tail _ (.tail _ (.head _))))) | exact .tail _ (.tail _ (.tail _ (.tail _ (.tail _ (.tail _ (.head _)))))) | exact .tail _ (.tail _ (.tail _ (.tail _ (.tail _ (.tail _ (.tail _ (.head _))))))) | exact .tail _ (.tail _ (.tail _ (.tail _ (.tail _ (.tail _ (.tail _ (.tail _ (.head _)))))))) | exact .tail _ (.tail _ (.tail _ (.tail _ (.tail _ (.tail _ (.tail _ (.tail _ (.tail _ (.head _))))))))) | exact .tail _ (.tail _ (.tail _ (.tail _ (.tail _ (.tail _ (.tail _ (.tail _ (.tail _ (.tail _ (.head _)))))))))) | exact .tail _ (.tail _ (.tail _ (.tail _ (.tail _ (.tail _ (.tail _ (.tail _ (.tail _ (.tail _ (.tail _ (.head _))))))))))) | exact .tail _ (.tail _ (.tail _ (.tail _ (.tail _ (.tail _ (.tail _ (.tail _ (.tail _ (.tail _ (.tail _ (.tail _ (.head _)))))))))))) | exact .tail _ (.tail _ (.tail _ (.tail _ (.tail _ (.tail _ (.tail _ (.tail _ (.tail _ (.tail _ (.tail _ (.tail _ (.tail _ (.head _))))))))))))))
local macro_rules | `(tactic| walk_at "up") => `(tactic| first | exact .head | exact .tail .head | exact .tail (.tail .head) | exact .tail (.tail (.tail .head)) | exact .tail (.tail (.tail (.tail .head))) | exact .tail (.tail (.tail (.tail (.tail .head)))) | exact .tail (.tail (.tail (.tail (.tail (.tail .head))))) | exact .tail (.tail (.tail (.tail (.tail (.tail (.tail .head)))))) | exact .tail (.tail (.tail (.tail (.tail (.tail (.tail (.tail .head))))))) | exact .tail (.tail (.tail (.tail (.tail (.tail (.tail (.tail (.tail .head)))))))) | exact .tail (.tail (.tail (.tail (.tail (.tail (.tail (.tail (.tail (.tail .head))))))))) | exact .tail (.tail (.tail (.tail (.tail (.tail (.tail (.tail (.tail (.tail (.tail .head)))))))))) | exact .tail (.tail (.tail (.tail (.tail (.tail (.tail (.tail (.tail (.tail (.tail (.tail .head))))))))))) | exact .tail (.tail (.tail (.tail (.tail (.tail (.tail (.tail (.tail (.tail (.tail (.tail (.tail .head)))))))))))))
local macro_rules | `(tactic| walk_at "call builtin:len") => `(tactic| ((try dsimp only); refine lnL (by assumption) (by walk_at "lst") (by first | assumption | omega) ?_; intro _ _; (try dsimp only)))
local macro_rules | `(tactic| walk_at "call type:range") => `(tactic| ((try dsimp only); first
  | (refine rg1 (by assumption) ?_; intro _ _ _ _ _ _; (try dsimp only))
  | (refine rg2 (by assumption) ?_; intro _ _ _ _ _; (try dsimp only))))
theorem intsTake {vs : List Value} {ns : List Int} (h : IntsAre vs ns) : ∀ n, IntsAre (vs.take n) (ns.take n) := by
  induction h with
  | nil => intro n; simp; exact .nil
  | cons k t r ih =>
    intro n
    cases n with
    | zero => simp; exact .nil
    | succ n => simp; exact .cons k t (ih n)
theorem filtTake {α : Type} (p : α → Bool) (l : List α) {j : Nat} (h : j < l.length) : (l.take (j + 1)).filter p = (l.take j).filter p ++ (if p l[j] = true then [l[j]] else []) := by
  rw [List.take_add_one, List.getElem?_eq_getElem h, List.filter_append]
  by_cases e : p l[j] = true <;> simp [e]
noncomputable def stepF (ws : List (List Int)) (k q : Nat) : List (List Int) :=
  if ((ws.take k).filter fun x => decide (x.take (q + 1) = (ws.getD k []).take (q + 1))) = [] then [(ws.getD k []).take (q + 1)] else []
noncomputable def rowF (ws : List (List Int)) (k : Nat) : List (List Int) := (List.range (ws.getD k []).length).flatMap (stepF ws k)
noncomputable def firstsOf (ws : List (List Int)) : List (List Int) := (List.range ws.length).flatMap (rowF ws)
theorem c_firsts {prog : Program} {w : World} {A : Around} {s : Shared} {P : PM} (hz : Fz P s.heap) (S : Sta P) (hroom : A.depth + 10 < recursionLimit) (hA : A.handled = none) (hu : A.units + 300 < cLine)
    {a : Addr} {vs : List Value} {ws : List (List Int)} (hl : LP P a vs) (hw : All2 (WP P) vs ws) (hlen : ws.length ≤ 7) (h3 : ∀ x ∈ ws, x.length ≤ 3) :
    Con prog w A [] P s (.ref 90) [.ref a] (fun P' _ v => RP P' v (firstsOf ws)) := by
  intro Q E hQ
  refine wpAny_call (enterI (X := []) (c := 89) 16 hz S (by decide) (by omega) (fun pm => rfl) fun h₁ F hk₁ => ?_)
  refine stC F (by rfl) .head fun h₂ F => ?_
  have F : Fm ⟨[], P, s.heap⟩ P s.heap.objs.size h₂ (fun _ => none) [(s.heap.objs.size + 1, .cell (some (.ref a))), (s.heap.objs.size + 2, .cell none), (s.heap.objs.size + 3, .cell none)] := F
  refine ⟨(S.mono F.ex.sub).noLimit F.ex.fz, ?_⟩
  have hvl := hw.length
  have hvz : vs.length ≤ 1000 := by omega
  unfold bodyOf
  walk_at "go"
  refine wpAny_For ?_
  walk_at "go"
  rename_i D hD FD h₃ tk₃ F₃ tl tkl r t' u' h₄ tk₄ F₄
  have at1 : ∀ i (h : i < ws.length), ∃ a ivs, vs[i]? = some (.ref a) ∧ LP P a ivs ∧ IntsAre ivs ws[i] ∧ ivs.length ≤ 3 := fun i h => by
    obtain ⟨v, e1, e2⟩ := hw.get' (List.getElem?_eq_getElem h)
    obtain ⟨a, ivs, rfl, q1, q2⟩ := id e2
    exact ⟨a, ivs, e1, q1, q2, by rw [intsLen q2]; exact h3 _ (List.getElem_mem _)⟩
  have h62 : (1000 : Int) < 2 ^ 62 := by decide
  have z100 : (100 : Nat) ≤ sizeLine := by decide
  refine forR (fun i P' m' N' => (∀ c o, P c = some o → P' c = some o) ∧ ∃ u2 u3 dv, N' = [(D, .list dv), (s.heap.objs.size + 1, .cell (some (.ref a))), (s.heap.objs.size + 2, .cell u2), (s.heap.objs.size + 3, .cell u3)] ∧
    m' "due" = some (.ref D) ∧ All2 (WP P') dv ((List.range i).flatMap (rowF ws)) ∧ dv.length ≤ 3 * i) hA F₄ (small_one (by decide) (by decide) (by omega) (by omega)) (sizeUp _) ⟨fun _ _ e => e, none, none, [], rfl, rfl, .nil, Nat.le_refl _⟩ ?_ ?_
  · rintro i P' m' N' I h tk t hi K hK ⟨sub, u2, u3, dv, rfl, md, hdv, hdl⟩ F5
    have hi' : i < ws.length := by omega
    obtain ⟨ak, ivs, ek, lk, ik, zk⟩ := at1 i hi'
    rw [show (0 : Int) + (i : Int) * 1 = i by omega] at F5 hK ⊢
    have lk' := lk.mono sub
    have hl' := hl.mono sub
    walk_at "go"
    refine wpAny_For ?_
    walk_at "go"
    refine itL1 (by assumption) (.frz hl') (by omega) (by simpa using ek) (by omega) ?_
    walk_at "go"
    rename_i h6 F6 tl2 tkl2 r2 u2' h7 tk7 F7
    have hrow : ws.getD i [] = ws[i] := by rw [List.getD_eq_getElem?_getD, List.getElem?_eq_getElem hi']; rfl
    have hil := intsLen ik
    refine forR (fun q P'' m'' N'' => (∀ c o, P c = some o → P'' c = some o) ∧ ∃ u3 dv, N'' = [(I, .is (riO ((i : Int) + 1) ((vs.length : Int) - i - 1) 1)), (D, .list dv), (s.heap.objs.size + 1, .cell (some (.ref a))), (s.heap.objs.size + 2, .cell (some (.int i t))), (s.heap.objs.size + 3, .cell u3)] ∧
      m'' "due" = some (.ref D) ∧ All2 (WP P'') dv ((List.range i).flatMap (rowF ws) ++ (List.range q).flatMap (stepF ws i)) ∧ dv.length ≤ 3 * i + q) hA F7 (small_one (by decide) (by decide) (by omega) (by omega)) (sizeUp1 _) ⟨sub, u3, dv, rfl, md, by simpa using hdv, by omega⟩ ?_ ?_
    · rintro q P2 m2 N2 I2 h2 tk2 t2 hq K hK ⟨sub2, u3', dv2, rfl, md2, hdv2, hdl2⟩ F8
      rw [show (1 : Int) + (q : Int) * 1 = ((q + 1 : Nat) : Int) by omega] at F8 hK ⊢
      have lk2 := lk.mono sub2
      have hl2 := hl.mono sub2
      walk1
      walk1
      walk1
      walk1
      walk1
      rename (Fm _ _ _ _ _ _) => F9
      refine compLx (b := ⟨[], P, s.heap⟩) (L := s.heap.objs.size) (its := vs.take i) (fun l j P'' m'' N'' out => P2 = P'' ∧ m2 = m'' ∧ N'' = (l, .list (vs.take i)) :: [(I2, .is (riO (((q + 1 : Nat) : Int) + 1) ((ivs.length : Int) - q - 1) 1)), (I, .is (riO ((i : Int) + 1) ((vs.length : Int) - i - 1) 1)), (D, .list dv2), (s.heap.objs.size + 1, .cell (some (.ref a))), (s.heap.objs.size + 2, .cell (some (.int i t))), (s.heap.objs.size + 3, .cell (some (.int ((q + 1 : Nat) : Int) t2)))] ∧
        All2 (WP P) out (((ws.take i).take j).filter fun x => decide (x.take (q + 1) = (ws.getD i []).take (q + 1))) ∧ out.length ≤ j ∧ j ≤ 7) hA ?_ ?_ ?_ ?_
      · walk_at "go"
        dsimp only
        refine slL (by exact F9) (.frz hl2) .none (.int _ _) .none (by decide) (pick_upto (by omega)) (by omega) fun D3 h10 F10 => ?_
        rw [Int.toNat_natCast] at F10
        exact ⟨_, rfl, ⟨rfl, rfl, rfl⟩, _, _, _, F10, rfl, rfl, rfl, by simp; exact .nil, Nat.le_refl _, Nat.zero_le _⟩
      · rintro l j P'' m'' N'' out ⟨rfl, rfl, rfl, ho, hol, hj⟩
        exact ⟨.led (.head _), Nat.le_trans (Nat.le_trans hol hj) (by decide)⟩
      · rintro l j P'' m'' N'' out C D' I' mc h9 tk9 v hv K hK K0 hK0 ⟨rfl, rfl, rfl, ho, hol, hj⟩ F10
        have hji : j < i ∧ vs[j]? = some v := by
          rw [List.getElem?_take] at hv
          by_cases q : j < i
          · rw [if_pos q] at hv; exact ⟨q, hv⟩
          · rw [if_neg q] at hv; cases hv
        have hjw : j < ws.length := by omega
        obtain ⟨aj, jvs, ej, lj, ij, zj⟩ := at1 j hjw
        have : v = .ref aj := Option.some.inj (hji.2.symm.trans ej)
        subst this
        have z3 : (3 : Nat) ≤ sizeLine := by decide
        have i1 := intsTake ij (q + 1)
        have i2 := intsTake ik (q + 1)
        refine wpAny_tests_one ?_
        walk_at "go"
        dsimp only
        refine slL (by exact F10) (.frz (lj.mono sub2)) .none (.int _ _) .none (by decide) (pick_upto (by omega)) (by omega) fun D3 h11 F11 => ?_
        rw [Int.toNat_natCast] at F11
        walk_at "go"
        refine itL1 (by exact F11) (.frz hl2) (by omega) (by simpa using ek) (by omega) ?_
        walk_at "go"
        dsimp only
        refine slL (by exact F11) (.frz lk2) .none (.int _ _) .none (by decide) (pick_upto (by omega)) (by omega) fun D4 h12 F12 => ?_
        rw [Int.toNat_natCast] at F12
        have hstep : ((ws.take i).take (j + 1)).filter (fun x => decide (x.take (q + 1) = (ws.getD i []).take (q + 1))) = ((ws.take i).take j).filter (fun x => decide (x.take (q + 1) = (ws.getD i []).take (q + 1))) ++ (if ws[j].take (q + 1) = ws[i].take (q + 1) then [ws[j]] else []) := by
          rw [filtTake _ _ (by rw [List.length_take]; omega), hrow, List.getElem_take]
          by_cases e : ws[j].take (q + 1) = ws[i].take (q + 1) <;> simp [e]
        walk_at "go"
        · rename (List.take _ _ = List.take _ _) => hq1
          try walk_at "to"
          refine ⟨⟨rfl, rfl, rfl⟩, _, _, _, _, F12.drop (.cons _ (.cons _ (List.Sublist.refl _))), rfl, rfl, rfl, ?_, by simp; omega, by omega⟩
          rw [hstep, if_pos hq1]
          exact ho.snoc ⟨aj, jvs, rfl, lj, ij⟩
        · rename (¬ List.take _ _ = List.take _ _) => hq1
          try walk_at "to"
          refine ⟨⟨rfl, rfl, rfl⟩, _, _, _, _, F12.drop (.cons _ (.cons _ (List.Sublist.refl _))), rfl, rfl, rfl, ?_, by omega, by omega⟩
          rw [hstep, if_neg hq1, List.append_nil]
          exact ho
      · rintro l P'' m'' N'' out D' h9 tk9 ⟨rfl, rfl, rfl, ho, hol, hj⟩ F10
        walk_at "go"
        rename (Fm _ _ _ _ _ _) => F11
        have hfull : (ws.take i).take (vs.take i).length = ws.take i := by
          rw [List.length_take, List.take_take]
          congr 1
          omega
        rw [hfull] at ho
        refine eqR (F11.rdL (.led (.tail _ (.head _))) (ho.mono fun _ _ q => q.mono sub2)) (F11.rdL (.led (.head _)) .nil) (by walk_at "units") ?_
        have hst : (List.range (q + 1)).flatMap (stepF ws i) = (List.range q).flatMap (stepF ws i) ++ stepF ws i q := by rw [List.range_succ, List.flatMap_append, List.flatMap_singleton]
        walk_at "go"
        · first | rename (List.filter _ _ = []) => hq1 | (rename (decide (List.filter _ _ = []) = true) => hq1; replace hq1 := of_decide_eq_true hq1)
          refine itL1 (by exact F11) (.frz hl2) (by omega) (by simpa using ek) (by omega) ?_
          walk_at "go"
          dsimp only
          have z3 : (3 : Nat) ≤ sizeLine := by decide
          refine slL (by exact F11) (.frz lk2) .none (.int _ _) .none (by decide) (pick_upto (by omega)) (by omega) fun D4 h12 F12 => ?_
          rw [Int.toNat_natCast] at F12
          obtain ⟨P3, F13, l13, sub13⟩ := F12.frzL (by simp)
          have z100 : (100 : Nat) ≤ sizeLine := by decide
          refine apL (by exact F13) (by walk_at "up") (by omega) fun h14 F14 => ?_
          walk_at "go"
          try walk_at "to"
          refine ⟨⟨rfl, rfl, rfl⟩, P3, m2, _, F14.drop (N' := (I2, _) :: _) (.cons _ (.cons _ (.cons _ (List.Sublist.refl _)))), fun c o e => sub13 _ _ (sub2 _ _ e), _, _, rfl, md2, ?_, by simp; omega⟩
          rw [hst, ← List.append_assoc]
          rw [show stepF ws i q = [ws[i].take (q + 1)] by unfold stepF; rw [if_pos hq1, hrow]]
          exact (hdv2.mono fun _ _ q => q.mono sub13).snoc ⟨D4, _, rfl, l13, intsTake ik (q + 1)⟩
        · first | rename (¬ List.filter _ _ = []) => hq1 | (rename (decide (List.filter _ _ = []) = false) => hq1; replace hq1 := of_decide_eq_false hq1)
          try walk_at "to"
          refine ⟨⟨rfl, rfl, rfl⟩, P2, m2, _, F11.drop (N' := (I2, _) :: _) (.cons _ (.cons _ (.cons _ (List.Sublist.refl _)))), sub2, _, _, rfl, md2, ?_, by omega⟩
          rw [hst, ← List.append_assoc]
          rw [show stepF ws i q = [] by unfold stepF; rw [if_neg hq1], List.append_nil]
          exact hdv2
    · rintro P2 m2 N2 h2 tk2 ⟨sub2, u3', dv2, rfl, md2, hdv2, hdl2⟩ F8
      walk_at "go"
      try walk_at "to"
      refine ⟨⟨rfl, rfl, rfl⟩, P2, m2, _, F8, sub2, _, _, _, rfl, md2, ?_, by omega⟩
      rw [List.range_succ, List.flatMap_append, List.flatMap_singleton]
      unfold rowF
      rw [hrow, ← hil]
      exact hdv2
  · rintro P' m' N' h tk ⟨sub, u2, u3, dv, rfl, md, hdv, hdl⟩ F5
    walk_at "go"
    dsimp only [retOf]
    obtain ⟨P6, F6, h6, h7⟩ := F5.frzL (by simp)
    rw [hvl] at hdv
    exact hQ _ _ _ P6 F6.ex ⟨D, dv, rfl, h6, hdv.mono fun _ _ q => q.mono h7⟩
end

/-! text Lasts -/
section
local macro_rules | `(tactic| walk_at "idle") => `(tactic| fail)
open PySem PySem.W PyProof.Rows PySem.Calls PySem.Spec
set_option maxRecDepth 100000
set_option maxHeartbeats 400000
set_option pp.deepTerms false
set_option pp.maxSteps 6000
local macro_rules | `(tactic| omega) => `(tactic| with_reducible first
  | assumption
  | exact Nat.zero_le _
  | exact Int.natCast_nonneg _
  | exact om0 (by assumption)
  | exact om1 (by assumption) (by decide)
  | exact om2 (by assumption) (by decide)
  | exact om3 (by assumption) (by decide)
  | exact om4 (by assumption) (by decide)
  | exact omT (by assumption)
  | exact omI (by assumption) (by assumption)
  | exact omI' (by assumption) (by assumption)
  | exact omL (by assumption) (by first | assumption | decide)
  | exact omLt (by assumption) (by first | assumption | decide)
  | exact omS (by assumption) (by first | assumption | decide)
  | exact omV (by assumption) (by first | assumption | decide)
  | exact omW (by assumption) (by first | assumption | decide)
  | exact omE (by assumption) (by assumption) (by first | assumption | decide)
  | exact omE' (by assumption) (by assumption) (by first | assumption | decide)
  | exact om1l (by assumption) (by decide)
  | exact om2l (by assumption) (by decide)
  | exact om1t (by assumption) (by assumption) (by decide)
  | exact om2t (by assumption) (by assumption) (by decide)
  | exact om3t (by assumption) (by assumption) (by decide)
  | exact omC (by assumption) (by decide)
  | exact omCi (by assumption) (by assumption) (by decide)
  | exact omCe (by assumption) (by assumption) (by assumption) (by decide)
  | exact omQ (by assumption) (by assumption) (by decide)
  | exact omD (by assumption)
  | exact omJ (by assumption) (by assumption)
  | exact omK (by assumption) (by assumption)
  | exact omN (by assumption) (by assumption)
  | exact omU (by assumption))
local macro_rules | `(tactic| walk_at "mem") => `(tactic| first | assumption | exact .head _ | exact .tail _ (.head _) | exact .tail _ (.tail _ (.head _)) | exact .tail _ (.tail _ (.tail _ (.head _))) | exact .tail _ (.tail _ (.tail _ (.tail _ (.head _)))) | exact .tail _ (.tail _ (.tail _ (.tail _ (.tail _ (.head _))))) | exact .tail _ (.tail _ (.tail _ (.tail _ (.tail _ (.tail _ (.head _)))))) | exact .tail _ (.tail _ (.tail _ (.tail _ (.tail _ (.tail _ (.tail _ (.head _))))))) | exact .tail _ (.tail _ (.tail _ (.tail _ (.tail _ (.tail _ (.tail _ (.tail _ (.head _)))))))) | exact .tail _ (.tail _ (.tail _ (.tail _ (.tail _ (.tail _ (.tail _ (.tail _ (.tail _ (.head _))))))))) | exact .tail _ (.tail _ (.tail _ (.tail _ (.tail _ (.tail _ (.tail _ (.tail _ (.tail _ (.tail _ (.head _)))))))))) | exact .tail _ (.tail _ (.tail _ (.tail _ (.tail _ (.tail _ (.tail _ (.tail _ (.tail _ (.tail _ (.tail _ (.head _))))))))))) | exact .tail _ (.tail _ (.tail _ (.tail _ (.tail _ (.tail _ (.tail _ (.tail _ (.tail _ (.tail _ (.tail _ (.tail _ (.head _)))))))))))) | exact .tail _ (.tail _ (.tail _ (.tail _ (.tail _ (.tail _ (.tail _ (.tail _ (.tail _ (.tail _ (.tail _ (.tail _ (.tail _ (.head _))))))))))))))
local macro_rules | `(tactic| walk_at "up") => `(tactic| first | exact .head | exact .tail .head | exact .tail (.tail .head) | exact .tail (.tail (.tail .head)) | exact .tail (.tail (.tail (.tail .head))) | exact .tail (.tail (.tail (.tail (.tail .head)))) | exact .tail (.tail (.tail (.tail (.tail (.tail .head))))) | exact .tail (.tail (.tail (.tail (.tail (.tail (.tail .head)))))) | exact .tail (.tail (.tail (.tail (.tail (.tail (.tail (.tail .head))))))) | exact .tail (.tail (.tail (.tail (.tail (.tail (.tail (.tail (.tail .head)))))))) | exact .tail (.tail (.tail (.tail (.tail (.tail (.tail (.tail (.tail (.tail .head))))))))) | exact .tail (.tail (.tail (.tail (.tail (.tail (.tail (.tail (.tail (.tail (.tail .head)))))))))) | exact .tail (.tail (.tail (.tail (.tail (.tail (.tail (.tail (.tail (.tail (.tail (.tail .head))))))))))) | exact .tail (.tail (.tail (.tail (.tail (.tail (.tail (.tail (.tail (.tail (.tail (.tail (.tail .head)))))))))))))
local macro_rules | `(tactic| walk_at "call builtin:len") => `(tactic| ((try dsimp only); refine lnL (by assumption) (by walk_at "lst") (by first | assumption | omega) ?_; intro _ _; (try dsimp only)))
local macro_rules | `(tactic| walk_at "call type:range") => `(tactic| ((try dsimp only); first
  | (refine rg1 (by assumption) ?_; intro _ _ _ _ _ _; (try dsimp only))
  | (refine rg3 (by assumption) (by decide) (PyProof.noPylong_of_log2 (by decide +kernel)) ?_; intro _ _ _ _; (try dsimp only))))
noncomputable def stepL (ws : List (List Int)) (k q : Nat) : List (List Int) :=
  if ((ws.drop (k + 1)).filter fun x => decide (x.take ((ws.getD k []).length - q) = (ws.getD k []).take ((ws.getD k []).length - q))) = [] then [(ws.getD k []).take ((ws.getD k []).length - q)] else []
noncomputable def rowL (ws : List (List Int)) (k : Nat) : List (List Int) := (List.range (ws.getD k []).length).flatMap (stepL ws k)
noncomputable def lastsOf (ws : List (List Int)) : List (List Int) := (List.range ws.length).flatMap (rowL ws)
theorem c_lasts {prog : Program} {w : World} {A : Around} {s : Shared} {P : PM} (hz : Fz P s.heap) (S : Sta P) (hroom : A.depth + 10 < recursionLimit) (hA : A.handled = none) (hu : A.units + 300 < cLine)
    {a : Addr} {vs : List Value} {ws : List (List Int)} (hl : LP P a vs) (hw : All2 (WP P) vs ws) (hlen : ws.length ≤ 7) (h3 : ∀ x ∈ ws, x.length ≤ 3) :
    Con prog w A [] P s (.ref 95) [.ref a] (fun P' _ v => RP P' v (lastsOf ws)) := by
  intro Q E hQ
  refine wpAny_call (enterI (X := []) (c := 94) 17 hz S (by decide) (by omega) (fun pm => rfl) fun h₁ F hk₁ => ?_)
  refine stC F (by rfl) .head fun h₂ F => ?_
  have F : Fm ⟨[], P, s.heap⟩ P s.heap.objs.size h₂ (fun _ => none) [(s.heap.objs.size + 1, .cell (some (.ref a))), (s.heap.objs.size + 2, .cell none), (s.heap.objs.size + 3, .cell none)] := F
  refine ⟨(S.mono F.ex.sub).noLimit F.ex.fz, ?_⟩
  have hvl := hw.length
  have hvz : vs.length ≤ 1000 := by omega
  unfold bodyOf
  walk_at "go"
  refine wpAny_For ?_
  walk_at "go"
  rename_i D hD FD h₃ tk₃ F₃ tl tkl r t' u' h₄ tk₄ F₄
  have at1 : ∀ i (h : i < ws.length), ∃ a ivs, vs[i]? = some (.ref a) ∧ LP P a ivs ∧ IntsAre ivs ws[i] ∧ ivs.length ≤ 3 := fun i h => by
    obtain ⟨v, e1, e2⟩ := hw.get' (List.getElem?_eq_getElem h)
    obtain ⟨a, ivs, rfl, q1, q2⟩ := id e2
    exact ⟨a, ivs, e1, q1, q2, by rw [intsLen q2]; exact h3 _ (List.getElem_mem _)⟩
  have h62 : (1000 : Int) < 2 ^ 62 := by decide
  have z100 : (100 : Nat) ≤ sizeLine := by decide
  refine forR (fun i P' m' N' => (∀ c o, P c = some o → P' c = some o) ∧ ∃ u2 u3 dv, N' = [(D, .list dv), (s.heap.objs.size + 1, .cell (some (.ref a))), (s.heap.objs.size + 2, .cell u2), (s.heap.objs.size + 3, .cell u3)] ∧
    m' "due" = some (.ref D) ∧ All2 (WP P') dv ((List.range i).flatMap (rowL ws)) ∧ dv.length ≤ 3 * i) hA F₄ (small_one (by decide) (by decide) (by omega) (by omega)) (sizeUp _) ⟨fun _ _ e => e, none, none, [], rfl, rfl, .nil, Nat.le_refl _⟩ ?_ ?_
  · rintro i P' m' N' I h tk t hi K hK ⟨sub, u2, u3, dv, rfl, md, hdv, hdl⟩ F5
    have hi' : i < ws.length := by omega
    obtain ⟨ak, ivs, ek, lk, ik, zk⟩ := at1 i hi'
    rw [show (0 : Int) + (i : Int) * 1 = i by omega] at F5 hK ⊢
    have lk' := lk.mono sub
    have hl' := hl.mono sub
    walk_at "go"
    refine wpAny_For ?_
    walk_at "go"
    refine itL1 (by assumption) (.frz hl') (by omega) (by simpa using ek) (by omega) ?_
    walk_at "go"
    rename_i h6 F6 tl2 tkl2 r2 h7 tk7 F7
    have hrow : ws.getD i [] = ws[i] := by rw [List.getD_eq_getElem?_getD, List.getElem?_eq_getElem hi']; rfl
    have hil := intsLen ik
    refine forR (fun q P'' m'' N'' => (∀ c o, P c = some o → P'' c = some o) ∧ ∃ u3 dv, N'' = [(I, .is (riO ((i : Int) + 1) ((vs.length : Int) - i - 1) 1)), (D, .list dv), (s.heap.objs.size + 1, .cell (some (.ref a))), (s.heap.objs.size + 2, .cell (some (.int i t))), (s.heap.objs.size + 3, .cell u3)] ∧
      m'' "due" = some (.ref D) ∧ All2 (WP P'') dv ((List.range i).flatMap (rowL ws) ++ (List.range q).flatMap (stepL ws i)) ∧ dv.length ≤ 3 * i + q) hA F7 (smallDown (by omega)) (sizeDown _) ⟨sub, u3, dv, rfl, md, by simpa using hdv, by omega⟩ ?_ ?_
    · rintro q P2 m2 N2 I2 h2 tk2 t2 hq K hK ⟨sub2, u3', dv2, rfl, md2, hdv2, hdl2⟩ F8
      have hql : q < ivs.length := hq
      rw [show (ivs.length : Int) + (q : Int) * -1 = ((ivs.length - q : Nat) : Int) by omega] at F8 hK ⊢
      obtain ⟨z, hzq⟩ : ∃ z, z = ivs.length - q := ⟨_, rfl⟩
      rw [← hzq] at F8 hK ⊢
      have hzz : (ws.getD i []).length - q = z := by rw [hrow, ← hil]; exact hzq.symm
      have lk2 := lk.mono sub2
      have hl2 := hl.mono sub2
      walk1
      walk1
      walk1
      walk1
      walk1
      rename (Fm _ _ _ _ _ _) => F9
      refine compLx (b := ⟨[], P, s.heap⟩) (L := s.heap.objs.size) (its := vs.drop (i + 1)) (fun l j P'' m'' N'' out => P2 = P'' ∧ m2 = m'' ∧ N'' = (l, .list (vs.drop (i + 1))) :: [(I2, .is (riO ((z : Int) + -1) ((ivs.length : Int) - q - 1) (-1))), (I, .is (riO ((i : Int) + 1) ((vs.length : Int) - i - 1) 1)), (D, .list dv2), (s.heap.objs.size + 1, .cell (some (.ref a))), (s.heap.objs.size + 2, .cell (some (.int i t))), (s.heap.objs.size + 3, .cell (some (.int (z : Int) t2)))] ∧
        All2 (WP P) out (((ws.drop (i + 1)).take j).filter fun x => decide (x.take z = (ws.getD i []).take z)) ∧ out.length ≤ j ∧ j ≤ 7) hA ?_ ?_ ?_ ?_
      · walk_at "go"
        dsimp only
        refine slL (by exact F9) (.frz hl2) (.int _ _) .none .none (by decide) (pick_from (by omega)) (by omega) fun D3 h10 F10 => ?_
        rw [show ((i : Int) + 1).toNat = i + 1 by omega] at F10
        exact ⟨_, rfl, ⟨rfl, rfl, rfl⟩, _, _, _, F10, rfl, rfl, rfl, by simp; exact .nil, Nat.le_refl _, Nat.zero_le _⟩
      · rintro l j P'' m'' N'' out ⟨rfl, rfl, rfl, ho, hol, hj⟩
        exact ⟨.led (.head _), Nat.le_trans (Nat.le_trans hol hj) (by decide)⟩
      · rintro l j P'' m'' N'' out C D' I' mc h9 tk9 v hv K hK K0 hK0 ⟨rfl, rfl, rfl, ho, hol, hj⟩ F10
        rw [List.getElem?_drop] at hv
        have hjw : i + 1 + j < ws.length := by have := (List.getElem?_eq_some_iff.mp hv).1; omega
        obtain ⟨aj, jvs, ej, lj, ij, zj⟩ := at1 (i + 1 + j) hjw
        have : v = .ref aj := Option.some.inj (hv.symm.trans ej)
        subst this
        have z3 : (3 : Nat) ≤ sizeLine := by decide
        have i1 := intsTake ij z
        have i2 := intsTake ik z
        refine wpAny_tests_one ?_
        walk_at "go"
        dsimp only
        refine slL (by exact F10) (.frz (lj.mono sub2)) .none (.int _ _) .none (by decide) (pick_upto (by omega)) (by omega) fun D3 h11 F11 => ?_
        rw [Int.toNat_natCast] at F11
        walk_at "go"
        refine itL1 (by exact F11) (.frz hl2) (by omega) (by simpa using ek) (by omega) ?_
        walk_at "go"
        dsimp only
        refine slL (by exact F11) (.frz lk2) .none (.int _ _) .none (by decide) (pick_upto (by omega)) (by omega) fun D4 h12 F12 => ?_
        rw [Int.toNat_natCast] at F12
        have hstep : ((ws.drop (i + 1)).take (j + 1)).filter (fun x => decide (x.take z = (ws.getD i []).take z)) = ((ws.drop (i + 1)).take j).filter (fun x => decide (x.take z = (ws.getD i []).take z)) ++ (if ws[i + 1 + j].take z = ws[i].take z then [ws[i + 1 + j]] else []) := by
          rw [filtTake _ _ (by rw [List.length_drop]; omega), hrow, List.getElem_drop]
          by_cases e : ws[i + 1 + j].take z = ws[i].take z <;> simp [e]
        walk_at "go"
        · rename (List.take _ _ = List.take _ _) => hq1
          try walk_at "to"
          refine ⟨⟨rfl, rfl, rfl⟩, _, _, _, _, F12.drop (.cons _ (.cons _ (List.Sublist.refl _))), rfl, rfl, rfl, ?_, by simp; omega, by omega⟩
          rw [hstep, if_pos hq1]
          exact ho.snoc ⟨aj, jvs, rfl, lj, ij⟩
        · rename (¬ List.take _ _ = List.take _ _) => hq1
          try walk_at "to"
          refine ⟨⟨rfl, rfl, rfl⟩, _, _, _, _, F12.drop (.cons _ (.cons _ (List.Sublist.refl _))), rfl, rfl, rfl, ?_, by omega, by omega⟩
          rw [hstep, if_neg hq1, List.append_nil]
          exact ho
      · rintro l P'' m'' N'' out D' h9 tk9 ⟨rfl, rfl, rfl, ho, hol, hj⟩ F10
        walk_at "go"
        rename (Fm _ _ _ _ _ _) => F11
        have hfull : (ws.drop (i + 1)).take (vs.drop (i + 1)).length = ws.drop (i + 1) := by
          rw [List.length_drop]
          exact List.take_of_length_le (by rw [List.length_drop]; omega)
        rw [hfull] at ho
        refine eqR (F11.rdL (.led (.tail _ (.head _))) (ho.mono fun _ _ q => q.mono sub2)) (F11.rdL (.led (.head _)) .nil) (by walk_at "units") ?_
        have hst : (List.range (q + 1)).flatMap (stepL ws i) = (List.range q).flatMap (stepL ws i) ++ stepL ws i q := by rw [List.range_succ, List.flatMap_append, List.flatMap_singleton]
        walk_at "go"
        · first | rename (List.filter _ _ = []) => hq1 | (rename (decide (List.filter _ _ = []) = true) => hq1; replace hq1 := of_decide_eq_true hq1)
          refine itL1 (by exact F11) (.frz hl2) (by omega) (by simpa using ek) (by omega) ?_
          walk_at "go"
          dsimp only
          have z3 : (3 : Nat) ≤ sizeLine := by decide
          refine slL (by exact F11) (.frz lk2) .none (.int _ _) .none (by decide) (pick_upto (by omega)) (by omega) fun D4 h12 F12 => ?_
          rw [Int.toNat_natCast] at F12
          obtain ⟨P3, F13, l13, sub13⟩ := F12.frzL (by simp)
          have z100 : (100 : Nat) ≤ sizeLine := by decide
          refine apL (by exact F13) (by walk_at "up") (by omega) fun h14 F14 => ?_
          walk_at "go"
          try walk_at "to"
          refine ⟨⟨rfl, rfl, rfl⟩, P3, m2, _, F14.drop (N' := (I2, _) :: _) (.cons _ (.cons _ (.cons _ (List.Sublist.refl _)))), fun c o e => sub13 _ _ (sub2 _ _ e), _, _, rfl, md2, ?_, by simp; omega⟩
          rw [hst, ← List.append_assoc]
          rw [show stepL ws i q = [ws[i].take z] by unfold stepL; rw [hzz, if_pos hq1, hrow]]
          exact (hdv2.mono fun _ _ q => q.mono sub13).snoc ⟨D4, _, rfl, l13, intsTake ik z⟩
        · first | rename (¬ List.filter _ _ = []) => hq1 | (rename (decide (List.filter _ _ = []) = false) => hq1; replace hq1 := of_decide_eq_false hq1)
          try walk_at "to"
          refine ⟨⟨rfl, rfl, rfl⟩, P2, m2, _, F11.drop (N' := (I2, _) :: _) (.cons _ (.cons _ (.cons _ (List.Sublist.refl _)))), sub2, _, _, rfl, md2, ?_, by omega⟩
          rw [hst, ← List.append_assoc]
          rw [show stepL ws i q = [] by unfold stepL; rw [hzz, if_neg hq1], List.append_nil]
          exact hdv2
    · rintro P2 m2 N2 h2 tk2 ⟨sub2, u3', dv2, rfl, md2, hdv2, hdl2⟩ F8
      walk_at "go"
      try walk_at "to"
      refine ⟨⟨rfl, rfl, rfl⟩, P2, m2, _, F8, sub2, _, _, _, rfl, md2, ?_, by omega⟩
      rw [List.range_succ, List.flatMap_append, List.flatMap_singleton]
      unfold rowL
      rw [hrow, ← hil]
      exact hdv2
  · rintro P' m' N' h tk ⟨sub, u2, u3, dv, rfl, md, hdv, hdl⟩ F5
    walk_at "go"
    dsimp only [retOf]
    obtain ⟨P6, F6, h6, h7⟩ := F5.frzL (by simp)
    rw [hvl] at hdv
    exact hQ _ _ _ P6 F6.ex ⟨D, dv, rfl, h6, hdv.mono fun _ _ q => q.mono h7⟩
end

/-! text SldB -/
section
open PySem PySem.W PyProof.Rows PySem.Calls PySem.Spec
set_option maxRecDepth 100000
set_option maxHeartbeats 400000
set_option pp.deepTerms false
set_option pp.maxSteps 6000
local macro_rules | `(tactic| omega) => `(tactic| with_reducible first
  | assumption
  | exact Nat.zero_le _
  | exact Int.natCast_nonneg _
  | exact om0 (by assumption)
  | exact om1 (by assumption) (by decide)
  | exact om2 (by assumption) (by decide)
  | exact om3 (by assumption) (by decide)
  | exact om4 (by assumption) (by decide)
  | exact omT (by assumption)
  | exact omI (by assumption) (by assumption)
  | exact omI' (by assumption) (by assumption)
  | exact omL (by assumption) (by first | assumption | decide)
  | exact omLt (by assumption) (by first | assumption | decide)
  | exact omS (by assumption) (by first | assumption | decide)
  | exact omV (by assumption) (by first | assumption | decide)
  | exact omW (by assumption) (by first | assumption | decide)
  | exact omE (by assumption) (by assumption) (by first | assumption | decide)
  | exact omE' (by assumption) (by assumption) (by first | assumption | decide)
  | exact om1l (by assumption) (by decide)
  | exact om2l (by assumption) (by decide)
  | exact om1t (by assumption) (by assumption) (by decide)
  | exact om2t (by assumption) (by assumption) (by decide)
  | exact om3t (by assumption) (by assumption) (by decide)
  | exact omC (by assumption) (by decide)
  | exact omCi (by assumption) (by assumption) (by decide)
  | exact omCe (by assumption) (by assumption) (by assumption) (by decide)
  | exact omQ (by assumption) (by assumption) (by decide)
  | exact omD (by assumption)
  | exact omJ (by assumption) (by assumption)
  | exact omK (by assumption) (by assumption)
  | exact omN (by assumption) (by assumption)
  | exact omU (by assumption))
section
variable {prog : Program} {w : World} {A : Around} {E : Value → Shared → Prop} {s : Shared} {env : Env} {b : Bs} {P : PM} {L : Addr} {m : Mp} {N : List (Addr × Kd)} {value slice : Expr} {l : Addr} {its : List Value} {Q : Value → Shared → Prop}
theorem itX {k : Int} {u : Tok} {ops : List Value} (F : Fm b P L s.heap m N) (hX : ∀ a ∈ b.X, ∃ o, b.h.get? a = some o ∧ o.cls = fcls) (hA : A.handled = none) (hl : Lst P N l its) (hk : (its.length : Int) ≤ k) (hf : k < 2 ^ 63)
    (h : ∀ e h' tk, Fm b P L h' m N → Xn b P L N h' e → E (.ref e) ⟨h', s.gens, s.drawn, tk, s.os⟩)
    (hs : subscripted slice false (.ref l) (.int k u) = operate ops (getItem (.ref l) (.int k u)) := by with_unfolding_all rfl) :
    wpAny (model prog w) A (subscriptTail value slice (.ref l) (.int k u)) Q E s :=
  tail_any (Heap.IsList.typeIs (F.lst hl)) slot_list_getitem.lookup (wpAny_getItem_list_out hA (F.lst hl) (.inr (by simpa using hk)) (by omega) hf fun h' tk e x => by
    obtain ⟨ob, t, e1, e2, e3⟩ := x.there
    exact h e h' tk (F.keepAll x.keeps) ⟨ob, _, F.apart hX x.new, e1, e2, e3, rfl⟩) hs
end
/-- what stands between the turns -/
noncomputable def SJ (P : PM) (a1 a2 D1 D2 : Addr) (ex ac : List (List Int)) (i j : Nat) (m : Mp) (N : List (Addr × Kd)) : Prop := ∃ t1 t2 mv uv, m "expected" = some (.ref a1) ∧ m "actual" = some (.ref a2) ∧ m "i" = some (.int i t1) ∧ m "j" = some (.int j t2) ∧
  m "missing" = some (.ref D1) ∧ m "unexpected" = some (.ref D2) ∧ N = [(D2, .list uv), (D1, .list mv)] ∧ All2 (WP P) mv ((ex.take i).filter fun x => decide (x ∉ ac)) ∧ uv.length ≤ j ∧ i ≤ ex.length ∧ j ≤ ac.length
local macro_rules | `(tactic| walk_at "loadName") => `(tactic| refine ldL (by assumption) (by walk_at "mv") ?_ rfl rfl rfl)
theorem sldB {prog : Program} {w : World} {A : Around} {E : Value → Shared → Prop} {s s₀ : Shared} {P : PM} {outer : List Env} {b : Bs} {L : Addr} {Q : Flow → Shared → Prop} {m : Mp} {N : List (Addr × Kd)} {p1 p2 p3 p4 p5 p6 p7 p8 p9 : Pos} (hs₀ : Same s₀ s) (hX : b.X = outer.filterMap (·.frame)) (hA : A.handled = none) (hu : A.units + 100 < cLine)
    (hfr : A.frames = some (envI 3 L 28 27 :: outer)) (fo : FrsOk b.h outer)
    {a1 a2 D1 D2 aa : Addr} {v2 : List Value} {ex ac : List (List Int)} (l2 : LP P a2 v2) (w2 : All2 (WP P) v2 ac) (z2 : ac.length ≤ 100) {i j : Nat} {u : List Int} (wa : WP P (.ref aa) u)
    (F : Fm b P L s.heap m N) (st : SJ P a1 a2 D1 D2 ex ac i j m N) (ma : m "a" = some (.ref aa)) (hle : ∀ x ∈ ac.take j, wle x u)
    (hQ : ∀ h tk m N j', j ≤ j' → j' < ac.length → Fm b P L h m N → SJ P a1 a2 D1 D2 ex ac i j' m N → (∀ x ∈ ac.take j', wle x u) → Q .next ⟨h, s₀.gens, s₀.drawn, tk, s₀.os⟩)
    (hE : ∀ v s', Exi b P L s₀ (fun m N => SJ P a1 a2 D1 D2 ex ac i ac.length m N ∧ ∀ x ∈ ac, wle x u) v s' → E v s') :
    wpAny (model prog w) A (exec (.While (.Compare (.Subscript (.Name "actual" p1) (.Name "j" p2) p3) [.Eq] [.Name "a" p4] p5) [.AugAssign (.Name "j" p6) .Add (.Constant (.int 1) 0 p7) p8] [] p9) (envI 3 L 28 27)) Q E s := by
  have hlen2 := w2.length
  have h63 : (100 : Int) < 2 ^ 63 := by decide
  refine whlX (b := b) (P := P) (L := L) (outer := outer) (fun n m N => ∃ j', n = ac.length - j' ∧ j ≤ j' ∧ SJ P a1 a2 D1 D2 ex ac i j' m N ∧ m "a" = some (.ref aa) ∧ ∀ x ∈ ac.take j', wle x u) (fun m N => SJ P a1 a2 D1 D2 ex ac i ac.length m N ∧ ∀ x ∈ ac, wle x u) hs₀ hX hfr fo rfl rfl F (ac.length - j) ⟨j, rfl, Nat.le_refl _, st, ma, hle⟩ hE ?_
  rintro n m N h tk K hK ⟨j', hn, hj', ⟨t1, t2, mv, uv, m1, m2, m3, m4, m5, m6, rfl, hmv, huv, hi, hj⟩, ma, hle⟩ F
  walk_at "go"
  by_cases hj2 : j' < ac.length
  · obtain ⟨v, e1, wv⟩ := w2.get' (List.getElem?_eq_getElem hj2)
    refine itL1 (by exact F) (.frz l2) (by omega) (by simpa using e1) (by omega) ?_
    walk_at "go"
    refine eqW (F.rdW wv) (F.rdW wa) (by omega) ?_
    walk_at "go"
    · rename (_ = u) => hq
      try walk_at "to"
      refine ⟨⟨rfl, rfl, rfl⟩, ac.length - (j' + 1), _, _, by omega, by assumption, j' + 1, rfl, by omega, ⟨t1, _, mv, uv, by walk_at "mv", by walk_at "mv", by walk_at "mv", rfl, by walk_at "mv", by walk_at "mv", rfl, hmv, by omega, hi, hj2⟩, by walk_at "mv", ?_⟩
      intro x hx
      rw [List.take_add_one, List.getElem?_eq_getElem hj2] at hx
      rcases List.mem_append.mp hx with hx | hx
      · exact hle x hx
      · have e1 : x = ac[j'] := by simpa using hx
        rw [e1, hq]
        exact wle_refl _
    · exact hQ _ _ _ _ j' hj' hj2 F ⟨t1, t2, mv, uv, m1, m2, m3, m4, m5, m6, rfl, hmv, huv, hi, hj⟩ hle
  · have e : j' = ac.length := by omega
    subst e
    refine itX (by exact F) (fo.xfr hX) hA (.frz l2) (by omega) (by omega) fun e h₇ tk₇ F₇ x₇ => ?_
    refine ⟨e, _, _, rfl, ⟨rfl, rfl, rfl⟩, F₇, .inl x₇, ⟨t1, t2, mv, uv, m1, m2, m3, m4, m5, m6, rfl, hmv, huv, hi, hj⟩, ?_⟩
    rw [List.take_length] at hle
    exact hle
theorem sldA {prog : Program} {w : World} {A : Around} {E : Value → Shared → Prop} {s s₀ : Shared} {P : PM} {outer : List Env} {b : Bs} {L : Addr} {Q : Flow → Shared → Prop} {m : Mp} {N : List (Addr × Kd)} {p1 p2 p3 p4 p5 p6 p7 p8 p9 : Pos} (hs₀ : Same s₀ s) (hX : b.X = outer.filterMap (·.frame)) (hA : A.handled = none) (hu : A.units + 100 < cLine)
    (hfr : A.frames = some (envI 3 L 28 27 :: outer)) (fo : FrsOk b.h outer)
    {a1 a2 D1 D2 ae : Addr} {v1 : List Value} {ex ac : List (List Int)} (l1 : LP P a1 v1) (w1 : All2 (WP P) v1 ex) (z1 : ex.length ≤ 100) {i j : Nat} {u : List Int} (we : WP P (.ref ae) u)
    (F : Fm b P L s.heap m N) (st : SJ P a1 a2 D1 D2 ex ac i j m N) (me : m "e" = some (.ref ae)) (hne : ∀ h : i < ex.length, ex[i] ≠ u)
    (hQ : ∀ h tk, i < ex.length → Fm b P L h m N → Q .next ⟨h, s₀.gens, s₀.drawn, tk, s₀.os⟩)
    (hE : ∀ v s', Exi b P L s₀ (fun m' N' => i = ex.length ∧ m' = m ∧ N' = N) v s' → E v s') :
    wpAny (model prog w) A (exec (.While (.Compare (.Subscript (.Name "expected" p1) (.Name "i" p2) p3) [.Eq] [.Name "e" p4] p5) [.AugAssign (.Name "i" p6) .Add (.Constant (.int 1) 0 p7) p8] [] p9) (envI 3 L 28 27)) Q E s := by
  have hlen1 := w1.length
  have h63 : (100 : Int) < 2 ^ 63 := by decide
  obtain ⟨t1, t2, mv, uv, m1, m2, m3, m4, m5, m6, rfl, hmv, huv, hi, hj⟩ := st
  refine whlX (b := b) (P := P) (L := L) (outer := outer) (fun n m' N' => m = m' ∧ N' = [(D2, .list uv), (D1, .list mv)]) (fun m' N' => i = ex.length ∧ m' = m ∧ N' = [(D2, .list uv), (D1, .list mv)]) hs₀ hX hfr fo rfl rfl F 0 ⟨rfl, rfl⟩ hE ?_
  rintro n m N h tk K hK ⟨rfl, rfl⟩ F
  walk_at "go"
  by_cases hi2 : i < ex.length
  · obtain ⟨v, e1, wv⟩ := w1.get' (List.getElem?_eq_getElem hi2)
    refine itL1 (by exact F) (.frz l1) (by omega) (by simpa using e1) (by omega) ?_
    walk_at "go"
    refine eqW (F.rdW wv) (F.rdW we) (by omega) ?_
    walk_at "go"
    · rename (_ = u) => hq
      exact absurd hq (hne hi2)
    · exact hQ _ _ hi2 F
  · have e : i = ex.length := by omega
    refine itX (by exact F) (fo.xfr hX) hA (.frz l1) (by omega) (by omega) fun e' h₇ tk₇ F₇ x₇ => ?_
    exact ⟨e', _, _, rfl, ⟨rfl, rfl, rfl⟩, F₇, .inl x₇, e, rfl, rfl⟩
end

/-! text Sld -/
section
open PySem PySem.W PyProof.Rows PySem.Calls PySem.Spec
set_option maxRecDepth 100000
set_option maxHeartbeats 400000
set_option pp.deepTerms false
set_option pp.maxSteps 6000
local macro_rules | `(tactic| omega) => `(tactic| with_reducible first
  | assumption
  | exact Nat.zero_le _
  | exact Int.natCast_nonneg _
  | exact om0 (by assumption)
  | exact om1 (by assumption) (by decide)
  | exact om2 (by assumption) (by decide)
  | exact om3 (by assumption) (by decide)
  | exact om4 (by assumption) (by decide)
  | exact omT (by assumption)
  | exact omI (by assumption) (by assumption)
  | exact omI' (by assumption) (by assumption)
  | exact omL (by assumption) (by first | assumption | decide)
  | exact omLt (by assumption) (by first | assumption | decide)
  | exact omS (by assumption) (by first | assumption | decide)
  | exact omV (by assumption) (by first | assumption | decide)
  | exact omW (by assumption) (by first | assumption | decide)
  | exact omE (by assumption) (by assumption) (by first | assumption | decide)
  | exact omE' (by assumption) (by assumption) (by first | assumption | decide)
  | exact om1l (by assumption) (by decide)
  | exact om2l (by assumption) (by decide)
  | exact om1t (by assumption) (by assumption) (by decide)
  | exact om2t (by assumption) (by assumption) (by decide)
  | exact om3t (by assumption) (by assumption) (by decide)
  | exact omC (by assumption) (by decide)
  | exact omCi (by assumption) (by assumption) (by decide)
  | exact omCe (by assumption) (by assumption) (by assumption) (by decide)
  | exact omQ (by assumption) (by assumption) (by decide)
  | exact omD (by assumption)
  | exact omJ (by assumption) (by assumption)
  | exact omK (by assumption) (by assumption)
  | exact omN (by assumption) (by assumption)
  | exact omU (by assumption))
theorem prS {ex : List (List Int)} (s1 : ex.Pairwise fun x y => wlt x y = true) {i k : Nat} (hik : i < k) (hk : k < ex.length) : wlt ex[i] ex[k] = true := List.pairwise_iff_getElem.mp s1 i k (by omega) hk hik
theorem prW {ac : List (List Int)} (s2 : ac.Pairwise wle) {i k : Nat} (hik : i ≤ k) (hk : k < ac.length) : wle ac[i] ac[k] := by
  by_cases e : i = k
  · subst e; exact wle_refl _
  · exact List.pairwise_iff_getElem.mp s2 i k (by omega) hk (by omega)
theorem takeW {ac : List (List Int)} (s2 : ac.Pairwise wle) {j : Nat} (hj : j < ac.length) : ∀ x ∈ ac.take (j + 1), wle x ac[j] := fun x hx => by
  obtain ⟨k, hk⟩ := List.mem_iff_getElem?.mp hx
  obtain ⟨h1, h2⟩ := List.getElem?_eq_some_iff.mp hk
  rw [List.length_take] at h1
  rw [← h2, List.getElem_take]
  exact prW s2 (by omega) hj
theorem wlt_of_le_lt {u v z : List Int} (h1 : wle u v) (h2 : wlt v z = true) : wlt u z = true := by
  cases h : wlt u z with
  | true => rfl
  | false =>
    have := wle_trans (u := z) (v := u) (z := v) h h1
    unfold wle at this
    rw [h2] at this; cases this
theorem notIn1 {ex ac : List (List Int)} (s2 : ac.Pairwise wle) {j : Nat} {u : List Int} (hj : j < ac.length) (hlt : ∀ x ∈ ac.take j, wlt x u = true) (h : wlt u ac[j] = true) : u ∉ ac := fun hm => by
  obtain ⟨k, hk⟩ := List.mem_iff_getElem?.mp hm
  obtain ⟨h1, h2⟩ := List.getElem?_eq_some_iff.mp hk
  by_cases hkj : k < j
  · have := hlt u (List.mem_iff_getElem?.mpr ⟨k, by rw [List.getElem?_take, if_pos hkj]; exact hk⟩)
    rw [wlt_irrefl] at this; cases this
  · have := prW s2 (i := j) (k := k) (by omega) h1
    rw [h2] at this
    unfold wle at this
    rw [h] at this; cases this
theorem dropIn {ex ac : List (List Int)} (s1 : ex.Pairwise fun x y => wlt x y = true) {i : Nat} {u : List Int} (hle : ∀ x ∈ ac, wle x u) (hlt : ∀ h : i < ex.length, wlt u ex[i] = true) : ∀ x ∈ ex.drop i, x ∉ ac := fun x hx hm => by
  obtain ⟨k, hk⟩ := List.mem_iff_getElem?.mp hx
  rw [List.getElem?_drop] at hk
  obtain ⟨h1, h2⟩ := List.getElem?_eq_some_iff.mp hk
  have h3 : wlt u x = true := by
    rw [← h2]
    by_cases hk0 : k = 0
    · subst hk0; exact hlt (by omega)
    · exact wlt_trans (hlt (by omega)) (prS s1 (by omega) h1)
  have := hle x hm
  unfold wle at this
  rw [h3] at this; cases this
theorem filtIn {ex ac : List (List Int)} {i : Nat} (hi : i < ex.length) : ((ex.take (i + 1)).filter fun x => decide (x ∉ ac)) = ((ex.take i).filter fun x => decide (x ∉ ac)) ++ (if ex[i] ∉ ac then [ex[i]] else []) := by
  rw [List.take_add_one, List.getElem?_eq_getElem hi, List.filter_append]
  by_cases h : ex[i] ∈ ac <;> simp [h]
local macro_rules | `(tactic| walk_at "compareOp Gt ref ref") => `(tactic| refine gtW' (by assumption) (by assumption) (by assumption) (by walk_at "units") ?_)
local macro_rules | `(tactic| walk_at "compareOp Lt ref ref") => `(tactic| refine ltW' (by assumption) (by assumption) (by assumption) (by walk_at "units") ?_)
local macro_rules | `(tactic| walk_at "loadName") => `(tactic| refine ldL (by assumption) (by walk_at "mv") ?_ rfl rfl rfl)
theorem c_sld {prog : Program} {w : World} {A : Around} {s : Shared} {P : PM} {outer : List Env} (hz : Fz P s.heap) (S : Sta P) (hroom : A.depth + 10 < recursionLimit) (hA : A.handled = none) (hu : A.units + 300 < cLine) (hfr : A.frames = some outer) (fo : FrsOk s.heap outer)
    {a1 a2 : Addr} {v1 v2 : List Value} {ex ac : List (List Int)} (l1 : LP P a1 v1) (w1 : All2 (WP P) v1 ex) (l2 : LP P a2 v2) (w2 : All2 (WP P) v2 ac) (z1 : ex.length ≤ 100) (z2 : ac.length ≤ 100)
    (s1 : ex.Pairwise fun x y => wlt x y = true) (s2 : ac.Pairwise wle) (hne : ex ≠ []) (hlast : ∀ x, ex.getLast? = some x → x ∉ ac) :
    Con prog w A (outer.filterMap (·.frame)) P s (.ref 28) [.ref a1, .ref a2] (fun P' _ v => ∃ T o x y n, v = .ref T ∧ P' T = some o ∧ o.cls = .type "tuple" ∧ o.data = .seq #[x, y] n ∧ RP P' x (ex.filter fun x => decide (x ∉ ac))) := by
  intro Q E hQ
  refine wpAny_call (enterI (X := outer.filterMap (·.frame)) (c := 27) 3 hz S (by decide) (by omega) (fun pm => rfl) fun h₁ F hk₁ => ?_)
  refine stL F fun h₂ tk F => ?_
  refine stL F fun h₂ tk F => ?_
  refine ⟨(S.mono F.ex.sub).noLimit F.ex.fz, ?_⟩
  have F : Fm ⟨outer.filterMap (·.frame), P, s.heap⟩ P s.heap.objs.size h₂ _ [] := F
  unfold bodyOf
  walk_at "go"
  rename_i D1 hD1 FD1 h₃ tk₃ F₃ D2 hD2 FD2 h₄ tk₄ F₄
  have hlen1 := w1.length
  have hlen2 := w2.length
  have at1 : ∀ i (h : i < ex.length), ∃ a, v1[i]? = some (.ref a) ∧ WP P (.ref a) ex[i] := fun i h => by
    obtain ⟨v, e1, e2⟩ := w1.get' (List.getElem?_eq_getElem h)
    obtain ⟨a, vs, rfl, q⟩ := id e2
    exact ⟨a, e1, e2⟩
  have at2 : ∀ i (h : i < ac.length), ∃ a, v2[i]? = some (.ref a) ∧ WP P (.ref a) ac[i] := fun i h => by
    obtain ⟨v, e1, e2⟩ := w2.get' (List.getElem?_eq_getElem h)
    obtain ⟨a, vs, rfl, q⟩ := id e2
    exact ⟨a, e1, e2⟩
  refine whl (fun n P' m N => P = P' ∧ ∃ i j, ∃ hi : i < ex.length, n = (ex.length - i) + (ac.length - j) ∧ SJ P a1 a2 D1 D2 ex ac i j m N ∧ ∀ x ∈ ac.take j, wlt x ex[i] = true) F₄ (ex.length + ac.length) ?_ ?_
  · exact ⟨rfl, 0, 0, List.length_pos_iff.mpr hne, rfl, ⟨_, _, [], [], rfl, rfl, rfl, rfl, rfl, rfl, rfl, .nil, Nat.le_refl _, Nat.zero_le _, Nat.zero_le _⟩, by simp⟩
  · rintro n P' m N h tk K hK ⟨rfl, i, j, hi, hn, ⟨t1, t2, mv, uv, m1, m2, m3, m4, m5, m6, rfl, hmv, huv, _, hj⟩, hlt⟩ F₅
    walk1
    walk1
    walk1
    rw [if_pos rfl]
    walk1
    refine tryX (b := ⟨outer.filterMap (·.frame), P, s.heap⟩) (P := P) (L := s.heap.objs.size) (outer := outer) (fun m N => ∃ i j, SJ P a1 a2 D1 D2 ex ac i j m N ∧ ∀ x ∈ ex.drop i, x ∉ ac) rfl (by show Option.map _ A.frames = _; rw [hfr]; rfl) fo rfl rfl ?_ ?_ ?_
    · have h63 : (100 : Int) < 2 ^ 63 := by decide
      have hi63 : (i : Int) < 2 ^ 63 := by omega
      have hj63 : (j : Int) < 2 ^ 63 := by omega
      obtain ⟨ae, e1, we⟩ := at1 i hi
      walk_at "go"
      refine itL1 (by exact F₅) (.frz l1) (by omega) (by simpa using e1) hi63 ?_
      walk_at "go"
      rename_i h₆ tk₆ F₆
      by_cases hj2 : j < ac.length
      · obtain ⟨aa, e2, wa⟩ := at2 j hj2
        refine itL1 (by exact F₆) (.frz l2) (by omega) (by simpa using e2) hj63 ?_
        have hmvl := hmv.length
        have hmvz : mv.length ≤ 100 := by
          rw [hmvl]
          exact Nat.le_trans (List.length_filter_le _ _) (by rw [List.length_take]; omega)
        have hfr' : (A.deeper (envI 3 s.heap.objs.size 28 27)).frames = some (envI 3 s.heap.objs.size 28 27 :: outer) := by show Option.map _ A.frames = _; rw [hfr]; rfl
        walk_at "go"
        · rename (wlt ex[i] ac[j] = true) => hq
          rename (Fm _ _ _ _ _ _) => F₇
          have hnin : ex[i] ∉ ac := notIn1 (ex := ex) s2 hj2 hlt hq
          refine sldA (s₀ := ⟨h, s.gens, s.drawn, tk, s.os⟩) (outer := outer) (i := i + 1) (j := j) (D1 := D1) (D2 := D2) (a2 := a2) (ac := ac) ⟨rfl, rfl, rfl⟩ rfl hA (by walk_at "units") hfr' fo l1 w1 z1 we (by exact F₇)
            ⟨_, t2, _, uv, by walk_at "mv", by walk_at "mv", rfl, by walk_at "mv", by walk_at "mv", by walk_at "mv", rfl, by rw [filtIn hi, if_pos hnin]; exact hmv.snoc we, huv, hi, hj⟩ rfl (fun h' q => ?_) (fun h' tk' hi2 F₈ => ?_) ?_
          · have := prS s1 (Nat.lt_succ_self i) h'
            rw [q, wlt_irrefl] at this; cases this
          · walk_at "go"
            try walk_at "to"
            refine ⟨⟨rfl, rfl, rfl⟩, _, P, _, _, ?_, F₈, rfl, i + 1, j, hi2, rfl, ⟨_, t2, _, uv, by walk_at "mv", by walk_at "mv", rfl, by walk_at "mv", by walk_at "mv", by walk_at "mv", rfl, by rw [filtIn hi, if_pos hnin]; exact hmv.snoc we, huv, hi, hj⟩, ?_⟩
            · omega
            · intro x hx
              exact wlt_trans (hlt x hx) (prS s1 (Nat.lt_succ_self i) hi2)
          · rintro v s' ⟨e, m', N', rfl, hs', F₈, x₈, he, rfl, rfl⟩
            refine ⟨e, _, _, rfl, hs', F₈, x₈, i + 1, j, ⟨_, t2, _, uv, by walk_at "mv", by walk_at "mv", rfl, by walk_at "mv", by walk_at "mv", by walk_at "mv", rfl, by rw [filtIn hi, if_pos hnin]; exact hmv.snoc we, huv, hi, hj⟩, ?_⟩
            rw [he, List.drop_length]
            exact fun x hx => nomatch hx
        · rename (wlt ac[j] ex[i] = true) => hq
          rename (Fm _ _ _ _ _ _) => F₇
          refine sldB (s₀ := ⟨h, s.gens, s.drawn, tk, s.os⟩) (outer := outer) (i := i) (j := j + 1) (D1 := D1) (D2 := D2) (a1 := a1) (ex := ex) ⟨rfl, rfl, rfl⟩ rfl hA (by walk_at "units") hfr' fo l2 w2 z2 wa (by exact F₇)
            ⟨t1, _, mv, _, by walk_at "mv", by walk_at "mv", by walk_at "mv", rfl, by walk_at "mv", by walk_at "mv", rfl, hmv, by simp; omega, Nat.le_of_lt hi, hj2⟩ rfl (takeW s2 hj2) (fun h' tk' m' N' j' hj1 hj3 F₈ st hle => ?_) ?_
          · walk_at "go"
            try walk_at "to"
            refine ⟨⟨rfl, rfl, rfl⟩, _, P, _, _, ?_, F₈, rfl, i, j', hi, rfl, st, ?_⟩
            · omega
            · intro x hx
              exact wlt_of_le_lt (hle x hx) hq
          · rintro v s' ⟨e, m', N', rfl, hs', F₈, x₈, st, hle⟩
            exact ⟨e, _, _, rfl, hs', F₈, x₈, i, _, st, dropIn s1 hle fun _ => hq⟩
        · rename (wlt ex[i] ac[j] = false) => hq1
          rename (wlt ac[j] ex[i] = false) => hq2
          rename (Fm _ _ _ _ _ _) => F₇
          have heq : ex[i] = ac[j] := wlt_total hq1 hq2
          have hin : ex[i] ∈ ac := by rw [heq]; exact List.getElem_mem _
          have hi2 : i + 1 < ex.length := by
            by_cases q : i + 1 < ex.length
            · exact q
            · exfalso
              refine hlast ex[i] ?_ hin
              rw [List.getLast?_eq_getElem?, show ex.length - 1 = i by omega, List.getElem?_eq_getElem hi]
          have st1 : ∀ t3, SJ P a1 a2 D1 D2 ex ac (i + 1) j (mset (mset (mset m "e" (.ref ae)) "a" (.ref aa)) "i" (.int ((i : Int) + 1) t3)) [(D2, .list uv), (D1, .list mv)] := fun t3 =>
            ⟨_, t2, mv, uv, by walk_at "mv", by walk_at "mv", rfl, by walk_at "mv", by walk_at "mv", by walk_at "mv", rfl, by rw [filtIn hi, if_neg (fun q => q hin), List.append_nil]; exact hmv, huv, hi, hj⟩
          refine sldA (s₀ := ⟨h, s.gens, s.drawn, tk, s.os⟩) (outer := outer) (i := i + 1) (j := j) (D1 := D1) (D2 := D2) (a2 := a2) (ac := ac) ⟨rfl, rfl, rfl⟩ rfl hA (by walk_at "units") hfr' fo l1 w1 z1 we (by exact F₇)
            (st1 _) rfl (fun h' q => ?_) (fun h' tk' hi3 F₈ => ?_) ?_
          · have := prS s1 (Nat.lt_succ_self i) h'
            rw [q, wlt_irrefl] at this; cases this
          · walk_at "go"
            rename (Fm _ _ _ _ _ _) => F₉
            refine sldB (s₀ := ⟨h, s.gens, s.drawn, tk, s.os⟩) (outer := outer) (i := i + 1) (j := j + 1) (D1 := D1) (D2 := D2) (a1 := a1) (ex := ex) ⟨rfl, rfl, rfl⟩ rfl hA (by walk_at "units") hfr' fo l2 w2 z2 wa (by exact F₉)
              ⟨_, _, mv, uv, by walk_at "mv", by walk_at "mv", rfl, rfl, by walk_at "mv", by walk_at "mv", rfl, by rw [filtIn hi, if_neg (fun q => q hin), List.append_nil]; exact hmv, by omega, hi, hj2⟩ rfl (takeW s2 hj2) (fun h' tk' m' N' j' hj1 hj3 F₈ st hle => ?_) ?_
            · walk_at "go"
              try walk_at "to"
              refine ⟨⟨rfl, rfl, rfl⟩, _, P, _, _, ?_, F₈, rfl, i + 1, j', hi2, rfl, st, ?_⟩
              · omega
              · intro x hx
                exact wlt_of_le_lt (hle x hx) (by rw [← heq]; exact prS s1 (Nat.lt_succ_self i) hi2)
            · intro v s' x
              refine x.noted rfl hfr' fo rfl rfl fun s'' x' => Exi.came x' rfl fun s3 x3 => ?_
              obtain ⟨e, m', N', rfl, hs', F₈, x₈, st, hle⟩ := x3
              exact ⟨e, _, _, rfl, hs', F₈, x₈, i + 1, _, st, dropIn s1 hle fun _ => by rw [← heq]; exact prS s1 (Nat.lt_succ_self i) hi2⟩
          · rintro v s' ⟨e, m', N', rfl, hs', F₈, x₈, he, rfl, rfl⟩
            omega
      · refine itX (by exact F₆) (FrsOk.xfr (b := ⟨outer.filterMap (·.frame), P, s.heap⟩) fo rfl) hA (.frz l2) (by omega) hj63 fun e h₇ tk₇ F₇ x₇ => ?_
        refine ⟨e, _, _, rfl, ⟨rfl, rfl, rfl⟩, F₇, .inl x₇, i, j, ⟨t1, t2, mv, uv, m1, m2, m3, m4, m5, m6, rfl, hmv, huv, Nat.le_of_lt hi, hj⟩, ?_⟩
        have e : j = ac.length := by omega
        rw [e, List.take_length] at hlt
        intro x hx hm
        obtain ⟨k, hk⟩ := List.mem_iff_getElem?.mp hx
        rw [List.getElem?_drop] at hk
        obtain ⟨q1, q2⟩ := List.getElem?_eq_some_iff.mp hk
        have q3 := hlt x hm
        by_cases hk0 : k = 0
        · subst hk0
          rw [← q2] at q3
          have : wlt ex[i] ex[i] = true := q3
          rw [wlt_irrefl] at this; cases this
        · have q4 := prS s1 (i := i) (k := i + k) (by omega) q1
          rw [q2] at q4
          rw [wlt_asymm q3] at q4; cases q4
    · intro e h' tk' m' N' Q' F' q
      walk1
      exact q
    · rintro e h' tk' m' N' F' ⟨i, j, ⟨t1, t2, mv, uv, m1, m2, m3, m4, m5, m6, rfl, hmv, huv, hi, hj⟩, hd⟩
      walk1
      walk1
      refine meN PySem.F.slot_list_extend PySem.F.type_list_extend (by exact F') m5 (by walk_at "mem") ?_
      walk_at "go"
      dsimp only
      have z100 : (100 : Nat) ≤ sizeLine := by decide
      refine slL (by exact F') (.frz l1) (.int _ _) .none .none (by decide) (pick_from (by omega)) (by omega) fun D3 h3 F3 => ?_
      rw [Int.toNat_natCast] at F3
      have hmvl := hmv.length
      have hmvz : mv.length ≤ 100 := by
        rw [hmvl]
        exact Nat.le_trans (List.length_filter_le _ _) (by rw [List.length_take]; omega)
      refine exL (by exact F3) (by walk_at "up") (.led (.head _)) (by rw [List.length_drop]; omega) fun h4 F4 => ?_
      walk1
      walk1
      refine meN PySem.F.slot_list_extend PySem.F.type_list_extend (by exact F4) m6 (by walk_at "mem") ?_
      walk_at "go"
      dsimp only
      refine slL (by exact F4) (.frz l2) (.int _ _) .none .none (by decide) (pick_from (by omega)) (by omega) fun D4 h5 F5 => ?_
      rw [Int.toNat_natCast] at F5
      refine exL (by exact F5) (by walk_at "up") (.led (.head _)) (by rw [List.length_drop]; omega) fun h6 F6 => ?_
      walk_at "go"
      refine wpAny_newTuple ?_ (show 2 ≤ sizeLine by decide)
      have F7 := F6.push (o := { cls := .type "tuple", data := .seq #[.ref D1, .ref D2] 0 }) (k := .is _) rfl (ty_ne "tuple") rfl
      obtain ⟨P7, ex7, led7, _, sub7⟩ := F7.iceAll
      have xf := FrsOk.xfr (b := ⟨outer.filterMap (·.frame), P, s.heap⟩) fo rfl
      obtain ⟨oT, pT, _, rfl⟩ := led7 _ (.head _) (F7.offX xf (.head _))
      obtain ⟨o1, p1, _, k1, _, n1, k2⟩ := led7 (D1, .list (mv ++ v1.drop i)) (by walk_at "mem") (F7.offX xf (p := (D1, .list (mv ++ v1.drop i))) (by walk_at "mem"))
      refine hQ _ _ _ P7 ex7 ⟨_, _, _, _, _, rfl, pT, rfl, rfl, D1, _, rfl, ⟨o1, n1, p1, k1, k2⟩, ?_⟩
      have e : (ex.filter fun x => decide (x ∉ ac)) = ((ex.take i).filter fun x => decide (x ∉ ac)) ++ ex.drop i := by
        rw [← List.take_append_drop i ex, List.filter_append]
        congr 1
        · rw [List.take_append_drop]
        · rw [List.filter_eq_self.mpr (fun x hx => by simpa using hd x (by simpa using hx))]
          simp
      rw [e]
      exact (hmv.append (w1.drop i)).mono fun _ _ q => q.mono sub7
end

/-! text Lam -/
section
open PySem PySem.W PyProof.Rows PySem.Calls PySem.Spec
set_option maxRecDepth 100000
set_option maxHeartbeats 400000
set_option pp.deepTerms false
set_option pp.maxSteps 6000
local macro_rules | `(tactic| omega) => `(tactic| with_reducible first
  | assumption
  | exact Nat.zero_le _
  | exact Int.natCast_nonneg _
  | exact om0 (by assumption)
  | exact om1 (by assumption) (by decide)
  | exact om2 (by assumption) (by decide)
  | exact om3 (by assumption) (by decide)
  | exact om4 (by assumption) (by decide)
  | exact omT (by assumption)
  | exact omI (by assumption) (by assumption)
  | exact omI' (by assumption) (by assumption)
  | exact omL (by assumption) (by first | assumption | decide)
  | exact omLt (by assumption) (by first | assumption | decide)
  | exact omS (by assumption) (by first | assumption | decide)
  | exact omV (by assumption) (by first | assumption | decide)
  | exact omW (by assumption) (by first | assumption | decide)
  | exact omE (by assumption) (by assumption) (by first | assumption | decide)
  | exact omE' (by assumption) (by assumption) (by first | assumption | decide)
  | exact om1l (by assumption) (by decide)
  | exact om2l (by assumption) (by decide)
  | exact om1t (by assumption) (by assumption) (by decide)
  | exact om2t (by assumption) (by assumption) (by decide)
  | exact om3t (by assumption) (by assumption) (by decide)
  | exact omC (by assumption) (by decide)
  | exact omCi (by assumption) (by assumption) (by decide)
  | exact omCe (by assumption) (by assumption) (by assumption) (by decide)
  | exact omQ (by assumption) (by assumption) (by decide)
  | exact omD (by assumption)
  | exact omJ (by assumption) (by assumption)
  | exact omK (by assumption) (by assumption)
  | exact omN (by assumption) (by assumption)
  | exact omU (by assumption))
noncomputable def lamE (j : Nat) : PySem.Expr := match (bodyOf (stm 18))[j]? with
  | some (.Assign _ (.Call _ (e :: _) _ _) _) => e
  | _ => .Name "" default
noncomputable def lamB : PySem.Expr → PySem.Expr
  | .Lambda _ b _ _ => b
  | e => e
noncomputable def lamS : PySem.Expr → PySem.Scope
  | .Lambda _ _ sc _ => sc
  | _ => default
noncomputable def lamP : PySem.Expr → Arguments
  | .Lambda a _ _ _ => a
  | _ => default
section
variable {prog : Program} {w : World} {A : Around} {s : Shared} {P : PM}
theorem enterE {R : Result → Shared → Prop} {X : List Addr} {a : Addr} {o : Obj} {fd : FuncData} {body : PySem.Expr} {args : List Value} {binds : List (PySem.Str × Value)}
    (hz : ∀ c o, P c = some o → s.heap.get? c = some o ∧ o.cls ≠ fcls) (hroom : A.depth < recursionLimit) (ho : s.heap.get? a = some o) (hd : o.data = .func fd) (hcd : s.heap.CodeRec fd.code fd.qualname)
    (hbody : fd.body = .expr body)
    (hbind : ∀ (Q : List (PySem.Str × Value) → Shared → Prop) (E : Value → Shared → Prop), Q binds s → wpAny (model prog w) A.in1 (bindArgs fd ⟨args, []⟩) Q E s)
    (h : ∀ h₁, Fm ⟨X, P, s.heap⟩ P s.heap.objs.size h₁ (fun _ => none) (cellLed (s.heap.objs.size + 1) fd.scope.names) → (∀ c o, s.heap.get? c = some o → h₁.get? c = some o) →
      StoresWp (model prog w) A.in1 (newEnv fd.scope s.heap.objs.size fd.globals (cellsFrom (s.heap.objs.size + 1) fd.scope.names fd.closure) (fd.qualname ++ ".<locals>.") (some a) fd.code none fd.builtins)
        (fun s' => s'.heap.NoLimit ∧ wpAny (model prog w) (A.deeper (newEnv fd.scope s.heap.objs.size fd.globals (cellsFrom (s.heap.objs.size + 1) fd.scope.names fd.closure) (fd.qualname ++ ".<locals>.") (some a) fd.code none fd.builtins))
          (eval body (newEnv fd.scope s.heap.objs.size fd.globals (cellsFrom (s.heap.objs.size + 1) fd.scope.names fd.closure) (fd.qualname ++ ".<locals>.") (some a) fd.code none fd.builtins))
          (fun v s'' => R (.ok (.ret v)) s'') (fun _ _ => False) s') (fun _ _ => False) binds { s with heap := h₁ })
    (hco : fd.scope.isCoroutine = false := by rfl) (hgen : fd.scope.isGenerator = false := by rfl) :
    codeAny (model prog w) A (.call (.ref a) ⟨args, []⟩) R s := by
  refine kla_callFunE hroom ho hd hco hgen hbody hcd ?_
  refine hbind _ _ ?_
  refine enterEnv (X := X) hz fun h₁ F hk => StoresWp.mono (fun s' q => ⟨q.1, kla_codeExpr ?_⟩) (fun _ _ q => q.elim) binds _ (h h₁ F hk)
  exact wpAny_mono q.2 (fun v s'' r => r) fun _ _ q => q.elim
end
/-- one of law's lambdas stands at f, its rows in a frozen cell -/
noncomputable def LamAt (P : PM) (j : Nat) (f : Addr) (ra : Addr) : Prop := ∃ cl oc c' pm ctv doc, P f = some (fnO "<lambda>" "law.<locals>.<lambda>" (lamP (lamE j)) (.expr (lamB (lamE j))) (lamS (lamE j)) [("rows", cl)] pm (.ref c') ctv doc) ∧ CodeRecP P c' "law.<locals>.<lambda>" ∧
  P cl = some oc ∧ oc.data = .cell (some (.ref ra))
theorem LamAt.mono {P P' : PM} {j : Nat} {f ra : Addr} (x : LamAt P j f ra) (hs : ∀ c o, P c = some o → P' c = some o) : LamAt P' j f ra :=
  by obtain ⟨cl, oc, c', pm, ctv, doc, e1, e2, e3, e4⟩ := x; exact ⟨cl, oc, c', pm, ctv, doc, hs _ _ e1, e2.mono hs, hs _ _ e3, e4⟩
/-- what the lambdas ask of the rows -/
noncomputable def RowOk (ex ac : List (List Int)) : Prop := ex.Pairwise (fun x y => wlt x y = true) ∧ ex ≠ [] ∧ (∀ x, ex.getLast? = some x → x ∉ ac) ∧ ex.length ≤ 3 ∧ ac.length < 64
theorem c_lam1 {prog : Program} {w : World} {A : Around} {s : Shared} {P : PM} {outer : List Env} (hz : Fz P s.heap) (S : Sta P) (hroom : A.depth ≤ 380) (hA : A.handled = none) (hu : A.units ≤ 600) (hT : KTab P s.heap) (hfr : A.frames = some outer) (fo : FrsOk s.heap outer)
    {f ra : Addr} {vs : List Value} {rr : List (List (List Int))} (hf : LamAt P 3 f ra) (hl : LP P ra vs) (hr : All2 (RP P) vs rr) (hn : rr.length ≤ 7) {k : Nat} {t : Tok} (hk : k < rr.length) (hok : RowOk rr[k] (rr.take k).flatten)
    {ta : Addr} {tvs : List Value} {told : List (List Int)} (htl : LP P ta tvs) (htw : All2 (WP P) tvs told) (htz : told.length ≤ 100) :
    Con prog w A (37 :: outer.filterMap (·.frame)) P s (.ref f) [.ref ta, .int k t] (fun P' h' v => KTab P' h' ∧ RP P' v (told ++ rr[k].filter fun x => decide (x ∉ (rr.take k).flatten))) := by
  intro Q E hQ
  have h37 : 37 < s.heap.objs.size := let ⟨_, _, e, _⟩ := hT; Heap.lt_size e
  obtain ⟨cl, oc, c', pm, ctv, doc, pf, ⟨o3, vs3, tt, e1, e2, e3⟩, pcl, hcd⟩ := hf
  have hroom' : A.depth + 20 < recursionLimit := Nat.lt_of_le_of_lt (Nat.add_le_add_right hroom 20) (by decide)
  refine wpAny_call (enterE (X := 37 :: outer.filterMap (·.frame)) (P := P) (body := lamB (lamE 3)) (binds := [("told", .ref ta), ("k", .int k t)]) hz (by omega) (hz _ _ pf).1 rfl ⟨c', o3, vs3, tt, rfl, (hz _ _ e1).1, e2, e3⟩ rfl (fun Q E q => by exact wpAny_pure q) fun h₁ F hk₁ => ?_)
  have F : Fm ⟨37 :: outer.filterMap (·.frame), P, s.heap⟩ P s.heap.objs.size h₁ (fun _ => none) [] := F
  obtain ⟨ps, F, k37⟩ := F.take37 (let ⟨e0, ps, e, k⟩ := hT; ⟨e0, ps, hk₁ _ _ e, k⟩) (.head _) (by simp)
  refine stL F fun h₂ tk F => ?_
  refine stL F fun h₂ tk F => ?_
  refine ⟨(S.mono F.ex.sub).noLimit F.ex.fz, ?_⟩
  obtain ⟨e, he⟩ : ∃ e, lamB (lamE 3) = e := ⟨_, rfl⟩
  rw [he]
  conv at he => lhs; whnf
  subst he
  walk1
  walk1
  walk1
  walk1
  walk1
  walk1
  walk1
  walk1
  refine nmZ (by exact F) rfl pcl hcd ?_
  walk_at "go"
  obtain ⟨rv, erv, ak, kvs, rfl, lk, wk⟩ : ∃ rv, vs[k]? = some rv ∧ RP P rv rr[k] := hr.get' (List.getElem?_eq_getElem hk)
  have h63 : (100 : Int) < 2 ^ 63 := by decide
  have z100 : (1000 : Nat) ≤ sizeLine := by decide
  have hvl := hr.length
  refine itL1 (by exact F) (.frz hl) (by omega) (by simpa using erv) (by omega) ?_
  walk1
  walk1
  walk1
  walk1
  walk1
  walk1
  refine nmZ (by exact F) rfl pcl hcd ?_
  walk_at "go"
  dsimp only
  refine slL (by exact F) (.frz hl) .none (.int _ _) .none (by decide) (pick_upto (by omega)) (by omega) fun D h3 F => ?_
  rw [Int.toNat_natCast] at F
  have hD := F.newX (fo.x37 (.head _))
  obtain ⟨P1, F, l1, sub1⟩ := F.frzL hD
  walk_at "go"
  have kt := F.ktab (.head _) (k37.mono sub1)
  obtain ⟨ok1, ok2, ok3, ok4, ok5⟩ := hok
  refine Con.use ?_ (c_rising (by exact F.ex.fz) (F.sta S) (by show A.depth + 1 ≤ 390; omega) (by exact hA) (by simp only [Around.deeper_units]; omega) kt l1 ((hr.take k).mono fun _ _ q => q.mono sub1) ok5)
  rintro v h4 tk4 P2 ex2 ⟨kt2, ar, avs, rfl, la, wa⟩
  have F := (F.drop (N' := []) (.cons _ (List.Sublist.refl _))).call ex2 (fun a ha => .inr (by rw [List.mem_singleton.mp ha]; exact .head _)) (fun p hp => nomatch hp)
  obtain ⟨ps2, F, k372⟩ := F.take37 kt2 (.head _) (by simp)
  have sub2 := ex2.sub
  walk_at "go"
  have hmem : ∀ x, x ∈ wsort (rr.take k).flatten ↔ x ∈ (rr.take k).flatten := fun x => (wsort_perm _).mem_iff
  have hwl : (wsort (rr.take k).flatten).length = (rr.take k).flatten.length := (wsort_perm _).length_eq
  have cl9 := cLine_is
  refine Con.use ?_ (c_sld (by exact F.ex.fz) (F.sta S) (by show A.depth + 1 + 10 < _; omega) (by exact hA) (by simp only [Around.deeper_units]; omega) (by show Option.map _ A.frames = _; rw [hfr]; rfl) (by exact F.frs fo rfl rfl)
    ((lk.mono sub1).mono sub2) ((wk.mono fun _ _ q => q.mono sub1).mono fun _ _ q => q.mono sub2) la wa (by omega) (by omega) ok1 (wsort_pw _) ok2 (fun x hx hm => ok3 x hx ((hmem x).mp hm)))
  rintro v h5 tk5 P3 ex3 ⟨T, oT, x, y, nT, rfl, pT, cT, dT, xa, xvs, rfl, lx, wx⟩
  have F := F.call ex3 (F.upFr rfl fun a ha => .tail _ ha) (fun p hp => F.offFr (F.frs fo rfl rfl) hp)
  have sub3 := ex3.sub
  walk_at "go"
  refine item_tupleT (l := [.ref xa, y]) (j := 0) (x := .ref xa) ⟨oT, (F.ex.fz _ _ pT).1, cT, nT, dT⟩ (by decide) (by decide) rfl rfl ?_
  walk_at "go"
  have htl3 := ((htl.mono sub1).mono sub2).mono sub3
  have hxl := wx.length
  have hfl : (rr[k].filter fun x => decide (x ∉ wsort (rr.take k).flatten)).length ≤ 3 := Nat.le_trans (List.length_filter_le _ _) ok4
  have htvl := htw.length
  refine adL (by exact F) (.frz htl3) (.frz lx) (by omega) fun D2 h6 F => ?_
  have hD2 := F.newX (fo.x37 (.head _))
  obtain ⟨P4, F, l4, sub4⟩ := F.frzL hD2
  refine hQ _ _ _ P4 F.ex ⟨F.ktab (.head _) ((k372.mono sub3).mono sub4), D2, _, rfl, l4, ?_⟩
  have e : (rr[k].filter fun x => decide (x ∉ (rr.take k).flatten)) = rr[k].filter fun x => decide (x ∉ wsort (rr.take k).flatten) := by
    refine List.filter_congr fun x _ => ?_
    simp only [hmem]
  rw [e]
  exact ((((htw.mono fun _ _ q => q.mono sub1).mono fun _ _ q => q.mono sub2).mono fun _ _ q => q.mono sub3).append wx).mono fun _ _ q => q.mono sub4
end

/-! text Lam2 -/
section
open PySem PySem.W PyProof.Rows PySem.Calls PySem.Spec
set_option maxRecDepth 100000
set_option maxHeartbeats 400000
set_option pp.deepTerms false
set_option pp.maxSteps 6000
local macro_rules | `(tactic| omega) => `(tactic| with_reducible first
  | assumption
  | exact Nat.zero_le _
  | exact Int.natCast_nonneg _
  | exact om0 (by assumption)
  | exact om1 (by assumption) (by decide)
  | exact om2 (by assumption) (by decide)
  | exact om3 (by assumption) (by decide)
  | exact om4 (by assumption) (by decide)
  | exact omT (by assumption)
  | exact omI (by assumption) (by assumption)
  | exact omI' (by assumption) (by assumption)
  | exact omL (by assumption) (by first | assumption | decide)
  | exact omLt (by assumption) (by first | assumption | decide)
  | exact omS (by assumption) (by first | assumption | decide)
  | exact omV (by assumption) (by first | assumption | decide)
  | exact omW (by assumption) (by first | assumption | decide)
  | exact omE (by assumption) (by assumption) (by first | assumption | decide)
  | exact omE' (by assumption) (by assumption) (by first | assumption | decide)
  | exact om1l (by assumption) (by decide)
  | exact om2l (by assumption) (by decide)
  | exact om1t (by assumption) (by assumption) (by decide)
  | exact om2t (by assumption) (by assumption) (by decide)
  | exact om3t (by assumption) (by assumption) (by decide)
  | exact omC (by assumption) (by decide)
  | exact omCi (by assumption) (by assumption) (by decide)
  | exact omCe (by assumption) (by assumption) (by assumption) (by decide)
  | exact omQ (by assumption) (by assumption) (by decide)
  | exact omD (by assumption)
  | exact omJ (by assumption) (by assumption)
  | exact omK (by assumption) (by assumption)
  | exact omN (by assumption) (by assumption)
  | exact omU (by assumption))
theorem c_lam2 {prog : Program} {w : World} {A : Around} {s : Shared} {P : PM} {outer : List Env} (hz : Fz P s.heap) (S : Sta P) (hroom : A.depth ≤ 380) (hA : A.handled = none) (hu : A.units ≤ 600) (hT : KTab P s.heap) (hfr : A.frames = some outer) (fo : FrsOk s.heap outer)
    {f ra : Addr} {vs : List Value} {rr : List (List (List Int))} (hf : LamAt P 4 f ra) (hl : LP P ra vs) (hr : All2 (RP P) vs rr) (hn : rr.length ≤ 7) {k : Nat} {t : Tok} (hk : k < rr.length) (hok : RowOk rr[k] (rr.drop (k + 1)).flatten)
    {ta : Addr} {tvs : List Value} {told : List (List Int)} (htl : LP P ta tvs) (htw : All2 (WP P) tvs told) (htz : told.length ≤ 100) :
    Con prog w A (37 :: outer.filterMap (·.frame)) P s (.ref f) [.ref ta, .int k t] (fun P' h' v => KTab P' h' ∧ RP P' v (told ++ (rr[k].filter fun x => decide (x ∉ (rr.drop (k + 1)).flatten)).reverse)) := by
  intro Q E hQ
  have h37 : 37 < s.heap.objs.size := let ⟨_, _, e, _⟩ := hT; Heap.lt_size e
  obtain ⟨cl, oc, c', pm, ctv, doc, pf, ⟨o3, vs3, tt, e1, e2, e3⟩, pcl, hcd⟩ := hf
  have hroom' : A.depth + 20 < recursionLimit := Nat.lt_of_le_of_lt (Nat.add_le_add_right hroom 20) (by decide)
  refine wpAny_call (enterE (X := 37 :: outer.filterMap (·.frame)) (P := P) (body := lamB (lamE 4)) (binds := [("told", .ref ta), ("k", .int k t)]) hz (by omega) (hz _ _ pf).1 rfl ⟨c', o3, vs3, tt, rfl, (hz _ _ e1).1, e2, e3⟩ rfl (fun Q E q => by exact wpAny_pure q) fun h₁ F hk₁ => ?_)
  have F : Fm ⟨37 :: outer.filterMap (·.frame), P, s.heap⟩ P s.heap.objs.size h₁ (fun _ => none) [] := F
  obtain ⟨ps, F, k37⟩ := F.take37 (let ⟨e0, ps, e, k⟩ := hT; ⟨e0, ps, hk₁ _ _ e, k⟩) (.head _) (by simp)
  refine stL F fun h₂ tk F => ?_
  refine stL F fun h₂ tk F => ?_
  refine ⟨(S.mono F.ex.sub).noLimit F.ex.fz, ?_⟩
  obtain ⟨e, he⟩ : ∃ e, lamB (lamE 4) = e := ⟨_, rfl⟩
  rw [he]
  conv at he => lhs; whnf
  subst he
  walk1
  walk1
  walk1
  walk1
  walk1
  walk1
  walk1
  walk1
  walk1
  refine nmZ (by exact F) rfl pcl hcd ?_
  walk_at "go"
  obtain ⟨rv, erv, ak, kvs, rfl, lk, wk⟩ : ∃ rv, vs[k]? = some rv ∧ RP P rv rr[k] := hr.get' (List.getElem?_eq_getElem hk)
  have h63 : (100 : Int) < 2 ^ 63 := by decide
  have z100 : (1000 : Nat) ≤ sizeLine := by decide
  have hvl := hr.length
  refine itL1 (by exact F) (.frz hl) (by omega) (by simpa using erv) (by omega) ?_
  walk1
  walk1
  walk1
  walk1
  walk1
  walk1
  refine nmZ (by exact F) rfl pcl hcd ?_
  walk_at "go"
  dsimp only
  refine slL (by exact F) (.frz hl) (.int _ _) .none .none (by decide) (pick_from (by omega)) (by omega) fun D h3 F => ?_
  rw [show ((k : Int) + 1).toNat = k + 1 by omega] at F
  have hD := F.newX (fo.x37 (.head _))
  obtain ⟨P1, F, l1, sub1⟩ := F.frzL hD
  walk_at "go"
  have kt := F.ktab (.head _) (k37.mono sub1)
  obtain ⟨ok1, ok2, ok3, ok4, ok5⟩ := hok
  refine Con.use ?_ (c_rising (by exact F.ex.fz) (F.sta S) (by show A.depth + 1 ≤ 390; omega) (by exact hA) (by simp only [Around.deeper_units]; omega) kt l1 ((hr.drop (k + 1)).mono fun _ _ q => q.mono sub1) ok5)
  rintro v h4 tk4 P2 ex2 ⟨kt2, ar, avs, rfl, la, wa⟩
  have F := (F.drop (N' := []) (.cons _ (List.Sublist.refl _))).call ex2 (fun a ha => .inr (by rw [List.mem_singleton.mp ha]; exact .head _)) (fun p hp => nomatch hp)
  obtain ⟨ps2, F, k372⟩ := F.take37 kt2 (.head _) (by simp)
  have sub2 := ex2.sub
  walk_at "go"
  have hmem : ∀ x, x ∈ wsort (rr.drop (k + 1)).flatten ↔ x ∈ (rr.drop (k + 1)).flatten := fun x => (wsort_perm _).mem_iff
  have hwl : (wsort (rr.drop (k + 1)).flatten).length = (rr.drop (k + 1)).flatten.length := (wsort_perm _).length_eq
  have cl9 := cLine_is
  refine Con.use ?_ (c_sld (by exact F.ex.fz) (F.sta S) (by show A.depth + 1 + 10 < _; omega) (by exact hA) (by simp only [Around.deeper_units]; omega) (by show Option.map _ A.frames = _; rw [hfr]; rfl) (by exact F.frs fo rfl rfl)
    ((lk.mono sub1).mono sub2) ((wk.mono fun _ _ q => q.mono sub1).mono fun _ _ q => q.mono sub2) la wa (by omega) (by omega) ok1 (wsort_pw _) ok2 (fun x hx hm => ok3 x hx ((hmem x).mp hm)))
  rintro v h5 tk5 P3 ex3 ⟨T, oT, x, y, nT, rfl, pT, cT, dT, xa, xvs, rfl, lx, wx⟩
  have F := F.call ex3 (F.upFr rfl fun a ha => .tail _ ha) (fun p hp => F.offFr (F.frs fo rfl rfl) hp)
  have sub3 := ex3.sub
  walk_at "go"
  refine item_tupleT (l := [.ref xa, y]) (j := 0) (x := .ref xa) ⟨oT, (F.ex.fz _ _ pT).1, cT, nT, dT⟩ (by decide) (by decide) rfl rfl ?_
  walk_at "go"
  have htl3 := ((htl.mono sub1).mono sub2).mono sub3
  have hxl := wx.length
  have hfl : (rr[k].filter fun x => decide (x ∉ wsort (rr.drop (k + 1)).flatten)).length ≤ 3 := Nat.le_trans (List.length_filter_le _ _) ok4
  have htvl := htw.length
  dsimp only
  refine slL (by exact F) (.frz lx) .none .none (.int _ _) (by decide) pick_rev (by omega) fun D3 h7 F => ?_
  walk_at "go"
  refine adL (by exact F) (.frz htl3) (.led (.head _)) (by rw [List.length_reverse]; omega) fun D2 h6 F => ?_
  have F := F.drop (.cons_cons _ (.cons _ (List.Sublist.refl _)))
  have hD2 := F.newX (fo.x37 (.head _))
  obtain ⟨P4, F, l4, sub4⟩ := F.frzL hD2
  refine hQ _ _ _ P4 F.ex ⟨F.ktab (.head _) ((k372.mono sub3).mono sub4), D2, _, rfl, l4, ?_⟩
  have e : (rr[k].filter fun x => decide (x ∉ (rr.drop (k + 1)).flatten)) = rr[k].filter fun x => decide (x ∉ wsort (rr.drop (k + 1)).flatten) := by
    refine List.filter_congr fun x _ => ?_
    simp only [hmem]
  rw [e]
  exact ((((htw.mono fun _ _ q => q.mono sub1).mono fun _ _ q => q.mono sub2).mono fun _ _ q => q.mono sub3).append wx.reverse).mono fun _ _ q => q.mono sub4
end

/-! text C3a -/
section
open PySem PySem.W PyProof.Rows PySem.Calls PySem.Spec
set_option maxRecDepth 100000
set_option maxHeartbeats 400000
local macro_rules | `(tactic| omega) => `(tactic| with_reducible first
  | assumption
  | exact Nat.zero_le _
  | exact Int.natCast_nonneg _
  | exact om0 (by assumption)
  | exact om1 (by assumption) (by decide)
  | exact om2 (by assumption) (by decide)
  | exact om3 (by assumption) (by decide)
  | exact om4 (by assumption) (by decide)
  | exact omT (by assumption)
  | exact omI (by assumption) (by assumption)
  | exact omI' (by assumption) (by assumption)
  | exact omL (by assumption) (by first | assumption | decide)
  | exact omLt (by assumption) (by first | assumption | decide)
  | exact omS (by assumption) (by first | assumption | decide)
  | exact omV (by assumption) (by first | assumption | decide)
  | exact omW (by assumption) (by first | assumption | decide)
  | exact omE (by assumption) (by assumption) (by first | assumption | decide)
  | exact omE' (by assumption) (by assumption) (by first | assumption | decide)
  | exact om1l (by assumption) (by decide)
  | exact om2l (by assumption) (by decide)
  | exact om1t (by assumption) (by assumption) (by decide)
  | exact om2t (by assumption) (by assumption) (by decide)
  | exact om3t (by assumption) (by assumption) (by decide)
  | exact omC (by assumption) (by decide)
  | exact omCi (by assumption) (by assumption) (by decide)
  | exact omCe (by assumption) (by assumption) (by assumption) (by decide)
  | exact omQ (by assumption) (by assumption) (by decide)
  | exact omD (by assumption)
  | exact omJ (by assumption) (by assumption)
  | exact omK (by assumption) (by assumption)
  | exact omN (by assumption) (by assumption)
  | exact omU (by assumption))
theorem Up.at {D : Addr} {k k' : Kd} : ∀ {N : List (Addr × Kd)} {i : Nat}, N[i]? = some (D, k) → Up D k k' N (N.set i (D, k'))
  | [], _, h => by simp at h
  | p :: N, 0, h => by
    have : p = (D, k) := by simpa using h
    subst this
    exact .head
  | p :: N, i + 1, h => by
    rw [List.set_cons_succ]
    exact .tail (Up.at (by simpa using h))
/-- the sequences on the ledger -/
noncomputable def SL (n : Nat) (cs : Nat → Addr) (sv : Nat → List Value) : List (Addr × Kd) := (List.range n).map fun k => (cs k, Kd.list (sv k))
noncomputable def upd {α : Type} (f : Nat → α) (k : Nat) (x : α) : Nat → α := fun j => if j = k then x else f j
theorem SL.get {n : Nat} {cs : Nat → Addr} {sv : Nat → List Value} {k : Nat} (h : k < n) : (SL n cs sv)[k]? = some (cs k, .list (sv k)) := by
  unfold SL; simp [h]
theorem SL.mem {n : Nat} {cs : Nat → Addr} {sv : Nat → List Value} {k : Nat} (h : k < n) : (cs k, Kd.list (sv k)) ∈ SL n cs sv := List.mem_iff_getElem?.mpr ⟨k, SL.get h⟩
theorem SL.up {n : Nat} {cs : Nat → Addr} {sv : Nat → List Value} {k : Nat} (h : k < n) (l : List Value) (M : List (Addr × Kd)) : Up (cs k) (.list (sv k)) (.list l) (SL n cs sv ++ M) (SL n cs (upd sv k l) ++ M) := by
  have e : SL n cs (upd sv k l) ++ M = (SL n cs sv ++ M).set k (cs k, .list l) := by
    rw [List.set_append_left _ _ (by unfold SL; simpa using h)]
    congr 1
    apply List.ext_getElem?
    intro j
    by_cases hj : j = k
    · subst hj
      rw [SL.get h, List.getElem?_set, if_pos rfl, if_pos (by unfold SL; simpa using h)]
      unfold upd; rw [if_pos rfl]
    · rw [List.getElem?_set, if_neg (Ne.symm hj)]
      by_cases hn : j < n
      · rw [SL.get hn, SL.get hn]
        unfold upd; rw [if_neg hj]
      · unfold SL; simp [hn]
  rw [e]
  exact Up.at (by rw [List.getElem?_append_left (by unfold SL; simpa using h)]; exact SL.get h)
section
variable {prog : Program} {w : World} {A : Around} {E : Value → Shared → Prop} {s : Shared} {env : Env} {b : Bs} {P : PM} {L : Addr} {m : Mp} {N N' : List (Addr × Kd)}
theorem trL {l : Addr} {its : List Value} {Q : Bool → Shared → Prop} (F : Fm b P L s.heap m N) (hl : Lst P N l its) (hz : its.length ≤ 1000) (h : ∀ tk, Q (!its.isEmpty) ⟨s.heap, s.gens, s.drawn, tk, s.os⟩) :
    wpAny (model prog w) A (truthy (.ref l)) Q E s := by
  have h63 : (1000 : Int) < 2 ^ 63 := by decide
  refine wpAny_truthy_list (F.lst hl) (by simp; omega) ?_
  have := h (s.toks + 1 + 1)
  simpa using this
theorem dlL {D : Addr} {v : Value} {its : List Value} {u : Tok} {Q : Unit → Shared → Prop} (F : Fm b P L s.heap m N) (up : Up D (.list (v :: its)) (.list its) N N') (hz : its.length ≤ 1000)
    (h : ∀ h', Fm b P L h' m N' → Q () ⟨h', s.gens, s.drawn, s.toks, s.os⟩) : wpAny (model prog w) A (delItem (.ref D) (.int 0 u)) Q E s := by
  obtain ⟨o, e, hf, hc, hdn, n, hd⟩ := F.led _ up.mem
  have lD := F.lst (.led up.mem)
  have l1000 : (1000 : Nat) + 1 ≤ sizeLine := by decide
  refine wpAny_delItem_slot lD.typeIs (by decide) PySem.F.slot_list_delitem (wpAny_call_entry PySem.F.slot_list_delitem lD.typeIs PySem.F.entry_list_delitem ?_ (PySem.F.args_list_delitem_2 _ _))
  unfold Builtin.«list.__delitem__»
  refine wpAny_bind (eqP (.ref D, [.int 0 u]) (by rfl) ?_)
  refine wpAny_bind (wpAny_listSubscript_int (by decide) ?_)
  refine wpAny_bind (listItems_at e hd ?_)
  have hk : seqIndex? 0 (v :: its).toArray.size = some 0 := by
    unfold seqIndex?
    simp
  dsimp only
  rw [hk]
  refine wpAny_bind (listUpdate_at e hd ?_ (by simp; omega) (by simp; omega))
  obtain ⟨n', hd'⟩ := Obj.data_mapSeq hd (·.eraseIdxIfInBounds 0)
  refine wpAny_pure ⟨.none, rfl, h _ (F.upd up (Heap.SameBut.update ..) (Heap.get?_update_self _ e (Obj.isFreed_of_seq hd')) ?_ ⟨(Obj.cls_mapSeq ..).trans hc, ?_, n', by rw [hd']; simp⟩)⟩
  · rw [(Obj.cls_mapSeq ..).trans hc]; exact ty_ne "list"
  · obtain ⟨c, d, dt, sl⟩ := o
    subst hd
    exact hdn
end
end

/-! text C3 -/
section
open PySem PySem.W PyProof.Rows PySem.Calls PySem.Spec
set_option maxRecDepth 100000
set_option maxHeartbeats 400000
set_option pp.deepTerms false
set_option pp.maxSteps 6000
local macro_rules | `(tactic| omega) => `(tactic| with_reducible first
  | assumption
  | exact Nat.zero_le _
  | exact Int.natCast_nonneg _
  | exact om0 (by assumption)
  | exact om1 (by assumption) (by decide)
  | exact om2 (by assumption) (by decide)
  | exact om3 (by assumption) (by decide)
  | exact om4 (by assumption) (by decide)
  | exact omT (by assumption)
  | exact omI (by assumption) (by assumption)
  | exact omI' (by assumption) (by assumption)
  | exact omL (by assumption) (by first | assumption | decide)
  | exact omLt (by assumption) (by first | assumption | decide)
  | exact omS (by assumption) (by first | assumption | decide)
  | exact omV (by assumption) (by first | assumption | decide)
  | exact omW (by assumption) (by first | assumption | decide)
  | exact omE (by assumption) (by assumption) (by first | assumption | decide)
  | exact omE' (by assumption) (by assumption) (by first | assumption | decide)
  | exact om1l (by assumption) (by decide)
  | exact om2l (by assumption) (by decide)
  | exact om1t (by assumption) (by assumption) (by decide)
  | exact om2t (by assumption) (by assumption) (by decide)
  | exact om3t (by assumption) (by assumption) (by decide)
  | exact omC (by assumption) (by decide)
  | exact omCi (by assumption) (by assumption) (by decide)
  | exact omCe (by assumption) (by assumption) (by assumption) (by decide)
  | exact omQ (by assumption) (by assumption) (by decide)
  | exact omD (by assumption)
  | exact omJ (by assumption) (by assumption)
  | exact omK (by assumption) (by assumption)
  | exact omN (by assumption) (by assumption)
  | exact omU (by assumption))
/-- what stands at the head of the turns -/
noncomputable def CJ (P : PM) (R : Addr) (n : Nat) (cs : Nat → Addr) (ss : List (List Wd)) (out : List Wd) (q : Addr) (ks : List Nat) (m : Mp) (N : List (Addr × Kd)) : Prop :=
  ∃ sv rv M, N = (R, .list rv) :: (SL n cs sv ++ M) ∧ m "result" = some (.ref R) ∧ m "sequences" = some (.ref q) ∧ Lst P N q (ks.map fun k => .ref (cs k)) ∧ (∀ k < n, All2 (WP P) (sv k) (ss.getD k [])) ∧
    All2 (WP P) rv out ∧ (∀ k ∈ ks, k < n) ∧ ss.length = n ∧ ks.filter (NE ss) = (List.range n).filter (NE ss) ∧ (∀ k < n, (ss.getD k []).length ≤ 3) ∧ ks.length ≤ 7 ∧ rv.length ≤ 100
theorem c_c3 {prog : Program} {w : World} {A : Around} {s : Shared} {P : PM} (hz : Fz P s.heap) (S : Sta P) (hroom : A.depth + 10 < recursionLimit) (hA : A.handled = none) (hu : A.units + 300 < cLine)
    {a : Addr} {n : Nat} {cs : Nat → Addr} {sv : Nat → List Value} {ss : List (List Wd)} {out : List Wd} {f : Nat} (hl : LP P a ((List.range n).map fun k => .ref (cs k))) (hn : n ≤ 7) (hss : ss.length = n)
    (hinj : ∀ i j, i < n → j < n → cs i = cs j → i = j) (hst : ∀ k < n, ∃ o, s.heap.get? (cs k) = some o ∧ o.cls ≠ fcls ∧ (Kd.list (sv k)).ok o ∧ P (cs k) = none) (hw : ∀ k < n, All2 (WP P) (sv k) (ss.getD k []))
    (h3 : ∀ k < n, (ss.getD k []).length ≤ 3) (hc : c3 f ss = some out) (hf : f ≤ 50) :
    Con prog w A ((List.range n).map cs) P s (.ref 56) [.ref a] (fun P' _ v => RP P' v out) := by
  intro Q E hQ
  refine wpAny_call (enterI (X := (List.range n).map cs) (c := 55) 9 hz S (by decide) (by omega) (fun pm => rfl) fun h₁ F hk₁ => ?_)
  have F : Fm ⟨(List.range n).map cs, P, s.heap⟩ P s.heap.objs.size h₁ (fun _ => none) [] := F
  have take : ∀ k ≤ n, Fm ⟨(List.range n).map cs, P, s.heap⟩ P s.heap.objs.size h₁ (fun _ => none) (SL k cs sv).reverse := by
    intro k
    induction k with
    | zero => intro _; exact F
    | succ k ih =>
      intro hk
      obtain ⟨o, e, hcl, hok, hp⟩ := hst k (by omega)
      have e2 : (SL (k + 1) cs sv).reverse = (cs k, .list (sv k)) :: (SL k cs sv).reverse := by unfold SL; rw [List.range_succ]; simp
      rw [e2]
      refine (ih (by omega)).take (hk₁ _ _ e) hcl hok hp (List.mem_map.mpr ⟨k, by simp; omega, rfl⟩) ?_
      intro hm
      obtain ⟨p, hp, e⟩ := List.mem_map.mp hm
      have hp := List.mem_reverse.mp hp
      unfold SL at hp
      obtain ⟨j, hj, rfl⟩ := List.mem_map.mp hp
      have hj : j < k := by simpa using hj
      have := hinj j k (by omega) (by omega) e
      omega
  have F := (take n (Nat.le_refl _)).perm (List.reverse_perm _).symm
  refine stL F fun h₂ tk F => ?_
  refine ⟨(S.mono F.ex.sub).noLimit F.ex.fz, ?_⟩
  unfold bodyOf
  walk_at "go"
  rename_i R hR FR h₃ tk₃ F₃
  have F₃ : Fm ⟨(List.range n).map cs, P, s.heap⟩ P s.heap.objs.size h₃ (mset (mset (fun _ => none) "sequences" (.ref a)) "result" (.ref R)) ((R, .list []) :: (SL n cs sv ++ [])) := by rw [List.append_nil]; exact F₃
  refine whl (fun g P' m N => P = P' ∧ ∃ ss acc q ks rest, CJ P R n cs ss acc q ks m N ∧ c3 g ss = some rest ∧ acc ++ rest = out ∧ acc.length + g ≤ 50) F₃ f ?_ ?_
  · exact ⟨rfl, ss, [], a, List.range n, out, ⟨sv, [], [], rfl, rfl, rfl, .frz hl, hw, .nil, fun k hk => by simpa using hk, hss, rfl, h3, by simpa using hn, Nat.zero_le _⟩, hc, rfl, by simpa using hf⟩
  · clear hw h3 hc hss hst take
    rintro g P' m N h tk K hK ⟨rfl, ss, acc, q, ks, rest, ⟨sv, rv, M, rfl, mr, ms, hq, hw, hrv, hks, hss, hfil, h3, hk7, hr⟩, hc, hacc, hg⟩ F₄
    walk1
    walk1
    walk1
    rw [if_pos rfl]
    refine wpAny_execs_cons ?_
    have wlen : ∀ k < n, (sv k).length = (ss.getD k []).length := fun k hk => (hw k hk).length
    refine compS (b := ⟨(List.range n).map cs, P, s.heap⟩) (l := q) (its := ks.map fun k => .ref (cs k)) (fun j P'' m'' N'' out2 => P = P'' ∧ m = m'' ∧ N'' = (R, .list rv) :: (SL n cs sv ++ M) ∧ out2 = ((ks.take j).filter (NE ss)).map (fun k => .ref (cs k)) ∧ j ≤ 7) hA ?_ ?_ ?_ ?_
    · walk1
      exact ⟨rfl, ⟨rfl, rfl, rfl⟩, _, _, _, F₄, rfl, rfl, rfl, by simp, Nat.zero_le _⟩
    · rintro j P'' m'' N'' out2 ⟨rfl, rfl, rfl, rfl, hj⟩
      refine ⟨hq, Nat.le_trans (Nat.le_trans ?_ hj) (by decide)⟩
      rw [List.length_map]
      exact Nat.le_trans (List.length_filter_le _ _) (by rw [List.length_take]; omega)
    · rintro j P'' m'' N'' out2 C D' I' mc h5 tk5 v hv K hK K0 hK0 ⟨rfl, rfl, rfl, rfl, hj⟩ F5
      have hjl : j < ks.length := by have := (List.getElem?_eq_some_iff.mp hv).1; simpa using this
      have hv' : v = .ref (cs ks[j]) := by
        rw [List.getElem?_map, List.getElem?_eq_getElem hjl] at hv
        exact (Option.some.inj hv).symm
      subst hv'
      have hkn := hks ks[j] (List.getElem_mem _)
      have hmem := SL.mem (cs := cs) (sv := sv) hkn
      refine wpAny_tests_one ?_
      walk1
      walk1
      have hl3 : (sv ks[j]).length ≤ 3 := by rw [wlen _ hkn]; exact h3 _ hkn
      have hemp : (!(sv ks[j]).isEmpty) = NE ss ks[j] := by
        unfold NE
        have := wlen _ hkn
        cases e1 : sv ks[j] <;> cases e2 : ss.getD ks[j] [] <;> first | rfl | (rw [e1, e2] at this; simp at this)
      refine trL (by exact F5) (.led (.tail _ (.tail _ (.tail _ (.tail _ (List.mem_append_left _ hmem)))))) (by omega) fun tk6 => ?_
      rw [hemp]
      have hstep : ((ks.take (j + 1)).filter (NE ss)).map (fun k => Value.ref (cs k)) = ((ks.take j).filter (NE ss)).map (fun k => Value.ref (cs k)) ++ (if NE ss ks[j] = true then [.ref (cs ks[j])] else []) := by
        rw [List.take_add_one, List.getElem?_eq_getElem hjl, List.filter_append, List.map_append]
        cases hh : NE ss ks[j] <;> simp [hh]
      cases hne : NE ss ks[j] with
      | true =>
        rw [if_pos rfl]
        walk1
        try walk_at "to"
        refine ⟨⟨rfl, rfl, rfl⟩, _, _, _, _, F5, rfl, rfl, rfl, ?_, by omega⟩
        rw [hstep, if_pos hne]
      | false =>
        rw [if_neg (by decide)]
        try walk_at "to"
        refine ⟨⟨rfl, rfl, rfl⟩, _, _, _, _, F5, rfl, rfl, rfl, ?_, by omega⟩
        rw [hstep, if_neg (by rw [hne]; decide), List.append_nil]
    · rintro P'' m'' N'' out2 D h5 tk5 ⟨rfl, rfl, rfl, rfl, hj⟩ F5
      have hfull : ks.take (ks.map fun k => Value.ref (cs k)).length = ks := by rw [List.length_map]; exact List.take_length
      rw [hfull, hfil] at F5
      obtain ⟨ks', hk0⟩ : ∃ ks', ks' = (List.range n).filter (NE ss) := ⟨_, rfl⟩
      rw [← hk0] at F5
      have hks' : ks' = (List.range ss.length).filter (NE ss) := by rw [hss]; exact hk0
      have hkl : ks'.length ≤ 7 := by rw [hks']; exact Nat.le_trans (List.length_filter_le _ _) (by simpa using (by omega : ss.length ≤ 7))
      walk_at "go"
      refine trL (by exact F5) (.led (.head _)) (by rw [List.length_map]; omega) fun tk6 => ?_
      by_cases hall : ss.all (·.isEmpty) = true
      · have hnil : ks' = [] := by rw [hks']; exact allE.mp hall
        subst hnil
        have hrest := c3_end hc hall
        subst hrest
        rw [List.append_nil] at hacc
        subst hacc
        rw [show (!(([] : List Nat).map fun k => Value.ref (cs k)).isEmpty) = false from rfl]
        walk_at "go"
        dsimp only [retOf]
        have hRX : R ∉ (List.range n).map cs := fun hm => by
          obtain ⟨k, hk, e⟩ := List.mem_map.mp hm
          have hk : k < n := by simpa using hk
          have nd := (F5.drop (.cons _ (List.Sublist.refl _))).nd
          rw [List.map_cons, List.nodup_cons] at nd
          exact nd.1 (List.mem_map.mpr ⟨_, List.mem_append_left _ (SL.mem hk), e⟩)
        obtain ⟨P6, ex6, led6, _, sub6⟩ := F5.iceAll
        obtain ⟨o1, p1, _, k1, _, n1, k2⟩ := led6 (R, .list rv) (.tail _ (.head _)) hRX
        exact hQ _ _ _ P6 ex6 ⟨R, rv, rfl, ⟨o1, n1, p1, k1, k2⟩, hrv.mono fun _ _ q => q.mono sub6⟩
      · obtain ⟨g', hh, rest', rfl, hpick, hc', rfl⟩ := c3_step hc hall
        have hnn : ks' ≠ [] := fun e => hall (allE.mpr (by rw [← hks']; exact e))
        rw [show (!(ks'.map fun k => Value.ref (cs k)).isEmpty) = true by cases ks' with | nil => exact absurd rfl hnn | cons _ _ => rfl]
        walk_at "go"
        refine wpAny_For ?_
        walk_at "go"
        have hkin : ∀ j (h : j < ks'.length), ks'[j] < n ∧ NE ss ks'[j] = true := fun j h => by
          obtain ⟨x, hx⟩ : ∃ x, x = ks'[j] := ⟨_, rfl⟩
          rw [← hx]
          have hm : x ∈ ks' := by rw [hx]; exact List.getElem_mem h
          rw [hk0] at hm
          obtain ⟨q1, q2⟩ := List.mem_filter.mp hm
          exact ⟨by simpa using q1, q2⟩
        have hcons : ∀ k < n, NE ss k = true → ∃ a0 vt, sv k = .ref a0 :: vt ∧ WP P (.ref a0) (hd ss k) ∧ All2 (WP P) vt (ss.getD k []).tail ∧ ss.getD k [] = hd ss k :: (ss.getD k []).tail := fun k hk hne => by
          have h1 := hw k hk
          cases e : ss.getD k [] with
          | nil => unfold NE at hne; rw [e] at hne; cases hne
          | cons x r =>
            rw [e] at h1
            generalize hsv : sv k = l at h1
            cases h1 with
            | cons p1 p2 =>
              have hx : hd ss k = x := by unfold hd; rw [e]; rfl
              obtain ⟨a0, vs0, rfl, _⟩ := id p1
              exact ⟨a0, _, rfl, by rw [hx]; exact p1, p2, by rw [hx]; rfl⟩
        have hcsm : ∀ k < n, (cs k, Kd.list (sv k)) ∈ SL n cs sv ++ M := fun k hk => List.mem_append_left _ (SL.mem hk)
        refine forL (b := ⟨(List.range n).map cs, P, s.heap⟩) (its := ks'.map fun k => .ref (cs k)) (fun i P'' m'' N'' => P = P'' ∧ m'' "result" = some (.ref R) ∧ m'' "sequences" = some (.ref D) ∧ N'' = (D, .list (ks'.map fun k => .ref (cs k))) :: (R, .list rv) :: (SL n cs sv ++ M) ∧
          ∀ j (h : j < ks'.length), j < i → blk ss (hd ss ks'[j]) = true) hA F5 ?_ ?_ ?_ ?_
        · rintro i P'' m'' N'' ⟨rfl, _, _, rfl, _⟩
          exact .led (.head _)
        · exact ⟨rfl, mr, rfl, rfl, fun j h hj => absurd hj (Nat.not_lt_zero _)⟩
        · rintro i P'' m'' N'' I h6 tk6 v hv K hK ⟨rfl, mr6, ms6, rfl, hblk⟩ F6
          have hi : i < ks'.length := by have := (List.getElem?_eq_some_iff.mp hv).1; simpa using this
          have hv' : v = .ref (cs ks'[i]) := by
            rw [List.getElem?_map, List.getElem?_eq_getElem hi] at hv
            exact (Option.some.inj hv).symm
          subst hv'
          obtain ⟨a0, vt, hsv0, w0, wt, hss0⟩ := hcons _ (hkin i hi).1 (hkin i hi).2
          walk_at "go"
          rename (Fm _ _ _ _ _ _) => F7
          refine itL1 (by exact F7) (.led (.tail _ (.tail _ (.tail _ (hcsm _ (hkin i hi).1))))) (by decide) (by rw [hsv0]; rfl) (by decide) ?_
          walk_at "go"
          rename (Fm _ _ _ _ _ _) => F8
          refine wpAny_For ?_
          walk_at "go"
          refine forL (b := ⟨(List.range n).map cs, P, s.heap⟩) (its := ks'.map fun k => .ref (cs k)) (fun i2 P'' m'' N'' => P = P'' ∧ m'' "result" = some (.ref R) ∧ m'' "sequences" = some (.ref D) ∧ m'' "candidate" = some (.ref a0) ∧ N'' = (I, .liter D (i + 1)) :: (D, .list (ks'.map fun k => .ref (cs k))) :: (R, .list rv) :: (SL n cs sv ++ M) ∧
            ∀ j (h : j < ks'.length), j < i2 → hd ss ks'[i] ∉ (ss.getD ks'[j] []).tail) hA F8 ?_ ?_ ?_ ?_
          · rintro i2 P'' m'' N'' ⟨rfl, _, _, _, rfl, _⟩
            exact .led (.tail _ (.head _))
          · exact ⟨rfl, mr6, ms6, rfl, rfl, fun j h hj => absurd hj (Nat.not_lt_zero _)⟩
          · rintro i2 P'' m'' N'' I2 h9 tk9 v2 hv2 K hK ⟨rfl, mr9, ms9, mc9, rfl, hnot⟩ F9
            have hi2 : i2 < ks'.length := by have := (List.getElem?_eq_some_iff.mp hv2).1; simpa using this
            have hv2' : v2 = .ref (cs ks'[i2]) := by
              rw [List.getElem?_map, List.getElem?_eq_getElem hi2] at hv2
              exact (Option.some.inj hv2).symm
            subst hv2'
            have hk2 := (hkin i2 hi2).1
            have wt2 : All2 (WP P) ((sv ks'[i2]).drop 1) (ss.getD ks'[i2] []).tail := by rw [← List.drop_one]; exact (hw _ hk2).drop 1
            have hz2 : (sv ks'[i2]).length ≤ 3 := by rw [wlen _ hk2]; exact h3 _ hk2
            have z3 : (3 : Nat) ≤ sizeLine := by decide
            walk_at "go"
            rename (Fm _ _ _ _ _ _) => F10
            dsimp only
            refine slL (by exact F10) (.led (.tail _ (.tail _ (.tail _ (.tail _ (hcsm _ hk2)))))) (.int _ _) .none .none (by decide) (pick_from (by decide)) (by omega) fun D9 h11 F11 => ?_
            refine inW (by exact F11) w0 (.led (.head _)) wt2 (by walk_at "units") ?_
            walk_at "go"
            · first | rename (hd ss _ ∈ _) => hin | (rename (decide (hd ss _ ∈ _) = true) => hin; replace hin := of_decide_eq_true hin)
              rename (Fm _ _ _ _ _ _) => F12
              try walk_at "to"
              refine ⟨⟨rfl, rfl, rfl⟩, P, _, _, F12.drop (N' := (I, _) :: _) (.cons _ (.cons _ (List.Sublist.refl _))), rfl, by walk_at "mv", by walk_at "mv", rfl, fun j h hj => ?_⟩
              by_cases hji : j < i
              · exact hblk j h hji
              · have e : j = i := by omega
                subst e
                exact blk_iff.mpr ⟨ks'[i2], by rw [hss]; exact hk2, (hkin i2 hi2).2, hin⟩
            · first | rename (¬ hd ss _ ∈ _) => hin | (rename (decide (hd ss _ ∈ _) = false) => hin; replace hin := of_decide_eq_false hin)
              try walk_at "to"
              refine ⟨⟨rfl, rfl, rfl⟩, P, _, _, F11.drop (N' := (I2, _) :: _) (.cons _ (List.Sublist.refl _)), rfl, by walk_at "mv", by walk_at "mv", by walk_at "mv", rfl, fun j h hj => ?_⟩
              by_cases hji : j < i2
              · exact hnot j h hji
              · have e : j = i2 := by omega
                subst e
                exact hin
          · rintro P'' m'' N'' h9 tk9 ⟨rfl, mr9, ms9, mc9, rfl, hnot⟩ F9
            have hnb : blk ss (hd ss ks'[i]) = false := by
              cases hb : blk ss (hd ss ks'[i]) with
              | false => rfl
              | true =>
                exfalso
                obtain ⟨k, q1, q2, q3⟩ := blk_iff.mp hb
                have hm : k ∈ ks' := by rw [hks']; exact List.mem_filter.mpr ⟨by simpa using q1, q2⟩
                obtain ⟨j, hj⟩ := List.mem_iff_getElem?.mp hm
                obtain ⟨j1, j2⟩ := List.getElem?_eq_some_iff.mp hj
                exact hnot j j1 (by rw [List.length_map]; exact j1) (by rw [j2]; exact q3)
            have hH := pick_at hks' hi hblk hnb
            rw [hpick] at hH
            have hH : hh = hd ss ks'[i] := Option.some.inj hH
            subst hH
            have z100 : (100 : Nat) ≤ sizeLine := by decide
            walk_at "go"
            rename (Fm _ _ _ _ _ _) => F10
            refine wpAny_For ?_
            walk_at "go"
            have hnd : ks'.Nodup := by rw [hk0]; exact List.Pairwise.filter _ List.nodup_range
            refine forL (b := ⟨(List.range n).map cs, P, s.heap⟩) (its := ks'.map fun k => .ref (cs k)) (fun i5 P'' m'' N'' => P = P'' ∧ m'' "result" = some (.ref R) ∧ m'' "sequences" = some (.ref D) ∧ m'' "candidate" = some (.ref a0) ∧ ∃ sv5, N'' = (I, .liter D (i + 1)) :: (D, .list (ks'.map fun k => .ref (cs k))) :: (R, .list (rv ++ [.ref a0])) :: (SL n cs sv5 ++ M) ∧
              ∀ k < n, (k ∈ ks'.take i5 → sv5 k = if hd ss k = hd ss ks'[i] then (sv k).tail else sv k) ∧ (k ∉ ks'.take i5 → sv5 k = sv k)) hA F10 ?_ ?_ ?_ ?_
            · rintro i5 P'' m'' N'' ⟨rfl, _, _, _, sv5, rfl, _⟩
              exact .led (.tail _ (.head _))
            · exact ⟨rfl, by walk_at "mv", by walk_at "mv", by walk_at "mv", sv, rfl, fun k hk => ⟨fun hm => by simp at hm, fun _ => rfl⟩⟩
            · rintro i5 P'' m'' N'' I5 h13 tk13 v5 hv5 K hK ⟨rfl, mr13, ms13, mc13, sv5, rfl, hsv5⟩ F13
              have hi5 : i5 < ks'.length := by have := (List.getElem?_eq_some_iff.mp hv5).1; simpa using this
              have hv5' : v5 = .ref (cs ks'[i5]) := by
                rw [List.getElem?_map, List.getElem?_eq_getElem hi5] at hv5
                exact (Option.some.inj hv5).symm
              subst hv5'
              have hk5 := (hkin i5 hi5).1
              have hnt : ks'[i5] ∉ ks'.take i5 := fun hm => by
                obtain ⟨j, hj⟩ := List.mem_iff_getElem?.mp hm
                obtain ⟨j1, j2⟩ := List.getElem?_eq_some_iff.mp hj
                rw [List.length_take] at j1
                rw [List.getElem_take] at j2
                have := (List.getElem_inj hnd).mp j2
                omega
              obtain ⟨a5, vt5, hsvk, w5, _, _⟩ := hcons _ hk5 (hkin i5 hi5).2
              have e5 : sv5 ks'[i5] = .ref a5 :: vt5 := by rw [(hsv5 _ hk5).2 hnt]; exact hsvk
              have hz5 : vt5.length ≤ 1000 := by
                have := wlen _ hk5
                have := h3 _ hk5
                rw [hsvk] at *
                simp at *
                omega
              have htk : ∀ k, k ∈ ks'.take (i5 + 1) ↔ k ∈ ks'.take i5 ∨ k = ks'[i5] := fun k => by
                rw [List.take_add_one, List.getElem?_eq_getElem hi5, List.mem_append]
                simp
              walk_at "go"
              rename (Fm _ _ _ _ _ _) => F14
              refine itL1 (by exact F14) (.led (.tail _ (.tail _ (.tail _ (.tail _ (List.mem_append_left _ (SL.mem hk5))))))) (by decide) (by rw [e5]; rfl) (by decide) ?_
              walk_at "go"
              refine eqW (F14.rdW w5) (F14.rdW w0) (by walk_at "units") ?_
              walk_at "go"
              · first | rename (hd ss _ = hd ss _) => hq5 | (rename (decide (hd ss _ = hd ss _) = true) => hq5; replace hq5 := of_decide_eq_true hq5)
                have up := SL.up (cs := cs) (sv := sv5) hk5 vt5 M
                rw [e5] at up
                refine dlL (by exact F14) (.tail (.tail (.tail (.tail up)))) hz5 fun h15 F15 => ?_
                walk_at "go"
                try walk_at "to"
                refine ⟨⟨rfl, rfl, rfl⟩, P, _, _, F15, rfl, by walk_at "mv", by walk_at "mv", by walk_at "mv", upd sv5 ks'[i5] vt5, rfl, fun k hk => ⟨fun hm => ?_, fun hm => ?_⟩⟩
                · by_cases ek : k = ks'[i5]
                  · subst ek
                    unfold upd
                    rw [if_pos rfl, if_pos hq5, hsvk]
                    rfl
                  · unfold upd
                    rw [if_neg ek]
                    exact (hsv5 k hk).1 (((htk k).mp hm).resolve_right ek)
                · have ek : k ≠ ks'[i5] := fun q => hm ((htk k).mpr (.inr q))
                  unfold upd
                  rw [if_neg ek]
                  exact (hsv5 k hk).2 fun q => hm ((htk k).mpr (.inl q))
              · first | rename (¬ hd ss _ = hd ss _) => hq5 | (rename (decide (hd ss _ = hd ss _) = false) => hq5; replace hq5 := of_decide_eq_false hq5)
                try walk_at "to"
                refine ⟨⟨rfl, rfl, rfl⟩, P, _, _, F14, rfl, by walk_at "mv", by walk_at "mv", by walk_at "mv", sv5, rfl, fun k hk => ⟨fun hm => ?_, fun hm => ?_⟩⟩
                · by_cases ek : k = ks'[i5]
                  · subst ek
                    rw [if_neg hq5]
                    exact (hsv5 _ hk).2 hnt
                  · exact (hsv5 k hk).1 (((htk k).mp hm).resolve_right ek)
                · exact (hsv5 k hk).2 fun q => hm ((htk k).mpr (.inl q))
            · rintro P'' m'' N'' h13 tk13 ⟨rfl, mr13, ms13, mc13, sv5, rfl, hsv5⟩ F13
              walk_at "go"
              rw [show ks'.take (ks'.map fun k => Value.ref (cs k)).length = ks' by rw [List.length_map]; exact List.take_length] at hsv5
              have hmem : ∀ k < n, k ∈ ks' ↔ NE ss k = true := fun k hk => by
                rw [hk0, List.mem_filter]
                exact ⟨fun q => q.2, fun q => ⟨by simpa using hk, q⟩⟩
              have Fp : Fm ⟨(List.range n).map cs, P, s.heap⟩ P s.heap.objs.size h13 m'' ((R, .list (rv ++ [.ref a0])) :: (SL n cs sv5 ++ ((D, .list (ks'.map fun k => .ref (cs k))) :: M))) :=
                (F13.drop (.cons _ (List.Sublist.refl _))).perm ((List.Perm.cons _ List.perm_middle).trans (List.Perm.swap _ _ _))
              have hrl := hrv.length
              try walk_at "to"
              refine ⟨⟨rfl, rfl, rfl⟩, g', P, _, _, Nat.lt_succ_self _, Fp, rfl, adv ss (hd ss ks'[i]), acc ++ [hd ss ks'[i]], D, ks', rest',
                ⟨sv5, rv ++ [.ref a0], _, rfl, mr13, ms13, .led (.tail _ (List.mem_append_right _ (.head _))), fun k hk => ?_, hrv.snoc w0, fun k hk => ?_, adv_len.trans hss, ?_, fun k hk => ?_, hkl, ?_⟩, hc', ?_, ?_⟩
              · rw [adv_get (by omega)]
                by_cases hm : NE ss k = true
                · obtain ⟨a5, vt5, e1, e2, e3, e4⟩ := hcons k hk hm
                  rw [(hsv5 k hk).1 ((hmem k hk).mpr hm)]
                  by_cases hq : hd ss k = hd ss ks'[i]
                  · rw [if_pos hq, if_pos (by rw [e4, ← hq]; rfl), e1]
                    exact e3
                  · rw [if_neg hq, if_neg (by rw [e4]; intro q; exact hq (Option.some.inj q))]
                    exact hw k hk
                · have e0 : ss.getD k [] = [] := by
                    unfold NE at hm
                    cases e : ss.getD k [] with
                    | nil => rfl
                    | cons _ _ => rw [e] at hm; exact absurd rfl hm
                  rw [(hsv5 k hk).2 (fun q => hm ((hmem k hk).mp q)), if_neg (by rw [e0]; exact fun q => nomatch q)]
                  exact hw k hk
              · rw [hk0] at hk
                simpa using (List.mem_filter.mp hk).1
              · obtain ⟨H, hHe⟩ : ∃ H, H = hd ss ks'[i] := ⟨_, rfl⟩
                rw [← hHe, hk0, List.filter_filter]
                refine List.filter_congr fun k hk => ?_
                have hk : k < n := by simpa using hk
                cases hq : NE (adv ss H) k with
                | false => rfl
                | true => rw [adv_NE (by omega) hq]; rfl
              · rw [adv_get (by omega)]
                have := h3 k hk
                split
                · rw [List.length_tail]; omega
                · exact this
              · rw [List.length_append, List.length_singleton]; omega
              · rw [List.append_assoc]; exact hacc
              · rw [List.length_append, List.length_singleton]; omega
        · rintro P'' m'' N'' h6 tk6 ⟨rfl, mr6, ms6, rfl, hblk⟩ F6
          exfalso
          rw [pick_none hks' fun j h => hblk j h (by rw [List.length_map]; exact h)] at hpick
          cases hpick
end

/-! text Red -/
section
open PySem PySem.W PyProof.Rows PySem.Calls PySem.Spec
set_option maxRecDepth 100000
set_option maxHeartbeats 400000
set_option pp.deepTerms false
set_option pp.maxSteps 6000
local macro_rules | `(tactic| omega) => `(tactic| with_reducible first
  | assumption
  | exact Nat.zero_le _
  | exact Int.natCast_nonneg _
  | exact om0 (by assumption)
  | exact om1 (by assumption) (by decide)
  | exact om2 (by assumption) (by decide)
  | exact om3 (by assumption) (by decide)
  | exact om4 (by assumption) (by decide)
  | exact omT (by assumption)
  | exact omI (by assumption) (by assumption)
  | exact omI' (by assumption) (by assumption)
  | exact omL (by assumption) (by first | assumption | decide)
  | exact omLt (by assumption) (by first | assumption | decide)
  | exact omS (by assumption) (by first | assumption | decide)
  | exact omV (by assumption) (by first | assumption | decide)
  | exact omW (by assumption) (by first | assumption | decide)
  | exact omE (by assumption) (by assumption) (by first | assumption | decide)
  | exact omE' (by assumption) (by assumption) (by first | assumption | decide)
  | exact om1l (by assumption) (by decide)
  | exact om2l (by assumption) (by decide)
  | exact om1t (by assumption) (by assumption) (by decide)
  | exact om2t (by assumption) (by assumption) (by decide)
  | exact om3t (by assumption) (by assumption) (by decide)
  | exact omC (by assumption) (by decide)
  | exact omCi (by assumption) (by assumption) (by decide)
  | exact omCe (by assumption) (by assumption) (by assumption) (by decide)
  | exact omQ (by assumption) (by assumption) (by decide)
  | exact omD (by assumption)
  | exact omJ (by assumption) (by assumption)
  | exact omK (by assumption) (by assumption)
  | exact omN (by assumption) (by assumption)
  | exact omU (by assumption))
noncomputable def redFd (pm : Value) : FuncData := { docDef (nmOf (stm 8)) (paramsOf (stm 8)) (bodyOf (stm 8)) (scopeOf (stm 8)) pm (.ref 50) .none with defaults := .ref 44 }
noncomputable abbrev tup44 : Obj := { cls := .type "tuple", data := .seq #[.ref 43] }
structure Sta2 (P : PM) : Prop where
  red : ∃ o pm, P 51 = some o ∧ o.data = .func (redFd pm) ∧ CodeRecP P 50 "reduce"
  tup : P 44 = some tup44
  mis : ∃ o, P 43 = some o ∧ o.cls = .type "object"
theorem Sta2.mono {P P' : PM} (x : Sta2 P) (hs : ∀ c o, P c = some o → P' c = some o) : Sta2 P' :=
  ⟨let ⟨o, pm, e, r, q⟩ := x.red; ⟨o, pm, hs _ _ e, r, q.mono hs⟩, hs _ _ x.tup, let ⟨o, e, r⟩ := x.mis; ⟨o, hs _ _ e, r⟩⟩
section
variable {prog : Program} {w : World} {A : Around} {E : Value → Shared → Prop} {s : Shared} {env : Env} {b : Bs} {P : PM} {L : Addr} {m : Mp} {N N' : List (Addr × Kd)}
theorem itB {l : Addr} {its : List Value} {Q : Value → Shared → Prop} (F : Fm b P L s.heap m N) (hl : Lst P N l its)
    (h : ∀ I h', Fm b P L h' m ((I, .liter l 0) :: N) → Q (.ref I) ⟨h', s.gens, s.drawn, s.toks, s.os⟩) : wpAny (model prog w) A (call (.builtin "iter") [.ref l]) Q E s := by
  refine Calls.call_function_entry (by decide +kernel) (by decide +kernel) kdk_entry_iter (kdk_args_iter _) ?_
  unfold Builtin.«iter»
  refine wpAny_bind (m := someArgs "iter" 1 2 _) (wpAny_of_eq (a := [Value.ref l]) (by first | rfl | kernel_rfl) ?_)
  refine wpAny_bind (itL F hl fun I h' F' => ?_)
  exact wpAny_pure ⟨_, rfl, h _ _ F'⟩
/-- a for over a list's iterator -/
theorem forI {target : Expr} {body orelse : List Stmt} {l I : Addr} {its : List Value} {Q : Flow → Shared → Prop} (J : Nat → PM → Mp → List (Addr × Kd) → Prop) (hA : A.handled = none)
    (F : Fm b P L s.heap m ((I, .liter l 0) :: N)) (hJ : ∀ i P m N, J i P m N → Lst P N l its) (start : J 0 P m N)
    (turn : ∀ i P m N h tk v, its[i]? = some v → ∀ K : Flow → Shared → Prop, Hid (fun f s₃ => match f with
        | .next | .cont => Same s s₃ ∧ ∃ P' m' N', Fm b P' L s₃.heap m' ((I, .liter l (i + 1)) :: N') ∧ J (i + 1) P' m' N'
        | .brk => Q .next s₃
        | .ret v => Q (.ret v) s₃) K → J i P m N → Fm b P L h m ((I, .liter l (i + 1)) :: N) →
      wpAny (model prog w) A (assign target env v) (fun _ s₂ => wpAny (model prog w) A (execs body env) K (fun _ _ => False) s₂) (fun _ _ => False) ⟨h, s.gens, s.drawn, tk, s.os⟩)
    (fin : ∀ P m N h tk, J its.length P m N → Fm b P L h m N → wpAny (model prog w) A (execs orelse env) Q (fun _ _ => False) ⟨h, s.gens, s.drawn, tk, s.os⟩)
    (ht : ∀ it v, letOwnedTupleGo target it v = pure () := by intro _ _; rfl) :
    wpAny (model prog w) A (pyIter (.ref I)) (fun it s₂ => codeAny (model prog w) A (.forLoop target it body orelse env) (fun r s' => match r with | .ok f => Q f s' | .error e => cameBackBy (model prog w) A env E e s') s₂) E s := by
  obtain ⟨oI, eI, _, c1, c2⟩ := F.led _ (.head _)
  refine wpAny_pyIter_listiter ⟨oI, eI, c1, c2⟩ ?_
  refine codeAny_forLoop (fun n s' => Same s s' ∧ ∃ i P m N, n = its.length - i ∧ i ≤ its.length ∧ Fm b P L s'.heap m ((I, .liter l i) :: N) ∧ J i P m N) (fun n s' hI => ?_) (its.length - 0)
    ⟨⟨rfl, rfl, rfl⟩, 0, P, m, N, rfl, Nat.zero_le _, F, start⟩ (fun v => ht _ v)
  obtain ⟨hs, i, P', m', N', hn, hi, F', hj⟩ := hI
  rw [hs.eq]
  by_cases hlt : i < its.length
  · refine nxL F' (hJ _ _ _ _ hj) (List.getElem?_eq_getElem hlt) fun h₂ F₂ => ?_
    refine wpAny_mono (turn i P' m' N' h₂ _ _ (List.getElem?_eq_getElem hlt) _ (fun _ _ q => q) hj F₂) (fun _ s₂ q => wpAny_mono q (fun f s₃ r => ?_) fun _ _ f => f.elim) fun _ _ f => f.elim
    cases f with
    | next => obtain ⟨r1, P3, m3, N3, r2, r3⟩ := r; exact ⟨its.length - (i + 1), by omega, r1, i + 1, P3, m3, N3, rfl, hlt, r2, r3⟩
    | cont => obtain ⟨r1, P3, m3, N3, r2, r3⟩ := r; exact ⟨its.length - (i + 1), by omega, r1, i + 1, P3, m3, N3, rfl, hlt, r2, r3⟩
    | brk => exact r
    | ret v => exact r
  · have : i = its.length := by omega
    subst this
    refine nxE hA F' (hJ _ _ _ _ hj) (Nat.le_refl _) fun h₂ F₂ => ?_
    exact wpAny_mono (fin P' m' N' h₂ _ hj F₂) (fun _ _ q => q) fun _ _ f => f.elim
end
theorem c_reduce {prog : Program} {w : World} {A : Around} {s : Shared} {P : PM} {outer : List Env} (hz : Fz P s.heap) (S : Sta P) (S2 : Sta2 P) (hroom : A.depth ≤ 370) (hA : A.handled = none) (hu : A.units ≤ 500) (hT : KTab P s.heap) (hfr : A.frames = some outer) (fo : FrsOk s.heap outer)
    {f pl ia : Addr} {n : Nat} {pvs : List Value} (hf : ∃ o fd, P f = some o ∧ o.data = .func fd) (hpl : LP P pl pvs) (hpi : IntsAre pvs ((List.range n).map fun (k : Nat) => (k : Int))) (hn : n ≤ 7) (hi : LP P ia [])
    (G : List (List Int) → Nat → List (List Int)) (hG : ∀ told k, told.length ≤ 3 * k → (G told k).length ≤ 3 * (k + 1))
    (step : ∀ (A' : Around) (P' : PM) (s' : Shared) (outer' : List Env) (ta : Addr) (tvs : List Value) (told : List (List Int)) (k : Nat) (t : Tok), A'.depth ≤ A.depth + 1 → A'.handled = none → A'.units ≤ A.units + 10 → A'.frames = some outer' → FrsOk s'.heap outer' → Fz P' s'.heap →
      (∀ c o, P c = some o → P' c = some o) → KTab P' s'.heap → k < n → LP P' ta tvs → All2 (WP P') tvs told → told.length ≤ 3 * k → Con prog w A' (37 :: outer'.filterMap (·.frame)) P' s' (.ref f) [.ref ta, .int k t] (fun P'' h'' v => KTab P'' h'' ∧ RP P'' v (G told k))) :
    Con prog w A (37 :: outer.filterMap (·.frame)) P s (.ref 51) [.ref f, .ref pl, .ref ia] (fun P' h' v => KTab P' h' ∧ RP P' v ((List.range n).foldl G [])) := by
  intro Q E hQ
  have h37 : 37 < s.heap.objs.size := let ⟨_, _, e, _⟩ := hT; Heap.lt_size e
  have hroom' : A.depth + 20 < recursionLimit := Nat.lt_of_le_of_lt (Nat.add_le_add_right hroom 20) (by decide)
  obtain ⟨o51, pm, p51, d51, ⟨o50, vs50, tt, e1, e2, e3⟩⟩ := S2.red
  refine wpAny_call (enter (X := 37 :: outer.filterMap (·.frame)) (P := P) (body := bodyOf (stm 8)) (binds := [("function", .ref f), ("sequence", .ref pl), ("initial", .ref ia)]) hz (by omega) (hz _ _ p51).1 d51 ⟨50, o50, vs50, tt, rfl, (hz _ _ e1).1, e2, e3⟩ rfl (fun Q E q => ?_) fun h₁ F hk₁ => ?_)
  · exact kp_binds (K := [(44, tup44)]) (frag_in (fun p hp => by rw [List.mem_singleton.mp hp]; exact (hz _ _ S2.tup).1)) (fun S => by rfl) _ _ _ _ q
  have F : Fm ⟨37 :: outer.filterMap (·.frame), P, s.heap⟩ P s.heap.objs.size h₁ (fun _ => none) [] := F
  obtain ⟨ps, F, k37⟩ := F.take37 (let ⟨e0, ps, e, k⟩ := hT; ⟨e0, ps, hk₁ _ _ e, k⟩) (.head _) (by simp)
  refine stL F fun h₂ tk F => ?_
  refine stL F fun h₂ tk F => ?_
  refine stL F fun h₂ tk F => ?_
  refine ⟨(S.mono F.ex.sub).noLimit F.ex.fz, ?_⟩
  unfold bodyOf
  walk_at "go"
  refine itB (by exact F) (.frz hpl) fun I h3 F => ?_
  walk_at "go"
  rename (Fm _ _ _ _ _ _) => F
  obtain ⟨o43, p43, c43⟩ := S2.mis
  obtain ⟨oi, ni, pi, ci, di⟩ := id hi
  have hne : ia ≠ 43 := fun q => by
    rw [q, p43] at pi
    cases pi
    rw [c43] at ci
    exact absurd ci (by decide)
  refine wpAny_is_ref_other hne (by exact (F.ex.fz _ _ pi).1) (by exact (F.ex.fz _ _ p43).1) (by rw [ci]; decide) ?_
  walk_at "go"
  rename (Fm _ _ _ _ _ _) => F
  refine wpAny_For ?_
  walk_at "go"
  obtain ⟨of, fd, pf, df⟩ := hf
  have hfn : ∀ {P' : PM} {h : Heap} {m N}, Fm ⟨37 :: outer.filterMap (·.frame), P, s.heap⟩ P' s.heap.objs.size h m N → FnAt f h := fun F => by
    obtain ⟨oc, od, dt, sl⟩ := of
    dsimp only at df
    subst df
    exact ⟨oc, od, _, sl, (F.ex.fz _ _ (F.ex.sub _ _ pf)).1⟩
  refine forI (b := ⟨37 :: outer.filterMap (·.frame), P, s.heap⟩) (its := pvs) (fun i P' m' N' => (∀ c o, P c = some o → P' c = some o) ∧ m' "function" = some (.ref f) ∧ ∃ ta tvs ps, m' "value" = some (.ref ta) ∧ LP P' ta tvs ∧ All2 (WP P') tvs ((List.range i).foldl G []) ∧ N' = [(37, .tab ps)] ∧ K37 P' ps ∧ ((List.range i).foldl G []).length ≤ 3 * i ∧ i ≤ n) hA F ?_ ?_ ?_ ?_
  · rintro i P' m' N' ⟨sub, _, ta, tvs, ps, _, _, _, rfl, _⟩
    exact .frz (hpl.mono sub)
  · exact ⟨fun _ _ e => e, rfl, ia, [], ps, rfl, hi, .nil, rfl, k37, Nat.le_refl _, Nat.zero_le _⟩
  · rintro i P' m' N' h4 tk4 v hv K hK ⟨sub, mf, ta, tvs, ps, mv, hta, htw, rfl, k37, hlen, hin⟩ F
    have hi' : i < n := by
      have h1 := (List.getElem?_eq_some_iff.mp hv).1
      have h2 := intsLen hpi
      simp at h2
      omega
    obtain ⟨t, e⟩ := intsAt hpi (i := i) (n := (i : Int)) (by simp [hi'])
    rw [hv] at e; cases e
    walk1
    walk1
    rename (Fm _ _ _ _ _ _) => F
    walk1
    walk1
    walk1
    walk1
    refine callWith_F (hfn (by exact F)) ?_
    walk1
    walk1
    walk1
    walk1
    walk1
    refine ⟨hfn (by exact F), ?_⟩
    show wpAny _ _ (call (.ref f) [.ref ta, .int i t]) _ _ _
    have kt := F.ktab (.tail _ (.head _)) k37
    refine Con.use ?_ (step _ P' _ (_ :: outer) ta tvs _ i t (by exact Nat.le_refl _) (by exact hA) (by show A.units + 3 ≤ A.units + 10; omega) (by show Option.map _ A.frames = _; rw [hfr]; rfl) (by exact F.frs fo rfl rfl) (by exact F.ex.fz) sub kt hi' hta htw hlen)
    rintro v h5 tk5 P5 ex5 ⟨kt5, va, vvs, rfl, lv, wv⟩
    have hI : I ∉ [37] := fun q => by
      have e : I = 37 := by simpa using q
      have nd := F.nd
      rw [List.map_cons, List.nodup_cons] at nd
      exact nd.1 (by rw [e]; exact .head _)
    have F := (F.drop (N' := [(I, .liter pl (i + 1))]) (.cons_cons _ (.cons _ (List.Sublist.refl _)))).call ex5 (fun a ha => by
      rcases List.mem_cons.mp ha with rfl | ha
      · exact .inr (.head _)
      · exact F.upFr rfl (fun a ha => .tail _ ha) a ha) (by
      intro p hp q
      rw [List.mem_singleton.mp hp] at q
      rcases List.mem_cons.mp q with q | q
      · exact hI (List.mem_singleton.mpr q)
      · exact F.offFr (F.frs fo rfl rfl) (p := (I, .liter pl (i + 1))) (.head _) q)
    obtain ⟨ps5, F, k5⟩ := F.take37 kt5 (.head _) (by
      intro hm
      exact hI (by
        have : (37 : Addr) = I := by simpa using hm
        rw [← this]; exact .head _))
    walk_at "go"
    rename (Fm _ _ _ _ _ _) => F
    have e : (List.range (i + 1)).foldl G [] = G ((List.range i).foldl G []) i := by rw [List.range_succ, List.foldl_append]; rfl
    try walk_at "to"
    refine ⟨⟨rfl, rfl, rfl⟩, P5, _, _, F.perm (N' := [(I, .liter pl (i + 1)), (37, .tab ps5)]) (List.Perm.swap _ _ _), fun c o q => ex5.sub _ _ (sub _ _ q), by walk_at "mv", va, vvs, ps5, rfl, lv, by rw [e]; exact wv, rfl, k5, by rw [e]; exact hG _ _ hlen, hi'⟩
  · rintro P' m' N' h4 tk4 ⟨sub, mf, ta, tvs, ps, mv, hta, htw, rfl, k37, hlen, hin⟩ F
    walk_at "go"
    dsimp only [retOf]
    have hpl : pvs.length = n := by have := intsLen hpi; simpa using this
    rw [hpl] at htw
    exact hQ _ _ _ P' F.ex ⟨F.ktab (.head _) k37, ta, tvs, rfl, hta, htw⟩
end

/-! text Word -/
section
open PySem PySem.W PyProof.Rows PySem.Calls PySem.Spec
set_option maxRecDepth 100000
set_option maxHeartbeats 400000
set_option pp.deepTerms false
set_option pp.maxSteps 6000
local macro_rules | `(tactic| omega) => `(tactic| with_reducible first
  | assumption
  | exact Nat.zero_le _
  | exact Int.natCast_nonneg _
  | exact om0 (by assumption)
  | exact om1 (by assumption) (by decide)
  | exact om2 (by assumption) (by decide)
  | exact om3 (by assumption) (by decide)
  | exact om4 (by assumption) (by decide)
  | exact omT (by assumption)
  | exact omI (by assumption) (by assumption)
  | exact omI' (by assumption) (by assumption)
  | exact omL (by assumption) (by first | assumption | decide)
  | exact omLt (by assumption) (by first | assumption | decide)
  | exact omS (by assumption) (by first | assumption | decide)
  | exact omV (by assumption) (by first | assumption | decide)
  | exact omW (by assumption) (by first | assumption | decide)
  | exact omE (by assumption) (by assumption) (by first | assumption | decide)
  | exact omE' (by assumption) (by assumption) (by first | assumption | decide)
  | exact om1l (by assumption) (by decide)
  | exact om2l (by assumption) (by decide)
  | exact om1t (by assumption) (by assumption) (by decide)
  | exact om2t (by assumption) (by assumption) (by decide)
  | exact om3t (by assumption) (by assumption) (by decide)
  | exact omC (by assumption) (by decide)
  | exact omCi (by assumption) (by assumption) (by decide)
  | exact omCe (by assumption) (by assumption) (by assumption) (by decide)
  | exact omQ (by assumption) (by assumption) (by decide)
  | exact omD (by assumption)
  | exact omJ (by assumption) (by assumption)
  | exact omK (by assumption) (by assumption)
  | exact omN (by assumption) (by assumption)
  | exact omU (by assumption))
section
variable {prog : Program} {w : World} {A : Around} {E : Value → Shared → Prop} {s : Shared} {env : Env} {b : Bs} {P : PM} {L : Addr} {m : Mp} {N N' : List (Addr × Kd)}
/-- a comprehension over a tuple -/
theorem compTup {elt iter : Expr} {x : PySem.Str} {px pos : Pos} {ifs : List Expr} {scope : Scope} {cl : List (PySem.Str × Addr)} {its : List Value} {Q : Value → Shared → Prop}
    (J : Nat → PM → Mp → List (Addr × Kd) → List Value → Prop) (hA : A.handled = none)
    (hi : wpAny (model prog w) A (eval iter env) (fun v s₁ => ∃ T, v = .ref T ∧ Same s s₁ ∧ ∃ P m N, Fm b P L s₁.heap m ((T, .is { cls := .type "tuple", data := .seq its.toArray }) :: N) ∧ J 0 P m N []) E s)
    (hJ : ∀ i P m N out, J i P m N out → out.length ≤ sizeLine)
    (turn : ∀ i P m N out C D I T oI mc h tk v, its[i]? = some v → ∀ K : Value → Shared → Prop, Hid (fun y s₄ => Same s s₄ ∧ ∃ P' m' N' mc', Fm b P' L s₄.heap m' ((C, .ns mc') :: (D, .list out) :: (I, .is oI) :: (T, .is { cls := .type "tuple", data := .seq its.toArray }) :: N') ∧ J (i + 1) P' m' N' (out ++ [y])) K → ∀ K0 : Unit → Shared → Prop, Hid (fun _ s₃ => Same s s₃ ∧ ∃ P' m' N' mc', Fm b P' L s₃.heap m' ((C, .ns mc') :: (D, .list out) :: (I, .is oI) :: (T, .is { cls := .type "tuple", data := .seq its.toArray }) :: N') ∧ J (i + 1) P' m' N' out) K0 → J i P m N out → Fm b P L h m ((C, .ns (mset mc x v)) :: (D, .list out) :: (I, .is oI) :: (T, .is { cls := .type "tuple", data := .seq its.toArray }) :: N) →
      wpAny (model prog w) A (forIn ifs true fun c r => if r = true then do let ok ← isTrue c (compEnvC scope cl C env) (eval c (compEnvC scope cl C env)); pure (ForInStep.yield ok) else pure (ForInStep.yield r)) (fun ok s₃ =>
        if ok = true then wpAny (model prog w) A (eval elt (compEnvC scope cl C env)) K (fun _ _ => False) s₃
        else K0 () s₃) (fun _ _ => False) ⟨h, s.gens, s.drawn, tk, s.os⟩)
    (fin : ∀ P m N out D h tk, J its.length P m N out → Fm b P L h m ((D, .list out) :: N) → Q (.ref D) ⟨h, s.gens, s.drawn, tk, s.os⟩)
    (hclos : closureFor scope env = pure cl := by rfl) (hcell : ∀ x ∈ scope.names, x.2 ≠ .cell := by decide) (hkind : scope.kind = .function := by rfl) (hx : (compEnvC scope cl 0 env).kindOf x = some .local := by rfl)
    (hnames : ∀ x ∈ scope.names, x.2 = .local → scope.names.lookup x.1 = some .local := by decide) (hs : ∀ x, foldedSetIterable iter env x = pure x := by intro _; rfl) :
    wpAny (model prog w) A (eval (.ListComp elt [⟨.Name x px, iter, ifs, 0⟩] scope pos) env) Q E s := by
  rw [eval_ListComp]
  refine wpAny_comprehension_free rfl hs hclos hkind hnames (wpAny_mono hi (fun v s₁ q => ?_) fun _ _ e => e)
  obtain ⟨T, rfl, q1, P, m, N, F, hj⟩ := q
  have isT : ∀ {h : Heap} {P m N}, Fm b P L h m N → (T, Kd.is { cls := .type "tuple", data := .seq its.toArray }) ∈ N → h.IsTuple T its.toArray := fun F hm => by
    obtain ⟨o, e, _, rfl⟩ := F.led _ hm
    exact ⟨_, e, rfl, 0, rfl⟩
  refine wpAny_pyIter_tuple (isT F (.head _)) ?_
  have F₁ := F.push (o := { cls := .type "tuple_iterator", data := .fields #[.ref T, .int 0 0] }) (k := .is _) rfl (ty_ne "tuple_iterator") rfl
  generalize hI : s₁.heap.objs.size = I at F₁ ⊢
  refine nwL (by exact F₁) (fun D h₂ F₂ => ?_) (Nat.zero_le _)
  refine compEnv_ (by exact F₂) hcell fun C h₃ F₃ => ?_
  dsimp only [newEnv]
  show codeAny _ _ (.compStart (.ListComp elt [⟨.Name x px, iter, ifs, 0⟩] scope pos) 0 (.ref I) (.ref D) (compEnvC scope cl C env)) _ _
  have isI : ∀ {h : Heap} {P m N oI} {i : Nat}, Fm b P L h m N → (I, Kd.is oI) ∈ N → oI.cls = .type "tuple_iterator" → oI.data = .fields #[.ref T, .int i 0] → h.IsTupleIter I T i := fun F hm h1 h2 => by
    obtain ⟨o, e, _, rfl⟩ := F.led _ hm
    exact ⟨_, e, h1, h2⟩
  have loop : ∀ s', Same s s' → Fm b P L s'.heap m ((C, .ns fun _ => none) :: (D, .list []) :: (I, .is { cls := .type "tuple_iterator", data := .fields #[.ref T, .int 0 0] }) :: (T, .is { cls := .type "tuple", data := .seq its.toArray }) :: N) → codeAny (model prog w) A (.compLoop (.ListComp elt [⟨.Name x px, iter, ifs, 0⟩] scope pos) 0 (.ref I) (.ref D) (compEnvC scope cl C env)) (compPost (model prog w) A E none Q (.ref D) C) s' := by
    intro s' hs Fs
    refine codeAny_compLoop_tests (fun n s' => Same s s' ∧ ∃ i P m N out mc oI, n = its.length - i ∧ i ≤ its.length ∧ oI.cls = .type "tuple_iterator" ∧ oI.data = .fields #[.ref T, .int i 0] ∧ Fm b P L s'.heap m ((C, .ns mc) :: (D, .list out) :: (I, .is oI) :: (T, .is { cls := .type "tuple", data := .seq its.toArray }) :: N) ∧ J i P m N out) (fun n s' hI' => ?_) (its.length - 0)
      ⟨hs, 0, P, m, N, [], _, _, rfl, Nat.zero_le _, rfl, rfl, Fs, hj⟩ (fun v => rfl)
    obtain ⟨hs, i, P', m', N', out, mc, oI, hn, hi, hc, hd, F', hj⟩ := hI'
    rw [hs.eq]
    by_cases hlt : i < its.length
    · refine wpAny_pyNext_tuple_item (isI F' (.tail _ (.tail _ (.head _))) hc hd) (isT F' (.tail _ (.tail _ (.tail _ (.head _))))) (x := its[i]) (by simpa using List.getElem?_eq_getElem hlt) fun h₂ hi2 hs2 => ?_
      obtain ⟨o2, e2, c2, d2⟩ := hi2
      have F₂ := F'.upd (k' := .is o2) (.tail (.tail .head)) hs2 e2 (by rw [c2]; exact ty_ne "tuple_iterator") rfl
      refine wpAny_assign_Name (stN F₂ .head (fun h₃ tk F₃ => ?_) rfl (by show (relabel scope env).kind = _; exact hkind) hx)
      refine wpAny_mono (turn i P' m' N' out C D I T o2 mc h₃ tk _ (List.getElem?_eq_getElem hlt) _ (fun _ _ q => q) _ (fun _ _ q => q) hj F₃) (fun ok s₃ q => ?_) fun _ _ f => f.elim
      by_cases hok : ok = true
      · rw [if_pos hok] at q ⊢
        refine wpAny_mono q (fun y s₄ r => ?_) fun _ _ f => f.elim
        obtain ⟨r1, P4, m4, N4, mc4, F4, j4⟩ := r
        refine apL F4 (.tail .head) (hJ _ _ _ _ _ hj) fun h₅ F₅ => ?_
        exact ⟨its.length - (i + 1), by omega, ⟨r1.gens, r1.drawn, r1.os⟩, i + 1, P4, m4, N4, _, mc4, o2, rfl, hlt, c2, d2, F₅, j4⟩
      · rw [if_neg hok] at q ⊢
        obtain ⟨r1, P4, m4, N4, mc4, F4, j4⟩ := q
        exact ⟨its.length - (i + 1), by omega, r1, i + 1, P4, m4, N4, _, mc4, o2, rfl, hlt, c2, d2, F4, j4⟩
    · have : i = its.length := by omega
      subst this
      refine wpAny_pyNext_tuple_end hA (isI F' (.tail _ (.tail _ (.head _))) hc hd) (isT F' (.tail _ (.tail _ (.tail _ (.head _))))) (by simp) fun h₂ hx2 => ?_
      have Fr : Fm b P' L s'.heap m' ((I, .is oI) :: (C, .ns mc) :: (D, .list out) :: (T, .is { cls := .type "tuple", data := .seq its.toArray }) :: N') := F'.perm (by
        refine List.Perm.symm ?_
        exact (List.Perm.cons _ (List.Perm.swap _ _ _)).trans (List.Perm.swap _ _ _))
      have F2 := Fr.extBut hx2
      refine ⟨mc, F2.nsAt (.head _), fun h' hs' => fin P' m' N' out D h' _ hj ?_⟩
      exact (F2.extBut hs'.extBut).drop (.cons_cons _ (.cons _ (List.Sublist.refl _)))
  have hsame : ∀ h tk, Same s ⟨h, s₁.gens, s₁.drawn, tk, s₁.os⟩ := fun h tk => ⟨q1.gens, q1.drawn, q1.os⟩
  refine codeAny_compStart_list (loop _ (hsame _ _) F₃) ?_
  exact wpAny_pyIter_tupleiter (isI F₃ (.tail _ (.tail _ (.head _))) rfl rfl) (loop _ (hsame _ _) F₃)
end
end

/-! text Word2 -/
section
open PySem PySem.W PyProof.Rows PySem.Calls PySem.Spec
set_option maxRecDepth 100000
set_option maxHeartbeats 400000
set_option pp.deepTerms false
set_option pp.maxSteps 6000
local macro_rules | `(tactic| omega) => `(tactic| with_reducible first
  | assumption
  | exact Nat.zero_le _
  | exact Int.natCast_nonneg _
  | exact om0 (by assumption)
  | exact om1 (by assumption) (by decide)
  | exact om2 (by assumption) (by decide)
  | exact om3 (by assumption) (by decide)
  | exact om4 (by assumption) (by decide)
  | exact omT (by assumption)
  | exact omI (by assumption) (by assumption)
  | exact omI' (by assumption) (by assumption)
  | exact omL (by assumption) (by first | assumption | decide)
  | exact omLt (by assumption) (by first | assumption | decide)
  | exact omS (by assumption) (by first | assumption | decide)
  | exact omV (by assumption) (by first | assumption | decide)
  | exact omW (by assumption) (by first | assumption | decide)
  | exact omE (by assumption) (by assumption) (by first | assumption | decide)
  | exact omE' (by assumption) (by assumption) (by first | assumption | decide)
  | exact om1l (by assumption) (by decide)
  | exact om2l (by assumption) (by decide)
  | exact om1t (by assumption) (by assumption) (by decide)
  | exact om2t (by assumption) (by assumption) (by decide)
  | exact om3t (by assumption) (by assumption) (by decide)
  | exact omC (by assumption) (by decide)
  | exact omCi (by assumption) (by assumption) (by decide)
  | exact omCe (by assumption) (by assumption) (by assumption) (by decide)
  | exact omQ (by assumption) (by assumption) (by decide)
  | exact omD (by assumption)
  | exact omJ (by assumption) (by assumption)
  | exact omK (by assumption) (by assumption)
  | exact omN (by assumption) (by assumption)
  | exact omU (by assumption))
noncomputable def wstep (n : Int) (k : Int) : List Int := if 16 ^ k.toNat ≤ n then [65 + Int.fmod (Int.fdiv n (16 ^ k.toNat)) 16] else []
theorem wstepT {n k : Int} (h : 16 ^ k.toNat ≤ n) : wstep n k = [65 + Int.fmod (Int.fdiv n (16 ^ k.toNat)) 16] := if_pos h
theorem wstepF {n k : Int} (h : ¬ 16 ^ k.toNat ≤ n) : wstep n k = [] := if_neg h
noncomputable def wordOf (n : Int) : List Int := [(2 : Int), 1, 0].flatMap (wstep n)
theorem snocW {out : List Value} {ns ms : List Int} {x : Int} {t : Tok} (ho : IntsAre out ns) (hw : ms = ns ++ [x]) : IntsAre (out ++ [.int x t]) ms := by rw [hw]; exact ksk_snoc ho
theorem c_word {prog : Program} {w : World} {A : Around} {s : Shared} {P : PM} (hz : Fz P s.heap) (S : Sta P) (hroom : A.depth + 10 < recursionLimit) (hA : A.handled = none) (hu : A.units + 300 < cLine)
    {n : Int} {t : Tok} (h0 : 0 ≤ n) (h1 : n < 4096) :
    Con prog w A [] P s (.ref 85) [.int n t] (fun P' _ v => WP P' v (wordOf n)) := by
  intro Q E hQ
  refine wpAny_call (enterI (X := []) (c := 84) 15 hz S (by decide) (by omega) (fun pm => rfl) fun h₁ F hk₁ => ?_)
  refine stC F (by rfl) .head fun h₂ F => ?_
  have F : Fm ⟨[], P, s.heap⟩ P s.heap.objs.size h₂ (fun _ => none) [(s.heap.objs.size + 1, .cell (some (.int n t)))] := F
  refine ⟨(S.mono F.ex.sub).noLimit F.ex.fz, ?_⟩
  unfold bodyOf
  walk1
  walk1
  refine compTup (b := ⟨[], P, s.heap⟩) (L := s.heap.objs.size) (its := [.int 2 s.toks, .int 1 (s.toks + 1), .int 0 (s.toks + 1 + 1)]) (fun i P' m' N' out => P = P' ∧ N' = [(s.heap.objs.size + 1, .cell (some (.int n t)))] ∧ IntsAre out (([(2 : Int), 1, 0].take i).flatMap (wstep n)) ∧ out.length ≤ i ∧ i ≤ 3) hA ?hi ?hJ ?turn ?fin
  case hi =>
    walk_at "go"
    refine wpAny_newTuple ?_ (show 3 ≤ sizeLine by decide)
    have F := F.push (o := { cls := .type "tuple", data := .seq #[.int 2 s.toks, .int 1 (s.toks + 1), .int 0 (s.toks + 1 + 1)] 0 }) (k := .is _) rfl (ty_ne "tuple") rfl
    exact ⟨_, rfl, ⟨rfl, rfl, rfl⟩, _, _, _, F, rfl, rfl, .nil, Nat.le_refl _, by decide⟩
  case hJ =>
    rintro i P' m' N' out ⟨rfl, rfl, ho, hol, hi⟩
    exact Nat.le_trans (Nat.le_trans hol hi) (by decide)
  case turn =>
    rintro i P' m' N' out C D I T oI mc h tk v hv K hK K0 hK0 ⟨rfl, rfl, ho, hol, hi⟩ F3
    have hi3 : i = 0 ∨ i = 1 ∨ i = 2 := by
      have := (List.getElem?_eq_some_iff.mp hv).1
      simp at this
      omega
    rcases hi3 with rfl | rfl | rfl
    · have : v = .int 2 s.toks := (Option.some.inj hv).symm
      subst this
      have e : (([(2 : Int), 1, 0].take (0 + 1)).flatMap (wstep n)) = (([(2 : Int), 1, 0].take 0).flatMap (wstep n)) ++ wstep n 2 := by simp
      refine wpAny_tests_one ?_
      walk_at "go"
      · rename_i hq
        try walk_at "to"
        refine ⟨⟨rfl, rfl, rfl⟩, _, _, _, _, F3, rfl, rfl, ?_, by rw [List.length_append, List.length_singleton]; omega, by omega⟩
        have hw := @wstepT n 2 hq
        exact snocW ho (e.trans (congrArg _ hw))
      · rename_i hq
        try walk_at "to"
        refine ⟨⟨rfl, rfl, rfl⟩, _, _, _, _, F3, rfl, rfl, ?_, by omega, by omega⟩
        have hw := @wstepF n 2 hq
        rw [e, hw, List.append_nil]
        exact ho
    · have : v = .int 1 (s.toks + 1) := (Option.some.inj hv).symm
      subst this
      have e : (([(2 : Int), 1, 0].take (1 + 1)).flatMap (wstep n)) = (([(2 : Int), 1, 0].take 1).flatMap (wstep n)) ++ wstep n 1 := by simp
      refine wpAny_tests_one ?_
      walk_at "go"
      · rename_i hq
        try walk_at "to"
        refine ⟨⟨rfl, rfl, rfl⟩, _, _, _, _, F3, rfl, rfl, ?_, by rw [List.length_append, List.length_singleton]; omega, by omega⟩
        have hw := @wstepT n 1 hq
        exact snocW ho (e.trans (congrArg _ hw))
      · rename_i hq
        try walk_at "to"
        refine ⟨⟨rfl, rfl, rfl⟩, _, _, _, _, F3, rfl, rfl, ?_, by omega, by omega⟩
        have hw := @wstepF n 1 hq
        rw [e, hw, List.append_nil]
        exact ho
    · have : v = .int 0 (s.toks + 1 + 1) := (Option.some.inj hv).symm
      subst this
      have e : (([(2 : Int), 1, 0].take (2 + 1)).flatMap (wstep n)) = (([(2 : Int), 1, 0].take 2).flatMap (wstep n)) ++ wstep n 0 := by simp
      refine wpAny_tests_one ?_
      walk_at "go"
      · rename_i hq
        try walk_at "to"
        refine ⟨⟨rfl, rfl, rfl⟩, _, _, _, _, F3, rfl, rfl, ?_, by rw [List.length_append, List.length_singleton]; omega, by omega⟩
        have hw := @wstepT n 0 hq
        exact snocW ho (e.trans (congrArg _ hw))
      · rename_i hq
        try walk_at "to"
        refine ⟨⟨rfl, rfl, rfl⟩, _, _, _, _, F3, rfl, rfl, ?_, by omega, by omega⟩
        have hw := @wstepF n 0 hq
        rw [e, hw, List.append_nil]
        exact ho
  case fin =>
    rintro P' m' N' out D h tk ⟨rfl, rfl, ho, hol, hi⟩ F3
    walk_at "go"
    dsimp only [retOf]
    obtain ⟨P6, F6, h6, h7⟩ := F3.frzL (by simp)
    exact hQ _ _ _ P6 F6.ex ⟨D, out, rfl, h6, ho⟩
end

/-! text LawA -/
section
open PySem PySem.W PyProof.Rows PySem.Calls PySem.Spec
set_option maxRecDepth 100000
set_option maxHeartbeats 400000
local macro_rules | `(tactic| omega) => `(tactic| with_reducible first
  | assumption
  | exact Nat.zero_le _
  | exact Int.natCast_nonneg _
  | exact om0 (by assumption)
  | exact om1 (by assumption) (by decide)
  | exact om2 (by assumption) (by decide)
  | exact om3 (by assumption) (by decide)
  | exact om4 (by assumption) (by decide)
  | exact omT (by assumption)
  | exact omI (by assumption) (by assumption)
  | exact omI' (by assumption) (by assumption)
  | exact omL (by assumption) (by first | assumption | decide)
  | exact omLt (by assumption) (by first | assumption | decide)
  | exact omS (by assumption) (by first | assumption | decide)
  | exact omV (by assumption) (by first | assumption | decide)
  | exact omW (by assumption) (by first | assumption | decide)
  | exact omE (by assumption) (by assumption) (by first | assumption | decide)
  | exact omE' (by assumption) (by assumption) (by first | assumption | decide)
  | exact om1l (by assumption) (by decide)
  | exact om2l (by assumption) (by decide)
  | exact om1t (by assumption) (by assumption) (by decide)
  | exact om2t (by assumption) (by assumption) (by decide)
  | exact om3t (by assumption) (by assumption) (by decide)
  | exact omC (by assumption) (by decide)
  | exact omCi (by assumption) (by assumption) (by decide)
  | exact omCe (by assumption) (by assumption) (by assumption) (by decide)
  | exact omQ (by assumption) (by assumption) (by decide)
  | exact omD (by assumption)
  | exact omJ (by assumption) (by assumption)
  | exact omK (by assumption) (by assumption)
  | exact omN (by assumption) (by assumption)
  | exact omU (by assumption))
section
variable {M : Model} {A : Around} {E : Value → Shared → Prop} {s : Shared} {env : Env} {b : Bs} {P : PM} {L : Addr} {m : Mp} {N N' : List (Addr × Kd)} {x : PySem.Str} {v : Value} {pos : Pos}
/-- a cell of this frame's, frozen -/
theorem nmY {Q : Value → Shared → Prop} {c : Addr} {o : Obj} (F : Fm b P L s.heap m N) (hc : env.cells.lookup x = some c) (hm : P c = some o) (hd : o.data = .cell (some v)) (h : Q v s)
    (hk : env.scope.kind = .function := by rfl) (hl : env.kindOf x = some .cell := by rfl)
    (hdb : (x == ("__debug__" : PySem.Str)) = false := by decide) : wpAny M A (eval (.Name x pos) env) Q E s := wpAny_Name (wpAny_loadName_cell hk hl hc ⟨o, (F.ex.fz _ _ hm).1, hd⟩ h) hdb
end
section
variable {prog : Program} {w : World} {A : Around} {E : Value → Shared → Prop} {s : Shared} {env : Env} {b : Bs} {P : PM} {L : Addr} {m : Mp} {N N' : List (Addr × Kd)}
theorem lsL {l : Addr} {its : List Value} {Q : Value → Shared → Prop} (F : Fm b P L s.heap m N) (hl : Lst P N l its) (hz : its.length ≤ 1000)
    (h : ∀ D h', Fm b P L h' m ((D, .list its) :: N) → Q (.ref D) ⟨h', s.gens, s.drawn, s.toks, s.os⟩) : wpAny (model prog w) A (call (.type "list") [.ref l]) Q E s := by
  have l1000 : (1000 : Nat) ≤ sizeLine := by decide
  obtain ⟨o, e, hc, n, hd⟩ := F.lst hl
  exact call_list_seq l (.inl rfl) e hc hd (fun h' c' hk ho => h _ _ (F.born hk (Nat.le_refl _) ho (ty_ne "list") ⟨rfl, rfl, c', rfl⟩)) (by simp; omega)
theorem lsR {r : Addr} {a n c : Int} {t u v : Tok} {k : Nat} {Q : Value → Shared → Prop} (hA : A.handled = none) (F : Fm b P L s.heap m ((r, .is (rgO a n c t u v)) :: N)) (hs : Builtin.Range.small a n c = true) (hk : Builtin.Range.rangeSize a n c = k) (hz : k ≤ 1000)
    (h : ∀ D h' tk vs, Fm b P L h' m ((D, .list vs) :: N) → IntsAre vs ((List.range k).map fun (i : Nat) => a + i * c) → Q (.ref D) ⟨h', s.gens, s.drawn, tk, s.os⟩) : wpAny (model prog w) A (call (.type "list") [.ref r]) Q E s := by
  obtain ⟨o, e, _, rfl⟩ := F.led _ (.head _)
  refine call_list_range hA e hs hk (by omega) fun h' tk acc' c' hkeep ho hi => ?_
  have F' := (F.born hkeep (Nat.le_refl _) ho (ty_ne "list") (kd := .list acc'.toList) ⟨rfl, rfl, c', by simp⟩).drop (N' := (s.heap.objs.size, .list acc'.toList) :: N) (.cons_cons _ (.cons _ (List.Sublist.refl _)))
  refine h _ _ _ _ F' ?_
  obtain ⟨h1, h2⟩ := hi
  have key : ∀ (vs : List Value) (ns : List Int), vs.length = ns.length → (∀ (j : Nat) (v : Value), vs[j]? = some v → ∃ (x : Int) (t : Tok), ns[j]? = some x ∧ v = Value.int x t) → IntsAre vs ns := by
    intro vs
    induction vs with
    | nil => intro ns hl _; cases ns with | nil => exact .nil | cons _ _ => simp at hl
    | cons v vs ih =>
      intro ns hl hj
      cases ns with
      | nil => simp at hl
      | cons x ns =>
        obtain ⟨y, t, e1, e2⟩ := hj 0 v rfl
        simp at e1
        subst e1 e2
        exact .cons _ _ (ih ns (by simpa using hl) fun j v hv => by simpa using hj (j + 1) v (by simpa using hv))
  refine key _ _ (by simp [h1]) fun j v hv => ?_
  have hv' : acc'[j]? = some v := by simpa using hv
  obtain ⟨t, rfl⟩ := h2 j v hv'
  have hj : j < k := by
    have := (Array.getElem?_eq_some_iff.mp hv').1
    rw [h1] at this; exact this
  exact ⟨_, t, by simp [hj], rfl⟩
/-- a lambda is made in law's body -/
theorem mkL {params : Arguments} {body : PySem.Expr} {scope : PySem.Scope} {pos : Pos} {clos : List (PySem.Str × Addr)} {c T : Addr} {ps : List Value} {Q : Value → Shared → Prop} (F : Fm b P L s.heap m ((T, .tab ps) :: N)) (S : Sta b.P) (hcl : closureFor scope env = pure clos) (hge : env.globals = mainGlobals) (hcode : env.code = .ref c) (C : CodeHdP P c T)
    (ht : TriplesOk ps) (hnf : codeAmong pos ps = none) (hdef : defaultsOf params env = ([], []))
    (h : ∀ f c' ctv doc pm h' tk P', Fm b P' L h' m ((f, .is (fnO "<lambda>" (env.qual ++ "<lambda>") params (.expr body) scope clos pm (.ref c') ctv doc)) :: (T, .tab (ps ++ [rawInt pos.line, rawInt pos.col, .ref c'])) :: N) → (∀ c o, P c = some o → P' c = some o) → CodeRecP P' c' (env.qual ++ "<lambda>") →
      Q (.ref f) ⟨h', s.gens, s.drawn, tk, s.os⟩) : wpAny (model prog w) A (eval (.Lambda params body scope pos) env) Q E s := by
  refine kla_eval hdef ?_
  rw [makeFunction_eq]
  simp only [List.zip_nil_right, List.filterMap_nil, List.isEmpty_nil, if_true, pure_bind]
  exact mkTail_new F S hcl hge hcode C ht hnf h
end
end

/-! text Leaves -/
section
open PySem PySem.W PyProof.Rows PySem.Calls PySem.Spec
set_option maxRecDepth 100000
set_option maxHeartbeats 2000000
local macro_rules | `(tactic| omega) => `(tactic| with_reducible first
  | assumption
  | exact Nat.zero_le _
  | exact Int.natCast_nonneg _
  | exact om0 (by assumption)
  | exact om1 (by assumption) (by decide)
  | exact om2 (by assumption) (by decide)
  | exact om3 (by assumption) (by decide)
  | exact om4 (by assumption) (by decide)
  | exact omT (by assumption)
  | exact omI (by assumption) (by assumption)
  | exact omI' (by assumption) (by assumption)
  | exact omL (by assumption) (by first | assumption | decide)
  | exact omLt (by assumption) (by first | assumption | decide)
  | exact omS (by assumption) (by first | assumption | decide)
  | exact omV (by assumption) (by first | assumption | decide)
  | exact omW (by assumption) (by first | assumption | decide)
  | exact omE (by assumption) (by assumption) (by first | assumption | decide)
  | exact omE' (by assumption) (by assumption) (by first | assumption | decide)
  | exact om1l (by assumption) (by decide)
  | exact om2l (by assumption) (by decide)
  | exact om1t (by assumption) (by assumption) (by decide)
  | exact om2t (by assumption) (by assumption) (by decide)
  | exact om3t (by assumption) (by assumption) (by decide)
  | exact omC (by assumption) (by decide)
  | exact omCi (by assumption) (by assumption) (by decide)
  | exact omCe (by assumption) (by assumption) (by assumption) (by decide)
  | exact omQ (by assumption) (by assumption) (by decide)
  | exact omD (by assumption)
  | exact omJ (by assumption) (by assumption)
  | exact omK (by assumption) (by assumption)
  | exact omN (by assumption) (by assumption)
  | exact omU (by assumption))
noncomputable def leavesStep (ns kept : List Int) (n : Int) : List Int :=
  if (ns.filter fun o => decide (Int.fdiv o 16 = n)) = [] ∧ n ∉ kept then kept ++ [n] else kept
noncomputable def leavesOf (ns : List Int) : List Int := ns.foldl (leavesStep ns) []

theorem c_leaves {prog : Program} {w : World} {A : Around} {s : Shared} {P : PM} (hz : Fz P s.heap) (S : Sta P) (hroom : A.depth < recursionLimit) (hA : A.handled = none) (hu : A.units + 200 < cLine)
    {a : Addr} {vs : List Value} {ns : List Int} (hl : LP P a vs) (hi : IntsAre vs ns) (hlen : ns.length ≤ 7) :
    Con prog w A [] P s (.ref 68) [.ref a] (fun P' _ v => WP P' v (leavesOf ns)) := by
  intro Q E hQ
  refine wpAny_call (enterI (X := []) (c := 67) 12 hz S (by decide) hroom (fun pm => rfl) fun h₁ F hk₁ => ?_)
  refine stL F fun h₂ tk F2 => ?_
  refine ⟨(S.mono F2.ex.sub).noLimit F2.ex.fz, ?_⟩
  clear F
  unfold bodyOf
  repeat' walk1
  refine wpAny_For ?_
  walk1
  rename_i D h₃ F3 h₄ tk₄ F4
  refine forL (fun i P' m' N' => P = P' ∧ ∃ kv u, N' = [(D, .list kv), (s.heap.objs.size + 1, .cell u)] ∧ IntsAre kv ((ns.take i).foldl (leavesStep ns) []) ∧ kv.length ≤ i ∧ i ≤ 7 ∧ m' "numbers" = some (.ref a) ∧ m' "kept" = some (.ref D))
    hA F4 ?_ ?_ ?_ ?_ (its := vs)
  · rintro i P' m' N' ⟨rfl, _⟩; exact .frz hl
  · exact ⟨rfl, [], none, rfl, .nil, Nat.le_refl _, Nat.zero_le _, rfl, rfl⟩
  · rintro i P' m' N' I h tk v hv K hK ⟨rfl, kv, u, rfl, hk, hkl, hi7, m1, m2⟩ F5
    have hin : i < ns.length := by
      have := (List.getElem?_eq_some_iff.mp hv).1
      rw [intsLen hi] at this; exact this
    obtain ⟨t, e⟩ := intsAt hi (List.getElem?_eq_getElem hin)
    rw [hv] at e; cases e
    refine wpAny_assign_Name ?_
    walk1
    refine wpAny_execs_cons ?_
    rename_i h₆ F6
    refine compS (b := ⟨[], P, s.heap⟩) (l := a) (its := vs) (fun j P'' m'' N'' out => P = P'' ∧ m' = m'' ∧ N'' = [(I, .liter a (i + 1)), (D, .list kv), (s.heap.objs.size + 1, .cell (some (.int ns[i] t)))] ∧ IntsAre out ((ns.take j).filter (fun o => decide (Int.fdiv o 16 = ns[i]))) ∧ out.length ≤ j ∧ j ≤ 7) hA ?_ ?_ ?_ ?_
    · walk1
      exact ⟨rfl, ⟨rfl, rfl, rfl⟩, _, _, _, F6, rfl, rfl, rfl, .nil, Nat.le_refl _, Nat.zero_le _⟩
    · rintro j P'' m'' N'' out ⟨rfl, _, _, _, h1, h2⟩
      exact ⟨.frz hl, Nat.le_trans (Nat.le_trans h1 h2) (by decide)⟩
    · rintro j P'' m'' N'' out C D' I' mc h₇ tk₇ v' hv' K hK K0 hK0 ⟨rfl, rfl, rfl, ho, hol, hj7⟩ F7
      have hjn : j < ns.length := by
        have := (List.getElem?_eq_some_iff.mp hv').1
        rw [intsLen hi] at this; exact this
      obtain ⟨t', e'⟩ := intsAt hi (List.getElem?_eq_getElem hjn)
      rw [hv'] at e'; cases e'
      refine wpAny_tests_one ?_
      walk_at "go"
      · try walk_at "to"
        refine ⟨⟨rfl, rfl, rfl⟩, _, _, _, _, by assumption, rfl, rfl, rfl, ?_, by simp; omega, by omega⟩
        rename_i hq
        rw [List.take_add_one, List.getElem?_eq_getElem hjn, List.filter_append]
        simpa [hq] using ksk_snoc ho
      · try walk_at "to"
        refine ⟨⟨rfl, rfl, rfl⟩, _, _, _, _, by assumption, rfl, rfl, rfl, ?_, by omega, by omega⟩
        rename_i hq
        rw [List.take_add_one, List.getElem?_eq_getElem hjn, List.filter_append]
        simpa [hq] using ho
    · rintro P'' m'' N'' out D' h₇ tk₇ ⟨rfl, rfl, rfl, ho, hol, hj7⟩ F7
      have hfull : ns.take vs.length = ns := by rw [intsLen hi]; exact List.take_length
      rw [hfull] at ho
      have hfold : (ns.take (i + 1)).foldl (leavesStep ns) [] = leavesStep ns ((ns.take i).foldl (leavesStep ns) []) ns[i] := by
        rw [List.take_add_one, List.getElem?_eq_getElem hin, List.foldl_append]; rfl
      generalize (ns.take i).foldl (leavesStep ns) [] = K at hk hfold ⊢
      walk_at "go"
      all_goals ((try dsimp only); refine ⟨⟨rfl, rfl, rfl⟩, _, _, _, Fm.drop (by assumption) (by walk_at "sub"), rfl, _, _, rfl, ?_, ?_, by omega, by walk_at "mv", by walk_at "mv"⟩)
      all_goals (try (rw [hfold]; unfold leavesStep))
      · rename_i q1 q2
        rw [if_neg (fun q => q.2 (by simpa using q2))]
        exact hk
      · omega
      · rename (decide (List.filter _ _ = []) = true) => q1
        rename (List.any _ _ = false) => q2
        rw [if_pos ⟨by simpa using q1, fun q => by simp at q2; exact q2 _ q rfl⟩]
        exact ksk_snoc hk
      · simp; omega
      · rename_i q1
        rw [if_neg (fun q => (by simpa using q1 : ¬ _) q.1)]
        exact hk
      · omega
  · rintro P' m' N' h tk ⟨rfl, kv, u, rfl, hk, hkl, hi7, m1, m2⟩ F5
    rw [show ns.take vs.length = ns by rw [intsLen hi]; exact List.take_length] at hk
    walk_at "go"
    dsimp only [retOf]
    obtain ⟨P', F6, h6, h7⟩ := F5.frzL (by simp)
    exact hQ _ _ _ P' F6.ex ⟨D, kv, rfl, h6, hk⟩
end

/-! text Begin -/
section
open PySem PySem.W PyProof.Rows PySem.Calls PySem.Spec
set_option maxRecDepth 100000
set_option maxHeartbeats 2000000
local macro_rules | `(tactic| omega) => `(tactic| with_reducible first
  | assumption
  | exact Nat.zero_le _
  | exact Int.natCast_nonneg _
  | exact om0 (by assumption)
  | exact om1 (by assumption) (by decide)
  | exact om2 (by assumption) (by decide)
  | exact om3 (by assumption) (by decide)
  | exact om4 (by assumption) (by decide)
  | exact omT (by assumption)
  | exact omI (by assumption) (by assumption)
  | exact omI' (by assumption) (by assumption)
  | exact omL (by assumption) (by first | assumption | decide)
  | exact omLt (by assumption) (by first | assumption | decide)
  | exact omS (by assumption) (by first | assumption | decide)
  | exact omV (by assumption) (by first | assumption | decide)
  | exact omW (by assumption) (by first | assumption | decide)
  | exact omE (by assumption) (by assumption) (by first | assumption | decide)
  | exact omE' (by assumption) (by assumption) (by first | assumption | decide)
  | exact om1l (by assumption) (by decide)
  | exact om2l (by assumption) (by decide)
  | exact om1t (by assumption) (by assumption) (by decide)
  | exact om2t (by assumption) (by assumption) (by decide)
  | exact om3t (by assumption) (by assumption) (by decide)
  | exact omC (by assumption) (by decide)
  | exact omCi (by assumption) (by assumption) (by decide)
  | exact omCe (by assumption) (by assumption) (by assumption) (by decide)
  | exact omQ (by assumption) (by assumption) (by decide)
  | exact omD (by assumption)
  | exact omJ (by assumption) (by assumption)
  | exact omK (by assumption) (by assumption)
  | exact omN (by assumption) (by assumption)
  | exact omU (by assumption))

/-- the letters of a number to the base 16, front first -/
noncomputable def hexW (fuel : Nat) (n : Int) (acc : List Int) : List Int :=
  match fuel with
  | 0 => acc
  | f + 1 => if n = 0 then acc else hexW f (Int.fdiv n 16) ((65 + Int.fmod n 16) :: acc)

theorem dvm {prog : Program} {w : World} {A : Around} {E : Value → Shared → Prop} {s : Shared} {b : Bs} {P : PM} {L : Addr} {m : Mp} {N : List (Addr × Kd)} {a : Int} {t u : Tok} {Q : Value → Shared → Prop} (F : Fm b P L s.heap m N)
    (h : ∀ D h' t1 t2 tk, Fm b P L h' m ((D, .is { cls := .type "tuple", data := .seq #[.int (a.fdiv 16) t1, .int (a.fmod 16) t2] }) :: N) → Q (.ref D) ⟨h', s.gens, s.drawn, tk, s.os⟩) :
    wpAny (model prog w) A (call (.builtin "divmod") [.int a t, .int 16 u]) Q E s :=
  divmod_int (by decide) (h _ _ _ _ _ (F.push rfl (ty_ne "tuple") rfl)) (Or.inl (PyProof.noPylong_of_log2 (by decide +kernel)))
theorem asT {prog : Program} {w : World} {A : Around} {E : Value → Shared → Prop} {s : Shared} {env : Env} {b : Bs} {P : PM} {L : Addr} {m : Mp} {N : List (Addr × Kd)} {elts : List Expr} {x1 : Nat} {pos : Pos} {D : Addr} {items : Array Value} {Q : Unit → Shared → Prop}
    (hh : A.handled = none) (F : Fm b P L s.heap m ((D, .is { cls := .type "tuple", data := .seq items }) :: N))
    (h : ∀ h', Fm b P L h' m N → wpAny (model prog w) A (assignInOrder ((assignEach elts env).map (·.2)) items.toList) Q E ⟨h', s.gens, s.drawn, s.toks, s.os⟩)
    (hn : (assignEach elts env).length = items.size := by rfl) (hstar : (assignEach elts env).findIdx? (·.1) = none := by rfl) :
    wpAny (model prog w) A (assign (.Tuple elts x1 pos) env (.ref D)) Q E s := by
  obtain ⟨o, e, hc, rfl⟩ := F.led _ (.head _)
  refine wpAny_assign_Tuple hh ⟨_, e, rfl, 0, rfl⟩ hn hstar fun h' hx => h h' ((F.keepAll fun c o e => hx c o (Nat.ne_of_lt (Heap.lt_size e)) e).drop (.cons _ (List.Sublist.refl _)))
local macro_rules | `(tactic| walk_at "assign Tuple") => `(tactic| (refine asT (by assumption) (by assumption) ?_; intro _ _; (try dsimp only)))
local macro_rules | `(tactic| walk_at "call builtin:divmod") => `(tactic| (refine dvm (by assumption) ?_; intro _ _ _ _ _ _; (try dsimp only)))
local macro_rules | `(tactic| walk_at "subscriptTail Name Slice bytes ref") => `(tactic| ((try dsimp only); refine slB (by assumption) (by walk_at "part") (by walk_at "part") (by decide) ?_; intro _ _ _ _; (try dsimp only)))
noncomputable def apB : Array UInt8 := #[65, 66, 67, 68, 69, 70, 71, 72, 73, 74, 75, 76, 77, 78, 79, 80]
theorem ap_pick {r : Int} (h0 : 0 ≤ r) (h1 : r < 16) : (KBy.picked apB (some r) (some (r + 1))).size = 1 ∧ ((KBy.picked apB (some r) (some (r + 1))).toList.map fun c => (c.toNat : Int)) = [65 + r] := by
  have key : ∀ n : _root_.Fin 16, (KBy.picked apB (some ((n.val : Nat) : Int)) (some (((n.val : Nat) : Int) + 1))).size = 1 ∧ ((KBy.picked apB (some ((n.val : Nat) : Int)) (some (((n.val : Nat) : Int) + 1))).toList.map fun c => (c.toNat : Int)) = [65 + ((n.val : Nat) : Int)] := by
    decide +kernel
  obtain ⟨n, rfl⟩ := Int.eq_ofNat_of_zero_le h0
  exact key ⟨n, by omega⟩
theorem hexW_step {k : Nat} {cur : Int} {acc : List Int} (h : cur ≠ 0) : hexW (k + 1) cur acc = hexW k (Int.fdiv cur 16) ((65 + Int.fmod cur 16) :: acc) := by
  show (if cur = 0 then acc else hexW k (Int.fdiv cur 16) ((65 + Int.fmod cur 16) :: acc)) = _
  rw [if_neg h]
theorem hexW_zero (k : Nat) (acc : List Int) : hexW k 0 acc = acc := by cases k <;> rfl
local macro_rules | `(tactic| walk_at "binaryOp Add bytes bytes") => `(tactic| (refine KBy.add_bytes ?_ ?_; rotate_left; intro _ _))
theorem c_int2ap {prog : Program} {w : World} {A : Around} {s : Shared} {P : PM} (hz : Fz P s.heap) (S : Sta P) (hroom : A.depth < recursionLimit) (hA : A.handled = none) (hu : A.units + 200 < cLine)
    {n : Int} {t : Tok} (h0 : 0 ≤ n) (h1 : n < 4096) :
    Con prog w A [] P s (.ref 21) [.int n t] (fun P' _ v => P' = P ∧ ∃ bs t, v = .bytes bs t ∧ bs.size ≤ 3 ∧ (bs.toList.map fun c => (c.toNat : Int)) = hexW 3 n []) := by
  intro Q E hQ
  refine wpAny_call (enterI (X := []) (c := 20) 1 hz S (by decide) hroom (fun pm => rfl) fun h₁ F hk₁ => ?_)
  refine stL F fun h₂ tk F2 => ?_
  refine ⟨(S.mono F2.ex.sub).noLimit F2.ex.fz, ?_⟩
  clear F
  unfold bodyOf
  walk_at "go"
  rename_i F3
  rw [if_neg (by omega : ¬ n < 0)] at F3
  refine whl (fun k P' m' N' => P = P' ∧ N' = [] ∧ ∃ cur bs t1 t2 t3, m' "num" = some (.int cur t1) ∧ m' "val" = some (.bytes bs t2) ∧ m' "AP" = some (.bytes #[65, 66, 67, 68, 69, 70, 71, 72, 73, 74, 75, 76, 77, 78, 79, 80] t3) ∧
    0 ≤ cur ∧ cur < 16 ^ k ∧ k ≤ 3 ∧ bs.size + k = 3 ∧ hexW k cur (bs.toList.map fun c => (c.toNat : Int)) = hexW 3 n []) F3 3 ?_ ?_
  · exact ⟨rfl, rfl, n, #[], _, _, _, rfl, rfl, rfl, h0, by simpa using h1, Nat.le_refl _, rfl, rfl⟩
  · rintro k P' m' N' h tk K hK ⟨rfl, rfl, cur, bs, t1, t2, t3, m1, m2, m3, c0, c1, hk, hb, hx⟩ F4
    walk_at "go"
    · obtain ⟨k', rfl⟩ : ∃ k', k = k' + 1 := by
        cases k with
        | zero => simp at c1; omega
        | succ k' => exact ⟨k', rfl⟩
      have e1 : Int.fdiv cur 16 = cur / 16 := Int.fdiv_eq_ediv_of_nonneg _ (by decide)
      have e2 : Int.fmod cur 16 = cur % 16 := Int.fmod_eq_emod_of_nonneg _ (by decide)
      have hp := ap_pick (r := Int.fmod cur 16) (by omega) (by omega)
      have hpow : (16 : Int) ^ (k' + 1) = 16 * 16 ^ k' := by rw [Int.pow_succ]; omega
      try walk_at "to"
      refine ⟨⟨rfl, rfl, rfl⟩, k', _, _, _, Nat.lt_succ_self _, by assumption, rfl, rfl, _, _, _, _, _, rfl, rfl, by walk_at "mv", by omega, ?_, by omega, ?_, ?_⟩
      · rw [e1]; omega
      · have := hp.1
        rw [Array.size_append]
        show (KBy.picked apB _ _).size + _ + _ = _
        omega
      · rw [hexW_step (by assumption)] at hx
        rw [← hx]
        congr 1
        rw [Array.toList_append, List.map_append]
        show ((KBy.picked apB _ _).toList.map _) ++ _ = _
        rw [hp.2]; rfl
    · have e2 : Int.fmod cur 16 = cur % 16 := Int.fmod_eq_emod_of_nonneg _ (by decide)
      have hp := (ap_pick (r := Int.fmod cur 16) (by omega) (by omega)).1
      show (KBy.picked apB _ _).size + _ ≤ _
      omega
    · dsimp only [retOf]
      rename_i hc
      rw [hc, hexW_zero] at hx
      exact hQ _ _ _ _ F4.ex ⟨rfl, bs, t2, rfl, by omega, hx⟩
end

/-! text Begin2 -/
section
open PySem PySem.W PyProof.Rows PySem.Calls PySem.Spec
set_option maxRecDepth 100000
set_option maxHeartbeats 2000000
local macro_rules | `(tactic| omega) => `(tactic| with_reducible first
  | assumption
  | exact Nat.zero_le _
  | exact Int.natCast_nonneg _
  | exact om0 (by assumption)
  | exact om1 (by assumption) (by decide)
  | exact om2 (by assumption) (by decide)
  | exact om3 (by assumption) (by decide)
  | exact om4 (by assumption) (by decide)
  | exact omT (by assumption)
  | exact omI (by assumption) (by assumption)
  | exact omI' (by assumption) (by assumption)
  | exact omL (by assumption) (by first | assumption | decide)
  | exact omLt (by assumption) (by first | assumption | decide)
  | exact omS (by assumption) (by first | assumption | decide)
  | exact omV (by assumption) (by first | assumption | decide)
  | exact omW (by assumption) (by first | assumption | decide)
  | exact omE (by assumption) (by assumption) (by first | assumption | decide)
  | exact omE' (by assumption) (by assumption) (by first | assumption | decide)
  | exact om1l (by assumption) (by decide)
  | exact om2l (by assumption) (by decide)
  | exact om1t (by assumption) (by assumption) (by decide)
  | exact om2t (by assumption) (by assumption) (by decide)
  | exact om3t (by assumption) (by assumption) (by decide)
  | exact omC (by assumption) (by decide)
  | exact omCi (by assumption) (by assumption) (by decide)
  | exact omCe (by assumption) (by assumption) (by assumption) (by decide)
  | exact omQ (by assumption) (by assumption) (by decide)
  | exact omD (by assumption)
  | exact omJ (by assumption) (by assumption)
  | exact omK (by assumption) (by assumption)
  | exact omN (by assumption) (by assumption)
  | exact omU (by assumption))
noncomputable def begs (fuel : Nat) (n : Int) (acc : List (List Int)) : List (List Int) :=
  match fuel with
  | 0 => acc
  | f + 1 => if 0 < n then begs f (Int.fdiv n 16) (hexW 3 n [] :: acc) else acc

theorem c_begin {prog : Program} {w : World} {A : Around} {s : Shared} {P : PM} (hz : Fz P s.heap) (S : Sta P) (hroom : A.depth + 1 < recursionLimit) (hA : A.handled = none) (hu : A.units + 300 < cLine)
    {n : Int} {t : Tok} (h0 : 0 ≤ n) (h1 : n < 4096) :
    Con prog w A [] P s (.ref 75) [.int n t] (fun P' _ v => RP P' v (begs 3 n [])) := by
  intro Q E hQ
  refine wpAny_call (enterI (X := []) (c := 74) 13 hz S (by decide) (by omega) (fun pm => rfl) fun h₁ F hk₁ => ?_)
  refine stL F fun h₂ tk F2 => ?_
  refine ⟨(S.mono F2.ex.sub).noLimit F2.ex.fz, ?_⟩
  clear F
  unfold bodyOf
  walk_at "go"
  rename_i D h₃ F3 h₄ tk₄ F4
  obtain ⟨P1, F5, l5, sub5⟩ := F4.frzL (by simp)
  refine whl (fun k P' m' N' => N' = [] ∧ ∃ cur a vs r t1, m' "number" = some (.int cur t1) ∧ m' "grown" = some (.ref a) ∧ LP P' a vs ∧ All2 (WP P') vs r ∧ 0 ≤ cur ∧ cur < 16 ^ k ∧ k ≤ 3 ∧ vs.length + k = 3 ∧ begs k cur r = begs 3 n []) F5 3 ?_ ?_
  · exact ⟨rfl, n, _, _, [], _, rfl, rfl, l5, .nil, h0, by simpa using h1, Nat.le_refl _, rfl, rfl⟩
  · rintro k P' m' N' h tk K hK ⟨rfl, cur, a, vs, r, t1, m1, m2, hl, hr, c0, c1, hk, hb, hx⟩ F6
    walk_at "go"
    · refine Con.use ?_ (c_int2ap (n := cur) F6.ex.fz (F6.sta S) ?_ ?_ ?_ ?_ ?_)
      rotate_left
      · walk_at "room"
      · exact hA
      · walk_at "units"
      · omega
      · have : (16 : Int) ^ k ≤ 16 ^ 3 := by
          rcases (by omega : k = 0 ∨ k = 1 ∨ k = 2 ∨ k = 3) with rfl | rfl | rfl | rfl <;> decide
        have e : (16 : Int) ^ 3 = 4096 := by decide
        omega
      · rintro v h' tk' P'' ex ⟨rfl, bs, t', rfl, hsz, hbs⟩
        have F7 := F6.call ex (by simp) (by simp)
        walk_at "go"
        refine lsB (by exact F7) (by exact hA) (Nat.le_trans hsz (by decide)) hbs fun D1 vs1 h8 tk8 F8 hi8 => ?_
        obtain ⟨P2, F9, l9, sub9⟩ := F8.frzL (by simp)
        have hl' := hl.mono sub9
        walk_at "go"
        rename (Fm _ _ _ _ _ _) => F10
        obtain ⟨k', rfl⟩ : ∃ k', k = k' + 1 := by
          cases k with
          | zero => simp at c1; omega
          | succ k' => exact ⟨k', rfl⟩
        have e1 : Int.fdiv cur 16 = cur / 16 := Int.fdiv_eq_ediv_of_nonneg _ (by decide)
        have hpow : (16 : Int) ^ (k' + 1) = 16 * 16 ^ k' := by rw [Int.pow_succ]; omega
        obtain ⟨P3, F11, l11, sub11⟩ := F10.frzL (by simp)
        have F12 := F11.drop (N' := []) (by simp)
        try walk_at "to"
        refine ⟨⟨rfl, rfl, rfl⟩, k', _, _, _, Nat.lt_succ_self _, F12, rfl, _, _, _, hexW 3 cur [] :: r, _, rfl, rfl, l11, ?_, by omega, ?_, by omega, ?_, ?_⟩
        · exact (.cons (WP.mono ⟨_, _, rfl, l9, hi8⟩ sub11) (hr.mono fun _ _ q => (q.mono sub9).mono sub11))
        · rw [e1]; omega
        · simp; omega
        · rw [← hx]
          show _ = if 0 < cur then _ else _
          rw [if_pos (by assumption)]
    · dsimp only [retOf]
      refine hQ _ _ _ _ F6.ex ⟨a, vs, rfl, hl, ?_⟩
      have : begs k cur r = r := by
        cases k with
        | zero => rfl
        | succ k => show (if 0 < cur then _ else _) = _; rw [if_neg (by omega)]
      rw [← hx, this]
      exact hr
end

/-! text LawB -/
section
open PySem PySem.W PyProof.Rows PySem.Calls PySem.Spec
set_option maxRecDepth 100000
set_option maxHeartbeats 400000
set_option pp.deepTerms false
set_option pp.maxSteps 6000
noncomputable def rowsOf (ls : List Int) : List (List Wd) := ls.map fun l => begs 3 l []
noncomputable def G1 (rr : List (List Wd)) (told : List Wd) (k : Nat) : List Wd := told ++ (rr.getD k []).filter fun x => decide (x ∉ (rr.take k).flatten)
noncomputable def G2 (rr : List (List Wd)) (told : List Wd) (k : Nat) : List Wd := told ++ ((rr.getD k []).filter fun x => decide (x ∉ (rr.drop (k + 1)).flatten)).reverse
structure PlainOk (ls : List Int) : Prop where
  len : ls.length ≤ 7
  rng : ∀ l ∈ ls, 0 ≤ l ∧ l < 4096
  row3 : ∀ l ∈ ls, (begs 3 l []).length ≤ 3
  w3 : ∀ l ∈ ls, (wordOf l).length ≤ 3
  up : ∀ k (h : k < (rowsOf ls).length), RowOk (rowsOf ls)[k] ((rowsOf ls).take k).flatten
  dn : ∀ k (h : k < (rowsOf ls).length), RowOk (rowsOf ls)[k] ((rowsOf ls).drop (k + 1)).flatten
  f1 : (List.range (rowsOf ls).length).foldl (G1 (rowsOf ls)) [] = firstsOf (ls.map wordOf)
  f2 : (List.range (rowsOf ls).length).foldl (G2 (rowsOf ls)) [] = lastsOf (ls.map wordOf)
  m1 : c3 50 (rowsOf ls) = some (firstsOf (ls.map wordOf))
  m2 : c3 50 ((rowsOf ls).map List.reverse) = some (lastsOf (ls.map wordOf))
/-- law's own def and its code's table -/
structure Sta3 (P : PM) (h : Heap) : Prop where
  fn : FnP P 18 100 99
  p97 : P 97 = none
  t97 : h.get? 97 = some (tabObj #[])
theorem lawQual (pm : Value) : (fdOf (stm 18) pm 99).qualname ++ Str.ofString ".<locals>." ++ Str.ofString "<lambda>" = Str.ofString "law.<locals>.<lambda>" := by
  show nmOf (stm 18) ++ Str.ofString ".<locals>." ++ Str.ofString "<lambda>" = Str.ofString "law.<locals>.<lambda>"
  decide +kernel
theorem mkLq {prog : Program} {w : World} {A : Around} {E : Value → Shared → Prop} {s : Shared} {env : Env} {b : Bs} {P : PM} {L : Addr} {m : Mp} {N : List (Addr × Kd)} {params : Arguments} {body : PySem.Expr} {scope : PySem.Scope} {pos : Pos} {clos : List (PySem.Str × Addr)} {c T : Addr} {ps : List Value} {Q : Value → Shared → Prop} {q : PySem.Str} (F : Fm b P L s.heap m ((T, .tab ps) :: N)) (S : Sta b.P) (hcl : closureFor scope env = pure clos) (hge : env.globals = mainGlobals) (hcode : env.code = .ref c) (C : CodeHdP P c T)
    (ht : TriplesOk ps) (hnf : codeAmong pos ps = none) (hdef : defaultsOf params env = ([], [])) (hq : env.qual ++ "<lambda>" = q)
    (h : ∀ f c' ctv doc pm h' tk P', Fm b P' L h' m ((f, .is (fnO "<lambda>" q params (.expr body) scope clos pm (.ref c') ctv doc)) :: (T, .tab (ps ++ [rawInt pos.line, rawInt pos.col, .ref c'])) :: N) → (∀ c o, P c = some o → P' c = some o) → CodeRecP P' c' q →
      Q (.ref f) ⟨h', s.gens, s.drawn, tk, s.os⟩) : wpAny (model prog w) A (eval (.Lambda params body scope pos) env) Q E s := by
  subst hq
  exact mkL F S hcl hge hcode C ht hnf hdef h
theorem takeS {α : Type} {l : List α} {j : Nat} {x : α} (h : l[j]? = some x) : l.take (j + 1) = l.take j ++ [x] := by rw [List.take_add_one, h]; rfl
theorem Fm.frzX {b : Bs} {P : PM} {L : Addr} {h : Heap} {m : Mp} {N : List (Addr × Kd)} {D : Addr} {k : Kd} (F : Fm b P L h m ((D, k) :: N)) (hX : ∀ a ∈ b.X, a ∈ N.map (·.1)) :
    ∃ P' o, Fm b P' L h m N ∧ P' D = some o ∧ k.ok o ∧ ∀ c o, P c = some o → P' c = some o := by
  obtain ⟨o, e, hc, hk⟩ := F.led (D, k) (.head _)
  have nd := F.nd
  rw [List.map_cons, List.nodup_cons] at nd
  refine ⟨pset P D o, o, F.freeze ((F.up.2 _ (.head _)).elim id fun q => absurd (hX _ q) nd.1) e, ?_, hk, pset_sub (F.off (D, k) (.head _))⟩
  unfold pset; rw [if_pos rfl]
theorem Fm.frzLX {b : Bs} {P : PM} {L : Addr} {h : Heap} {m : Mp} {N : List (Addr × Kd)} {D : Addr} {its : List Value} (F : Fm b P L h m ((D, .list its) :: N)) (hX : ∀ a ∈ b.X, a ∈ N.map (·.1)) :
    ∃ P', Fm b P' L h m N ∧ LP P' D its ∧ ∀ c o, P c = some o → P' c = some o := by
  have nd := F.nd
  rw [List.map_cons, List.nodup_cons] at nd
  exact F.frzL fun q => nd.1 (hX _ q)
end

/-! text Law2 -/
section
open PySem PySem.W PyProof.Rows PySem.Calls PySem.Spec
set_option maxRecDepth 100000
set_option maxHeartbeats 400000
local macro_rules | `(tactic| omega) => `(tactic| with_reducible first
  | assumption
  | exact Nat.zero_le _
  | exact Int.natCast_nonneg _
  | exact om0 (by assumption)
  | exact om1 (by assumption) (by decide)
  | exact om2 (by assumption) (by decide)
  | exact om3 (by assumption) (by decide)
  | exact om4 (by assumption) (by decide)
  | exact omT (by assumption)
  | exact omI (by assumption) (by assumption)
  | exact omI' (by assumption) (by assumption)
  | exact omL (by assumption) (by first | assumption | decide)
  | exact omLt (by assumption) (by first | assumption | decide)
  | exact omS (by assumption) (by first | assumption | decide)
  | exact omV (by assumption) (by first | assumption | decide)
  | exact omW (by assumption) (by first | assumption | decide)
  | exact omE (by assumption) (by assumption) (by first | assumption | decide)
  | exact omE' (by assumption) (by assumption) (by first | assumption | decide)
  | exact om1l (by assumption) (by decide)
  | exact om2l (by assumption) (by decide)
  | exact om1t (by assumption) (by assumption) (by decide)
  | exact om2t (by assumption) (by assumption) (by decide)
  | exact om3t (by assumption) (by assumption) (by decide)
  | exact omC (by assumption) (by decide)
  | exact omCi (by assumption) (by assumption) (by decide)
  | exact omCe (by assumption) (by assumption) (by assumption) (by decide)
  | exact omQ (by assumption) (by assumption) (by decide)
  | exact omD (by assumption)
  | exact omJ (by assumption) (by assumption)
  | exact omK (by assumption) (by assumption)
  | exact omN (by assumption) (by assumption)
  | exact omU (by assumption))
theorem SL.snoc {j : Nat} {cs : Nat → Addr} {sv : Nat → List Value} {D : Addr} {l : List Value} : SL (j + 1) (upd cs j D) (upd sv j l) = SL j cs sv ++ [(D, .list l)] := by
  unfold SL
  rw [List.range_succ, List.map_append]
  congr 1
  · refine List.map_congr_left fun k hk => ?_
    have : k ≠ j := Nat.ne_of_lt (List.mem_range.mp hk)
    unfold upd; rw [if_neg this, if_neg this]
  · simp [upd]
theorem refs.snoc {j : Nat} {cs : Nat → Addr} {D : Addr} : ((List.range (j + 1)).map fun k => Value.ref (upd cs j D k)) = ((List.range j).map fun k => Value.ref (cs k)) ++ [.ref D] := by
  rw [List.range_succ, List.map_append]
  congr 1
  · refine List.map_congr_left fun k hk => ?_
    have : k ≠ j := Nat.ne_of_lt (List.mem_range.mp hk)
    unfold upd; rw [if_neg this]
  · simp [upd]
section
variable {prog : Program} {w : World} {A : Around} {E : Value → Shared → Prop} {s : Shared} {env : Env} {b : Bs} {P : PM} {L : Addr} {m : Mp} {N N' : List (Addr × Kd)}
/-- a comprehension that makes a fresh list of each row -/
theorem compF {elt iter : Expr} {x : PySem.Str} {px pos : Pos} {scope : Scope} {cl : List (PySem.Str × Addr)} {l : Addr} {rvs : List Value} {rr : List (List Wd)} {Q : Value → Shared → Prop} (f : List Value → List Value) (g : List Wd → List Wd) (hA : A.handled = none)
    (hi : wpAny (model prog w) A (eval iter env) (fun v s₁ => v = .ref l ∧ Same s s₁ ∧ Fm b P L s₁.heap m N) E s) (hl : LP P l rvs) (hr : All2 (RP P) rvs rr) (h7 : rr.length ≤ 7) (h3 : ∀ k, (rr.getD k []).length ≤ 3)
    (hfg : ∀ its r, All2 (WP P) its r → All2 (WP P) (f its) (g r))
    (step : ∀ C mc N h tk ra its, Fm b P L h m ((C, .ns (mset mc x (.ref ra))) :: N) → LP P ra its → its.length ≤ 3 → wpAny (model prog w) A (eval elt (compEnvC scope cl C env)) (fun y s₄ => Same s s₄ ∧ ∃ D', y = .ref D' ∧ ∃ mc', Fm b P L s₄.heap m ((D', .list (f its)) :: (C, .ns mc') :: N)) (fun _ _ => False) ⟨h, s.gens, s.drawn, tk, s.os⟩)
    (fin : ∀ D cs sv h tk, Fm b P L h m ((D, .list ((List.range rr.length).map fun k => .ref (cs k))) :: ((SL rr.length cs sv).reverse ++ N)) → (∀ k < rr.length, All2 (WP P) (sv k) (g (rr.getD k []))) → Q (.ref D) ⟨h, s.gens, s.drawn, tk, s.os⟩)
    (hclos : closureFor scope env = pure cl := by rfl) (hcell : ∀ x ∈ scope.names, x.2 ≠ .cell := by decide) (hkind : scope.kind = .function := by rfl) (hx : (compEnvC scope cl 0 env).kindOf x = some .local := by rfl)
    (hnames : ∀ x ∈ scope.names, x.2 = .local → scope.names.lookup x.1 = some .local := by decide) (hs : ∀ x, foldedSetIterable iter env x = pure x := by intro _; rfl) :
    wpAny (model prog w) A (eval (.ListComp elt [⟨.Name x px, iter, [], 0⟩] scope pos) env) Q E s := by
  have hvl := hr.length
  refine compL (b := b) (L := L) (l := l) (its := rvs) (fun j P'' m'' N'' out => P = P'' ∧ m = m'' ∧ j ≤ 7 ∧ ∃ cs sv, N'' = (SL j cs sv).reverse ++ N ∧ out = ((List.range j).map fun k => .ref (cs k)) ∧ ∀ k < j, All2 (WP P) (sv k) (g (rr.getD k []))) hA
    (wpAny_mono hi (fun v s₁ q => ?_) fun _ _ e => e) ?_ ?_ ?_ hclos hcell hkind hx hnames hs
  · obtain ⟨q1, q2, q3⟩ := q
    exact ⟨q1, q2, P, m, N, q3, rfl, rfl, Nat.zero_le _, fun _ => 0, fun _ => [], rfl, rfl, fun k hk => absurd hk (Nat.not_lt_zero _)⟩
  · rintro j P'' m'' N'' out ⟨rfl, rfl, hj, cs, sv, rfl, rfl, hw⟩
    exact ⟨.frz hl, by rw [List.length_map, List.length_range]; exact Nat.le_trans hj (by decide)⟩
  · rintro j P'' m'' N'' out C D I mc h tk v hv K hK K0 hK0 ⟨rfl, rfl, hj, cs, sv, rfl, rfl, hw⟩ F
    have hjr : j < rr.length := by
      have := (List.getElem?_eq_some_iff.mp hv).1
      omega
    obtain ⟨v', e', ra, its, rfl, lr, wr⟩ := hr.get' (List.getElem?_eq_getElem hjr)
    rw [hv] at e'
    cases e'
    have hrow : rr.getD j [] = rr[j] := by rw [List.getD_eq_getElem?_getD, List.getElem?_eq_getElem hjr]; rfl
    have hi3 : its.length ≤ 3 := by rw [wr.length, ← hrow]; exact h3 j
    refine wpAny_of_eq (a := true) rfl ?_
    rw [if_pos rfl]
    refine wpAny_mono (step C mc _ h tk ra its F lr hi3) (fun y s₄ q => ?_) fun _ _ e => e
    obtain ⟨q1, D', rfl, mc', F'⟩ := q
    refine Hid.to hK ?_
    refine ⟨q1, P, m, (D', .list (f its)) :: ((SL j cs sv).reverse ++ N), mc', F'.perm ?_, rfl, rfl, by omega, upd cs j D', upd sv j (f its), ?_, ?_, fun k hk => ?_⟩
    · exact (((List.Perm.swap _ _ _).cons _).cons _).trans (((List.Perm.swap _ _ _).cons _).trans (List.Perm.swap _ _ _))
    · rw [SL.snoc, List.reverse_append]; rfl
    · rw [refs.snoc]
    · by_cases hkj : k = j
      · subst hkj
        unfold upd; rw [if_pos rfl, hrow]
        exact hfg _ _ wr
      · unfold upd; rw [if_neg hkj]
        exact hw k (by omega)
  · rintro P'' m'' N'' out D h tk ⟨rfl, rfl, hj, cs, sv, rfl, rfl, hw⟩ F
    rw [hvl] at F hw
    exact fin D cs sv h tk F hw
/-- the merge of such lists -/
theorem callM {n : Nat} {D : Addr} {cs : Nat → Addr} {sv : Nat → List Value} {ss : List (List Wd)} {out : List Wd} {Q : Value → Shared → Prop} (S : Sta b.P) (hroom : A.depth + 10 < recursionLimit) (hA : A.handled = none) (hu : A.units + 300 < cLine)
    (F : Fm b P L s.heap m ((D, .list ((List.range n).map fun k => .ref (cs k))) :: ((SL n cs sv).reverse ++ N))) (hX : ∀ a ∈ b.X, a ∈ N.map (·.1)) (hn : n ≤ 7) (hss : ss.length = n)
    (hw : ∀ k < n, All2 (WP P) (sv k) (ss.getD k [])) (h3 : ∀ k < n, (ss.getD k []).length ≤ 3) (hc : c3 50 ss = some out)
    (h : ∀ v h' tk P', Fm b P' L h' m N → RP P' v out → (∀ c o, P c = some o → P' c = some o) → Q v ⟨h', s.gens, s.drawn, tk, s.os⟩) : wpAny (model prog w) A (call (.ref 56) [.ref D]) Q E s := by
  obtain ⟨P1, F, l1, sub1⟩ := F.frzLX (fun a ha => by rw [List.map_append]; exact List.mem_append_right _ (hX a ha))
  have hmem : ∀ k < n, (cs k, Kd.list (sv k)) ∈ (SL n cs sv).reverse ++ N := fun k hk => List.mem_append_left _ (List.mem_reverse.mpr (SL.mem hk))
  have nd := F.nd
  rw [List.map_append, List.map_reverse] at nd
  have hmap : (SL n cs sv).map (·.1) = (List.range n).map cs := by unfold SL; rw [List.map_map]; rfl
  rw [hmap] at nd
  obtain ⟨nd1, nd2, nd3⟩ := List.nodup_append.mp nd
  have nd1 : ((List.range n).map cs).Nodup := by
    have := List.reverse_perm ((List.range n).map cs)
    exact this.nodup_iff.mp nd1
  have hinj : ∀ i j, i < n → j < n → cs i = cs j → i = j := fun i j hi hj e => by
    have key := List.pairwise_iff_getElem.mp nd1
    rcases Nat.lt_trichotomy i j with q | q | q
    · have := key i j (by simpa using hi) (by simpa using hj) q
      rw [List.getElem_map, List.getElem_map, List.getElem_range, List.getElem_range] at this
      exact absurd e this
    · exact q
    · have := key j i (by simpa using hj) (by simpa using hi) q
      rw [List.getElem_map, List.getElem_map, List.getElem_range, List.getElem_range] at this
      exact absurd e.symm this
  refine Con.use ?_ (c_c3 (n := n) (cs := cs) (sv := sv) (by exact F.ex.fz) (F.sta S) hroom hA hu l1 hn hss hinj (fun k hk => ?_) (fun k hk => (hw k hk).mono fun _ _ q => q.mono sub1) h3 hc (Nat.le_refl _))
  · rintro v h' tk P' ex r
    refine h _ _ _ P' ((F.drop (N' := N) (List.sublist_append_right _ _)).call ex (fun a ha => ?_) fun p hp => ?_) r fun c o e => ex.sub _ _ (sub1 _ _ e)
    · obtain ⟨k, hk, rfl⟩ := List.mem_map.mp ha
      exact F.up.2 _ (hmem k (List.mem_range.mp hk))
    · intro q
      exact nd3 _ (List.mem_reverse.mpr q) _ (List.mem_map_of_mem hp) rfl
  · obtain ⟨o, e1, e2, e3⟩ := F.led _ (hmem k hk)
    exact ⟨o, e1, e2, e3, F.off _ (hmem k hk)⟩
end
end

/-! text Law3 -/
section
open PySem PySem.W PyProof.Rows PySem.Calls PySem.Spec
set_option maxRecDepth 100000
set_option maxHeartbeats 400000
set_option pp.deepTerms false
set_option pp.maxSteps 6000
local macro_rules | `(tactic| omega) => `(tactic| with_reducible first
  | assumption
  | exact Nat.zero_le _
  | exact Int.natCast_nonneg _
  | exact om0 (by assumption)
  | exact om1 (by assumption) (by decide)
  | exact om2 (by assumption) (by decide)
  | exact om3 (by assumption) (by decide)
  | exact om4 (by assumption) (by decide)
  | exact omT (by assumption)
  | exact omI (by assumption) (by assumption)
  | exact omI' (by assumption) (by assumption)
  | exact omL (by assumption) (by first | assumption | decide)
  | exact omLt (by assumption) (by first | assumption | decide)
  | exact omS (by assumption) (by first | assumption | decide)
  | exact omV (by assumption) (by first | assumption | decide)
  | exact omW (by assumption) (by first | assumption | decide)
  | exact omE (by assumption) (by assumption) (by first | assumption | decide)
  | exact omE' (by assumption) (by assumption) (by first | assumption | decide)
  | exact om1l (by assumption) (by decide)
  | exact om2l (by assumption) (by decide)
  | exact om1t (by assumption) (by assumption) (by decide)
  | exact om2t (by assumption) (by assumption) (by decide)
  | exact om3t (by assumption) (by assumption) (by decide)
  | exact omC (by assumption) (by decide)
  | exact omCi (by assumption) (by assumption) (by decide)
  | exact omCe (by assumption) (by assumption) (by assumption) (by decide)
  | exact omQ (by assumption) (by assumption) (by decide)
  | exact omD (by assumption)
  | exact omJ (by assumption) (by assumption)
  | exact omK (by assumption) (by assumption)
  | exact omN (by assumption) (by assumption)
  | exact omU (by assumption))
noncomputable abbrev lawEnv (pm : Value) (L : Addr) : Env := newEnv (fdOf (stm 18) pm 99).scope L (fdOf (stm 18) pm 99).globals (cellsFrom (L + 1) (fdOf (stm 18) pm 99).scope.names (fdOf (stm 18) pm 99).closure) ((fdOf (stm 18) pm 99).qualname ++ ".<locals>.") (some 100) (fdOf (stm 18) pm 99).code none (fdOf (stm 18) pm 99).builtins
theorem law3 {prog : Program} {w : World} {A : Around} {s : Shared} {b : Bs} {P : PM} {L : Addr} {m : Mp} {pm : Value} {Q : Flow → Shared → Prop} {E : Value → Shared → Prop} {N0 : List (Addr × Kd)} (S : Sta b.P) (F : Fm b P L s.heap m N0) (hX : ∀ a ∈ b.X, a ∈ N0.map (·.1))
    {la D br tn : Addr} {lvs rvs bvs tvs : List Value} {ls : List Int} {o6 : Obj} (hL : L = b.h.objs.size) (m1 : m "leaves" = some (.ref la)) (m2 : m "brought" = some (.ref br)) (m3 : m "taken" = some (.ref tn)) (hroom : A.depth ≤ 361) (hA : A.handled = none) (hu : A.units ≤ 403)
    (p6 : P (L + 1) = some o6) (d6 : o6.data = .cell (some (.ref D))) (l5 : LP P D rvs) (ho : All2 (RP P) rvs (rowsOf ls)) (l2 : LP P la lvs) (i2 : IntsAre lvs ls)
    (lb : LP P br bvs) (wb : All2 (WP P) bvs (firstsOf (ls.map wordOf))) (lt : LP P tn tvs) (wt : All2 (WP P) tvs (lastsOf (ls.map wordOf))) (ok : PlainOk ls)
    (hQ : ∀ h tk P' m', Fm b P' L h m' N0 → Q (.ret (.bool true)) ⟨h, s.gens, s.drawn, tk, s.os⟩) : wpAny (model prog w) A (execs ((bodyOf (stm 18)).drop 5) (lawEnv pm L)) Q E s := by
  have hll : lvs.length = ls.length := intsLen i2
  have hl7 := ok.len
  have hrl : (rowsOf ls).length = ls.length := by unfold rowsOf; simp
  have hrv : rvs.length = (rowsOf ls).length := ho.length
  have hroom' : A.depth + 20 < recursionLimit := Nat.lt_of_le_of_lt (Nat.add_le_add_right hroom 20) (by decide)
  obtain ⟨e, he⟩ : ∃ e, (bodyOf (stm 18)).drop 5 = e := ⟨_, rfl⟩
  rw [he]
  conv at he => lhs; whnf
  subst he
  walk1
  refine compS (b := b) (L := L) (l := la) (its := lvs) (fun j P'' m'' N'' out => (∀ c o, P c = some o → P'' c = some o) ∧ m = m'' ∧ N0 = N'' ∧ All2 (WP P'') out ((ls.map wordOf).take j) ∧ out.length ≤ j ∧ j ≤ 7) hA ?_ ?_ ?_ ?_
  · walk_at "go"
    exact ⟨rfl, ⟨rfl, rfl, rfl⟩, _, _, _, F, fun _ _ e => e, rfl, rfl, by simp; exact .nil, Nat.le_refl _, Nat.zero_le _⟩
  · rintro j P'' m'' N'' out ⟨sub, rfl, rfl, ho, hol, hj⟩
    exact ⟨.frz (l2.mono sub), Nat.le_trans (Nat.le_trans hol hj) (by decide)⟩
  · rintro j P'' m'' N'' out C D I mc h7 tk7 v hv K hK K0 hK0 ⟨sub, rfl, rfl, ho, hol, hj⟩ F
    have hj4 : j < ls.length := by
      have := (List.getElem?_eq_some_iff.mp hv).1
      omega
    obtain ⟨t, e⟩ := intsAt i2 (List.getElem?_eq_getElem hj4)
    rw [hv] at e; cases e
    have hr := ok.rng _ (List.getElem_mem hj4)
    refine wpAny_of_eq (a := true) rfl ?_
    rw [if_pos rfl]
    walk_at "go"
    refine Con.use ?_ (c_word (by exact F.ex.fz) (F.sta S) (by show A.depth + 10 < _; omega) (by exact hA) (by have := cLine_is; omega) hr.1 hr.2)
    rintro v h8 tk8 P8 ex8 hv8
    try walk_at "to"
    refine ⟨⟨rfl, rfl, rfl⟩, _, _, _, _, F.call ex8 (by simp) (by simp), fun c o e => ex8.sub _ _ (sub _ _ e), rfl, rfl, ?_, by simp; omega, by omega⟩
    rw [takeS (l := ls.map wordOf) (j := j) (x := wordOf ls[j]) (by rw [List.getElem?_map, List.getElem?_eq_getElem hj4]; rfl)]
    exact (ho.mono fun _ _ q => q.mono ex8.sub).snoc hv8
  · rintro P3 m'' N'' wvs W h7 tk7 ⟨sub3, rfl, rfl, hw, hol, hj⟩ F
    have hw : All2 (WP P3) wvs (ls.map wordOf) := by
      rwa [List.take_of_length_le (by simp [hll])] at hw
    obtain ⟨P4, F, l4, sub4⟩ := F.frzLX hX
    have hw := hw.mono fun _ _ q => q.mono sub4
    have m1' : mset m "words" (.ref W) "words" = some (.ref W) := by rfl
    have m2' : mset m "words" (.ref W) "brought" = some (.ref br) := m2
    have m3' : mset m "words" (.ref W) "taken" = some (.ref tn) := m3
    have w3 : ∀ x ∈ ls.map wordOf, x.length ≤ 3 := fun x hx => by
      obtain ⟨l, hl, rfl⟩ := List.mem_map.mp hx
      exact ok.w3 l hl
    have sub04 : ∀ c o, P c = some o → P4 c = some o := fun c o e => sub4 _ _ (sub3 _ _ e)
    have cl9 := cLine_is
    walk_at "go"
    refine Con.use ?_ (c_firsts (by exact F.ex.fz) (F.sta S) (by show A.depth + 10 < _; omega) (by exact hA) (by omega) l4 hw (by simpa using hl7) w3)
    rintro v h8 tk8 P5 ex5 r5
    have F := F.call ex5 (by simp) (by simp)
    have wb5 : RP P5 (.ref br) (firstsOf (ls.map wordOf)) := RP.mono ⟨br, bvs, rfl, lb.mono sub04, wb.mono fun _ _ q => q.mono sub04⟩ ex5.sub
    refine neR (F.rdR wb5) (F.rdR r5) (by omega) ?_
    rw [decide_eq_true rfl]
    walk_at "go"
    have sub5 := ex5.sub
    refine Con.use ?_ (c_lasts (by exact F.ex.fz) (F.sta S) (by show A.depth + 10 < _; omega) (by exact hA) (by omega) (l4.mono sub5) (hw.mono fun _ _ q => q.mono sub5) (by simpa using hl7) w3)
    rintro v h9 tk9 P6 ex6 r6
    have F := F.call ex6 (by simp) (by simp)
    have wt6 : RP P6 (.ref tn) (lastsOf (ls.map wordOf)) := RP.mono (RP.mono ⟨tn, tvs, rfl, lt.mono sub04, wt.mono fun _ _ q => q.mono sub04⟩ ex5.sub) ex6.sub
    have wb6 : RP P6 (.ref br) (firstsOf (ls.map wordOf)) := wb5.mono ex6.sub
    refine neR (F.rdR wt6) (F.rdR r6) (by omega) ?_
    rw [decide_eq_true rfl]
    have sub06 : ∀ c o, P c = some o → P6 c = some o := fun c o e => ex6.sub _ _ (ex5.sub _ _ (sub04 _ _ e))
    have p6 := sub06 _ _ p6
    have l5 := l5.mono sub06
    have ho := ho.mono fun _ _ q => q.mono sub06
    clear hw l4 r5 r6 wb5
    walk1
    walk1
    walk1
    walk1
    walk1
    walk1
    walk1
    walk1
    walk1
    have hrow3 : ∀ k, ((rowsOf ls).getD k []).length ≤ 3 := fun k => by
      rw [List.getD_eq_getElem?_getD]
      by_cases hk : k < (rowsOf ls).length
      · rw [List.getElem?_eq_getElem hk]
        have : (rowsOf ls)[k] ∈ rowsOf ls := List.getElem_mem hk
        unfold rowsOf at this
        obtain ⟨l, hl, e⟩ := List.mem_map.mp this
        have := ok.row3 l hl
        rw [e] at this
        exact this
      · rw [List.getElem?_eq_none (by omega)]; exact Nat.zero_le _
    walk1
    walk1
    walk1
    refine compF (b := b) (L := L) (l := D) (rvs := rvs) (rr := rowsOf ls) (fun x => x) (fun x => x) hA (nmY (by exact F) rfl p6 d6 ⟨rfl, ⟨rfl, rfl, rfl⟩, F⟩) l5 ho (by omega) hrow3 (fun _ _ q => q) ?_ ?_
    · intro C mc N h tk ra its F hra h3
      walk_at "go"
      refine lsL (by exact F) (.frz hra) (by omega) fun D' h' F => ?_
      try walk_at "to"
      exact ⟨⟨rfl, rfl, rfl⟩, D', rfl, _, F⟩
    intro D1 cs sv h10 tk10 F hsv
    walk_at "go"
    refine callM S (by omega) hA (by omega) (by exact F) hX (by omega) rfl hsv (fun k _ => hrow3 k) ok.m1 fun v h11 tk11 P7 F r7 sub7 => ?_
    walk_at "go"
    refine neR (F.rdR r7) (F.rdR (wb6.mono sub7)) (by omega) ?_
    rw [decide_eq_true rfl]
    have p6 := sub7 _ _ p6
    have l5 := l5.mono sub7
    have ho := ho.mono fun _ _ q => q.mono sub7
    walk1
    walk1
    walk1
    walk1
    walk1
    walk1
    walk1
    walk1
    walk1
    walk1
    refine compF (b := b) (L := L) (l := D) (rvs := rvs) (rr := rowsOf ls) List.reverse List.reverse hA (nmY (by exact F) rfl p6 d6 ⟨rfl, ⟨rfl, rfl, rfl⟩, F⟩) l5 ho (by omega) hrow3 (fun _ _ q => q.reverse) ?_ ?_
    · intro C mc N h tk ra its F hra h3
      walk_at "go"
      dsimp only
      have z1000 : (1000 : Nat) ≤ sizeLine := by decide
      refine slL (by exact F) (.frz hra) .none .none (.int _ _) (by decide) pick_rev (by omega) fun D' h' F => ?_
      try walk_at "to"
      exact ⟨⟨rfl, rfl, rfl⟩, D', rfl, _, F⟩
    intro D2 cs2 sv2 h12 tk12 F hsv2
    have hgd : ∀ k, ((rowsOf ls).map List.reverse).getD k [] = ((rowsOf ls).getD k []).reverse := fun k => by
      rw [List.getD_eq_getElem?_getD, List.getD_eq_getElem?_getD, List.getElem?_map]
      cases (rowsOf ls)[k]? <;> rfl
    walk_at "go"
    refine callM S (by omega) hA (by omega) (by exact F) hX (by omega) (by simp) (fun k hk => by rw [hgd]; exact hsv2 k hk) (fun k _ => by rw [hgd, List.length_reverse]; exact hrow3 k) ok.m2 fun v h13 tk13 P8 F r8 sub8 => ?_
    walk_at "go"
    refine eqR (F.rdR r8) (F.rdR ((wt6.mono sub7).mono sub8)) (by omega) ?_
    rw [decide_eq_true rfl]
    walk_at "go"
    exact hQ _ _ _ _ F
end

/-! text Law -/
section
open PySem PySem.W PyProof.Rows PySem.Calls PySem.Spec
set_option maxRecDepth 100000
set_option maxHeartbeats 400000
set_option pp.deepTerms false
set_option pp.maxSteps 6000
local macro_rules | `(tactic| omega) => `(tactic| with_reducible first
  | assumption
  | exact Nat.zero_le _
  | exact Int.natCast_nonneg _
  | exact om0 (by assumption)
  | exact om1 (by assumption) (by decide)
  | exact om2 (by assumption) (by decide)
  | exact om3 (by assumption) (by decide)
  | exact om4 (by assumption) (by decide)
  | exact omT (by assumption)
  | exact omI (by assumption) (by assumption)
  | exact omI' (by assumption) (by assumption)
  | exact omL (by assumption) (by first | assumption | decide)
  | exact omLt (by assumption) (by first | assumption | decide)
  | exact omS (by assumption) (by first | assumption | decide)
  | exact omV (by assumption) (by first | assumption | decide)
  | exact omW (by assumption) (by first | assumption | decide)
  | exact omE (by assumption) (by assumption) (by first | assumption | decide)
  | exact omE' (by assumption) (by assumption) (by first | assumption | decide)
  | exact om1l (by assumption) (by decide)
  | exact om2l (by assumption) (by decide)
  | exact om1t (by assumption) (by assumption) (by decide)
  | exact om2t (by assumption) (by assumption) (by decide)
  | exact om3t (by assumption) (by assumption) (by decide)
  | exact omC (by assumption) (by decide)
  | exact omCi (by assumption) (by assumption) (by decide)
  | exact omCe (by assumption) (by assumption) (by assumption) (by decide)
  | exact omQ (by assumption) (by assumption) (by decide)
  | exact omD (by assumption)
  | exact omJ (by assumption) (by assumption)
  | exact omK (by assumption) (by assumption)
  | exact omN (by assumption) (by assumption)
  | exact omU (by assumption))
local macro_rules | `(tactic| walk_at "call builtin:len") => `(tactic| ((try dsimp only); refine lnL (by assumption) (by walk_at "lst") (by first | assumption | omega) ?_; intro _ _; (try dsimp only)))
local macro_rules | `(tactic| walk_at "call type:range") => `(tactic| ((try dsimp only); (refine rg1 (by assumption) ?_; intro _ _ _ _ _ _; (try dsimp only))))
theorem c_law {prog : Program} {w : World} {A : Around} {s : Shared} {P : PM} (hz : Fz P s.heap) (S : Sta P) (S2 : Sta2 P) (S3 : Sta3 P s.heap) (hroom : A.depth ≤ 360) (hA : A.handled = none) (hu : A.units ≤ 400) (hT : KTab P s.heap) (hfr : A.frames = some [])
    {a : Addr} {svs : List Value} {ns : List Int} (hl : LP P a svs) (hi : IntsAre svs ns) (hlz : svs.length ≤ 1000000) (ok : PlainOk (leavesOf ((ns.take 4).map lawNum ++ [274, 33, 273]))) :
    Con prog w A [37, 97] P s (.ref 100) [.ref a] (fun _ h' v => v = .bool true ∧ (∃ p, h'.get? 37 = some (tabObj p)) ∧ ∃ q, h'.get? 97 = some (tabObj q)) := by
  intro Q E hQ
  have fo : FrsOk s.heap [] := fun _ h => nomatch h
  have h37 : 37 < s.heap.objs.size := let ⟨_, _, e, _⟩ := hT; Heap.lt_size e
  have h97 : 97 < s.heap.objs.size := Heap.lt_size S3.t97
  have hroom' : A.depth + 20 < recursionLimit := Nat.lt_of_le_of_lt (Nat.add_le_add_right hroom 20) (by decide)
  obtain ⟨of, pm, pf, df, ⟨oc, vs99, tt, e1, e2, e3⟩⟩ := S3.fn
  refine wpAny_call (enter (X := [37, 97]) (P := P) (body := bodyOf (stm 18)) (binds := [("script", .ref a)]) hz (by omega) (hz _ _ pf).1 df ⟨99, oc, vs99, tt, rfl, (hz _ _ e1).1, e2, e3⟩ rfl (fun Q E q => by exact wpAny_pure q) fun h₁ F hk₁ => ?_)
  have F : Fm ⟨[37, 97], P, s.heap⟩ P s.heap.objs.size h₁ (fun _ => none) [(s.heap.objs.size + 1, .cell none)] := F
  have F := F.take (a := 97) (k := .tab []) (hk₁ _ _ S3.t97) (fun q => nomatch q) rfl S3.p97 (.tail _ (.head _)) (by
    intro hm
    have : (97 : Addr) = s.heap.objs.size + 1 := by simpa using hm
    have : (97 : Nat) = s.heap.objs.size + 1 := this
    omega)
  obtain ⟨ps, F, k37⟩ := F.take37 (let ⟨e0, ps, e, k⟩ := hT; ⟨e0, ps, hk₁ _ _ e, k⟩) (.head _) (by
    intro hm
    have : (37 : Addr) = 97 ∨ (37 : Addr) = s.heap.objs.size + 1 := by simpa using hm
    rcases this with q | q
    · exact absurd q (by decide)
    · have q : (37 : Nat) = s.heap.objs.size + 1 := q
      omega)
  refine stL F fun h₂ tk F => ?_
  refine ⟨(S.mono F.ex.sub).noLimit F.ex.fz, ?_⟩
  have F : Fm ⟨[37, 97], P, s.heap⟩ P s.heap.objs.size h₂ (mset (fun _ => none) "script" (.ref a)) [(37, .tab ps), (97, .tab []), (s.heap.objs.size + 1, .cell none)] := F
  have z1000 : (1000 : Nat) ≤ sizeLine := by decide
  have zmil : (1000000 : Nat) ≤ sizeLine := by decide
  have hsl := intsLen hi
  unfold bodyOf
  walk1
  walk1
  walk1
  walk1
  walk1
  walk1
  walk1
  refine compLx (b := ⟨[37, 97], P, s.heap⟩) (L := s.heap.objs.size) (its := svs.take 4) (fun l j P'' m'' N'' out => P = P'' ∧ m'' = mset (fun _ => none) "script" (.ref a) ∧ N'' = (l, .list (svs.take 4)) :: [(37, .tab ps), (97, .tab []), (s.heap.objs.size + 1, .cell none)] ∧
    IntsAre out (((ns.take 4).map lawNum).take j) ∧ out.length ≤ j ∧ j ≤ 4) hA ?_ ?_ ?_ ?_
  · walk_at "go"
    dsimp only
    refine slL (by exact F) (.frz hl) .none (.int _ _) .none (by decide) (pick_upto (by omega)) (by omega) fun D3 h3 F => ?_
    exact ⟨_, rfl, ⟨rfl, rfl, rfl⟩, _, _, _, F, rfl, rfl, rfl, by simp; exact .nil, Nat.le_refl _, Nat.zero_le _⟩
  · rintro l j P'' m'' N'' out ⟨rfl, rfl, rfl, ho, hol, hj⟩
    exact ⟨.led (.head _), Nat.le_trans (Nat.le_trans hol hj) (by decide)⟩
  · rintro l j P'' m'' N'' out C D I mc h3 tk3 v hv K hK K0 hK0 ⟨rfl, rfl, rfl, ho, hol, hj⟩ F
    have hj4 : j < (ns.take 4).length := by
      have := (List.getElem?_eq_some_iff.mp hv).1
      rw [List.length_take] at this ⊢
      omega
    obtain ⟨t, e⟩ := intsAt (intsTake hi 4) (List.getElem?_eq_getElem hj4)
    rw [hv] at e; cases e
    refine wpAny_of_eq (a := true) rfl ?_
    rw [if_pos rfl]
    walk_at "go"
    refine Con.use ?_ (c_number (by exact F.ex.fz) (F.sta S) (by show A.depth + 1 < _; omega) _ _)
    rintro v h4 tk4 P4 ex ⟨rfl, t', rfl⟩
    try walk_at "to"
    refine ⟨⟨rfl, rfl, rfl⟩, _, _, _, _, F.call ex (by simp) (by simp), rfl, rfl, rfl, ?_, by simp; omega, by simp at hj4; omega⟩
    have e9 : (ns.take 4)[j]? = some (ns.take 4)[j] := List.getElem?_eq_getElem hj4
    rw [takeS (l := (ns.take 4).map lawNum) (j := j) (x := lawNum (ns.take 4)[j]) (by rw [List.getElem?_map, e9]; rfl)]
    exact ksk_snoc ho
  · rintro l P'' m'' N'' out D h3 tk3 ⟨rfl, rfl, rfl, ho, hol, hj⟩ F
    have ho : IntsAre out ((ns.take 4).map lawNum) := by
      rwa [List.take_of_length_le (by simp [hsl])] at ho
    have hol4 : out.length ≤ 4 := by rw [intsLen ho]; simp; omega
    walk_at "go"
    rename_i D4 h5 F5
    obtain ⟨P1, F, l1, sub1⟩ := F5.frzLX (by simp)
    clear F5
    generalize hls : leavesOf ((ns.take 4).map lawNum ++ [274, 33, 273]) = ls at ok
    have F := F.drop (N' := [(37, .tab ps), (97, .tab []), (s.heap.objs.size + 1, .cell none)]) (.cons _ (.cons _ (.cons _ (List.Sublist.refl _))))
    refine Con.use ?_ (c_leaves (by exact F.ex.fz) (F.sta S) (by show A.depth + 1 < _; omega) (by exact hA) (by simp only [Around.deeper_units]; have := cLine_is; omega) l1 (IntsAre.append ho (.cons _ _ (.cons _ _ (.cons _ _ .nil)))) (by simp; omega))
    rintro v h6 tk6 P2 ex2 ⟨la, lvs, rfl, l2, i2⟩
    rw [hls] at i2
    have F := F.call ex2 (by simp) (by simp)
    walk1
    walk1
    walk1
    rename (Fm _ _ _ _ _ _) => F
    clear hls
    have hll : lvs.length = ls.length := intsLen i2
    have hl7 := ok.len
    refine compL (b := ⟨[37, 97], P, s.heap⟩) (L := s.heap.objs.size) (l := la) (its := lvs) (fun j P'' m'' N'' out => (∀ c o, P2 c = some o → P'' c = some o) ∧ m'' = mset (mset (fun _ => none) "script" (.ref a)) "leaves" (.ref la) ∧ N'' = [(37, .tab ps), (97, .tab []), (s.heap.objs.size + 1, .cell none)] ∧
      All2 (RP P'') out ((rowsOf ls).take j) ∧ out.length ≤ j ∧ j ≤ 7) hA ?_ ?_ ?_ ?_
    · walk_at "go"
      exact ⟨rfl, ⟨rfl, rfl, rfl⟩, _, _, _, F, fun _ _ e => e, rfl, rfl, by simp; exact .nil, Nat.le_refl _, Nat.zero_le _⟩
    · rintro j P'' m'' N'' out ⟨sub, rfl, rfl, ho, hol, hj⟩
      exact ⟨.frz (l2.mono sub), Nat.le_trans (Nat.le_trans hol hj) (by decide)⟩
    · rintro j P'' m'' N'' out C D I mc h7 tk7 v hv K hK K0 hK0 ⟨sub, rfl, rfl, ho, hol, hj⟩ F
      have hj4 : j < ls.length := by
        have := (List.getElem?_eq_some_iff.mp hv).1
        omega
      obtain ⟨t, e⟩ := intsAt i2 (List.getElem?_eq_getElem hj4)
      rw [hv] at e; cases e
      have hr := ok.rng _ (List.getElem_mem hj4)
      refine wpAny_of_eq (a := true) rfl ?_
      rw [if_pos rfl]
      walk_at "go"
      refine Con.use ?_ (c_begin (by exact F.ex.fz) (F.sta S) (by show A.depth + 1 + 1 < _; omega) (by exact hA) (by simp only [Around.deeper_units]; have := cLine_is; omega) hr.1 hr.2)
      rintro v h8 tk8 P8 ex8 hv8
      try walk_at "to"
      refine ⟨⟨rfl, rfl, rfl⟩, _, _, _, _, F.call ex8 (by simp) (by simp), fun c o e => ex8.sub _ _ (sub _ _ e), rfl, rfl, ?_, by simp; omega, by omega⟩
      rw [takeS (l := rowsOf ls) (j := j) (x := begs 3 ls[j] []) (by unfold rowsOf; rw [List.getElem?_map, List.getElem?_eq_getElem hj4]; rfl)]
      exact (ho.mono fun _ _ q => q.mono ex8.sub).snoc hv8
    · rintro P3 m'' N'' rvs D h7 tk7 ⟨sub3, rfl, rfl, ho, hol, hj⟩ F
      have ho : All2 (RP P3) rvs (rowsOf ls) := by
        rwa [List.take_of_length_le (by unfold rowsOf; simp [hll])] at ho
      walk_at "go"
      rename (Fm _ _ _ _ _ _) => F
      have h62 : (1000 : Int) < 2 ^ 62 := by decide
      refine lsR hA (by exact F) (small_one (by decide) (by decide) (by omega) (by omega)) (sizeUp _) (by omega) fun pl h8 tk8 pvs F hpv => ?_
      obtain ⟨P4, F, l4, sub4⟩ := F.frzLX (by simp)
      obtain ⟨P5, F, l5, sub5⟩ := F.frzLX (by simp)
      obtain ⟨P6, o6, F, p6, ⟨_, d6⟩, sub6⟩ := (F.perm (N' := [(s.heap.objs.size + 1, .cell (some (.ref D))), (97, .tab []), (37, .tab ps)]) (by
        exact List.reverse_perm [(37, Kd.tab ps), (97, .tab []), (s.heap.objs.size + 1, .cell (some (.ref D)))])).frzX (by simp)
      have l4 := (l4.mono sub5).mono sub6
      have l5 := l5.mono sub6
      have ho := ((ho.mono fun _ _ q => q.mono sub4).mono fun _ _ q => q.mono sub5).mono fun _ _ q => q.mono sub6
      have k37 := (((((k37.mono sub1).mono ex2.sub).mono sub3).mono sub4).mono sub5).mono sub6
      have l2 := (((l2.mono sub3).mono sub4).mono sub5).mono sub6
      walk1
      walk1
      walk1
      walk1
      walk1
      obtain ⟨o51, pm51, p51, d51, _⟩ := S2.red
      have hfn : ∀ {P' : PM} {h : Heap} {m N}, Fm ⟨[37, 97], P, s.heap⟩ P' s.heap.objs.size h m N → FnAt 51 h := fun F => by
        obtain ⟨oc, od, dt, sl⟩ := o51
        dsimp only at d51
        subst d51
        exact ⟨oc, od, _, sl, (F.ex.fz _ _ (F.ex.sub _ _ p51)).1⟩
      rename (Fm _ _ _ _ _ _) => F
      refine callWith_F (hfn (by exact F)) ?_
      walk1
      have cd : CodeHdP P6 99 97 := (F.sta S).cd.2
      refine mkLq (params := lamP (lamE 3)) (body := lamB (lamE 3)) (scope := lamS (lamE 3)) (clos := [("rows", s.heap.objs.size + 1)]) (by exact F) S (by rfl) (by rfl) (by rfl) cd (by exact trivial) (by rfl) (by rfl) (by exact lawQual pm) fun f c' ctv doc pmf h9 tk9 P7 F sub7 cr7 => ?_
      walk1
      walk1
      walk1
      walk1
      walk1
      walk1
      walk1
      refine ⟨hfn (by assumption), ?_⟩
      rename_i ia h10 F
      obtain ⟨P8, F, l8, sub8⟩ := F.frzLX (by simp)
      obtain ⟨P9, o9, F, p9, e9, sub9⟩ := F.frzX (by simp)
      have e9 : o9 = _ := e9
      subst e9
      have lam : LamAt P9 3 f D := ⟨_, o6, c', _, _, _, p9, (cr7.mono sub8).mono sub9, sub9 _ _ (sub8 _ _ (sub7 _ _ p6)), d6⟩
      have hrl : (rowsOf ls).length = ls.length := by unfold rowsOf; simp
      have hrv : rvs.length = (rowsOf ls).length := ho.length
      have l4 := ((l4.mono sub7).mono sub8).mono sub9
      have l5 := ((l5.mono sub7).mono sub8).mono sub9
      have ho := ((ho.mono fun _ _ q => q.mono sub7).mono fun _ _ q => q.mono sub8).mono fun _ _ q => q.mono sub9
      have k37 := ((k37.mono sub7).mono sub8).mono sub9
      have l2 := ((l2.mono sub7).mono sub8).mono sub9
      have p6 := sub9 _ _ (sub8 _ _ (sub7 _ _ p6))
      have hrow3 : ∀ k, ((rowsOf ls).getD k []).length ≤ 3 := fun k => by
        rw [List.getD_eq_getElem?_getD]
        by_cases hk : k < (rowsOf ls).length
        · rw [List.getElem?_eq_getElem hk]
          have : (rowsOf ls)[k] ∈ rowsOf ls := List.getElem_mem hk
          unfold rowsOf at this
          obtain ⟨l, hl, e⟩ := List.mem_map.mp this
          have := ok.row3 l hl
          rw [e] at this
          exact this
        · rw [List.getElem?_eq_none (by omega)]; exact Nat.zero_le _
      have kt := F.ktab (.tail _ (.head _)) k37
      refine Con.use ?_ (c_reduce (outer := [_]) (n := (rowsOf ls).length) (f := f) (by exact F.ex.fz) (F.sta S) (S2.mono F.ex.sub) (by show A.depth + 1 ≤ 370; omega) (by exact hA) (by simp only [Around.deeper_units]; omega) kt (by show Option.map _ A.frames = _; rw [hfr]; rfl) (by exact F.frs fo rfl rfl)
        ⟨_, _, p9, rfl⟩ l4 (by simpa [← hrv] using hpv) (by omega) (l8.mono sub9) (G1 (rowsOf ls)) ?_ ?_)
      rotate_left
      · intro told k hk
        have := hrow3 k
        have h2 := List.length_filter_le (fun x => decide (x ∉ ((rowsOf ls).take k).flatten)) ((rowsOf ls).getD k [])
        unfold G1
        rw [List.length_append]
        omega
      · intro A' P' s' outer' ta tvs told k t d1 d2 d3 d4 d5 d6' d7 d8 hk d9 d10 d11
        have e : G1 (rowsOf ls) told k = told ++ (rowsOf ls)[k].filter fun x => decide (x ∉ ((rowsOf ls).take k).flatten) := by
          unfold G1
          rw [List.getD_eq_getElem?_getD, List.getElem?_eq_getElem hk]; rfl
        rw [e]
        exact c_lam1 d6' ((F.sta S).mono d7) (Nat.le_trans d1 (by show A.depth + 1 + 1 ≤ 380; omega)) d2 (Nat.le_trans d3 (by simp only [Around.deeper_units]; omega)) d8 d4 d5 (lam.mono d7) (l5.mono d7) (ho.mono fun _ _ q => q.mono d7) (by omega) hk (ok.up k hk) d9 d10 (by omega)
      rintro v h11 tk11 P10 ex10 ⟨kt10, br, bvs, rfl, lb, wb⟩
      rw [ok.f1] at wb
      have F := (F.drop (N' := [(97, _)]) (.cons_cons _ (.cons _ (List.Sublist.refl _)))).call ex10 (fun a ha => by
        rcases List.mem_cons.mp ha with rfl | ha
        · exact .inr (.head _)
        · exact F.upFr (outer := []) rfl (fun a ha => by simp at ha) a ha) (by
        intro p hp q
        rw [List.mem_singleton.mp hp] at q
        rcases List.mem_cons.mp q with q | q
        · exact absurd q (by show ¬ (97 : Addr) = 37; decide)
        · exact F.offFr (F.frs fo rfl rfl) (.head _) q)
      obtain ⟨ps10, F, k37⟩ := F.take37 kt10 (.head _) (by show (37 : Addr) ∉ [97]; decide)
      have F := F.perm (List.Perm.swap _ _ _)
      have sub10 := ex10.sub
      have l4 := l4.mono sub10
      have l5 := l5.mono sub10
      have ho := ho.mono fun _ _ q => q.mono sub10
      have l2 := l2.mono sub10
      have p6 := sub10 _ _ p6
      clear lam p9 kt kt10
      walk1
      walk1
      walk1
      walk1
      walk1
      rename (Fm _ _ _ _ _ _) => F
      refine callWith_F (hfn (by exact F)) ?_
      walk1
      have cd : CodeHdP P10 99 97 := (F.sta S).cd.2
      refine mkLq (params := lamP (lamE 4)) (body := lamB (lamE 4)) (scope := lamS (lamE 4)) (clos := [("rows", s.heap.objs.size + 1)]) (by exact F) S (by rfl) (by rfl) (by rfl) cd (by exact trivial) (by rfl) (by rfl) (by exact lawQual pm) fun f2 c2' ctv2 doc2 pmf2 h12 tk12 P11 F sub11 cr11 => ?_
      walk1
      walk1
      walk1
      walk1
      walk1
      walk1
      walk1
      refine ⟨hfn (by assumption), ?_⟩
      rename_i ia2 h13 F
      obtain ⟨P12, F, l12, sub12⟩ := F.frzLX (by simp)
      obtain ⟨P13, o13, F, p13, e13, sub13⟩ := F.frzX (by simp)
      have e13 : o13 = _ := e13
      subst e13
      have lam : LamAt P13 4 f2 D := ⟨_, o6, c2', _, _, _, p13, (cr11.mono sub12).mono sub13, sub13 _ _ (sub12 _ _ (sub11 _ _ p6)), d6⟩
      have l4 := ((l4.mono sub11).mono sub12).mono sub13
      have l5 := ((l5.mono sub11).mono sub12).mono sub13
      have ho := ((ho.mono fun _ _ q => q.mono sub11).mono fun _ _ q => q.mono sub12).mono fun _ _ q => q.mono sub13
      have k37 := ((k37.mono sub11).mono sub12).mono sub13
      have l2 := ((l2.mono sub11).mono sub12).mono sub13
      have lb := ((lb.mono sub11).mono sub12).mono sub13
      have wb := ((wb.mono fun _ _ q => q.mono sub11).mono fun _ _ q => q.mono sub12).mono fun _ _ q => q.mono sub13
      have p6 := sub13 _ _ (sub12 _ _ (sub11 _ _ p6))
      have kt := F.ktab (.tail _ (.head _)) k37
      refine Con.use ?_ (c_reduce (outer := [_]) (n := (rowsOf ls).length) (f := f2) (by exact F.ex.fz) (F.sta S) (S2.mono F.ex.sub) (by show A.depth + 1 ≤ 370; omega) (by exact hA) (by simp only [Around.deeper_units]; omega) kt (by show Option.map _ A.frames = _; rw [hfr]; rfl) (by exact F.frs fo rfl rfl)
        ⟨_, _, p13, rfl⟩ l4 (by simpa [← hrv] using hpv) (by omega) (l12.mono sub13) (G2 (rowsOf ls)) ?_ ?_)
      rotate_left
      · intro told k hk
        have := hrow3 k
        have h2 := List.length_filter_le (fun x => decide (x ∉ ((rowsOf ls).drop (k + 1)).flatten)) ((rowsOf ls).getD k [])
        unfold G2
        rw [List.length_append, List.length_reverse]
        omega
      · intro A' P' s' outer' ta tvs told k t d1 d2 d3 d4 d5 d6' d7 d8 hk d9 d10 d11
        have e : G2 (rowsOf ls) told k = told ++ ((rowsOf ls)[k].filter fun x => decide (x ∉ ((rowsOf ls).drop (k + 1)).flatten)).reverse := by
          unfold G2
          rw [List.getD_eq_getElem?_getD, List.getElem?_eq_getElem hk]; rfl
        rw [e]
        exact c_lam2 d6' ((F.sta S).mono d7) (Nat.le_trans d1 (by show A.depth + 1 + 1 ≤ 380; omega)) d2 (Nat.le_trans d3 (by simp only [Around.deeper_units]; omega)) d8 d4 d5 (lam.mono d7) (l5.mono d7) (ho.mono fun _ _ q => q.mono d7) (by omega) hk (ok.dn k hk) d9 d10 (by omega)
      rintro v h14 tk14 P14 ex14 ⟨kt14, tn, tvs, rfl, ltn, wtn⟩
      rw [ok.f2] at wtn
      have F := (F.drop (N' := [(97, _)]) (.cons_cons _ (.cons _ (List.Sublist.refl _)))).call ex14 (fun a ha => by
        rcases List.mem_cons.mp ha with rfl | ha
        · exact .inr (.head _)
        · exact F.upFr (outer := []) rfl (fun a ha => by simp at ha) a ha) (by
        intro p hp q
        rw [List.mem_singleton.mp hp] at q
        rcases List.mem_cons.mp q with q | q
        · exact absurd q (by show ¬ (97 : Addr) = 37; decide)
        · exact F.offFr (F.frs fo rfl rfl) (.head _) q)
      have sub14 := ex14.sub
      obtain ⟨ps14, F, k37⟩ := F.take37 kt14 (.head _) (by show (37 : Addr) ∉ [97]; decide)
      have l5 := l5.mono sub14
      have ho := ho.mono fun _ _ q => q.mono sub14
      have l2 := l2.mono sub14
      have p6 := sub14 _ _ p6
      have lb := lb.mono sub14
      have wb := wb.mono fun _ _ q => q.mono sub14
      clear lam p13 kt kt14 l4 hpv
      walk1
      rename (Fm _ _ _ _ _ _) => F
      exact law3 (b := ⟨[37, 97], P, s.heap⟩) S F (by simp) rfl (by walk_at "mv") (by walk_at "mv") (by walk_at "mv") (by show A.depth + 1 ≤ 361; omega) (by exact hA) (by simp only [Around.deeper_units]; omega) p6 d6 l5 ho l2 i2 lb wb ltn wtn ok fun h tk P' m' F => hQ _ _ _ P' F.ex ⟨rfl, (by
        obtain ⟨o, e, _, hk⟩ := F.led _ (.head _)
        have hk : o = tabObj _ := hk
        exact ⟨_, hk ▸ e⟩), by
        obtain ⟨o, e, _, hk⟩ := F.led _ (.tail _ (.head _))
        have hk : o = tabObj _ := hk
        exact ⟨_, hk ▸ e⟩⟩
end

/-! text PlainD -/
section
local macro_rules | `(tactic| omega) => `(tactic| lia)
local macro_rules | `(tactic| omega) => `(tactic| with_reducible first
  | assumption
  | exact Nat.zero_le _
  | exact Int.natCast_nonneg _
  | exact om0 (by assumption)
  | exact om1 (by assumption) (by decide)
  | exact om2 (by assumption) (by decide)
  | exact om3 (by assumption) (by decide)
  | exact om4 (by assumption) (by decide)
  | exact omT (by assumption)
  | exact omI (by assumption) (by assumption)
  | exact omI' (by assumption) (by assumption)
  | exact omL (by assumption) (by first | assumption | decide)
  | exact omLt (by assumption) (by first | assumption | decide)
  | exact omS (by assumption) (by first | assumption | decide)
  | exact omV (by assumption) (by first | assumption | decide)
  | exact omW (by assumption) (by first | assumption | decide)
  | exact omE (by assumption) (by assumption) (by first | assumption | decide)
  | exact omE' (by assumption) (by assumption) (by first | assumption | decide)
  | exact om1l (by assumption) (by decide)
  | exact om2l (by assumption) (by decide)
  | exact om1t (by assumption) (by assumption) (by decide)
  | exact om2t (by assumption) (by assumption) (by decide)
  | exact om3t (by assumption) (by assumption) (by decide)
  | exact omC (by assumption) (by decide)
  | exact omCi (by assumption) (by assumption) (by decide)
  | exact omCe (by assumption) (by assumption) (by assumption) (by decide)
  | exact omQ (by assumption) (by assumption) (by decide)
  | exact omD (by assumption)
  | exact omJ (by assumption) (by assumption)
  | exact omK (by assumption) (by assumption)
  | exact omN (by assumption) (by assumption)
  | exact omU (by assumption))
theorem filtMap {α β : Type} (p : β → Bool) (f : α → β) : ∀ l : List α, (l.map f).filter p = l.flatMap fun q => if p (f q) = true then [f q] else []
  | [] => rfl
  | q :: l => by
    rw [List.map_cons, List.filter_cons, List.flatMap_cons, filtMap p f l]
    by_cases h : p (f q) = true <;> simp [h]
theorem flatCongr {α β : Type} {f g : α → List β} : ∀ {l : List α}, (∀ x ∈ l, f x = g x) → l.flatMap f = l.flatMap g
  | [], _ => rfl
  | x :: l, h => by rw [List.flatMap_cons, List.flatMap_cons, h x (.head _), flatCongr fun y hy => h y (.tail _ hy)]
theorem inPre {ws : List Wd} {w : Wd} {q : Nat} (hq : q < w.length) : w.take (q + 1) ∈ (ws.map pre).flatten ↔ ∃ x ∈ ws, x.take (q + 1) = w.take (q + 1) := by
  constructor
  · intro h
    obtain ⟨r, h1, h2⟩ := List.mem_flatten.mp h
    obtain ⟨x, hx, rfl⟩ := List.mem_map.mp h1
    exact ⟨x, hx, (take_of hq h2).2.symm⟩
  · rintro ⟨x, hx, e⟩
    refine List.mem_flatten.mpr ⟨_, List.mem_map_of_mem hx, pre_mem.mpr ⟨q, ?_, e.symm⟩⟩
    have := congrArg List.length e
    rw [List.length_take, List.length_take] at this
    omega
theorem emptyIff {ws : List Wd} {w : Wd} {q : Nat} (hq : q < w.length) : (ws.filter fun x => decide (x.take (q + 1) = w.take (q + 1))) = [] ↔ w.take (q + 1) ∉ (ws.map pre).flatten := by
  rw [inPre hq, List.filter_eq_nil_iff]
  simp
theorem firsts_FR (ws : List Wd) : firstsOf ws = FR (ws.map pre).reverse := by
  have key : ∀ k, k ≤ ws.length → (List.range k).flatMap (rowF ws) = FR ((ws.take k).map pre).reverse := by
    intro k
    induction k with
    | zero => intro _; simp [FR]
    | succ k ih =>
      intro hk
      have hk' : k < ws.length := hk
      have hrow : ws.getD k [] = ws[k] := by rw [List.getD_eq_getElem?_getD, List.getElem?_eq_getElem hk']; rfl
      rw [List.range_succ, List.flatMap_append, List.flatMap_singleton, ih (by omega), takeS (List.getElem?_eq_getElem hk'), List.map_append, List.reverse_append]
      show _ = FR (pre ws[k] :: ((ws.take k).map pre).reverse)
      rw [FR]
      congr 1
      unfold rowF
      rw [hrow, show pre ws[k] = (List.range ws[k].length).map fun q => ws[k].take (q + 1) from rfl, filtMap]
      refine flatCongr fun q hq => ?_
      have hq := List.mem_range.mp hq
      unfold stepF
      rw [hrow]
      have e := emptyIff (ws := ws.take k) hq
      have e2 : (ws[k].take (q + 1) ∉ ((ws.take k).map pre).flatten) ↔ (ws[k].take (q + 1) ∉ ((ws.take k).map pre).reverse.flatten) := by
        rw [List.mem_flatten, List.mem_flatten]; simp
      by_cases h : ((ws.take k).filter fun x => decide (x.take (q + 1) = ws[k].take (q + 1))) = []
      · rw [if_pos h, if_pos (decide_eq_true (e2.mp (e.mp h)))]
      · rw [if_neg h, if_neg (fun q => h (e.mpr (e2.mpr (of_decide_eq_true q))))]
  have := key ws.length (Nat.le_refl _)
  rwa [List.take_length] at this
theorem G1_FR (rr : List (List Wd)) : (List.range rr.length).foldl (G1 rr) [] = FR rr.reverse := by
  have key : ∀ k, k ≤ rr.length → (List.range k).foldl (G1 rr) [] = FR (rr.take k).reverse := by
    intro k
    induction k with
    | zero => intro _; simp [FR]
    | succ k ih =>
      intro hk
      have hk' : k < rr.length := hk
      have hrow : rr.getD k [] = rr[k] := by rw [List.getD_eq_getElem?_getD, List.getElem?_eq_getElem hk']; rfl
      rw [List.range_succ, List.foldl_append, ih (by omega), takeS (List.getElem?_eq_getElem hk'), List.reverse_append]
      show G1 rr _ k = FR (rr[k] :: (rr.take k).reverse)
      rw [FR]
      unfold G1
      rw [hrow]
      congr 1
      refine List.filter_congr fun x _ => ?_
      have e2 : (x ∉ (rr.take k).flatten) ↔ (x ∉ (rr.take k).reverse.flatten) := by
        rw [List.mem_flatten, List.mem_flatten]; simp
      exact decide_eq_decide.mpr e2
  have := key rr.length (Nat.le_refl _)
  rwa [List.take_length] at this
noncomputable def H2 (rr : List (List Wd)) (k : Nat) : List Wd := ((rr.getD k []).filter fun x => decide (x ∉ (rr.drop (k + 1)).flatten)).reverse
theorem foldApp {h : Nat → List Wd} : ∀ (l : List Nat) (told : List Wd), l.foldl (fun t k => t ++ h k) told = told ++ l.flatMap h
  | [], told => by simp
  | k :: l, told => by rw [List.foldl_cons, foldApp l, List.flatMap_cons, List.append_assoc]
theorem H2_FR : ∀ rr : List (List Wd), (List.range rr.length).flatMap (H2 rr) = (FR rr).reverse
  | [] => rfl
  | r :: rs => by
    rw [List.length_cons, List.range_succ_eq_map, List.flatMap_cons, List.flatMap_map, FR, List.reverse_append, ← H2_FR rs]
    rfl
theorem G2_FR (rr : List (List Wd)) : (List.range rr.length).foldl (G2 rr) [] = (FR rr).reverse := by
  have : G2 rr = fun t k => t ++ H2 rr k := rfl
  rw [this, foldApp, H2_FR]
  rfl
theorem pre_rev_eq (w : Wd) : (pre w).reverse = (List.range w.length).map fun q => w.take (w.length - q) := by
  unfold pre bgs
  apply List.ext_getElem
  · simp
  · intro i h1 h2
    simp at h1 h2
    rw [List.getElem_reverse]
    simp
    congr 1
    omega
theorem lasts_FR : ∀ ws : List Wd, lastsOf ws = (FR (ws.map pre)).reverse
  | [] => rfl
  | w :: ws => by
    unfold lastsOf
    rw [List.length_cons, List.range_succ_eq_map, List.flatMap_cons, List.flatMap_map, List.map_cons, FR, List.reverse_append, ← lasts_FR ws]
    congr 1
    rw [← List.filter_reverse, pre_rev_eq, filtMap]
    unfold rowL
    refine flatCongr fun q hq => ?_
    have hq : q < w.length := List.mem_range.mp hq
    unfold stepL
    show (if (ws.filter fun x => decide (x.take (w.length - q) = w.take (w.length - q))) = [] then [w.take (w.length - q)] else []) = _
    obtain ⟨i, hi⟩ : ∃ i, w.length - q = i + 1 := ⟨w.length - q - 1, by omega⟩
    rw [hi]
    have e := emptyIff (ws := ws) (w := w) (q := i) (by omega)
    by_cases h : (ws.filter fun x => decide (x.take (i + 1) = w.take (i + 1))) = []
    · rw [if_pos h, if_pos (decide_eq_true (e.mp h))]
    · rw [if_neg h, if_neg (fun q => h (e.mpr (of_decide_eq_true q)))]
theorem wlt_take : ∀ (w : Wd) (i j : Nat), i < j → j ≤ w.length → wlt (w.take i) (w.take j) = true
  | [], i, j, h1, h2 => by simp at h2; omega
  | a :: w, i, 0, h1, h2 => by omega
  | a :: w, 0, j + 1, h1, h2 => rfl
  | a :: w, i + 1, j + 1, h1, h2 => by
    show (if a = a then wlt (w.take i) (w.take j) else decide (a < a)) = true
    rw [if_pos rfl]
    exact wlt_take w i j (by omega) (by simpa using h2)
theorem pre_rising (w : Wd) : (pre w).Pairwise fun x y => wlt x y = true := by
  unfold pre bgs
  refine List.Pairwise.map _ (R := fun i j => i < j ∧ j < w.length) ?_ ?_
  · rintro i j ⟨h1, h2⟩
    exact wlt_take w _ _ (by omega) (by omega)
  · exact (List.pairwise_lt_range).imp_of_mem fun {i j} hi hj q => ⟨q, List.mem_range.mp hj⟩
end

/-! text PlainE -/
section
set_option maxRecDepth 100000
local macro_rules | `(tactic| omega) => `(tactic| with_reducible first
  | assumption
  | exact Nat.zero_le _
  | exact Int.natCast_nonneg _
  | exact om0 (by assumption)
  | exact om1 (by assumption) (by decide)
  | exact om2 (by assumption) (by decide)
  | exact om3 (by assumption) (by decide)
  | exact om4 (by assumption) (by decide)
  | exact omT (by assumption)
  | exact omI (by assumption) (by assumption)
  | exact omI' (by assumption) (by assumption)
  | exact omL (by assumption) (by first | assumption | decide)
  | exact omLt (by assumption) (by first | assumption | decide)
  | exact omS (by assumption) (by first | assumption | decide)
  | exact omV (by assumption) (by first | assumption | decide)
  | exact omW (by assumption) (by first | assumption | decide)
  | exact omE (by assumption) (by assumption) (by first | assumption | decide)
  | exact omE' (by assumption) (by assumption) (by first | assumption | decide)
  | exact om1l (by assumption) (by decide)
  | exact om2l (by assumption) (by decide)
  | exact om1t (by assumption) (by assumption) (by decide)
  | exact om2t (by assumption) (by assumption) (by decide)
  | exact om3t (by assumption) (by assumption) (by decide)
  | exact omC (by assumption) (by decide)
  | exact omCi (by assumption) (by assumption) (by decide)
  | exact omCe (by assumption) (by assumption) (by assumption) (by decide)
  | exact omQ (by assumption) (by assumption) (by decide)
  | exact omD (by assumption)
  | exact omJ (by assumption) (by assumption)
  | exact omK (by assumption) (by assumption)
  | exact omN (by assumption) (by assumption)
  | exact omU (by assumption))
/-- the numbers that law can draw, and its own three -/
noncomputable def vals : List Int := ((List.range 36).map fun (i : Nat) => lawNum i) ++ [274, 33, 273]
theorem lawNum_in (x : Int) : lawNum x ∈ vals := by
  have h1 : 0 ≤ Int.fmod x 36 := by rw [Int.fmod_eq_emod_of_nonneg _ (by decide)]; exact Int.emod_nonneg _ (by decide)
  have h2 : Int.fmod x 36 < 36 := by rw [Int.fmod_eq_emod_of_nonneg _ (by decide)]; exact Int.emod_lt_of_pos _ (by decide)
  have e : lawNum x = lawNum (Int.fmod x 36) := by
    unfold lawNum
    have : Int.fmod (Int.fmod x 36) 36 = Int.fmod x 36 := by
      rw [Int.fmod_eq_emod_of_nonneg _ (by decide), Int.fmod_eq_emod_of_nonneg _ (by decide), Int.emod_emod_of_dvd _ (Int.dvd_refl _)]
    rw [this]
  rw [e]
  unfold vals
  refine List.mem_append_left _ (List.mem_map.mpr ⟨(Int.fmod x 36).toNat, List.mem_range.mpr (by omega), ?_⟩)
  rw [Int.toNat_of_nonneg h1]
theorem vals1 : ∀ l ∈ vals, (0 ≤ l ∧ l < 4096) ∧ begs 3 l [] = pre (wordOf l) ∧ wordOf l ≠ [] ∧ (wordOf l).length ≤ 3 := by decide +kernel
theorem vals2 : ∀ a ∈ vals, ∀ b ∈ vals, wordOf a <+: wordOf b → a = b ∨ Int.fdiv b 16 = a := by decide +kernel
theorem leaves_inv {nums : List Int} : ∀ (xs K : List Int), (∀ x ∈ xs, x ∈ nums) → (K.Nodup ∧ ∀ n ∈ K, n ∈ nums ∧ (nums.filter fun o => decide (Int.fdiv o 16 = n)) = []) →
    ((xs.foldl (leavesStep nums) K).Nodup ∧ ∀ n ∈ xs.foldl (leavesStep nums) K, n ∈ nums ∧ (nums.filter fun o => decide (Int.fdiv o 16 = n)) = []) ∧ (xs.foldl (leavesStep nums) K).length ≤ K.length + xs.length
  | [], K, _, h => ⟨h, by simp⟩
  | x :: xs, K, hx, h => by
    rw [List.foldl_cons]
    by_cases q : (nums.filter fun o => decide (Int.fdiv o 16 = x)) = [] ∧ x ∉ K
    · have e : leavesStep nums K x = K ++ [x] := if_pos q
      rw [e]
      obtain ⟨h1, h2⟩ := leaves_inv xs (K ++ [x]) (fun y hy => hx y (.tail _ hy)) ⟨by
        rw [List.nodup_append]
        exact ⟨h.1, by simp, fun a ha b hb e => q.2 (by rw [List.mem_singleton.mp hb] at e; exact e ▸ ha)⟩, fun n hn => by
        rcases List.mem_append.mp hn with hn | hn
        · exact h.2 n hn
        · rw [List.mem_singleton.mp hn]; exact ⟨hx x (.head _), q.1⟩⟩
      exact ⟨h1, by rw [List.length_append] at h2; simp at h2 ⊢; omega⟩
    · have e : leavesStep nums K x = K := if_neg q
      rw [e]
      obtain ⟨h1, h2⟩ := leaves_inv xs K (fun y hy => hx y (.tail _ hy)) h
      exact ⟨h1, by simp at h2 ⊢; omega⟩
theorem plain (ns : List Int) : PlainOk (leavesOf ((ns.take 4).map lawNum ++ [274, 33, 273])) := by
  have hv : ∀ n ∈ (ns.take 4).map lawNum ++ [274, 33, 273], n ∈ vals := fun n hn => by
    rcases List.mem_append.mp hn with hn | hn
    · obtain ⟨x, _, rfl⟩ := List.mem_map.mp hn
      exact lawNum_in x
    · exact List.mem_append_right _ hn
  have hlen7 : ((ns.take 4).map lawNum ++ [274, 33, 273]).length ≤ 7 := by simp; omega
  generalize (ns.take 4).map lawNum ++ [274, 33, 273] = nums at hv hlen7
  obtain ⟨⟨hnd, hk⟩, hlen⟩ := leaves_inv (nums := nums) nums [] (fun _ h => h) ⟨List.nodup_nil, fun _ h => nomatch h⟩
  have hlen : (leavesOf nums).length ≤ 7 := by unfold leavesOf; simp at hlen; omega
  change (leavesOf nums).Nodup at hnd
  change ∀ n ∈ leavesOf nums, _ at hk
  generalize leavesOf nums = ls at hnd hk hlen
  have v1 : ∀ l ∈ ls, (0 ≤ l ∧ l < 4096) ∧ begs 3 l [] = pre (wordOf l) ∧ wordOf l ≠ [] ∧ (wordOf l).length ≤ 3 := fun l hl => vals1 l (hv l (hk l hl).1)
  have hrows : rowsOf ls = (ls.map wordOf).map pre := by
    unfold rowsOf
    rw [List.map_map]
    exact List.map_congr_left fun l hl => (v1 l hl).2.1
  have hpf : Pf (ls.map wordOf) := by
    unfold Pf
    refine List.Pairwise.map _ (R := fun a b => a ≠ b ∧ a ∈ ls ∧ b ∈ ls) ?_ ?_
    · rintro a b ⟨h1, h2, h3⟩
      have no : ∀ a b, a ≠ b → a ∈ ls → b ∈ ls → ¬ wordOf a <+: wordOf b := fun a b h1 h2 h3 q => by
        rcases vals2 a (hv a (hk a h2).1) b (hv b (hk b h3).1) q with e | e
        · exact h1 e
        · have := (hk a h2).2
          have hm : b ∈ nums.filter fun o => decide (Int.fdiv o 16 = a) := List.mem_filter.mpr ⟨(hk b h3).1, decide_eq_true e⟩
          rw [this] at hm
          cases hm
      exact ⟨no a b h1 h2 h3, no b a (Ne.symm h1) h3 h2⟩
    · exact hnd.imp_of_mem fun {a b} ha hb q => ⟨q, ha, hb⟩
  have hne : ∀ w ∈ ls.map wordOf, w ≠ [] := fun w hw => by
    obtain ⟨l, hl, rfl⟩ := List.mem_map.mp hw
    exact (v1 l hl).2.2.1
  have hw3 : ∀ w ∈ ls.map wordOf, w.length ≤ 3 := fun w hw => by
    obtain ⟨l, hl, rfl⟩ := List.mem_map.mp hw
    exact (v1 l hl).2.2.2
  have hwl : (ls.map wordOf).length ≤ 7 := by simpa using hlen
  generalize hws : ls.map wordOf = ws at hrows hpf hne hw3 hwl
  have pl : ∀ w : Wd, (pre w).length = w.length := fun w => by unfold pre bgs; simp
  have hr3 : ∀ r ∈ ws.map pre, r.length ≤ 3 := fun r hr => by
    obtain ⟨w, hw, rfl⟩ := List.mem_map.mp hr
    rw [pl]; exact hw3 w hw
  have fl : ∀ rs : List (List Wd), rs.Sublist (ws.map pre) → rs.flatten.length ≤ 21 := fun rs hs => by
    have := flat3 fun r hr => hr3 r (hs.subset hr)
    have := hs.length_le
    rw [List.length_map] at this
    omega
  have rowok : ∀ (k : Nat) (h : k < (ws.map pre).length) (ac : List (List Wd)), ac.Sublist (ws.map pre) → (∀ x ∈ ac, ∃ w' ∈ ws, x = pre w' ∧ ¬ ws[k]'(by simpa using h) <+: w') → RowOk (ws.map pre)[k] ac.flatten := fun k h ac hs hno => by
    have hk : k < ws.length := by simpa using h
    rw [List.getElem_map]
    refine ⟨pre_rising _, ?_, ?_, ?_, by have := fl ac hs; omega⟩
    · intro q
      have := pre_self (hne _ (List.getElem_mem hk))
      rw [q] at this
      cases this
    · intro x hx hm
      obtain ⟨l, e⟩ := pre_rev (hne _ (List.getElem_mem hk))
      rw [List.getLast?_eq_head?_reverse, e] at hx
      have hx : ws[k] = x := Option.some.inj hx
      subst hx
      obtain ⟨r, h1, h2⟩ := List.mem_flatten.mp hm
      obtain ⟨w', _, rfl, h3⟩ := hno r h1
      obtain ⟨q, _, e1⟩ := pre_mem.mp h2
      exact h3 (by rw [e1]; exact List.take_prefix _ _)
    · rw [pl]; exact hw3 _ (List.getElem_mem hk)
  refine ⟨hlen, fun l hl => (v1 l hl).1, fun l hl => by rw [(v1 l hl).2.1, pl]; exact (v1 l hl).2.2.2, fun l hl => (v1 l hl).2.2.2, ?_, ?_, ?_, ?_, ?_, ?_⟩
  · rw [hrows]
    intro k h
    have hk : k < ws.length := by simpa using h
    refine rowok k h _ (List.take_sublist _ _) fun x hx => ?_
    rw [← List.map_take] at hx
    obtain ⟨w', hw', rfl⟩ := List.mem_map.mp hx
    refine ⟨w', List.mem_of_mem_take hw', rfl, ?_⟩
    have hp := hpf
    unfold Pf at hp
    rw [← List.take_append_drop k ws] at hp
    have hd : ws[k] ∈ ws.drop k := by rw [List.drop_eq_getElem_cons hk]; exact .head _
    exact ((List.pairwise_append.mp hp).2.2 w' hw' _ hd).2
  · rw [hrows]
    intro k h
    have hk : k < ws.length := by simpa using h
    refine rowok k h _ (List.drop_sublist _ _) fun x hx => ?_
    rw [← List.map_drop] at hx
    obtain ⟨w', hw', rfl⟩ := List.mem_map.mp hx
    refine ⟨w', List.mem_of_mem_drop hw', rfl, ?_⟩
    have hp := hpf
    unfold Pf at hp
    rw [← List.take_append_drop k ws, List.drop_eq_getElem_cons hk] at hp
    exact (List.rel_of_pairwise_cons (List.pairwise_append.mp hp).2.1 hw').1
  · rw [hws, hrows, G1_FR, firsts_FR]
  · rw [hws, hrows, G2_FR, lasts_FR]
  · rw [hws, hrows, firsts_FR]
    refine c3_up (Nat.le_trans FR_len ?_)
    have := flat3 (rs := (ws.map pre).reverse) fun r hr => hr3 r (List.mem_reverse.mp hr)
    rw [List.length_reverse, List.length_map] at this
    omega
  · rw [hws, hrows, lasts_FR]
    refine c3_dn hpf hne (Nat.le_trans FR_len ?_)
    have := fl _ (List.Sublist.refl _)
    omega
end

/-! text Join -/
section
open PySem PySem.W PyProof.Rows PySem.Calls PySem.Spec
set_option maxRecDepth 100000
set_option maxHeartbeats 400000
local macro_rules | `(tactic| omega) => `(tactic| with_reducible first
  | assumption
  | exact Nat.zero_le _
  | exact Int.natCast_nonneg _
  | exact om0 (by assumption)
  | exact om1 (by assumption) (by decide)
  | exact om2 (by assumption) (by decide)
  | exact om3 (by assumption) (by decide)
  | exact om4 (by assumption) (by decide)
  | exact omT (by assumption)
  | exact omI (by assumption) (by assumption)
  | exact omI' (by assumption) (by assumption)
  | exact omL (by assumption) (by first | assumption | decide)
  | exact omLt (by assumption) (by first | assumption | decide)
  | exact omS (by assumption) (by first | assumption | decide)
  | exact omV (by assumption) (by first | assumption | decide)
  | exact omW (by assumption) (by first | assumption | decide)
  | exact omE (by assumption) (by assumption) (by first | assumption | decide)
  | exact omE' (by assumption) (by assumption) (by first | assumption | decide)
  | exact om1l (by assumption) (by decide)
  | exact om2l (by assumption) (by decide)
  | exact om1t (by assumption) (by assumption) (by decide)
  | exact om2t (by assumption) (by assumption) (by decide)
  | exact om3t (by assumption) (by assumption) (by decide)
  | exact omC (by assumption) (by decide)
  | exact omCi (by assumption) (by assumption) (by decide)
  | exact omCe (by assumption) (by assumption) (by assumption) (by decide)
  | exact omQ (by assumption) (by assumption) (by decide)
  | exact omD (by assumption)
  | exact omJ (by assumption) (by assumption)
  | exact omK (by assumption) (by assumption)
  | exact omN (by assumption) (by assumption)
  | exact omU (by assumption))
noncomputable def clsOk : Value → Bool
  | .type n => n != "frame"
  | _ => true
theorem clsNe {v : Value} (h : clsOk v = true) : v ≠ fcls := fun q => by
  rw [q] at h
  exact absurd h (by decide)
noncomputable def keysOk (es : Array DictEntry) : Bool := es.all fun e => match e.key with | .str _ _ => true | _ => false
theorem strKeys {es : Array DictEntry} (h : keysOk es = true) : StrKeys es := fun e he => by
  have := Array.all_eq_true.mp h
  obtain ⟨i, hi, rfl⟩ := Array.getElem_of_mem he
  have := this i hi
  cases hk : es[i].key with
  | str n t => exact ⟨n, t, rfl⟩
  | _ => rw [hk] at this; cases this
/-! the objects that the text's top has laid, as far as the walks ask them: written out, or looked at -/
noncomputable def fnE (i : Nat) (c : Addr) (md : PySem.Str) (t : Tok) : Obj := { cls := .type "function", data := .func (fdOf (stm i) (.str md t) c) }
noncomputable def m1 : PySem.Str := "cpy313.imaplib"
noncomputable def m2 : PySem.Str := "cpy313.unittest.util"
noncomputable def m3 : PySem.Str := "cpy313.functools"
noncomputable def m4 : PySem.Str := "law_oc0067_01"
noncomputable def cut : PySem.Str := "/claim/cut.py"
noncomputable def lawK : Frag := [(2, { cls := .none, data := .dict #[] }), (4, { cls := .type "module", dict := some 0 }), (21, fnE 1 20 m1 187), (28, fnE 3 27 m2 199), (35, fnE 4 34 m2 199), (37, tabObj #[]),
  (41, { cls := .type "code", data := .fields #[.str "cmp_to_key" 225, .str "cmp_to_key" 226, .str cut 227, .int 46 0, .int 1 0, .int 0 0, .int 0 0, .int 3 0, .ref 36, .bool true, .int 181 0, .ref 37, .none, .ref 38, .ref 39, .ref 40, .int 231 0, .int 46 0, .str cut 232] }),
  (42, fnE 6 41 m3 223), (43, { cls := .type "object" }), (44, tup44), (51, { cls := .type "function", data := .func (redFd (.str m3 223)) }), (56, fnE 9 55 m3 223),
  (63, fnE 11 62 m4 253), (68, fnE 12 67 m4 253), (75, fnE 13 74 m4 253), (80, fnE 14 79 m4 253), (85, fnE 15 84 m4 253), (90, fnE 16 89 m4 253), (95, fnE 17 94 m4 253), (97, tabObj #[]),
  (99, { cls := .type "code", data := .fields #[.str "law" 302, .str "law" 303, .str cut 304, .int 142 0, .int 1 0, .int 0 0, .int 0 0, .int 3 0, .ref 96, .bool true, .int 181 0, .ref 97, .none, .none, .none, .ref 98, .int 305 0, .int 142 0, .str cut 306] }),
  (100, fnE 18 99 m4 253)]
noncomputable def lawAs : List Addr := [2, 4, 21, 28, 35, 37, 41, 42, 43, 44, 51, 56, 63, 68, 75, 80, 85, 90, 95, 97, 99, 100]
noncomputable def gtabL : List (PySem.Str × Option Value) := ("law", some (.ref 100)) :: gtab
noncomputable def gT (o : Obj) : Bool := match o.data with
  | .dict es _ => keysOk es && gtabL.all (fun p => decide (nsFind es p.1 = p.2)) && (match nsFind es "__name__" with | some (.str _ _) => true | _ => false)
  | _ => false
noncomputable def bT (o : Obj) : Bool := match o.data with
  | .dict es _ => keysOk es && btab.all (fun p => decide (nsFind es p.1 = some p.2))
  | _ => false
noncomputable def cT (n : PySem.Str) (o : Obj) : Bool := match o.data with
  | .fields vs => (match (vs[1]? : Option Value) with | some (.str q _) => decide (q = n) | _ => false)
  | _ => false
noncomputable def codes : List (Nat × Addr) := [(1, 20), (3, 27), (4, 34), (6, 41), (8, 50), (9, 55), (11, 62), (12, 67), (13, 74), (14, 79), (15, 84), (16, 89), (17, 94), (18, 99)]
/-- what is looked at, and where -/
noncomputable def tsts : List (Nat × (Obj → Bool)) := (0, bT) :: (3, gT) :: codes.map fun p => (p.2, cT (nmOf (stm p.1)))
noncomputable def tstAs : List Nat := 0 :: 3 :: codes.map (·.2)
noncomputable def chk (h : Heap) : Bool := tsts.all fun t => (h.get? t.1).any fun o => clsOk o.cls && t.2 o
noncomputable def Chk (h : Heap) : Prop := ∀ t ∈ tsts, ∃ o, h.get? t.1 = some o ∧ clsOk o.cls = true ∧ t.2 o = true
theorem chk_is {h : Heap} (x : chk h = true) : Chk h := fun t ht => by
  have := List.all_eq_true.mp x t ht
  obtain ⟨o, e, q⟩ := (Option.any_eq_true _ _).mp this
  obtain ⟨q1, q2⟩ := Bool.and_eq_true_iff.mp q
  exact ⟨o, e, q1, q2⟩
noncomputable def lawHook : Hook where
  α := List (Option Obj) × Bool
  obs := fun s => (lawAs.map s.heap.get?, chk s.heap)
  val := fun _ => (lawK.map fun p => some p.2, true)
  says := fun _ h => lawK.In h ∧ Chk h
  of := fun _ _ x => ⟨Frag.in_of (by kernel_rfl) (Prod.mk.inj x).1, chk_is (Prod.mk.inj x).2⟩
  keeps := fun _ _ _ x k => ⟨Frag.In.keeps x.1 k, fun c hc => let ⟨o, e, q⟩ := x.2 c hc; ⟨o, k _ _ e, q⟩⟩
noncomputable def inDom (c : Nat) : Bool := c != 37 && c != 97 && (lawAs.contains c || tstAs.contains c)
noncomputable def PH (h : Heap) : PM := fun c => if inDom c then h.get? c else none
theorem PH_of {h : Heap} {c : Addr} {o : Obj} (e : h.get? c = some o) (hd : inDom c = true) : PH h c = some o := by
  unfold PH
  rw [if_pos hd]; exact e
theorem PH_is {h : Heap} {c : Addr} {o : Obj} (e : PH h c = some o) : inDom c = true ∧ h.get? c = some o := by
  unfold PH at e
  split at e
  · rename_i q; exact ⟨q, e⟩
  · cases e
section
variable {h : Heap}
theorem clsAll : (lawAs.all fun c => (lawK.lookup c).any fun o => clsOk o.cls) = true := by kernel_rfl
theorem tstMap : tsts.map (·.1) = tstAs := by kernel_rfl
theorem PH_fz (K : lawK.In h) (C : Chk h) : Fz (PH h) h := fun c o e => by
  obtain ⟨hd, e⟩ := PH_is e
  refine ⟨e, clsNe ?_⟩
  unfold inDom at hd
  rcases Bool.or_eq_true_iff.mp (Bool.and_eq_true_iff.mp hd).2 with q | q
  · have hm : c ∈ lawAs := List.contains_iff_mem.mp q
    obtain ⟨o', e', z⟩ := (Option.any_eq_true _ _).mp (List.all_eq_true.mp clsAll c hm)
    have := K _ _ e'
    rw [e] at this; cases this
    exact z
  · have hm : c ∈ tstAs := List.contains_iff_mem.mp q
    rw [← tstMap] at hm
    obtain ⟨t, ht, rfl⟩ := List.mem_map.mp hm
    obtain ⟨o', e', z, _⟩ := C t ht
    rw [e] at e'; cases e'
    exact z
theorem codeP (C : Chk h) {i : Nat} {c : Addr} (hm : (i, c) ∈ codes) (hd : inDom c = true) : CodeRecP (PH h) c (nmOf (stm i)) := by
  obtain ⟨o, e, _, ht⟩ := C (c, cT (nmOf (stm i))) (.tail _ (.tail _ (List.mem_map.mpr ⟨(i, c), hm, rfl⟩)))
  have ht : cT (nmOf (stm i)) o = true := ht
  unfold cT at ht
  split at ht
  · rename_i vs hv
    split at ht
    · rename_i q t hq
      exact ⟨o, vs, t, PH_of e hd, hv, by rw [hq, of_decide_eq_true ht]⟩
    · cases ht
  · cases ht
theorem fnAtP (K : lawK.In h) (C : Chk h) {i : Nat} {a c : Addr} {md : PySem.Str} {t : Tok} (hl : lawK.lookup a = some (fnE i c md t)) (ha : inDom a = true) (hm : (i, c) ∈ codes) (hd : inDom c = true) : FnP (PH h) i a c :=
  ⟨_, _, PH_of (K _ _ hl) ha, rfl, codeP C hm hd⟩
theorem nsP_of {c : Addr} {o : Obj} {es : Array DictEntry} {ep : Nat} (e : h.get? c = some o) (hc : inDom c = true) (hd : o.data = .dict es ep) (hk : keysOk es = true) : NsP (PH h) c (nsFind es) :=
  ⟨o, es, ep, PH_of e hc, hd, strKeys hk, fun _ => rfl⟩
theorem tabLook {es : Array DictEntry} : ∀ {l : List (PySem.Str × Option Value)}, (l.all fun p => decide (nsFind es p.1 = p.2)) = true → ∀ x r, l.lookup x = some r → nsFind es x = r
  | [], _, x, r, h => by cases h
  | (y, v) :: l, e, x, r, h => by
    rw [List.all_cons] at e
    obtain ⟨e1, e2⟩ := Bool.and_eq_true_iff.mp e
    rw [List.lookup_cons] at h
    split at h
    · rename_i q
      cases h
      rw [eq_of_beq q]
      exact of_decide_eq_true e1
    · exact tabLook e2 x r h
theorem tabLookS {es : Array DictEntry} : ∀ {l : List (PySem.Str × Value)}, (l.all fun p => decide (nsFind es p.1 = some p.2)) = true → ∀ x v, l.lookup x = some v → nsFind es x = some v
  | [], _, x, r, h => by cases h
  | (y, v) :: l, e, x, r, h => by
    rw [List.all_cons] at e
    obtain ⟨e1, e2⟩ := Bool.and_eq_true_iff.mp e
    rw [List.lookup_cons] at h
    split at h
    · rename_i q
      cases h
      rw [eq_of_beq q]
      exact of_decide_eq_true e1
    · exact tabLookS e2 x r h
theorem staG (C : Chk h) : ∃ mg, NsP (PH h) mainGlobals mg ∧ (∀ x r, gtab.lookup x = some r → mg x = r) ∧ ∃ n t, mg "__name__" = some (.str n t) := by
  obtain ⟨o, e, _, ht⟩ := C (3, gT) (.tail _ (.head _))
  have ht : gT o = true := ht
  unfold gT at ht
  split at ht
  · rename_i es ep hd
    obtain ⟨ht, h3⟩ := Bool.and_eq_true_iff.mp ht
    obtain ⟨h1, h2⟩ := Bool.and_eq_true_iff.mp ht
    refine ⟨_, nsP_of e rfl hd h1, tabLook (Bool.and_eq_true_iff.mp h2).2, ?_⟩
    split at h3
    · rename_i n t q; exact ⟨n, t, q⟩
    · cases h3
  · cases ht
theorem lawIs (C : Chk h) {mg : Mp} (hn : h.Ns mainGlobals mg) {f : Addr} (hm : mg "law" = some (.ref f)) : f = 100 := by
  obtain ⟨o, e, _, ht⟩ := C (3, gT) (.tail _ (.head _))
  have ht : gT o = true := ht
  obtain ⟨o', es', ep', e', hd', _, hf⟩ := hn
  have : o' = o := Option.some.inj (e'.symm.trans e)
  subst this
  unfold gT at ht
  rw [hd'] at ht
  obtain ⟨ht, _⟩ := Bool.and_eq_true_iff.mp ht
  obtain ⟨_, h2⟩ := Bool.and_eq_true_iff.mp ht
  have h3 : nsFind es' "law" = some (.ref 100) := of_decide_eq_true (Bool.and_eq_true_iff.mp h2).1
  rw [hf, hm] at h3
  cases h3; rfl
theorem staB (C : Chk h) : ∃ mb, NsP (PH h) builtinsNs mb ∧ ∀ x v, btab.lookup x = some v → mb x = some v := by
  obtain ⟨o, e, _, ht⟩ := C (0, bT) (.head _)
  have ht : bT o = true := ht
  unfold bT at ht
  split at ht
  · rename_i es ep hd
    obtain ⟨h1, h2⟩ := Bool.and_eq_true_iff.mp ht
    exact ⟨_, nsP_of e rfl hd h1, tabLookS h2⟩
  · cases ht
theorem hdAt (K : lawK.In h) {c T : Addr} {o : Obj} {vs : Array Value} {file : PySem.Str} {tf : Tok} {flags : Int} {tg : Tok} {inF : Bool} {text : Int} {tt : Tok} (hl : lawK.lookup c = some o) (hd : inDom c = true)
    (h1 : o.cls = .type "code") (h2 : o.data = .fields vs) (h3 : vs[11]? = some (.ref T)) (h4 : vs.getD 11 .none = .ref T) (h5 : vs.getD 18 .none = .str file tf) (h6 : vs.getD 7 .none = .int flags tg) (h7 : vs.getD 9 .none = .bool inF)
    (h8 : vs.getD 10 .none = .int text tt) (h9 : c ≠ T) : CodeHdP (PH h) c T :=
  ⟨o, vs, file, tf, flags, tg, inF, text, tt, PH_of (K _ _ hl) hd, h1, h2, h3, h4, h5, h6, h7, h8, h9⟩
theorem staF (K : lawK.In h) (C : Chk h) : ∀ q ∈ ftab, FnP (PH h) q.1 q.2.1 q.2.2 := by
  intro q hq
  unfold ftab at hq
  rcases hq with _ | ⟨_, hq⟩
  · exact fnAtP K C (md := m1) (t := 187) (by kernel_rfl) rfl (by decide) rfl
  rcases hq with _ | ⟨_, hq⟩
  · exact fnAtP K C (md := m2) (t := 199) (by kernel_rfl) rfl (by decide) rfl
  rcases hq with _ | ⟨_, hq⟩
  · exact fnAtP K C (md := m2) (t := 199) (by kernel_rfl) rfl (by decide) rfl
  rcases hq with _ | ⟨_, hq⟩
  · exact fnAtP K C (md := m3) (t := 223) (by kernel_rfl) rfl (by decide) rfl
  rcases hq with _ | ⟨_, hq⟩
  · exact fnAtP K C (md := m3) (t := 223) (by kernel_rfl) rfl (by decide) rfl
  all_goals skip
  rcases hq with _ | ⟨_, hq⟩
  · exact fnAtP K C (md := m4) (t := 253) (by kernel_rfl) rfl (by decide) rfl
  rcases hq with _ | ⟨_, hq⟩
  · exact fnAtP K C (md := m4) (t := 253) (by kernel_rfl) rfl (by decide) rfl
  rcases hq with _ | ⟨_, hq⟩
  · exact fnAtP K C (md := m4) (t := 253) (by kernel_rfl) rfl (by decide) rfl
  rcases hq with _ | ⟨_, hq⟩
  · exact fnAtP K C (md := m4) (t := 253) (by kernel_rfl) rfl (by decide) rfl
  rcases hq with _ | ⟨_, hq⟩
  · exact fnAtP K C (md := m4) (t := 253) (by kernel_rfl) rfl (by decide) rfl
  rcases hq with _ | ⟨_, hq⟩
  · exact fnAtP K C (md := m4) (t := 253) (by kernel_rfl) rfl (by decide) rfl
  rcases hq with _ | ⟨_, hq⟩
  · exact fnAtP K C (md := m4) (t := 253) (by kernel_rfl) rfl (by decide) rfl
  cases hq
theorem lawSta (K : lawK.In h) (C : Chk h) : Sta (PH h) where
  g := staG C
  bm := ⟨_, PH_of (K 4 _ rfl) rfl, rfl, rfl, rfl⟩
  cd := ⟨hdAt K (by rfl) rfl rfl rfl rfl rfl rfl rfl rfl rfl (by decide), hdAt K (by rfl) rfl rfl rfl rfl rfl rfl rfl rfl rfl (by decide)⟩
  b := staB C
  lim := ⟨_, nsP_of (K 2 _ rfl) rfl rfl (by kernel_rfl), fun _ => rfl⟩
  fn := staF K C
theorem lawSta2 (K : lawK.In h) (C : Chk h) : Sta2 (PH h) where
  red := ⟨{ cls := .type "function", data := .func (redFd (.str m3 223)) }, _, PH_of (K 51 _ (by kernel_rfl)) rfl, rfl, codeP C (i := 8) (by decide) rfl⟩
  tup := PH_of (K 44 _ (by kernel_rfl)) rfl
  mis := ⟨_, PH_of (K 43 { cls := .type "object" } (by kernel_rfl)) rfl, rfl⟩
theorem lawFn (K : lawK.In h) (C : Chk h) : FnP (PH h) 18 100 99 := fnAtP K C (md := m4) (t := 253) (by kernel_rfl) rfl (by decide) rfl
end
noncomputable def PJ (h : Heap) (a : Addr) (o : Obj) : PM := fun c => if c = 37 ∨ c = 97 then none else if c = a then some o else PH h c
theorem join {prog : Program} {w : World} {s : Shared} {Q : Value → Shared → Prop} {E : Value → Shared → Prop} {a : Addr} {svs : List Value} {ns : List Int} {as : List Addr} (Y : lawHook.says w s.heap)
    (hL : s.heap.IsList a svs.toArray) (hr : ReadsAll s.heap svs (ns.map PyData.int) as) (hn : ns.length ≤ 1000)
    (hQ : ∀ h' tk, OldK s.heap h' → Q (.bool true) ⟨h', s.gens, s.drawn, tk, s.os⟩) : wpAny (model prog w) callerA (call (.ref 100) [.ref a]) Q E s := by
  obtain ⟨K, C⟩ := (show lawK.In s.heap ∧ Chk s.heap from Y)
  obtain ⟨o, e, hcl, n, hd⟩ := hL
  have hi := (readsAll_intsAre hr).1
  have h37 : s.heap.get? 37 = some (tabObj #[]) := K _ _ (by kernel_rfl)
  have h97 : s.heap.get? 97 = some (tabObj #[]) := K _ _ (by kernel_rfl)
  have tab37 : o ≠ tabObj #[] := fun q => by rw [q] at hcl; cases hcl
  have a37 : a ≠ 37 := fun q => by rw [q, h37] at e; exact tab37 (Option.some.inj e).symm
  have a97 : a ≠ 97 := fun q => by rw [q, h97] at e; exact tab37 (Option.some.inj e).symm
  have nfr : o.cls ≠ fcls := by rw [hcl]; exact ty_ne "list"
  have sub : ∀ c o', PH s.heap c = some o' → PJ s.heap a o c = some o' := fun c o' h => by
    have hd := (PH_is h).1
    unfold PJ
    rw [if_neg]
    · by_cases hca : c = a
      · subst hca
        rw [if_pos rfl]
        have := (PH_is h).2
        rw [e] at this; exact this
      · rw [if_neg hca]; exact h
    · rintro (q | q)
      · rw [q] at hd; exact absurd hd (by decide)
      · rw [q] at hd; exact absurd hd (by decide)
  have hz : Fz (PJ s.heap a o) s.heap := fun c o' h => by
    unfold PJ at h
    split at h
    · cases h
    · split at h
      · rename_i _ q
        subst q; cases h
        exact ⟨e, nfr⟩
      · exact PH_fz K C _ _ h
  have SJ := (lawSta K C).mono sub
  have p37 : PJ s.heap a o 37 = none := if_pos (.inl rfl)
  have p97 : PJ s.heap a o 97 = none := if_pos (.inr rfl)
  have hl : LP (PJ s.heap a o) a svs := ⟨o, n, by unfold PJ; rw [if_neg (fun q => q.elim a37 a97), if_pos rfl], hcl, hd⟩
  have hsl := intsLen hi
  refine Con.use ?_ (c_law (prog := prog) (w := w) (A := callerA) (s := s) (P := PJ s.heap a o) hz SJ ((lawSta2 K C).mono sub) ⟨(lawFn K C).mono sub, p97, h97⟩ (by decide) rfl (by decide) ⟨p37, [], h37, .inl rfl⟩ rfl hl hi (by omega) (plain ns))
  rintro v h' tk P' ex ⟨rfl, ⟨p, q37⟩, q, q97⟩
  have code : ∀ {c T : Addr}, CodeHdP (PJ s.heap a o) c T → isCodeTable s.heap T := fun {c T} x => by
    obtain ⟨oc, vs, _, _, _, _, _, _, _, e1, e2, e3, e4, _⟩ := x
    exact ⟨c, oc, vs, (hz _ _ e1).1, e2, e3, e4⟩
  refine hQ _ _ ⟨fun b ob hb => ?_, fun b ob hb => ?_⟩
  · by_cases b37 : b = 37
    · subst b37
      rw [h37] at hb; cases hb
      exact .inr (.inl ⟨code SJ.cd.1, rfl, #[], p, rfl, by rw [q37]; simp [tabObj]⟩)
    · by_cases b97 : b = 97
      · subst b97
        rw [h97] at hb; cases hb
        exact .inr (.inl ⟨code SJ.cd.2, rfl, #[], q, rfl, by rw [q97]; simp [tabObj]⟩)
      · have hx : b ∉ [37, 97] := by simp [b37, b97]
        by_cases hf : ob.cls = fcls
        · exact .inl (ex.frk b ob hb hf hx)
        · exact .inl (ex.keep b ob hb hx hf)
  · by_cases b37 : b = 37
    · subst b37; exact ⟨_, q37⟩
    · by_cases b97 : b = 97
      · subst b97; exact ⟨_, q97⟩
      · have hx : b ∉ [37, 97] := by simp [b37, b97]
        by_cases hf : ob.cls = fcls
        · exact ⟨_, ex.frk b ob hb hf hx⟩
        · exact ⟨_, ex.keep b ob hb hx hf⟩
end
end Mine
end

/-! text Fin -/
open PySem PySem.W PyProof.Rows
set_option pp.deepTerms false
set_option pp.maxSteps 3000
namespace Mine
/-- the text's top without the statements that leave nothing behind -/
noncomputable def lawQ : Program := view PySem.Challenge.rw_oc0067_01.row.prog [1, 3, 4, 6, 7, 9, 11, 12, 13, 14, 15, 16, 17, 18]
noncomputable def lawX (s : Shared) : Bool := xlAt lawQ [] s && recOk (RowW.records PySem.Challenge.rw_oc0067_01.row.toRowW) s
set_option maxRecDepth 100000 in
theorem lawSaid : PySem.Challenge.rw_oc0067_01.wellSaid = true := by kernel_rfl
set_option maxRecDepth 100000 in
theorem lawLeft : LeftO PySem.Challenge.rw_oc0067_01.row.prog lawQ ["_initial_missing", "reduce"] lawX (Hook.obs lawHook) (Hook.val lawHook) 1068 := fun w => by kernel_rfl
end Mine
set_option maxRecDepth 100000 in
set_option maxHeartbeats 8000000 in
theorem PySem.Challenge.cw_oc0067_01_holds : PySem.Challenge.rw_oc0067_01.Holds := by
  w_on
  refine holds_law Mine.lawSaid fun said => ?_
  refine holds_open (q := Mine.lawQ) (loose := ["_initial_missing", "reduce"]) (Xt := Mine.lawX) (XP := XL Mine.lawQ []) (Yf := Hook.obs Mine.lawHook) (Ya := Hook.val Mine.lawHook) (YP := Hook.says Mine.lawHook) (N := 1068)
    Mine.lawLeft (Hook.of Mine.lawHook) (Hook.keeps Mine.lawHook) (fun s e => xl_of s (Bool.and_eq_true_iff.mp e).1) XL.keeps (by rfl) (by rfl) (by rfl) (fun s e => recFacts_of (Bool.and_eq_true_iff.mp e).2) (by rfl) said (by decide +kernel) ⟨rfl, rfl, rfl, rfl, rfl, by decide +kernel⟩ ?hw ?hc
  (case hw => w_witness2)
  intro w s₀ s₁ mg mb G Y fa o pm cd doc dV kV ho hd hcd hD hmg hg args vals as hpre hlay hrd hwl hlo
  refine Ground.open G ?_
  intro T B D TE TW
  wrow_args hpre hlay hrd hwl hlo
  all_goals (try all_lens)
  obtain rfl := Mine.lawIs (And.right Y) T.g hmg
  clear hd hcd hmg G T B D TE TW
  refine Mine.join Y (by assumption) (by assumption) (by omega) ?jend
  intro h' tk hK
  exact ⟨.inl ⟨_, _, [], rfl, fun _ => rfl, ReadsW.bool true, (by first | rfl | wrow_post), fun _ => ⟨List.nodup_nil, fun _ hm => (nomatch hm)⟩⟩, hK, rfl, by rw [hg]; exact AllBare.empty⟩
