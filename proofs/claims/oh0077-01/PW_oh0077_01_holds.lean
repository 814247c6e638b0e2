import PyProof.Rows.All
import Wide.All
import OpenK.AllK
import Wide.FinOn
import Lean
import PySem.Challenge.RW_oh0077_01
set_option maxRecDepth 100000
set_option Elab.async false
set_option maxHeartbeats 0
set_option compiler.extract_closed false
open PySem PySem.W PySem.Calls PyProof.Rows
namespace Mine
/-! HD -/
section
/-! the written part of the heap alone (hd.heap_1), without the head -/
local macro_rules | `(tactic| o_head $_) => `(tactic| assumption)
theorem hd (h : PySem.Challenge.rw_oh0077_01.row.Holds) : PySem.Challenge.rw_oh0077_01.row.Holds := by
  k_head
end
/-! MB -/
noncomputable abbrev PR : Program := PySem.Challenge.rw_oh0077_01.row.prog

/-! ### cells: what is known of an object; never of its slots -/
inductive Cell where
  | ns (m : List (Str × Value))
  | list (l : List Value)
  | tup (l : List Value)
  | sd (l : List (Str × Value))
  | inst (C d : Addr)
  | barr (b : Array UInt8)
  | fld (T : String) (vs : Array Value)
  | cel (v : Option Value)
  | itr (T : String) (vs : Array Value)
  | obj (o : Obj)

noncomputable def EntryOk (P : Params) (e : DictEntry) (p : Str × Value) : Prop := (∃ t, e.key = .str p.1 t) ∧ e.hash = PyData.keyHash P p.1 ∧ e.val = p.2

inductive EntriesOk (P : Params) : List DictEntry → List (Str × Value) → Prop where
  | nil : EntriesOk P [] []
  | cons {e p es l} : EntryOk P e p → EntriesOk P es l → EntriesOk P (e :: es) (p :: l)

noncomputable def Keys (l : List (Str × Value)) : List Str := l.map (·.1)

noncomputable def Cell.ok (P : Params) : Cell → Obj → Prop
  | .ns m, o => ∃ es ep, o.data = .dict es ep ∧ StrKeys es ∧ (∀ p ∈ m, nsFind es p.1 = some p.2) ∧ (Keys m).Nodup
  | .list l, o => ∃ n, o = { cls := .type "list", data := .seq l.toArray n }
  | .tup l, o => ∃ n, o = { cls := .type "tuple", data := .seq l.toArray n }
  | .sd l, o => ∃ (es : List DictEntry) (ep : Nat) (l' : List (Str × Value)), o = { cls := .type "dict", data := .dict es.toArray ep } ∧ EntriesOk P es l' ∧ l'.Perm l ∧ (Keys l).Nodup ∧ l.length ≤ 1000
  | .inst C d, o => o = { cls := .ref C, dict := some d }
  | .barr b, o => o = { cls := .type "bytearray", data := .bytearray b 0 }
  | .fld T vs, o => o = { cls := .type T, data := .fields vs }
  | .cel v, o => o.data = .cell v
  | .itr T vs, o => o.cls = .type T ∧ o.data = .fields vs
  | .obj o', o => o = o' ∧ o'.isFreed = false
noncomputable def Cell.isNs : Cell → Bool
  | .ns _ => true
  | _ => false

theorem Cell.not_freed {P : Params} {c : Cell} {o : Obj} (h : c.ok P o) : o.isFreed = false := by
  cases c with
  | ns => obtain ⟨cl, d, dt, sl⟩ := o; obtain ⟨_, _, h, _⟩ := h; dsimp only at h; subst h; rfl
  | list => obtain ⟨_, rfl⟩ := h; rfl
  | tup => obtain ⟨_, rfl⟩ := h; rfl
  | sd => obtain ⟨_, _, _, rfl, _⟩ := h; rfl
  | inst => have h : o = _ := h; subst h; rfl
  | barr => have h : o = _ := h; subst h; rfl
  | fld => have h : o = _ := h; subst h; rfl
  | cel => obtain ⟨cl, d, dt, sl⟩ := o; have h : dt = _ := h; subst h; rfl
  | itr => obtain ⟨cl, d, dt, sl⟩ := o; obtain ⟨_, h⟩ := h; dsimp only at h; subst h; rfl
  | obj => obtain ⟨rfl, h⟩ := h; exact h

noncomputable abbrev Led := List (Addr × Cell)

/-- what stands at the law's start -/
structure Base (w : World) (s₁ : Shared) : Prop where
  K : (hd.heap_1 w.params).In s₁.heap
  glob : ∃ mg, s₁.heap.Ns mainGlobals mg
  bi : ∃ mb, s₁.heap.Ns builtinsNs mb ∧ ∀ x : Str, x ≠ "__name__" → mb x = bootBuiltins x
  lim : s₁.heap.NoLimit
  tab : ∃ ps, s₁.heap.IsCode 757 753 ps ∧ s₁.heap.TableAt 757 753 ps
  bmod : ∃ mg bm ob, BMod s₁.heap mainGlobals mg bm ob

noncomputable def isDictData : Data → Bool
  | .dict .. => true
  | _ => false
noncomputable def Alive (h : Heap) (f : Addr) : Prop := ∃ o, h.get? f = some o ∧ isDictData o.data = true

/-- a mark that is free to choose: whether the table of join and the generators may grow -/
noncomputable def Hole (s₁ : Shared) : Prop := s₁.toks ≠ 0
noncomputable def GensOk (s₁ s : Shared) : Prop := ∃ l : List GenState, s.gens.toList = s₁.gens.toList ++ l ∧ (∀ g ∈ l, g.bare = true) ∧ (¬ Hole s₁ → l = [])
structure St (w : World) (s₁ : Shared) (F : List Addr) (led : Led) (s : Shared) : Prop where
  old : ∀ b o, (b ≠ 753 ∨ ¬ Hole s₁) → s₁.heap.get? b = some o → s.heap.get? b = some o
  tab : ∃ ps, s.heap.IsCode 757 753 ps ∧ s.heap.TableAt 757 753 ps
  os : (s.os, s.drawn) = (s₁.os, s₁.drawn)
  gens : GensOk s₁ s
  size : s₁.heap.objs.size ≤ s.heap.objs.size
  at_ : ∀ p ∈ led, ∃ o, s.heap.get? p.1 = some o ∧ p.2.ok w.params o
  nd : (List.map (fun p : Addr × Cell => p.1) led).Nodup
  lo : ∀ p : Addr × Cell, p ∈ led → s₁.heap.objs.size ≤ p.1
  frs : ∀ f ∈ F, s₁.heap.objs.size ≤ f ∧ Alive s.heap f
  fns : ∀ p : Addr × Cell, p ∈ led → p.1 ∈ F → p.2.isNs = true

/-- an entry changed in place -/
inductive Upd : Led → Addr → Cell → Cell → Led → Prop where
  | here {a c c' r} : Upd ((a, c) :: r) a c c' ((a, c') :: r)
  | there {p r a c c' r'} : Upd r a c c' r' → Upd (p :: r) a c c' (p :: r')
/-- an entry taken out -/
inductive Pull : Led → Addr → Cell → Led → Prop where
  | here {a c r} : Pull ((a, c) :: r) a c r
  | there {p r a c r'} : Pull r a c r' → Pull (p :: r) a c (p :: r')

theorem Upd.mem {l a c c' l'} (u : Upd l a c c' l') : (a, c) ∈ l := by
  induction u with
  | here => exact .head _
  | there _ ih => exact .tail _ ih
theorem Upd.keys {l a c c' l'} (u : Upd l a c c' l') : l'.map (·.1) = l.map (·.1) := by
  induction u with
  | here => rfl
  | there _ ih => simp only [List.map_cons, ih]
theorem Upd.cases {l a c c' l'} (u : Upd l a c c' l') (nd : (l.map (·.1)).Nodup) : ∀ p ∈ l', p = (a, c') ∨ (p ∈ l ∧ p.1 ≠ a) := by
  induction u with
  | here =>
    intro p hp
    rw [List.map_cons, List.nodup_cons] at nd
    rcases List.mem_cons.mp hp with rfl | hp
    · exact .inl rfl
    · exact .inr ⟨.tail _ hp, fun e => nd.1 (by have := List.mem_map_of_mem (f := fun p : Addr × Cell => p.1) hp; rw [e] at this; exact this)⟩
  | @there q r a c c' r' u ih =>
    intro p hp
    rw [List.map_cons, List.nodup_cons] at nd
    rcases List.mem_cons.mp hp with rfl | hp
    · exact .inr ⟨.head _, fun e => nd.1 (e ▸ List.mem_map_of_mem u.mem)⟩
    · rcases ih nd.2 p hp with h | h
      · exact .inl h
      · exact .inr ⟨.tail _ h.1, h.2⟩
theorem Pull.perm {l a c r} (u : Pull l a c r) : l.Perm ((a, c) :: r) := by
  induction u with
  | here => exact .refl _
  | there _ ih => exact (ih.cons _).trans (.swap ..)

section
variable {w : World} {s₁ s : Shared} {F : List Addr} {led led' : Led}

theorem Base.lt (B : Base w s₁) {a : Addr} {o : Obj} (e : s₁.heap.get? a = some o) : a < s₁.heap.objs.size := Heap.lt_size e
theorem St.K (S : St w s₁ F led s) (B : Base w s₁) : (hd.heap_1 w.params).In s.heap := fun a o e => by
  refine S.old a o (.inl ?_) (B.K a o e)
  rintro rfl
  have : (hd.heap_1 w.params).lookup 753 = none := by kernel_rfl
  rw [this] at e; cases e
theorem St.ns (S : St w s₁ F led s) {a : Addr} {m : Str → Option Value} (n : s₁.heap.Ns a m) (ha : a ≠ 753) : s.heap.Ns a m :=
  let ⟨o, es, ep, e, r⟩ := n; ⟨o, es, ep, S.old a o (.inl ha) e, r⟩
theorem St.lim (S : St w s₁ F led s) (B : Base w s₁) : s.heap.NoLimit :=
  let ⟨mc, n, e⟩ := B.lim; ⟨mc, S.ns n (by decide), e⟩
theorem St.get (S : St w s₁ F led s) {a : Addr} {c : Cell} (hm : (a, c) ∈ led) : ∃ o, s.heap.get? a = some o ∧ c.ok w.params o := S.at_ _ hm

theorem St.perm (S : St w s₁ F led s) (hp : led.Perm led') : St w s₁ F led' s :=
  ⟨S.old, S.tab, S.os, S.gens, S.size, fun p h => S.at_ p (hp.mem_iff.mpr h), (hp.map _).nodup_iff.mp S.nd, fun p h => S.lo p (hp.mem_iff.mpr h), S.frs, fun p h => S.fns p (hp.mem_iff.mpr h)⟩
theorem St.pull (S : St w s₁ F led s) {a : Addr} {c : Cell} (u : Pull led a c led') : St w s₁ F ((a, c) :: led') s := S.perm u.perm
theorem St.tail {p : Addr × Cell} (S : St w s₁ F (p :: led) s) : St w s₁ F led s :=
  ⟨S.old, S.tab, S.os, S.gens, S.size, fun q h => S.at_ q (.tail _ h), (List.nodup_cons.mp S.nd).2, fun q h => S.lo q (.tail _ h), S.frs, fun q h => S.fns q (.tail _ h)⟩
theorem St.drop (S : St w s₁ F led s) {a : Addr} {c : Cell} (u : Pull led a c led') : St w s₁ F led' s := (S.pull u).tail

/-- what stands later may be taken for a start -/
theorem St.base (S : St w s₁ F led s) (B : Base w s₁) (t : Nat) : Base w { s with toks := t } := by
  obtain ⟨mg, hg⟩ := B.glob
  obtain ⟨mb, hb, hb'⟩ := B.bi
  obtain ⟨m, bm, ob, M⟩ := B.bmod
  refine ⟨S.K B, ⟨mg, S.ns hg (by decide)⟩, ⟨mb, S.ns hb (by decide), hb'⟩, S.lim B, S.tab, m, bm, ob, ⟨S.ns M.ns (by decide), M.name, M.ne, S.old _ _ (.inl ?_) M.obj, M.cls, M.dict, M.data⟩⟩
  rintro rfl
  obtain ⟨ps, _, _, e⟩ := B.tab
  have := M.obj
  rw [e] at this
  cases this
  have h2 := M.data
  cases h2

/-- only heap, gens and os matter -/
theorem St.of_eq (S : St w s₁ F led s) {s' : Shared} (h1 : s'.heap = s.heap) (h2 : s'.gens = s.gens) (h3 : (s'.os, s'.drawn) = (s.os, s.drawn)) : St w s₁ F led s' := by
  obtain ⟨h, g, d, t, o⟩ := s'
  dsimp only at h1 h2 h3
  subst h1 h2
  cases h3
  exact ⟨S.old, S.tab, S.os, S.gens, S.size, S.at_, S.nd, S.lo, S.frs, S.fns⟩
theorem St.toks (S : St w s₁ F led s) (t : Nat) : St w s₁ F led { s with toks := t } := S.of_eq rfl rfl rfl

theorem isCode_keeps {h h' : Heap} {c P : Addr} {ps : Array Value} (x : h.IsCode c P ps) (k : ∀ b, b = c ∨ b = P → ∀ o, h.get? b = some o → h'.get? b = some o) : h'.IsCode c P ps := by
  obtain ⟨o', vs', file, tf, flags, tg, inF, text, tt, op, f1, f2, f3, f4, f5, f6, f7, f8, f9, f10, f11⟩ := x
  exact ⟨o', vs', file, tf, flags, tg, inF, text, tt, op, k _ (.inl rfl) _ f1, f2, f3, f4, f5, f6, f7, k _ (.inr rfl) _ f8, f9, f10, f11⟩
theorem tableAt_keeps {h h' : Heap} {c P : Addr} {ps : Array Value} (x : h.TableAt c P ps) (k : ∀ b, b = c ∨ b = P → ∀ o, h.get? b = some o → h'.get? b = some o) : h'.TableAt c P ps := by
  obtain ⟨⟨o, vs, e1, r⟩, e2⟩ := x
  exact ⟨⟨o, vs, k _ (.inl rfl) _ e1, r⟩, k _ (.inr rfl) _ e2⟩

theorem Base.lts (B : Base w s₁) {b : Addr} (h : b = 757 ∨ b = 753) : b < s₁.heap.objs.size := by
  obtain ⟨ps, _, ⟨o, vs, e1, _⟩, e2⟩ := B.tab
  rcases h with rfl | rfl
  · exact Heap.lt_size e1
  · exact Heap.lt_size e2

/-- a heap that keeps all, and may have more -/
theorem St.ext (S : St w s₁ F led s) {s' : Shared} (k : ∀ b o, s.heap.get? b = some o → s'.heap.get? b = some o) (hsz : s.heap.objs.size ≤ s'.heap.objs.size) (h2 : GensOk s₁ s') (h3 : (s'.os, s'.drawn) = (s.os, s.drawn)) : St w s₁ F led s' where
  old := fun b o hb e => k _ _ (S.old b o hb e)
  tab := let ⟨ps, a, b⟩ := S.tab; ⟨ps, isCode_keeps a fun b _ o e => k b o e, tableAt_keeps b fun b _ o e => k b o e⟩
  os := h3.trans S.os
  gens := h2
  size := Nat.le_trans S.size hsz
  at_ := fun p hp => let ⟨o, e, r⟩ := S.at_ p hp; ⟨o, k _ _ e, r⟩
  nd := S.nd
  lo := S.lo
  frs := fun f hf => let ⟨a, o, e, r⟩ := S.frs f hf; ⟨a, o, k _ _ e, r⟩
  fns := S.fns

/-- one more -/
theorem St.push (S : St w s₁ F led s) {a : Addr} {o : Obj} {c : Cell} (ha : s.heap.get? a = some o) (hc : c.ok w.params o) (hlo : s₁.heap.objs.size ≤ a) (hn : ∀ p ∈ led, p.1 ≠ a) (hF : a ∈ F → c.isNs = true) : St w s₁ F ((a, c) :: led) s where
  old := S.old
  tab := S.tab
  os := S.os
  gens := S.gens
  size := S.size
  at_ := fun p hp => by
    rcases List.mem_cons.mp hp with rfl | hp
    · exact ⟨o, ha, hc⟩
    · exact S.at_ p hp
  nd := List.nodup_cons.mpr ⟨fun h => by obtain ⟨p, hp, e⟩ := List.mem_map.mp h; exact hn p hp e, S.nd⟩
  lo := fun p hp => by
    rcases List.mem_cons.mp hp with rfl | hp
    · exact hlo
    · exact S.lo p hp
  frs := S.frs
  fns := fun p hp => by
    rcases List.mem_cons.mp hp with rfl | hp
    · exact hF
    · exact S.fns p hp

theorem St.alloc (S : St w s₁ F led s) {o : Obj} {c : Cell} (hc : c.ok w.params o) : St w s₁ F ((s.heap.objs.size, c) :: led) { s with heap := s.heap.push o } := by
  have S' : St w s₁ F led { s with heap := s.heap.push o } := S.ext (fun b o' e => Heap.get?_push_of_some _ e) (by rw [Heap.size_push]; exact Nat.le_succ _) S.gens rfl
  refine S'.push (o := o) (Heap.get?_push_size _ (Cell.not_freed hc)) hc S.size (fun p hp => ?_) fun hF => ?_
  · obtain ⟨o', e, _⟩ := S.at_ p hp
    exact Nat.ne_of_lt (Heap.lt_size e)
  · obtain ⟨_, o', e, _⟩ := S.frs _ hF
    exact absurd (Heap.lt_size e) (Nat.lt_irrefl _)
theorem St.alloc' (S : St w s₁ F led s) {o : Obj} : St w s₁ F led { s with heap := s.heap.push o } :=
  S.ext (fun b o' e => Heap.get?_push_of_some _ e) (by rw [Heap.size_push]; exact Nat.le_succ _) S.gens rfl

/-- one entry's object is another now, all else kept -/
theorem St.change (S : St w s₁ F led s) (B : Base w s₁) {a : Addr} {c c' : Cell} (u : Upd led a c c' led') {s' : Shared} (k : Heap.ExtBut a s.heap s'.heap) (hsz : s.heap.objs.size ≤ s'.heap.objs.size) {o' : Obj} (ho : s'.heap.get? a = some o') (hc : c'.ok w.params o')
    (hd : ∀ o, s.heap.get? a = some o → isDictData o.data = true → isDictData o'.data = true) (h2 : GensOk s₁ s') (h3 : (s'.os, s'.drawn) = (s.os, s.drawn)) (hns : c.isNs = true → c'.isNs = true) : St w s₁ F led' s' := by
  have hlo := S.lo _ u.mem
  have nea : ∀ b, b < s₁.heap.objs.size → b ≠ a := fun b hb e => by
    subst e; exact absurd hlo (Nat.not_le.mpr hb)
  refine ⟨fun b o hb e => k _ _ (nea b (Heap.lt_size e)) (S.old b o hb e), ?_, h3.trans S.os, h2, Nat.le_trans S.size hsz, fun p hp => ?_, by rw [u.keys]; exact S.nd, fun p hp => ?_, fun f hf => ?_, fun p hp hf => ?_⟩
  · obtain ⟨ps, x, y⟩ := S.tab
    exact ⟨ps, isCode_keeps x fun b hb o e => k b o (nea b (B.lts hb)) e, tableAt_keeps y fun b hb o e => k b o (nea b (B.lts hb)) e⟩
  · rcases u.cases S.nd p hp with rfl | ⟨h, hne⟩
    · exact ⟨o', ho, hc⟩
    · obtain ⟨o, e, r⟩ := S.at_ p h
      exact ⟨o, k _ _ hne e, r⟩
  · rcases u.cases S.nd p hp with rfl | ⟨h, _⟩
    · exact hlo
    · exact S.lo p h
  · obtain ⟨x, o, e, r⟩ := S.frs f hf
    refine ⟨x, ?_⟩
    by_cases hfa : f = a
    · subst hfa; exact ⟨o', ho, hd o e r⟩
    · exact ⟨o, k _ _ hfa e, r⟩
  · rcases u.cases S.nd p hp with rfl | ⟨h, _⟩
    · exact hns (S.fns (a, c) u.mem hf)
    · exact S.fns p h hf
theorem St.same (S : St w s₁ F led s) (B : Base w s₁) {a : Addr} {c c' : Cell} (u : Upd led a c c' led') {h' : Heap} (k : Heap.SameBut a s.heap h') {o' : Obj} (ho : h'.get? a = some o') (hc : c'.ok w.params o')
    (hd : ∀ o, s.heap.get? a = some o → isDictData o.data = true → isDictData o'.data = true) (t : Nat) (hns : c.isNs = true → c'.isNs = true := by exact fun h => h) : St w s₁ F led' { s with heap := h', toks := t } :=
  S.change B u (s' := { s with heap := h', toks := t }) k.extBut (Nat.le_of_eq k.1.symm) ho hc hd S.gens rfl hns
end
/-! MR -/
noncomputable abbrev FF : Value → Shared → Prop := fun _ _ => False

/-- room for n more frames -/
structure Ar (A : Around) (fs : List Env) (n : Nat) : Prop where
  depth : A.depth + n < recursionLimit
  units : A.units + 20 * n < cLine
  hnd : A.handled = none
  frames : A.frames = some fs
theorem Ar.deeper {A : Around} {fs : List Env} {n : Nat} (h : Ar A fs (n + 1)) (env : Env) : Ar (A.deeper env) (env :: fs) n := by
  obtain ⟨a, b, c, d⟩ := h
  refine ⟨?_, ?_, c, ?_⟩
  · show A.depth + 1 + n < _; lia
  · show A.units + 3 + 20 * n < _; lia
  · show A.frames.map _ = _; rw [d]; rfl
theorem Ar.in1 {A : Around} {fs : List Env} {n : Nat} (h : Ar A fs (n + 1)) : Ar A.in1 fs n := by
  obtain ⟨a, b, c, d⟩ := h
  refine ⟨?_, ?_, c, d⟩
  · show A.depth + n < _; lia
  · show A.units + 1 + 20 * n < _; lia
theorem Ar.le {A : Around} {fs : List Env} {n k : Nat} (h : Ar A fs n) (hk : k ≤ n) : Ar A fs k := ⟨by have := h.depth; lia, by have := h.units; lia, h.hnd, h.frames⟩
theorem Ar.room {A : Around} {fs : List Env} {n : Nat} (h : Ar A fs n) : A.depth < recursionLimit := by have := h.depth; lia
theorem Ar.un {A : Around} {fs : List Env} {n : Nat} (h : Ar A fs n) : A.units < cLine := by have := h.units; lia

inductive PutR : List (Str × Value) → Str → Value → List (Str × Value) → Prop where
  | here {x u v r} : PutR ((x, u) :: r) x v ((x, v) :: r)
  | there {p r x v r'} : PutR r x v r' → PutR (p :: r) x v (p :: r')

theorem lookup_of_mem {m : List (Str × Value)} {x : Str} {v : Value} (nd : (Keys m).Nodup) (h : (x, v) ∈ m) : m.lookup x = some v := by
  induction m with
  | nil => cases h
  | cons p r ih =>
    obtain ⟨y, u⟩ := p
    rw [Keys, List.map_cons, List.nodup_cons] at nd
    rw [List.lookup_cons]
    rcases List.mem_cons.mp h with e | h'
    · cases e; simp
    · have : (x == y) = false := by
        rw [beq_eq_false_iff_ne]; rintro rfl
        exact nd.1 (List.mem_map.mpr ⟨_, h', rfl⟩)
      rw [this]; exact ih nd.2 h'
theorem PutR.keys {m x v m'} (u : PutR m x v m') : Keys m' = Keys m := by
  induction u with
  | here => rfl
  | there _ ih => simp only [Keys, List.map_cons] at *; rw [ih]
theorem PutR.mem {m x v m'} (u : PutR m x v m') : x ∈ Keys m := by
  induction u with
  | here => exact .head _
  | there _ ih => exact .tail _ ih
theorem PutR.put {m x v m'} (u : PutR m x v m') (nd : (Keys m).Nodup) {f : Str → Option Value} (hf : ∀ p ∈ m, f p.1 = some p.2) : ∀ p ∈ m', (fun y => if y = x then some v else f y) p.1 = some p.2 := by
  induction u with
  | @here x u v r =>
    rw [Keys, List.map_cons, List.nodup_cons] at nd
    intro p hp
    rcases List.mem_cons.mp hp with rfl | hp
    · simp
    · have : p.1 ≠ x := fun q => nd.1 (List.mem_map.mpr ⟨p, hp, q⟩)
      simp only [this, if_false]; exact hf p (.tail _ hp)
  | @there q r x v r' u ih =>
    rw [Keys, List.map_cons, List.nodup_cons] at nd
    intro p hp
    rcases List.mem_cons.mp hp with rfl | hp
    · have : p.1 ≠ x := fun q => nd.1 (q ▸ u.mem)
      simp only [this, if_false]; exact hf p (.head _)
    · exact ih nd.2 (fun p hp => hf p (.tail _ hp)) p hp
noncomputable def fresh (m : List (Str × Value)) (x : Str) : Bool := m.all fun p => !(x == p.1)
theorem fresh_not {m : List (Str × Value)} {x : Str} (h : fresh m x = true) : x ∉ Keys m := fun hm => by
  obtain ⟨p, hp, rfl⟩ := List.mem_map.mp hm
  have := List.all_eq_true.mp h p hp
  simp at this

section
variable {w : World} {s₁ s : Shared} {F : List Addr} {led led' : Led} {A : Around} {E : Value → Shared → Prop}

theorem Cell.ns_at (S : St w s₁ F led s) {L : Addr} {m : List (Str × Value)} (hm : (L, Cell.ns m) ∈ led) : ∃ f, s.heap.Ns L f ∧ (∀ p ∈ m, f p.1 = some p.2) ∧ (Keys m).Nodup := by
  obtain ⟨o, e, es, ep, h1, h2, h3, h4⟩ := S.at_ _ hm
  exact ⟨_, ⟨o, es, ep, e, h1, h2, fun _ => rfl⟩, h3, h4⟩

theorem ld (S : St w s₁ F led s) {M : Model} {sc : Scope} {L g : Addr} {cs : List (Str × Addr)} {q : Str} {fn : Option Addr} {cd : Value} {fr : Option Addr} {b : Addr} {x : Str} {pos : Pos} {v : Value} {m : List (Str × Value)} {Q : Value → Shared → Prop}
    (hm : (L, Cell.ns m) ∈ led) (hv : (x, v) ∈ m) (h : Q v s)
    (hk : sc.kind = .function := by rfl) (hl : Env.kindOf ⟨sc, L, g, cs, q, fn, cd, fr, b⟩ x = some .local := by kernel_rfl) (hd : (x == ("__debug__" : Str)) = false := by kernel_rfl) :
    wpAny M A (eval (.Name x pos) ⟨sc, L, g, cs, q, fn, cd, fr, b⟩) Q E s :=
  let ⟨_, hn, hf, _⟩ := Cell.ns_at S hm
  wpAny_Name (wpAny_loadName_local hk hl hn (hf _ hv) h) hd

theorem gl (B : Base w s₁) (S : St w s₁ F led s) {M : Model} {sc : Scope} {L g : Addr} {cs : List (Str × Addr)} {q : Str} {fn : Option Addr} {cd : Value} {fr : Option Addr} {b : Addr} {x : Str} {pos : Pos} {v : Value} {Q : Value → Shared → Prop}
    (e : nsIn (hd.heap_1 w.params) mainGlobals x = some (some v)) (h : Q v s)
    (hk : sc.kind = .function := by rfl) (hx : Env.kindOf ⟨sc, L, g, cs, q, fn, cd, fr, b⟩ x = some .globalImplicit := by kernel_rfl) (hg : g = mainGlobals := by rfl) (hd : (x == ("__debug__" : Str)) = false := by kernel_rfl) :
    wpAny M A (eval (.Name x pos) ⟨sc, L, g, cs, q, fn, cd, fr, b⟩) Q E s := by
  subst hg
  obtain ⟨mg, G⟩ := B.glob
  exact Calls.Name_function_global hk hx (Calls.loadGlobal_global (S.ns G (show mainGlobals ≠ 753 by decide)) (mg_of B.K G e) h) hd

theorem bl (B : Base w s₁) (S : St w s₁ F led s) {M : Model} {sc : Scope} {L g : Addr} {cs : List (Str × Addr)} {q : Str} {fn : Option Addr} {cd : Value} {fr : Option Addr} {b : Addr} {x : Str} {pos : Pos} {v : Value} {Q : Value → Shared → Prop}
    (e : nsIn (hd.heap_1 w.params) mainGlobals x = some none) (hv : bootBuiltins x = some v) (h : Q v s)
    (hk : sc.kind = .function := by rfl) (hx : Env.kindOf ⟨sc, L, g, cs, q, fn, cd, fr, b⟩ x = some .globalImplicit := by kernel_rfl) (hg : g = mainGlobals := by rfl) (hb : b = builtinsNs := by rfl) (hd : (x == ("__debug__" : Str)) = false := by kernel_rfl) (hn : (x == ("__name__" : Str)) = false := by kernel_rfl) :
    wpAny M A (eval (.Name x pos) ⟨sc, L, g, cs, q, fn, cd, fr, b⟩) Q E s := by
  subst hg hb
  obtain ⟨mg, G⟩ := B.glob
  obtain ⟨mb, Bn, hbi⟩ := B.bi
  exact Calls.Name_function_global hk hx (Calls.loadGlobal_builtin (S.ns G (show mainGlobals ≠ 753 by decide)) (mg_none_of B.K G e) (S.ns Bn (show builtinsNs ≠ 753 by decide)) ((hbi x (beq_eq_false_iff_ne.mp hn)).trans hv) h) hd

theorem Cell.ns_ok {P : Params} {h : Heap} {L : Addr} {m : List (Str × Value)} {f : Str → Option Value} (hn : h.Ns L f) (hf : ∀ p ∈ m, f p.1 = some p.2) (nd : (Keys m).Nodup) : ∃ o, h.get? L = some o ∧ Cell.ok P (.ns m) o ∧ isDictData o.data = true := by
  obtain ⟨o, es, ep, e, h1, h2, h3⟩ := hn
  exact ⟨o, e, ⟨es, ep, h1, h2, fun p hp => by rw [h3 p.1]; exact hf p hp, nd⟩, by rw [h1]; rfl⟩

theorem st_old (B : Base w s₁) (S : St w s₁ F led s) {M : Model} {sc : Scope} {L g : Addr} {cs : List (Str × Addr)} {q : Str} {fn : Option Addr} {cd : Value} {fr : Option Addr} {b : Addr} {x : Str} {v : Value} {m m' : List (Str × Value)} {Q : Unit → Shared → Prop}
    (hm : Upd led L (Cell.ns m) (Cell.ns m') led') (hp : PutR m x v m') (h : ∀ s', St w s₁ F led' s' → Q () s')
    (hk : sc.kind = .function := by rfl) (hl : Env.kindOf ⟨sc, L, g, cs, q, fn, cd, fr, b⟩ x = some .local := by kernel_rfl) :
    wpAny M A (storeName ⟨sc, L, g, cs, q, fn, cd, fr, b⟩ x v) Q E s := by
  obtain ⟨f, hn, hf', nd⟩ := Cell.ns_at S hm.mem
  refine wpAny_storeName_local hl hn (fun h' hn' hs => ?_) (by show (sc.kind == .class || (sc.kind == .module && L != g)) = false; rw [hk]; rfl)
  obtain ⟨o, e, hc, hd⟩ := Cell.ns_ok (P := w.params) hn' (hp.put nd hf') (by rw [hp.keys]; exact nd)
  exact h _ (S.same B hm hs e hc (fun _ _ _ => hd) _)

theorem st_new (B : Base w s₁) (S : St w s₁ F led s) {M : Model} {sc : Scope} {L g : Addr} {cs : List (Str × Addr)} {q : Str} {fn : Option Addr} {cd : Value} {fr : Option Addr} {b : Addr} {x : Str} {v : Value} {m : List (Str × Value)} {Q : Unit → Shared → Prop}
    (hm : Upd led L (Cell.ns m) (Cell.ns ((x, v) :: m)) led') (h : ∀ s', St w s₁ F led' s' → Q () s')
    (hf : fresh m x = true := by kernel_rfl)
    (hk : sc.kind = .function := by rfl) (hl : Env.kindOf ⟨sc, L, g, cs, q, fn, cd, fr, b⟩ x = some .local := by kernel_rfl) :
    wpAny M A (storeName ⟨sc, L, g, cs, q, fn, cd, fr, b⟩ x v) Q E s := by
  obtain ⟨f, hn, hf', nd⟩ := Cell.ns_at S hm.mem
  refine wpAny_storeName_local hl hn (fun h' hn' hs => ?_) (by show (sc.kind == .class || (sc.kind == .module && L != g)) = false; rw [hk]; rfl)
  obtain ⟨o, e, hc, hd⟩ := Cell.ns_ok (P := w.params) (m := (x, v) :: m) hn' (fun p hp => by
      rcases List.mem_cons.mp hp with rfl | hp
      · simp
      · have : p.1 ≠ x := fun q => fresh_not hf (q ▸ List.mem_map_of_mem (f := fun p : Str × Value => p.1) hp)
        simp only [this, if_false]; exact hf' p hp) (List.nodup_cons.mpr ⟨fresh_not hf, nd⟩)
  exact h _ (S.same B hm hs e hc (fun _ _ _ => hd) _)

/-! ### statements -/
variable {M : Model} {env : Env}

noncomputable def Kseq (M : Model) (A : Around) (rest : List Stmt) (env : Env) (Q : Flow → Shared → Prop) (E : Value → Shared → Prop) : Flow → Shared → Prop := fun f s => match f with
  | .next => wpAny M A (execs rest env) Q E s
  | f => Q f s
theorem kseq_next {rest : List Stmt} {Q : Flow → Shared → Prop} (h : wpAny M A (execs rest env) Q E s) : Kseq M A rest env Q E .next s := h
theorem kseq_ret {rest : List Stmt} {Q : Flow → Shared → Prop} {v : Value} (h : Q (.ret v) s) : Kseq M A rest env Q E (.ret v) s := h
theorem kseq_brk {rest : List Stmt} {Q : Flow → Shared → Prop} (h : Q .brk s) : Kseq M A rest env Q E .brk s := h
theorem kseq_cont {rest : List Stmt} {Q : Flow → Shared → Prop} (h : Q .cont s) : Kseq M A rest env Q E .cont s := h

noncomputable def Kret (Q : Value → Shared → Prop) : Flow → Shared → Prop := fun f s => Q (match f with | .ret v => v | _ => .none) s
theorem kret_ret {Q : Value → Shared → Prop} {v : Value} (h : Q v s) : Kret Q (.ret v) s := h
theorem kret_next {Q : Value → Shared → Prop} (h : Q .none s) : Kret Q .next s := h

theorem x_cons {st : Stmt} {rest : List Stmt} {Q : Flow → Shared → Prop} (h : wpAny M A (exec st env) (Kseq M A rest env Q E) E s) : wpAny M A (execs (st :: rest) env) Q E s :=
  wpAny_execs_cons (wpAny_mono h (fun f s' x => by cases f <;> exact x) fun _ _ x => x)
theorem x_nil {Q : Flow → Shared → Prop} (h : Q .next s) : wpAny M A (execs [] env) Q E s := wpAny_execs_nil h
theorem x_if {test : Expr} {body orelse : List Stmt} {pos : Pos} {Q : Flow → Shared → Prop}
    (h : wpAny M A (isTrue test env (eval test env)) (fun b s₂ => (b = true → wpAny M A (execs body env) Q E s₂) ∧ (b = false → wpAny M A (execs orelse env) Q E s₂)) E s) : wpAny M A (exec (.If test body orelse pos) env) Q E s :=
  wpAny_If (wpAny_mono h (fun b s' x => by cases b with | true => exact x.1 rfl | false => exact x.2 rfl) fun _ _ x => x)
/-- a decided test -/
theorem b_true {P1 P2 : Prop} (h : P1) : (true = true → P1) ∧ (true = false → P2) := ⟨fun _ => h, nofun⟩
theorem b_false {P1 P2 : Prop} (h : P2) : (false = true → P1) ∧ (false = false → P2) := ⟨nofun, fun _ => h⟩
end
/-! MC -/
inductive SubL : List (Str × Value) → List (Str × Value) → Prop where
  | nil {m} : SubL [] m
  | cons {p r m} : p ∈ m → SubL r m → SubL (p :: r) m
section
variable {w : World} {s₁ s : Shared} {F : List Addr} {led led' : Led} {A : Around} {E : Value → Shared → Prop}

theorem list_at (S : St w s₁ F led s) {a : Addr} {l : List Value} (hm : (a, Cell.list l) ∈ led) : ∃ n, s.heap.get? a = some { cls := .type "list", data := .seq l.toArray n } := by
  obtain ⟨o, e, n, rfl⟩ := S.at_ _ hm
  exact ⟨n, e⟩
theorem tup_at (S : St w s₁ F led s) {a : Addr} {l : List Value} (hm : (a, Cell.tup l) ∈ led) : ∃ n, s.heap.get? a = some { cls := .type "tuple", data := .seq l.toArray n } := by
  obtain ⟨o, e, n, rfl⟩ := S.at_ _ hm
  exact ⟨n, e⟩
theorem isList_at (S : St w s₁ F led s) {a : Addr} {l : List Value} (hm : (a, Cell.list l) ∈ led) : s.heap.IsList a l.toArray :=
  let ⟨n, e⟩ := list_at S hm; ⟨_, e, rfl, n, rfl⟩
theorem St.list (S : St w s₁ F led s) (B : Base w s₁) {a : Addr} {l l' : List Value} (u : Upd led a (Cell.list l) (Cell.list l') led') {h' : Heap} {n : Nat} (k : Heap.SameBut a s.heap h') (ho : h'.get? a = some { cls := .type "list", data := .seq l'.toArray n }) (t : Nat) : St w s₁ F led' { s with heap := h', toks := t } :=
  S.same B u k ho ⟨n, rfl⟩ (fun o e hd => by obtain ⟨m, e'⟩ := list_at S u.mem; rw [e] at e'; cases e'; cases hd) t

/-! calls of the text's own defs -/
theorem code_fn (B : Base w s₁) (S : St w s₁ F led s) {f : Addr} {o : Obj} {fd : FuncData} {body : List Stmt} {pos : List Value} {kw : List (Str × Value)} {binds : List (Str × Value)} {R : Result → Shared → Prop}
    (hf : (hd.heap_1 w.params).lookup f = some o) (hdata : o.data = .func fd) (hroom : A.depth < recursionLimit) (hbody : fd.body = .stmts body)
    (hbind : BindsTo s fd ⟨pos, kw⟩ binds)
    (h : ∀ L s', s₁.heap.objs.size ≤ L → St w s₁ (L :: F) ((L, Cell.ns binds.reverse) :: led) s' → wpAny (model PR w) (A.deeper (callEnv fd L f)) (execs body (callEnv fd L f)) (Kret fun v s'' => R (.ok (.ret v)) s'') FF s')
    (hcd : codeIn (hd.heap_1 w.params) fd.code fd.qualname = true)
    (hnd : (Keys binds.reverse).Nodup)
    (hcell : ∀ x ∈ fd.scope.names, x.2 ≠ .cell) (hloc : ∀ x ∈ binds, fd.scope.names.lookup x.1 = some .local)
    (hco : fd.scope.isCoroutine = false) (hgen : fd.scope.isGenerator = false) (hk : fd.scope.kind = .function) :
    codeAny (model PR w) A (.call (.ref f) ⟨pos, kw⟩) R s := by
  have K := S.K B
  refine codeAny_call_def hroom (K _ _ hf) hdata (S.lim B) (codeRec_of K hcd) hbody hbind hcell hloc (fun h₀ hn hk => ?_) hco hgen hk
  obtain ⟨ob, e, hc, hdd⟩ := Cell.ns_ok (P := w.params) (m := binds.reverse) hn (fun p hp => lookup_of_mem hnd hp) hnd
  have hsz : s.heap.objs.size < h₀.objs.size := Heap.lt_size e
  have S' : St w s₁ F led { s with heap := h₀, toks := s.toks + binds.length } := S.ext (s' := { s with heap := h₀, toks := s.toks + binds.length }) hk (Nat.le_of_lt hsz) S.gens rfl
  have S'' := S'.push e hc S.size (fun p hp => by obtain ⟨o', e', _⟩ := S.at_ p hp; exact Nat.ne_of_lt (Heap.lt_size e')) (fun _ => rfl)
  have S3 : St w s₁ (s.heap.objs.size :: F) ((s.heap.objs.size, Cell.ns binds.reverse) :: led) { s with heap := h₀, toks := s.toks + binds.length } :=
    ⟨S''.old, S''.tab, S''.os, S''.gens, S''.size, S''.at_, S''.nd, S''.lo, fun f hf => by
      rcases List.mem_cons.mp hf with rfl | hf
      · exact ⟨S.size, ob, e, hdd⟩
      · exact S''.frs f hf, fun p hp hf => by
      rcases List.mem_cons.mp hp with rfl | hp
      · rfl
      · rcases List.mem_cons.mp hf with e' | hf
        · obtain ⟨o', e'', _⟩ := S.at_ p hp
          exact absurd e' (Nat.ne_of_lt (Heap.lt_size e''))
        · exact S.fns p hp hf⟩
  refine wpAny_mono (h _ _ S.size S3) (fun fl s' x => ?_) (fun _ _ x => x.elim)
  exact x

theorem call_fn (B : Base w s₁) (S : St w s₁ F led s) {f : Addr} {o : Obj} {fd : FuncData} {body : List Stmt} {pos : List Value} {kw : List (Str × Value)} {binds : List (Str × Value)} {Q : Value → Shared → Prop}
    (hf : (hd.heap_1 w.params).lookup f = some o) (hdata : o.data = .func fd) (hroom : A.depth < recursionLimit) (hbody : fd.body = .stmts body)
    (hbind : BindsTo s fd ⟨pos, kw⟩ binds)
    (h : ∀ L s', s₁.heap.objs.size ≤ L → St w s₁ (L :: F) ((L, Cell.ns binds.reverse) :: led) s' → wpAny (model PR w) (A.deeper (callEnv fd L f)) (execs body (callEnv fd L f)) (Kret Q) FF s')
    (hcd : codeIn (hd.heap_1 w.params) fd.code fd.qualname = true)
    (hnd : (Keys binds.reverse).Nodup)
    (hcell : ∀ x ∈ fd.scope.names, x.2 ≠ .cell) (hloc : ∀ x ∈ binds, fd.scope.names.lookup x.1 = some .local)
    (hco : fd.scope.isCoroutine = false) (hgen : fd.scope.isGenerator = false) (hk : fd.scope.kind = .function) :
    wpAny (model PR w) A (call (.ref f) pos kw) Q E s :=
  wpAny_call (code_fn B S hf hdata hroom hbody hbind h hcd hnd hcell hloc hco hgen hk)

theorem St.unframe {L : Addr} {m : List (Str × Value)} {led : Led} (S : St w s₁ (L :: F) led s) (u : Pull led L (Cell.ns m) led') : St w s₁ F led' s :=
  let S := S.drop u
  ⟨S.old, S.tab, S.os, S.gens, S.size, S.at_, S.nd, S.lo, fun f hf => S.frs f (.tail _ hf), fun p hp hf => S.fns p hp (.tail _ hf)⟩

/-- fewer names known -/
theorem SubL.mem {m' m : List (Str × Value)} (h : SubL m' m) : ∀ p ∈ m', p ∈ m := by
  induction h with
  | nil => exact nofun
  | cons h _ ih =>
    intro p hp
    rcases List.mem_cons.mp hp with rfl | hp
    · exact h
    · exact ih p hp
theorem St.names {L : Addr} {m m' : List (Str × Value)} (S : St w s₁ F led s) (u : Upd led L (Cell.ns m) (Cell.ns m') led') (hs : SubL m' m) (nd : (Keys m').Nodup) : St w s₁ F led' s :=
  ⟨S.old, S.tab, S.os, S.gens, S.size, fun p hp => by
    rcases u.cases S.nd p hp with rfl | ⟨h, _⟩
    · obtain ⟨o, e, es, ep, h1, h2, h3, _⟩ := S.at_ _ u.mem
      exact ⟨o, e, es, ep, h1, h2, fun p hp => h3 p (hs.mem p hp), nd⟩
    · exact S.at_ p h, by rw [u.keys]; exact S.nd, fun p hp => by
    rcases u.cases S.nd p hp with rfl | ⟨h, _⟩
    · exact S.lo (L, Cell.ns m) u.mem
    · exact S.lo p h, S.frs, fun p hp hf => by
    rcases u.cases S.nd p hp with rfl | ⟨h, _⟩
    · rfl
    · exact S.fns p h hf⟩

/-! ints -/
variable {a b : Int} {t u : Tok} {Q : Value → Shared → Prop}
theorem i_const {M : Model} {env : Env} {i : Int} {k pos} (S : St w s₁ F led s) (h : ∀ t s', St w s₁ F led s' → Q (.int i t) s') : wpAny M A (eval (.Constant (.int i) k pos) env) Q E s := wpAny_Constant_int (h _ _ (S.toks _))
theorem s_const {M : Model} {env : Env} {x : Str} {k pos} (S : St w s₁ F led s) (h : ∀ t s', St w s₁ F led s' → Q (.str x t) s') : wpAny M A (eval (.Constant (.str x) k pos) env) Q E s := wpAny_Constant_str (h _ _ (S.toks _))
theorem n_const {M : Model} {env : Env} {k pos} (h : Q .none s) : wpAny M A (eval (.Constant .none k pos) env) Q E s := wpAny_Constant_none h
theorem b_const {M : Model} {env : Env} {x : Bool} {k pos} (h : Q (.bool x) s) : wpAny M A (eval (.Constant (.bool x) k pos) env) Q E s := wpAny_Constant_bool h
theorem i_add (S : St w s₁ F led s) (h : ∀ t s', St w s₁ F led s' → Q (.int (a + b) t) s') : wpAny (model PR w) A (binaryOp .Add (.int a t) (.int b u)) Q E s := add_int (h _ _ (S.toks _))
theorem i_sub (S : St w s₁ F led s) (h : ∀ t s', St w s₁ F led s' → Q (.int (a - b) t) s') : wpAny (model PR w) A (binaryOp .Sub (.int a t) (.int b u)) Q E s := sub_int (h _ _ (S.toks _))
theorem i_mul (S : St w s₁ F led s) (h : ∀ t s', St w s₁ F led s' → Q (.int (a * b) t) s') (hm : IntMulOk a b) : wpAny (model PR w) A (binaryOp .Mult (.int a t) (.int b u)) Q E s := mul_int (h _ _ (S.toks _)) hm

theorem i_shr (S : St w s₁ F led s) (hb : 0 ≤ b) (h : ∀ t s', St w s₁ F led s' → Q (.int (a.fdiv (2 ^ b.toNat)) t) s') : wpAny (model PR w) A (binaryOp .RShift (.int a t) (.int b u)) Q E s := rshift_int hb (h _ _ (S.toks _))

/-! lists -/
theorem l_get {l : Addr} {vs : List Value} {k : Int} {v : Value} {value slice : Expr} (S : St w s₁ F led s) (hm : (l, Cell.list vs) ∈ led) (h0 : 0 ≤ k) (hfit : k < 2 ^ 63) (hx : vs[k.toNat]? = some v) (h : Q v s)
    (hs : subscripted slice false (.ref l) (.int k t) = operate [.ref l, .int k t] (getItem (.ref l) (.int k t)) := by with_unfolding_all rfl) :
    wpAny (model PR w) A (subscriptTail value slice (.ref l) (.int k t)) Q E s :=
  have hl := isList_at S hm
  tail_any hl.typeIs slot_list_getitem.lookup (wpAny_getItem_list hl h0 hfit (by simpa using hx) h) hs
theorem l_set (B : Base w s₁) {l : Addr} {vs vs' : List Value} {k : Int} {v : Value} {Q : Unit → Shared → Prop} (S : St w s₁ F led s) (hm : Upd led l (Cell.list vs) (Cell.list vs') led') (h0 : 0 ≤ k) (hfit : k < 2 ^ 63) (hn : k < vs.length) (he : vs' = vs.set k.toNat v)
    (h : ∀ s', St w s₁ F led' s' → Q () s') : wpAny (model PR w) A (setItem (.ref l) (.int k t) v) Q E s := by
  obtain ⟨n, e⟩ := list_at S hm.mem
  refine ki_setAt e h0 hfit (by simpa using hn) (h _ (S.list B hm (n := n) (Heap.SameBut.update ..) ?_ s.toks))
  rw [Heap.get?_update_self _ e rfl]
  simp [Obj.mapSeq, he]
theorem l_append (B : Base w s₁) {l : Addr} {vs : List Value} {v : Value} {Q : Value → Shared → Prop} (S : St w s₁ F led s) (hm : Upd led l (Cell.list vs) (Cell.list (vs ++ [v])) led') (hz : vs.length ≤ sizeLine)
    (h : ∀ s', St w s₁ F led' s' → Q .none s') : wpAny (model PR w) A (call (.builtin "list.append") [.ref l, v]) Q E s := by
  obtain ⟨n, e⟩ := list_at S hm.mem
  refine append_at e (fun h' hs ho => h _ (S.list B hm (n := n + 1) hs (by rw [ho]; simp) s.toks)) (by simpa using hz)
theorem l_pop (B : Base w s₁) {l : Addr} {vs : List Value} {v : Value} {Q : Value → Shared → Prop} (S : St w s₁ F led s) (hm : Upd led l (Cell.list (vs ++ [v])) (Cell.list vs) led') (hz : vs.length + 1 ≤ sizeLine)
    (h : ∀ s', St w s₁ F led' s' → Q v s') : wpAny (model PR w) A (call (.builtin "list.pop") [.ref l]) Q E s := by
  obtain ⟨n, e⟩ := list_at S hm.mem
  have hk : (vs ++ [v]).toArray.size - 1 = vs.length := by simp
  have hy : (vs ++ [v]).toArray[(vs ++ [v]).toArray.size - 1]? = some v := by rw [hk]; simp
  refine call_meets PySem.F.slot_list_pop ⟨_, e, rfl⟩ PySem.F.entry_list_pop (PySem.F.args_list_pop_1 _) (PySem.MeetsSeq.list_pop_last l _ n v hy (by simpa using hz)) ⟨e, h _ (S.list B hm (n := n + 1) (Heap.SameBut.update ..) ?_ s.toks)⟩
  rw [Heap.get?_update_self _ e rfl]
  have he : (vs ++ [v]).toArray.eraseIdxIfInBounds ((vs ++ [v]).toArray.size - 1) = vs.toArray := by rw [hk, kl_erase, List.append_nil]
  show some ({ cls := .type "list", data := .seq ((vs ++ [v]).toArray.eraseIdxIfInBounds ((vs ++ [v]).toArray.size - 1)) (if ((vs ++ [v]).toArray.eraseIdxIfInBounds ((vs ++ [v]).toArray.size - 1)).size == (vs ++ [v]).toArray.size then n else n + 1) } : Obj) = _
  rw [he]
  simp
end
/-! MT -/
/-- an entry of the heap: a tuple (price, line, text) -/
structure It where
  a : Addr
  p : Int
  t1 : Tok
  l : Str
  t2 : Tok
  x : Str
  t3 : Tok
noncomputable def It.v (i : It) : Value := .ref i.a
noncomputable def It.e (i : It) : Addr × Cell := (i.a, .tup [.int i.p i.t1, .str i.l i.t2, .str i.x i.t3])
noncomputable def sLt (x y : Str) : Bool := decide (x.cps.toList < y.cps.toList)
noncomputable def ltT (p : Int) (l x : Str) (p' : Int) (l' x' : Str) : Bool := if p = p' then (if l = l' then (if x = x' then false else sLt x x') else sLt l l') else decide (p < p')
noncomputable def It.lt (i j : It) : Bool := ltT i.p i.l i.x j.p j.l j.x

theorem tlt_eq (x y : Value) : Builtin.«tuple.__lt__» ⟨[x, y], []⟩ = (do
    if !(← isInstance y (.type "tuple")) then return ← ret .notImplemented
    let xs ← Builtin.Tuple.tupleItemsOf x
    let ys ← Builtin.Tuple.tupleItemsOf y
    for (a, b) in xs.toList.zip ys.toList do
      if !(← eqBool a b) then
         rule "tuple.compare.by-the-first-pair-that-differs"; return ← ret (← richCompare .Lt a b)
    ret (Builtin.Tuple.tupleCompareSizes .Lt xs.size ys.size)) := by rfl

section
variable {w : World} {s₁ s : Shared} {F : List Addr} {led led' : Led} {A : Around} {E : Value → Shared → Prop}
theorem t_lt {i j : It} {Q : Value → Shared → Prop} (S : St w s₁ F led s) (hA : A.units < cLine) (hi : i.e ∈ led) (hj : j.e ∈ led) (h : Q (.bool (i.lt j)) s) :
    wpAny (model PR w) A (compareOp .Lt i.v j.v) Q E s := by
  obtain ⟨ni, ei⟩ := tup_at S hi
  obtain ⟨nj, ej⟩ := tup_at S hj
  have ti : s.TypeIs (.ref i.a) "tuple" := ⟨_, ei, rfl⟩
  have tj : s.TypeIs (.ref j.a) "tuple" := ⟨_, ej, rfl⟩
  show wpAny _ _ (richCompare .Lt (.ref i.a) (.ref j.a)) _ _ _
  refine wpAny_richCompare_same_room ti tj PySem.F.slot_tuple_lt (wpAny_call_entry PySem.F.slot_tuple_lt ti PySem.F.entry_tuple_lt ?_ (PySem.F.args_tuple_lt_2 _ _)) hA
  rw [tlt_eq]
  refine wpAny_bind (wpAny_isInstance tj PySem.F.sub_tuple_tuple ?_)
  simp only [Bool.not_true, Bool.false_eq_true, if_false]
  unfold Builtin.Tuple.tupleItemsOf
  refine wpAny_bind (wpAny_bind (wpAny_seqItems ei rfl (wpAny_pure (wpAny_bind (wpAny_bind (wpAny_seqItems ej rfl (wpAny_pure ?_)))))))
  simp only [List.zip_cons_cons, List.zip_nil_right, List.forIn_cons, List.forIn_nil]
  refine wpAny_bind (wpAny_bind (wpAny_bind (wpAny_eqBool_int ?_)))
  unfold It.lt ltT at h
  by_cases hp : i.p = j.p
  · rw [if_pos hp] at h
    simp only [hp, beq_self_eq_true, Bool.not_true, Bool.false_eq_true, if_false]
    refine wpAny_pure (wpAny_bind (wpAny_bind (wpAny_eqBool_str ?_)))
    by_cases hl : i.l = j.l
    · rw [if_pos hl] at h
      simp only [hl, decide_true, Bool.not_true, Bool.false_eq_true, if_false]
      refine wpAny_pure (wpAny_bind (wpAny_bind (wpAny_eqBool_str ?_)))
      by_cases hx : i.x = j.x
      · rw [if_pos hx] at h
        simp only [hx, decide_true, Bool.not_true, Bool.false_eq_true, if_false]
        refine wpAny_pure (wpAny_pure (wpAny_pure ⟨_, rfl, nofun, h⟩))
      · rw [if_neg hx] at h
        simp only [hx, decide_false, Bool.not_false, if_true]
        refine wpAny_bind (wpAny_rule (wpAny_bind ?_))
        show wpAny _ _ (compareOp .Lt _ _) _ _ _
        refine lt_str (wpAny_bind (wpAny_pure (wpAny_pure (wpAny_pure (wpAny_pure ⟨_, rfl, nofun, h⟩)))))
    · rw [if_neg hl] at h
      simp only [hl, decide_false, Bool.not_false, if_true]
      refine wpAny_bind (wpAny_rule (wpAny_bind ?_))
      show wpAny _ _ (compareOp .Lt _ _) _ _ _
      refine lt_str (wpAny_bind (wpAny_pure (wpAny_pure (wpAny_pure (wpAny_pure ⟨_, rfl, nofun, h⟩)))))
  · rw [if_neg hp] at h
    have : (i.p == j.p) = false := beq_eq_false_iff_ne.mpr hp
    simp only [this, Bool.not_false, if_true]
    refine wpAny_bind (wpAny_rule (wpAny_bind ?_))
    show wpAny _ _ (compareOp .Lt _ _) _ _ _
    refine lt_int (wpAny_bind (wpAny_pure (wpAny_pure (wpAny_pure (wpAny_pure ⟨_, rfl, nofun, h⟩)))))
end
/-! ME -/
noncomputable def nodupB : List Str → Bool
  | [] => true
  | x :: r => !(r.contains x) && nodupB r
theorem nodup_of : ∀ {l : List Str}, nodupB l = true → l.Nodup
  | [], _ => .nil
  | x :: r, h => by
    rw [nodupB, Bool.and_eq_true, Bool.not_eq_true'] at h
    exact List.nodup_cons.mpr ⟨fun hm => by rw [List.contains_iff_mem.mpr hm] at h; exact absurd h.1 (by decide), nodup_of h.2⟩
noncomputable def fnOk (sc : Scope) (binds : List (Str × Value)) : Bool :=
  (sc.names.all fun x => match x.2 with | .cell => false | _ => true) && (binds.all fun x => decide (sc.names.lookup x.1 = some .local)) && !sc.isCoroutine && !sc.isGenerator && (match sc.kind with | .function => true | _ => false) && nodupB (Keys binds.reverse)

section
variable {w : World} {s₁ s : Shared} {F : List Addr} {led led' : Led} {A : Around} {E : Value → Shared → Prop}

theorem enterC (B : Base w s₁) (S : St w s₁ F led s) {f : Addr} {oc : Value} {od : Option Addr} {osl : Array (Option Value)} {nm qn : Str} {ps : Arguments} {body : List Stmt} {sc : Scope} {dV kV doc pm : Value} {an : Option Addr} {cdv ct : Value}
    {pos : List Value} {kw : List (Str × Value)} (m : List (Str × Value)) {R : Result → Shared → Prop}
    (hf : (hd.heap_1 w.params).lookup f = some ⟨oc, od, .func ⟨nm, qn, ps, .stmts body, sc, mainGlobals, [], dV, kV, doc, pm, an, cdv, ct, builtinsNs⟩, osl⟩)
    (hroom : A.depth < recursionLimit)
    (hbind : BindsTo s ⟨nm, qn, ps, .stmts body, sc, mainGlobals, [], dV, kV, doc, pm, an, cdv, ct, builtinsNs⟩ ⟨pos, kw⟩ m.reverse)
    (h : ∀ L s', s₁.heap.objs.size ≤ L → St w s₁ (L :: F) ((L, Cell.ns m) :: led) s' →
      wpAny (model PR w) (A.deeper ⟨sc, L, mainGlobals, [], qn ++ ".<locals>.", some f, cdv, some L, builtinsNs⟩) (execs body ⟨sc, L, mainGlobals, [], qn ++ ".<locals>.", some f, cdv, some L, builtinsNs⟩) (Kret fun v s'' => R (.ok (.ret v)) s'') FF s')
    (hcd : codeIn (hd.heap_1 w.params) cdv qn = true) (hok : fnOk sc m.reverse = true) :
    codeAny (model PR w) A (.call (.ref f) ⟨pos, kw⟩) R s := by
  simp only [fnOk, Bool.and_eq_true, Bool.not_eq_true'] at hok
  obtain ⟨⟨⟨⟨⟨h1, h2⟩, h3⟩, h4⟩, h5⟩, h6⟩ := hok
  refine code_fn B S hf rfl hroom rfl hbind (fun L s' hL S' => h L s' hL (by rw [List.reverse_reverse] at S'; exact S')) hcd (nodup_of h6) (fun x hx e => ?_) (fun x hx => of_decide_eq_true (List.all_eq_true.mp h2 x hx)) h3 h4 (by show sc.kind = _; cases q : sc.kind <;> rw [q] at h5 <;> first | rfl | cases h5)
  have := List.all_eq_true.mp h1 x hx
  rw [e] at this; cases this

theorem enter (B : Base w s₁) (S : St w s₁ F led s) {f : Addr} {oc : Value} {od : Option Addr} {osl : Array (Option Value)} {nm qn : Str} {ps : Arguments} {body : List Stmt} {sc : Scope} {dV kV doc pm : Value} {an : Option Addr} {cdv ct : Value}
    {pos : List Value} {kw : List (Str × Value)} (m : List (Str × Value)) {Q : Value → Shared → Prop}
    (hf : (hd.heap_1 w.params).lookup f = some ⟨oc, od, .func ⟨nm, qn, ps, .stmts body, sc, mainGlobals, [], dV, kV, doc, pm, an, cdv, ct, builtinsNs⟩, osl⟩)
    (hroom : A.depth < recursionLimit)
    (hbind : BindsTo s ⟨nm, qn, ps, .stmts body, sc, mainGlobals, [], dV, kV, doc, pm, an, cdv, ct, builtinsNs⟩ ⟨pos, kw⟩ m.reverse)
    (h : ∀ L s', s₁.heap.objs.size ≤ L → St w s₁ (L :: F) ((L, Cell.ns m) :: led) s' →
      wpAny (model PR w) (A.deeper ⟨sc, L, mainGlobals, [], qn ++ ".<locals>.", some f, cdv, some L, builtinsNs⟩) (execs body ⟨sc, L, mainGlobals, [], qn ++ ".<locals>.", some f, cdv, some L, builtinsNs⟩) (Kret Q) FF s')
    (hcd : codeIn (hd.heap_1 w.params) cdv qn = true) (hok : fnOk sc m.reverse = true) :
    wpAny (model PR w) A (call (.ref f) pos kw) Q E s :=
  wpAny_call (enterC B S m hf hroom hbind h hcd hok)

/-! loops -/
noncomputable def Kloop (I : Nat → Shared → Prop) (n : Nat) (Q : Flow → Shared → Prop) : Flow → Shared → Prop := fun f s => match f with
  | .next | .cont => ∃ m, m < n ∧ I m s
  | .brk => Q .next s
  | .ret v => Q (.ret v) s
theorem kloop_next {I : Nat → Shared → Prop} {n : Nat} {Q : Flow → Shared → Prop} (h : ∃ m, m < n ∧ I m s) : Kloop I n Q .next s := h
theorem kloop_cont {I : Nat → Shared → Prop} {n : Nat} {Q : Flow → Shared → Prop} (h : ∃ m, m < n ∧ I m s) : Kloop I n Q .cont s := h
theorem kloop_brk {I : Nat → Shared → Prop} {n : Nat} {Q : Flow → Shared → Prop} (h : Q .next s) : Kloop I n Q .brk s := h
theorem kloop_ret {I : Nat → Shared → Prop} {n : Nat} {Q : Flow → Shared → Prop} {v : Value} (h : Q (.ret v) s) : Kloop I n Q (.ret v) s := h

theorem x_while {test : Expr} {body : List Stmt} {pos : Pos} {env : Env} {Q : Flow → Shared → Prop} (I : Nat → Shared → Prop) (n : Nat) (h : I n s)
    (turn : ∀ n s, I n s → wpAny (model PR w) A (isTrue test env (eval test env)) (fun b s₂ => (b = true → wpAny (model PR w) A (execs body env) (Kloop I n Q) FF s₂) ∧ (b = false → Q .next s₂)) FF s) :
    wpAny (model PR w) A (exec (.While test body [] pos) env) Q E s := by
  refine wpAny_While (codeAny_whileLoop I (fun n s hI => wpAny_mono (turn n s hI) (fun b s₂ h₂ => ?_) fun _ _ x => x.elim) n h)
  cases b with
  | true =>
    refine wpAny_mono (h₂.1 rfl) (fun f s₃ h₃ => ?_) fun _ _ x => x.elim
    cases f <;> exact h₃
  | false => exact wpAny_execs_nil (h₂.2 rfl)
end


noncomputable def SomeSt (w : World) (s₁ s : Shared) : Prop := ∃ F led, St w s₁ F led s
section
variable {w : World} {s₁ s : Shared} {F : List Addr} {led led' : Led} {A : Around} {E : Value → Shared → Prop}
theorem fnAt (B : Base w s₁) (h : SomeSt w s₁ s) {f : Addr} {o : Obj} {fd : FuncData} (hf : (hd.heap_1 w.params).lookup f = some o) (hfd : o.data = .func fd) : s.heap.get? f = some o ∧ o.data = .func fd :=
  let ⟨_, _, S⟩ := h; ⟨S.K B _ _ hf, hfd⟩
theorem SomeSt.of (S : St w s₁ F led s) : SomeSt w s₁ s := ⟨_, _, S⟩
theorem cwf0 (B : Base w s₁) {env : Env} {pos : Pos} {f : Addr} {o : Obj} {fd : FuncData} {Q : Value → Shared → Prop} (hf : (hd.heap_1 w.params).lookup f = some o) (hfd : o.data = .func fd)
    (h : SomeSt w s₁ s ∧ wpAny (model PR w) A (call (.ref f) []) Q E s)
    (ha : backTo pos (starEach [] env) = [] := by kernel_rfl) : wpAny (model PR w) A (callWith pos (.ref f) [] (backTo pos (starEach [] env)) (backToKw pos (keywordEach [] env))) Q E s := by
  rw [ha]
  exact callWith_function (PySem.evalArgs_none ⟨fnAt B h.1 hf hfd, h.2⟩)
theorem cwb0 {env : Env} {pos : Pos} {id : String} {Q : Value → Shared → Prop} 
    (h : wpAny (model PR w) A (call (.builtin id) []) Q E s)
    (ha : backTo pos (starEach [] env) = [] := by kernel_rfl) : wpAny (model PR w) A (callWith pos (.builtin id) [] (backTo pos (starEach [] env)) (backToKw pos (keywordEach [] env))) Q E s := by
  rw [ha]
  exact callWith_builtin rfl (PySem.evalArgs_none h)
theorem cwfm0 (B : Base w s₁) {env : Env} {pos : Pos} {f : Addr} {o : Obj} {fd : FuncData} {r : Value} {Q : Value → Shared → Prop} (hf : (hd.heap_1 w.params).lookup f = some o) (hfd : o.data = .func fd)
    (h : SomeSt w s₁ s ∧ wpAny (model PR w) A (call (.ref f) [r]) Q E s)
    (ha : backTo pos (starEach [] env) = [] := by kernel_rfl) : wpAny (model PR w) A (callWith pos (.ref f) [r] (backTo pos (starEach [] env)) (backToKw pos (keywordEach [] env))) Q E s := by
  rw [ha]
  exact callWith_function (PySem.evalArgs_none ⟨fnAt B h.1 hf hfd, h.2⟩)
theorem cwbm0 {env : Env} {pos : Pos} {id : String} {r : Value} {Q : Value → Shared → Prop} 
    (h : wpAny (model PR w) A (call (.builtin id) [r]) Q E s)
    (ha : backTo pos (starEach [] env) = [] := by kernel_rfl) : wpAny (model PR w) A (callWith pos (.builtin id) [r] (backTo pos (starEach [] env)) (backToKw pos (keywordEach [] env))) Q E s := by
  rw [ha]
  exact callWith_builtin rfl (PySem.evalArgs_none h)
theorem cwf1 (B : Base w s₁) {env : Env} {pos : Pos} {f : Addr} {o : Obj} {fd : FuncData} {e1 : Expr} {Q : Value → Shared → Prop} (hf : (hd.heap_1 w.params).lookup f = some o) (hfd : o.data = .func fd)
    (h : wpAny (model PR w) A (eval e1 env) (fun v1 s11 => SomeSt w s₁ s11 ∧ wpAny (model PR w) A (call (.ref f) [v1]) Q E s11) E s)
    (ha : backTo pos (starEach [e1] env) = [(false, eval e1 env)] := by kernel_rfl) : wpAny (model PR w) A (callWith pos (.ref f) [] (backTo pos (starEach [e1] env)) (backToKw pos (keywordEach [] env))) Q E s := by
  rw [ha]
  exact callWith_function (evalArgs_plain (Calls.spliced_cons (wpAny_mono h (fun v1 s11 h1 => Calls.spliced_nil ⟨fnAt B h1.1 hf hfd, h1.2⟩) fun _ _ x => x)))
theorem cwb1 {env : Env} {pos : Pos} {id : String} {e1 : Expr} {Q : Value → Shared → Prop} 
    (h : wpAny (model PR w) A (eval e1 env) (fun v1 s11 => wpAny (model PR w) A (call (.builtin id) [v1]) Q E s11) E s)
    (ha : backTo pos (starEach [e1] env) = [(false, eval e1 env)] := by kernel_rfl) : wpAny (model PR w) A (callWith pos (.builtin id) [] (backTo pos (starEach [e1] env)) (backToKw pos (keywordEach [] env))) Q E s := by
  rw [ha]
  exact callWith_builtin rfl (evalArgs_plain (Calls.spliced_cons (wpAny_mono h (fun v1 s11 h1 => Calls.spliced_nil h1) fun _ _ x => x)))
theorem cwfm1 (B : Base w s₁) {env : Env} {pos : Pos} {f : Addr} {o : Obj} {fd : FuncData} {r : Value} {e1 : Expr} {Q : Value → Shared → Prop} (hf : (hd.heap_1 w.params).lookup f = some o) (hfd : o.data = .func fd)
    (h : wpAny (model PR w) A (eval e1 env) (fun v1 s11 => SomeSt w s₁ s11 ∧ wpAny (model PR w) A (call (.ref f) [r, v1]) Q E s11) E s)
    (ha : backTo pos (starEach [e1] env) = [(false, eval e1 env)] := by kernel_rfl) : wpAny (model PR w) A (callWith pos (.ref f) [r] (backTo pos (starEach [e1] env)) (backToKw pos (keywordEach [] env))) Q E s := by
  rw [ha]
  exact callWith_function (evalArgs_plain (Calls.spliced_cons (wpAny_mono h (fun v1 s11 h1 => Calls.spliced_nil ⟨fnAt B h1.1 hf hfd, h1.2⟩) fun _ _ x => x)))
theorem cwbm1 {env : Env} {pos : Pos} {id : String} {r : Value} {e1 : Expr} {Q : Value → Shared → Prop} 
    (h : wpAny (model PR w) A (eval e1 env) (fun v1 s11 => wpAny (model PR w) A (call (.builtin id) [r, v1]) Q E s11) E s)
    (ha : backTo pos (starEach [e1] env) = [(false, eval e1 env)] := by kernel_rfl) : wpAny (model PR w) A (callWith pos (.builtin id) [r] (backTo pos (starEach [e1] env)) (backToKw pos (keywordEach [] env))) Q E s := by
  rw [ha]
  exact callWith_builtin rfl (evalArgs_plain (Calls.spliced_cons (wpAny_mono h (fun v1 s11 h1 => Calls.spliced_nil h1) fun _ _ x => x)))
theorem cwf2 (B : Base w s₁) {env : Env} {pos : Pos} {f : Addr} {o : Obj} {fd : FuncData} {e1 e2 : Expr} {Q : Value → Shared → Prop} (hf : (hd.heap_1 w.params).lookup f = some o) (hfd : o.data = .func fd)
    (h : wpAny (model PR w) A (eval e1 env) (fun v1 s11 => wpAny (model PR w) A (eval e2 env) (fun v2 s12 => SomeSt w s₁ s12 ∧ wpAny (model PR w) A (call (.ref f) [v1, v2]) Q E s12) E s11) E s)
    (ha : backTo pos (starEach [e1, e2] env) = [(false, eval e1 env), (false, eval e2 env)] := by kernel_rfl) : wpAny (model PR w) A (callWith pos (.ref f) [] (backTo pos (starEach [e1, e2] env)) (backToKw pos (keywordEach [] env))) Q E s := by
  rw [ha]
  exact callWith_function (evalArgs_plain (Calls.spliced_cons (wpAny_mono h (fun v1 s11 h1 => Calls.spliced_cons (wpAny_mono h1 (fun v2 s12 h2 => Calls.spliced_nil ⟨fnAt B h2.1 hf hfd, h2.2⟩) fun _ _ x => x)) fun _ _ x => x)))
theorem cwb2 {env : Env} {pos : Pos} {id : String} {e1 e2 : Expr} {Q : Value → Shared → Prop} 
    (h : wpAny (model PR w) A (eval e1 env) (fun v1 s11 => wpAny (model PR w) A (eval e2 env) (fun v2 s12 => wpAny (model PR w) A (call (.builtin id) [v1, v2]) Q E s12) E s11) E s)
    (ha : backTo pos (starEach [e1, e2] env) = [(false, eval e1 env), (false, eval e2 env)] := by kernel_rfl) : wpAny (model PR w) A (callWith pos (.builtin id) [] (backTo pos (starEach [e1, e2] env)) (backToKw pos (keywordEach [] env))) Q E s := by
  rw [ha]
  exact callWith_builtin rfl (evalArgs_plain (Calls.spliced_cons (wpAny_mono h (fun v1 s11 h1 => Calls.spliced_cons (wpAny_mono h1 (fun v2 s12 h2 => Calls.spliced_nil h2) fun _ _ x => x)) fun _ _ x => x)))
theorem cwfm2 (B : Base w s₁) {env : Env} {pos : Pos} {f : Addr} {o : Obj} {fd : FuncData} {r : Value} {e1 e2 : Expr} {Q : Value → Shared → Prop} (hf : (hd.heap_1 w.params).lookup f = some o) (hfd : o.data = .func fd)
    (h : wpAny (model PR w) A (eval e1 env) (fun v1 s11 => wpAny (model PR w) A (eval e2 env) (fun v2 s12 => SomeSt w s₁ s12 ∧ wpAny (model PR w) A (call (.ref f) [r, v1, v2]) Q E s12) E s11) E s)
    (ha : backTo pos (starEach [e1, e2] env) = [(false, eval e1 env), (false, eval e2 env)] := by kernel_rfl) : wpAny (model PR w) A (callWith pos (.ref f) [r] (backTo pos (starEach [e1, e2] env)) (backToKw pos (keywordEach [] env))) Q E s := by
  rw [ha]
  exact callWith_function (evalArgs_plain (Calls.spliced_cons (wpAny_mono h (fun v1 s11 h1 => Calls.spliced_cons (wpAny_mono h1 (fun v2 s12 h2 => Calls.spliced_nil ⟨fnAt B h2.1 hf hfd, h2.2⟩) fun _ _ x => x)) fun _ _ x => x)))
theorem cwbm2 {env : Env} {pos : Pos} {id : String} {r : Value} {e1 e2 : Expr} {Q : Value → Shared → Prop} 
    (h : wpAny (model PR w) A (eval e1 env) (fun v1 s11 => wpAny (model PR w) A (eval e2 env) (fun v2 s12 => wpAny (model PR w) A (call (.builtin id) [r, v1, v2]) Q E s12) E s11) E s)
    (ha : backTo pos (starEach [e1, e2] env) = [(false, eval e1 env), (false, eval e2 env)] := by kernel_rfl) : wpAny (model PR w) A (callWith pos (.builtin id) [r] (backTo pos (starEach [e1, e2] env)) (backToKw pos (keywordEach [] env))) Q E s := by
  rw [ha]
  exact callWith_builtin rfl (evalArgs_plain (Calls.spliced_cons (wpAny_mono h (fun v1 s11 h1 => Calls.spliced_cons (wpAny_mono h1 (fun v2 s12 h2 => Calls.spliced_nil h2) fun _ _ x => x)) fun _ _ x => x)))
theorem cwf3 (B : Base w s₁) {env : Env} {pos : Pos} {f : Addr} {o : Obj} {fd : FuncData} {e1 e2 e3 : Expr} {Q : Value → Shared → Prop} (hf : (hd.heap_1 w.params).lookup f = some o) (hfd : o.data = .func fd)
    (h : wpAny (model PR w) A (eval e1 env) (fun v1 s11 => wpAny (model PR w) A (eval e2 env) (fun v2 s12 => wpAny (model PR w) A (eval e3 env) (fun v3 s13 => SomeSt w s₁ s13 ∧ wpAny (model PR w) A (call (.ref f) [v1, v2, v3]) Q E s13) E s12) E s11) E s)
    (ha : backTo pos (starEach [e1, e2, e3] env) = [(false, eval e1 env), (false, eval e2 env), (false, eval e3 env)] := by kernel_rfl) : wpAny (model PR w) A (callWith pos (.ref f) [] (backTo pos (starEach [e1, e2, e3] env)) (backToKw pos (keywordEach [] env))) Q E s := by
  rw [ha]
  exact callWith_function (evalArgs_plain (Calls.spliced_cons (wpAny_mono h (fun v1 s11 h1 => Calls.spliced_cons (wpAny_mono h1 (fun v2 s12 h2 => Calls.spliced_cons (wpAny_mono h2 (fun v3 s13 h3 => Calls.spliced_nil ⟨fnAt B h3.1 hf hfd, h3.2⟩) fun _ _ x => x)) fun _ _ x => x)) fun _ _ x => x)))
theorem cwb3 {env : Env} {pos : Pos} {id : String} {e1 e2 e3 : Expr} {Q : Value → Shared → Prop} 
    (h : wpAny (model PR w) A (eval e1 env) (fun v1 s11 => wpAny (model PR w) A (eval e2 env) (fun v2 s12 => wpAny (model PR w) A (eval e3 env) (fun v3 s13 => wpAny (model PR w) A (call (.builtin id) [v1, v2, v3]) Q E s13) E s12) E s11) E s)
    (ha : backTo pos (starEach [e1, e2, e3] env) = [(false, eval e1 env), (false, eval e2 env), (false, eval e3 env)] := by kernel_rfl) : wpAny (model PR w) A (callWith pos (.builtin id) [] (backTo pos (starEach [e1, e2, e3] env)) (backToKw pos (keywordEach [] env))) Q E s := by
  rw [ha]
  exact callWith_builtin rfl (evalArgs_plain (Calls.spliced_cons (wpAny_mono h (fun v1 s11 h1 => Calls.spliced_cons (wpAny_mono h1 (fun v2 s12 h2 => Calls.spliced_cons (wpAny_mono h2 (fun v3 s13 h3 => Calls.spliced_nil h3) fun _ _ x => x)) fun _ _ x => x)) fun _ _ x => x)))
theorem cwfm3 (B : Base w s₁) {env : Env} {pos : Pos} {f : Addr} {o : Obj} {fd : FuncData} {r : Value} {e1 e2 e3 : Expr} {Q : Value → Shared → Prop} (hf : (hd.heap_1 w.params).lookup f = some o) (hfd : o.data = .func fd)
    (h : wpAny (model PR w) A (eval e1 env) (fun v1 s11 => wpAny (model PR w) A (eval e2 env) (fun v2 s12 => wpAny (model PR w) A (eval e3 env) (fun v3 s13 => SomeSt w s₁ s13 ∧ wpAny (model PR w) A (call (.ref f) [r, v1, v2, v3]) Q E s13) E s12) E s11) E s)
    (ha : backTo pos (starEach [e1, e2, e3] env) = [(false, eval e1 env), (false, eval e2 env), (false, eval e3 env)] := by kernel_rfl) : wpAny (model PR w) A (callWith pos (.ref f) [r] (backTo pos (starEach [e1, e2, e3] env)) (backToKw pos (keywordEach [] env))) Q E s := by
  rw [ha]
  exact callWith_function (evalArgs_plain (Calls.spliced_cons (wpAny_mono h (fun v1 s11 h1 => Calls.spliced_cons (wpAny_mono h1 (fun v2 s12 h2 => Calls.spliced_cons (wpAny_mono h2 (fun v3 s13 h3 => Calls.spliced_nil ⟨fnAt B h3.1 hf hfd, h3.2⟩) fun _ _ x => x)) fun _ _ x => x)) fun _ _ x => x)))
theorem cwbm3 {env : Env} {pos : Pos} {id : String} {r : Value} {e1 e2 e3 : Expr} {Q : Value → Shared → Prop} 
    (h : wpAny (model PR w) A (eval e1 env) (fun v1 s11 => wpAny (model PR w) A (eval e2 env) (fun v2 s12 => wpAny (model PR w) A (eval e3 env) (fun v3 s13 => wpAny (model PR w) A (call (.builtin id) [r, v1, v2, v3]) Q E s13) E s12) E s11) E s)
    (ha : backTo pos (starEach [e1, e2, e3] env) = [(false, eval e1 env), (false, eval e2 env), (false, eval e3 env)] := by kernel_rfl) : wpAny (model PR w) A (callWith pos (.builtin id) [r] (backTo pos (starEach [e1, e2, e3] env)) (backToKw pos (keywordEach [] env))) Q E s := by
  rw [ha]
  exact callWith_builtin rfl (evalArgs_plain (Calls.spliced_cons (wpAny_mono h (fun v1 s11 h1 => Calls.spliced_cons (wpAny_mono h1 (fun v2 s12 h2 => Calls.spliced_cons (wpAny_mono h2 (fun v3 s13 h3 => Calls.spliced_nil h3) fun _ _ x => x)) fun _ _ x => x)) fun _ _ x => x)))
theorem cwf4 (B : Base w s₁) {env : Env} {pos : Pos} {f : Addr} {o : Obj} {fd : FuncData} {e1 e2 e3 e4 : Expr} {Q : Value → Shared → Prop} (hf : (hd.heap_1 w.params).lookup f = some o) (hfd : o.data = .func fd)
    (h : wpAny (model PR w) A (eval e1 env) (fun v1 s11 => wpAny (model PR w) A (eval e2 env) (fun v2 s12 => wpAny (model PR w) A (eval e3 env) (fun v3 s13 => wpAny (model PR w) A (eval e4 env) (fun v4 s14 => SomeSt w s₁ s14 ∧ wpAny (model PR w) A (call (.ref f) [v1, v2, v3, v4]) Q E s14) E s13) E s12) E s11) E s)
    (ha : backTo pos (starEach [e1, e2, e3, e4] env) = [(false, eval e1 env), (false, eval e2 env), (false, eval e3 env), (false, eval e4 env)] := by kernel_rfl) : wpAny (model PR w) A (callWith pos (.ref f) [] (backTo pos (starEach [e1, e2, e3, e4] env)) (backToKw pos (keywordEach [] env))) Q E s := by
  rw [ha]
  exact callWith_function (evalArgs_plain (Calls.spliced_cons (wpAny_mono h (fun v1 s11 h1 => Calls.spliced_cons (wpAny_mono h1 (fun v2 s12 h2 => Calls.spliced_cons (wpAny_mono h2 (fun v3 s13 h3 => Calls.spliced_cons (wpAny_mono h3 (fun v4 s14 h4 => Calls.spliced_nil ⟨fnAt B h4.1 hf hfd, h4.2⟩) fun _ _ x => x)) fun _ _ x => x)) fun _ _ x => x)) fun _ _ x => x)))
theorem cwb4 {env : Env} {pos : Pos} {id : String} {e1 e2 e3 e4 : Expr} {Q : Value → Shared → Prop} 
    (h : wpAny (model PR w) A (eval e1 env) (fun v1 s11 => wpAny (model PR w) A (eval e2 env) (fun v2 s12 => wpAny (model PR w) A (eval e3 env) (fun v3 s13 => wpAny (model PR w) A (eval e4 env) (fun v4 s14 => wpAny (model PR w) A (call (.builtin id) [v1, v2, v3, v4]) Q E s14) E s13) E s12) E s11) E s)
    (ha : backTo pos (starEach [e1, e2, e3, e4] env) = [(false, eval e1 env), (false, eval e2 env), (false, eval e3 env), (false, eval e4 env)] := by kernel_rfl) : wpAny (model PR w) A (callWith pos (.builtin id) [] (backTo pos (starEach [e1, e2, e3, e4] env)) (backToKw pos (keywordEach [] env))) Q E s := by
  rw [ha]
  exact callWith_builtin rfl (evalArgs_plain (Calls.spliced_cons (wpAny_mono h (fun v1 s11 h1 => Calls.spliced_cons (wpAny_mono h1 (fun v2 s12 h2 => Calls.spliced_cons (wpAny_mono h2 (fun v3 s13 h3 => Calls.spliced_cons (wpAny_mono h3 (fun v4 s14 h4 => Calls.spliced_nil h4) fun _ _ x => x)) fun _ _ x => x)) fun _ _ x => x)) fun _ _ x => x)))
theorem cwfm4 (B : Base w s₁) {env : Env} {pos : Pos} {f : Addr} {o : Obj} {fd : FuncData} {r : Value} {e1 e2 e3 e4 : Expr} {Q : Value → Shared → Prop} (hf : (hd.heap_1 w.params).lookup f = some o) (hfd : o.data = .func fd)
    (h : wpAny (model PR w) A (eval e1 env) (fun v1 s11 => wpAny (model PR w) A (eval e2 env) (fun v2 s12 => wpAny (model PR w) A (eval e3 env) (fun v3 s13 => wpAny (model PR w) A (eval e4 env) (fun v4 s14 => SomeSt w s₁ s14 ∧ wpAny (model PR w) A (call (.ref f) [r, v1, v2, v3, v4]) Q E s14) E s13) E s12) E s11) E s)
    (ha : backTo pos (starEach [e1, e2, e3, e4] env) = [(false, eval e1 env), (false, eval e2 env), (false, eval e3 env), (false, eval e4 env)] := by kernel_rfl) : wpAny (model PR w) A (callWith pos (.ref f) [r] (backTo pos (starEach [e1, e2, e3, e4] env)) (backToKw pos (keywordEach [] env))) Q E s := by
  rw [ha]
  exact callWith_function (evalArgs_plain (Calls.spliced_cons (wpAny_mono h (fun v1 s11 h1 => Calls.spliced_cons (wpAny_mono h1 (fun v2 s12 h2 => Calls.spliced_cons (wpAny_mono h2 (fun v3 s13 h3 => Calls.spliced_cons (wpAny_mono h3 (fun v4 s14 h4 => Calls.spliced_nil ⟨fnAt B h4.1 hf hfd, h4.2⟩) fun _ _ x => x)) fun _ _ x => x)) fun _ _ x => x)) fun _ _ x => x)))
theorem cwbm4 {env : Env} {pos : Pos} {id : String} {r : Value} {e1 e2 e3 e4 : Expr} {Q : Value → Shared → Prop} 
    (h : wpAny (model PR w) A (eval e1 env) (fun v1 s11 => wpAny (model PR w) A (eval e2 env) (fun v2 s12 => wpAny (model PR w) A (eval e3 env) (fun v3 s13 => wpAny (model PR w) A (eval e4 env) (fun v4 s14 => wpAny (model PR w) A (call (.builtin id) [r, v1, v2, v3, v4]) Q E s14) E s13) E s12) E s11) E s)
    (ha : backTo pos (starEach [e1, e2, e3, e4] env) = [(false, eval e1 env), (false, eval e2 env), (false, eval e3 env), (false, eval e4 env)] := by kernel_rfl) : wpAny (model PR w) A (callWith pos (.builtin id) [r] (backTo pos (starEach [e1, e2, e3, e4] env)) (backToKw pos (keywordEach [] env))) Q E s := by
  rw [ha]
  exact callWith_builtin rfl (evalArgs_plain (Calls.spliced_cons (wpAny_mono h (fun v1 s11 h1 => Calls.spliced_cons (wpAny_mono h1 (fun v2 s12 h2 => Calls.spliced_cons (wpAny_mono h2 (fun v3 s13 h3 => Calls.spliced_cons (wpAny_mono h3 (fun v4 s14 h4 => Calls.spliced_nil h4) fun _ _ x => x)) fun _ _ x => x)) fun _ _ x => x)) fun _ _ x => x)))
noncomputable def RecvOk (T : String) (ov : Value) (s : Shared) : Prop := s.TypeIs ov T ∧ ∀ a, ov = .ref a → ∃ ob, s.heap.get? a = some ob ∧ ob.dict = none
theorem recv_list (S : St w s₁ F led s) {l : Addr} {vs : List Value} (hm : (l, Cell.list vs) ∈ led) : RecvOk "list" (.ref l) s := by
  obtain ⟨n, e⟩ := list_at S hm
  exact ⟨⟨_, e, rfl⟩, fun a h => by cases h; exact ⟨_, e, rfl⟩⟩
theorem recv_dict (S : St w s₁ F led s) {l : Addr} {vs : List (Str × Value)} (hm : (l, Cell.sd vs) ∈ led) : RecvOk "dict" (.ref l) s := by
  obtain ⟨o, e, _, _, _, rfl, _⟩ := S.at_ _ hm
  exact ⟨⟨_, e, rfl⟩, fun a h => by cases h; exact ⟨_, e, rfl⟩⟩
theorem recv_str {x : Str} {t : Tok} : RecvOk "str" (.str x t) s := ⟨rfl, nofun⟩
theorem c_meth {env : Env} {o : Expr} {name : Str} {apos pos : Pos} {args : List Expr} {T id : String} {Q : Value → Shared → Prop}
    (pa : PlainAttrs T) (slot : Slot T name id) (hty : typeOf (.builtin id) = pure (.type "method_descriptor"))
    (h : wpAny (model PR w) A (eval o env) (fun ov s₁ => RecvOk T ov s₁ ∧ wpAny (model PR w) A (callWith pos (.builtin id) [ov] (backTo pos (starEach args env)) (backToKw pos (keywordEach [] env))) Q E s₁) E s)
    (hbase : attributeBase o name env (eval o env) = eval o env := by kernel_rfl)
    (hfew : ((backTo pos (starEach args env)).all (fun x => !x.1) && (backToKw pos (keywordEach [] env)).all (fun x => x.1.isSome)
      && decide (args.length + ([] : List Keyword).length + (if ([] : List Keyword).isEmpty then 0 else 1) < 30)) = true := by kernel_rfl)
    (hline : (apos.endLine == pos.line) = true := by kernel_rfl) :
    wpAny (model PR w) A (eval (.Call (.Attribute o name apos) args [] pos) env) Q E s :=
  wpAny_Call_method hbase hfew hline pa slot hty (wpAny_mono h (fun ov s₁ x => ⟨x.1.1, x.1.2, x.2⟩) fun _ _ x => x)

section
variable {M : Model} {env : Env} {pos : Pos} {whole : Sem Value} {Q : Bool → Shared → Prop}
theorem t_and {x : Expr} {rest : List Expr} (h : wpAny M A (isTrue x env (eval x env)) (fun c s' => (c = true → wpAny M A (isTrue (.BoolOp .And rest pos) env whole) Q E s') ∧ (c = false → Q false s')) E s) :
    wpAny M A (isTrue (.BoolOp .And (x :: rest) pos) env whole) Q E s := isTrue_and (wpAny_mono h (fun c s' h' => by cases c with | true => exact h'.1 rfl | false => exact h'.2 rfl) fun _ _ x => x)
theorem t_or {x : Expr} {rest : List Expr} (h : wpAny M A (isTrue x env (eval x env)) (fun c s' => (c = true → Q true s') ∧ (c = false → wpAny M A (isTrue (.BoolOp .Or rest pos) env whole) Q E s')) E s) :
    wpAny M A (isTrue (.BoolOp .Or (x :: rest) pos) env whole) Q E s := isTrue_or (wpAny_mono h (fun c s' h' => by cases c with | true => exact h'.1 rfl | false => exact h'.2 rfl) fun _ _ x => x)
theorem t_and0 (h : Q true s) : wpAny M A (isTrue (.BoolOp .And [] pos) env whole) Q E s := isTrue_and_nil h
theorem t_or0 (h : Q false s) : wpAny M A (isTrue (.BoolOp .Or [] pos) env whole) Q E s := isTrue_or_nil h
theorem t_name {x : Str} {p : Pos} (h : wpAny M A whole (fun v s₁ => wpAny M A (truthy v) Q E s₁) E s) : wpAny M A (isTrue (.Name x p) env whole) Q E s := isTrue_plain h
theorem t_attr {o : Expr} {x : Str} {p : Pos} (h : wpAny M A whole (fun v s₁ => wpAny M A (truthy v) Q E s₁) E s) : wpAny M A (isTrue (.Attribute o x p) env whole) Q E s := isTrue_plain h
theorem t_call {f : Expr} {as : List Expr} {ks : List Keyword} {p : Pos} (h : wpAny M A whole (fun v s₁ => wpAny M A (truthy v) Q E s₁) E s) : wpAny M A (isTrue (.Call f as ks p) env whole) Q E s := isTrue_plain h
theorem t_constb {b : Bool} {k} {p : Pos} (h : wpAny M A whole (fun v s₁ => wpAny M A (truthy v) Q E s₁) E s) : wpAny M A (isTrue (.Constant (.bool b) k p) env whole) Q E s := isTrue_plain h
end
theorem l_len {l : Addr} {vs : List Value} {Q : Value → Shared → Prop} (S : St w s₁ F led s) (hm : (l, Cell.list vs) ∈ led) (hz : vs.length < 2 ^ 60) (h : ∀ t s', St w s₁ F led s' → Q (.int vs.length t) s') : wpAny (model PR w) A (call (.builtin "len") [.ref l]) Q E s := by
  refine call_len_list (isList_at S hm) (by rw [List.size_toArray]; lia) ?_
  rw [List.size_toArray]
  exact h _ _ (S.toks _)

/-- an if whose ways meet -/
theorem x_if_join {M : Model} {env : Env} {test : Expr} {body : List Stmt} {pos : Pos} {Q : Flow → Shared → Prop} (J : Shared → Prop)
    (h : wpAny M A (isTrue test env (eval test env)) (fun b s₂ => (b = true → wpAny M A (execs body env) (fun f s' => f = .next ∧ J s') E s₂) ∧ (b = false → J s₂)) E s) (hj : ∀ s', J s' → Q .next s') : wpAny M A (exec (.If test body [] pos) env) Q E s :=
  x_if (wpAny_mono h (fun b s₂ x => ⟨fun hb => wpAny_mono (x.1 hb) (fun f s' y => by obtain ⟨rfl, y⟩ := y; exact hj s' y) fun _ _ y => y, fun hb => x_nil (hj _ (x.2 hb))⟩) fun _ _ x => x)
end
/-! MA -/
theorem EntriesOk.find {P : Params} {es : List DictEntry} {l : List (Str × Value)} (h : EntriesOk P es l) (nd : (Keys l).Nodup) {x : Str} {v : Value} (hm : (x, v) ∈ l) : ∃ e, es.find? (·.key.isStr x) = some e ∧ e.val = v := by
  induction h with
  | nil => cases hm
  | @cons e p es l he _ ih =>
    obtain ⟨⟨t, hk⟩, hh, hv⟩ := he
    rw [Keys, List.map_cons, List.nodup_cons] at nd
    rw [List.find?_cons]
    rcases List.mem_cons.mp hm with rfl | hm
    · refine ⟨e, ?_, hv⟩
      rw [hk]
      simp [Value.isStr]
    · have hne : p.1 ≠ x := fun q => nd.1 (List.mem_map.mpr ⟨(x, v), hm, q.symm⟩)
      have : e.key.isStr x = false := by rw [hk]; simp [Value.isStr, hne]
      rw [this]
      exact ih nd.2 hm
theorem EntriesOk.none {P : Params} {es : List DictEntry} {l : List (Str × Value)} (h : EntriesOk P es l) {x : Str} (hm : x ∉ Keys l) : es.find? (·.key.isStr x) = none := by
  induction h with
  | nil => rfl
  | @cons e p es l he _ ih =>
    obtain ⟨⟨t, hk⟩, hh, hv⟩ := he
    rw [Keys, List.map_cons, List.mem_cons, not_or] at hm
    have hne : ¬ p.1 = x := fun q => hm.1 q.symm
    have : e.key.isStr x = false := by rw [hk]; simp [Value.isStr, hne]
    rw [List.find?_cons, this]
    exact ih hm.2
theorem EntriesOk.noref {P : Params} {es : List DictEntry} {l : List (Str × Value)} (h : EntriesOk P es l) : es.any (·.refKey) = false := by
  induction h with
  | nil => rfl
  | @cons e p es l he _ ih =>
    obtain ⟨⟨t, hk⟩, hh, hv⟩ := he
    rw [List.any_cons, ih]
    simp [DictEntry.refKey, hk]
/-- a key's value changed, or a new key at the end -/
theorem EntriesOk.putOld {P : Params} {es : List DictEntry} {l : List (Str × Value)} (h : EntriesOk P es l) {x : Str} {v : Value} {hs : Int} {key : Value} (hm : x ∈ Keys l) (nd : (Keys l).Nodup) :
    EntriesOk P (putL x hs key v es) (l.map fun p => if p.1 = x then (x, v) else p) := by
  induction h with
  | nil => cases hm
  | @cons e p es l he hes ih =>
    obtain ⟨⟨t, hk⟩, hh, hv⟩ := he
    rw [Keys, List.map_cons, List.nodup_cons] at nd
    rw [putL, List.map_cons]
    by_cases hp : p.1 = x
    · have : e.key.isStr x = true := by rw [hk]; simp [Value.isStr, hp]
      rw [if_pos this, if_pos hp]
      have hl : (l.map fun p => if p.1 = x then (x, v) else p) = l := by
        rw [List.map_congr_left (g := id)]
        · simp
        · intro q hq
          have : ¬ q.1 = x := fun z => nd.1 (List.mem_map.mpr ⟨q, hq, by rw [z, hp]⟩)
          simp [this]
      rw [hl]
      exact .cons ⟨⟨t, by rw [hk, hp]⟩, by rw [hh, hp], rfl⟩ hes
    · have : ¬ e.key.isStr x = true := by rw [hk]; simp [Value.isStr, hp]
      rw [if_neg this, if_neg hp]
      rw [Keys, List.map_cons, List.mem_cons] at hm
      exact .cons ⟨⟨t, hk⟩, hh, hv⟩ (ih (hm.resolve_left fun q => hp q.symm) nd.2)
theorem EntriesOk.putNew {P : Params} {es : List DictEntry} {l : List (Str × Value)} (h : EntriesOk P es l) {x : Str} {v : Value} {t : Tok} (hm : x ∉ Keys l) :
    EntriesOk P (putL x (PyData.keyHash P x) (.str x t) v es) (l ++ [(x, v)]) := by
  induction h with
  | nil => exact .cons ⟨⟨t, rfl⟩, rfl, rfl⟩ .nil
  | @cons e p es l he hes ih =>
    obtain ⟨⟨t', hk⟩, hh, hv⟩ := he
    rw [Keys, List.map_cons, List.mem_cons, not_or] at hm
    have hne : ¬ p.1 = x := fun q => hm.1 q.symm
    have : ¬ e.key.isStr x = true := by rw [hk]; simp [Value.isStr, hne]
    rw [putL, if_neg this]
    exact .cons ⟨⟨t', hk⟩, hh, hv⟩ (ih hm.2)
theorem EntriesOk.length {P : Params} {es : List DictEntry} {l : List (Str × Value)} (h : EntriesOk P es l) : es.length = l.length := by
  induction h with
  | nil => rfl
  | cons _ _ ih => simp [ih]
theorem Upd.mem' {l a c c' l'} (u : Upd l a c c' l') : (a, c') ∈ l' := by
  induction u with
  | here => exact .head _
  | there _ ih => exact .tail _ ih
theorem PutR.map {m x v m'} (u : PutR m x v m') (nd : (Keys m).Nodup) : m' = m.map fun p => if p.1 = x then (x, v) else p := by
  induction u with
  | @here x u v r =>
    rw [Keys, List.map_cons, List.nodup_cons] at nd
    rw [List.map_cons, if_pos rfl]
    congr 1
    refine Eq.symm ((List.map_congr_left (g := id) ?_).trans (by simp))
    intro q hq
    have : ¬ q.1 = x := fun z => nd.1 (List.mem_map.mpr ⟨q, hq, z⟩)
    simp [this]
  | @there p r x v r' u ih =>
    rw [Keys, List.map_cons, List.nodup_cons] at nd
    rw [List.map_cons, ih nd.2]
    have : ¬ p.1 = x := fun z => nd.1 (z ▸ u.mem)
    rw [if_neg this]
theorem Keys.perm {l l' : List (Str × Value)} (h : l'.Perm l) : (Keys l').Perm (Keys l) := h.map _

section
variable {w : World} {s₁ s : Shared} {F : List Addr} {led led' : Led} {A : Around} {E : Value → Shared → Prop}
theorem sd_at (S : St w s₁ F led s) {d : Addr} {l : List (Str × Value)} (hm : (d, Cell.sd l) ∈ led) : ∃ es ep l', s.heap.get? d = some (dictOf es ep) ∧ EntriesOk w.params es l' ∧ l'.Perm l ∧ (Keys l).Nodup ∧ l.length ≤ 1000 := by
  obtain ⟨o, e, es, ep, l', rfl, r⟩ := S.at_ _ hm
  exact ⟨es, ep, l', e, r⟩
theorem sd_look {es : List DictEntry} {ep : Nat} {l l' : List (Str × Value)} {P : Params} (h : EntriesOk P es l') (hp : l'.Perm l) (nd : (Keys l).Nodup) {x : Str} {v : Value} (hm : (x, v) ∈ l) : lookIn x (dictOf es ep) = some (some v) := by
  obtain ⟨e, h1, h2⟩ := h.find ((Keys.perm hp).nodup_iff.mpr nd) (hp.mem_iff.mpr hm)
  unfold lookIn
  simp only [h1, h2]
theorem sd_looknone {es : List DictEntry} {ep : Nat} {l l' : List (Str × Value)} {P : Params} (h : EntriesOk P es l') (hp : l'.Perm l) {x : Str} (hm : x ∉ Keys l) : lookIn x (dictOf es ep) = some none := by
  have h1 := h.none (x := x) (fun q => hm ((Keys.perm hp).mem_iff.mp q))
  unfold lookIn
  simp only [h1, h.noref]
  rfl
theorem inst_at (S : St w s₁ F led s) {x C d : Addr} {l : List (Str × Value)} (hx : (x, Cell.inst C d) ∈ led) (hdl : (d, Cell.sd l) ∈ led) : ∃ es ep l', InstAt s.heap x (instObj C d) C (some (dictOf es ep)) ∧ EntriesOk w.params es l' ∧ l'.Perm l ∧ (Keys l).Nodup := by
  obtain ⟨o, e, rfl⟩ := S.at_ _ hx
  obtain ⟨es, ep, l', e', a, b, c, _⟩ := sd_at S hdl
  exact ⟨es, ep, l', ⟨e, rfl, rfl, e'⟩, a, b, c⟩

/-- an attribute that the object's own dict bears, and no class -/
theorem a_val (B : Base w s₁) (S : St w s₁ F led s) {x C d : Addr} {l : List (Str × Value)} {name : Str} {v : Value} {expr : Bool} {Q : Value → Shared → Prop} (hx : (x, Cell.inst C d) ∈ led) (hdl : (d, Cell.sd l) ∈ led) (hv : (name, v) ∈ l)
    (h : ∀ s', St w s₁ F led s' → Q v s')
    (hga : findIn (hd.heap_1 w.params) (.ref C) "__getattribute__" = some (some (.builtin "object.__getattribute__")) := by kernel_rfl)
    (hc : (clsIn (hd.heap_1 w.params) C).any (·.hasDict) = true := by kernel_rfl)
    (hn : findIn (hd.heap_1 w.params) (.ref C) name = some none := by kernel_rfl)
    (hh : handedIn v = true := by kernel_rfl) :
    wpAny (model PR w) A (getAttr (.ref x) name expr) Q E s := by
  obtain ⟨es, ep, l', I, h1, h2, h3⟩ := inst_at S hx hdl
  obtain ⟨cd, hcd, hdd⟩ := any_some hc
  refine get_value (S.K B) I hga ?_ hh (h _ (S.toks _))
  unfold findObj
  rw [hcd, hn]
  simp only [Option.bind_some]
  unfold PySem.W.ownOf
  rw [if_pos hdd]
  simp only [sd_look h1 h2 h3 hv, Option.bind_some]

theorem ns_put {d : Addr} {es : List DictEntry} {ep : Nat} {name : Str} {v : Value} {Q : Unit → Shared → Prop} {M : Model} (D : s.heap.get? d = some (dictOf es ep)) (hr : es.any (·.refKey) = false)
    (h : Q () { s with heap := s.heap.update d (Obj.putName name (PyData.keyHash M.w.params name) (.str name s.toks) v), toks := s.toks + 1 }) : wpAny M A (nsSet d name v) Q E s := by
  unfold nsSet
  refine wpAny_bind (wpAny_bind (wpAny_askSetting (wpAny_pure (wpAny_bind (wpAny_mkText (wpAny_bind (wpAny_loadPart D ?_)))))))
  dsimp only
  have c : (!es.toArray.any (·.key.isStr name) && es.toArray.any (·.refKey)) = false := by
    rw [← Array.any_toList (p := fun e : DictEntry => e.refKey)]
    simp only [List.toList_toArray, hr, Bool.and_false]
  rw [aRefKeyMayBeTheName_at, c]
  exact wpAny_updatePart D h

theorem sd_put (B : Base w s₁) (S : St w s₁ F led s) {d : Addr} {l l₂ : List (Str × Value)} {name : Str} {v : Value} (u : Upd led d (Cell.sd l) (Cell.sd l₂) led') {es : List DictEntry} {ep : Nat} {l' : List (Str × Value)} (D : s.heap.get? d = some (dictOf es ep)) (h1 : EntriesOk w.params es l') (h2 : l'.Perm l) (nd : (Keys l).Nodup) (hz : l₂.length ≤ 1000)
    (hput : PutR l name v l₂ ∨ (l₂ = (name, v) :: l ∧ fresh l name = true)) (t0 t : Nat) : St w s₁ F led' { s with heap := s.heap.update d (Obj.putName name (PyData.keyHash w.params name) (.str name t0) v), toks := t } := by
  have e : Obj.putName name (PyData.keyHash w.params name) (.str name t0) v (dictOf es ep) = dictOf (putL name (PyData.keyHash w.params name) (.str name t0) v es) (putN name es ep) := putName_dict ..
  have nd' : (Keys l').Nodup := (Keys.perm h2).nodup_iff.mpr nd
  refine S.same B u (Heap.SameBut.update ..) (o' := dictOf (putL name (PyData.keyHash w.params name) (.str name t0) v es) (putN name es ep)) (by rw [Heap.get?_update_self _ D (by rw [e]; rfl), e]) ?_ (fun _ _ _ => rfl) t
  rcases hput with hp | ⟨rfl, hf⟩
  · refine ⟨_, _, l'.map fun p => if p.1 = name then (name, v) else p, rfl, h1.putOld ((Keys.perm h2).mem_iff.mpr hp.mem) nd', ?_, by rw [hp.keys]; exact nd, hz⟩
    rw [hp.map nd]
    exact h2.map _
  · have hn := fresh_not hf
    refine ⟨_, _, l' ++ [(name, v)], rfl, h1.putNew (fun q => hn ((Keys.perm h2).mem_iff.mp q)), ?_, List.nodup_cons.mpr ⟨hn, nd⟩, hz⟩
    exact (List.perm_append_singleton _ _).trans (h2.cons _)

/-- an attribute stored into the object's own dict -/
theorem a_set (B : Base w s₁) (S : St w s₁ F led s) {x C d : Addr} {l l₂ : List (Str × Value)} {name : Str} {v : Value} {Q : Unit → Shared → Prop} (hx : (x, Cell.inst C d) ∈ led) (u : Upd led d (Cell.sd l) (Cell.sd l₂) led')
    (hput : PutR l name v l₂ ∨ (l₂ = (name, v) :: l ∧ fresh l name = true)) (hz : l₂.length ≤ 1000)
    (h : ∀ s', St w s₁ F led' s' → Q () s')
    (hs : findIn (hd.heap_1 w.params) (.ref C) "__setattr__" = some (some (.builtin "object.__setattr__")) := by kernel_rfl)
    (hpl : plainOver (hd.heap_1 w.params) C = true := by kernel_rfl)
    (ht : takerIn (hd.heap_1 w.params) C name = some none := by kernel_rfl)
    (hc : (clsIn (hd.heap_1 w.params) C).any (·.hasDict) = true := by kernel_rfl) :
    wpAny (model PR w) A (setAttr (.ref x) name v) Q E s := by
  obtain ⟨es, ep, l', I, h1, h2, h3⟩ := inst_at S hx u.mem
  obtain ⟨cd, hcd, hdd⟩ := any_some hc
  have S1 := S.toks (s.toks + 1)
  have D : s.heap.get? d = some (dictOf es ep) := I.dict
  have X := S.K B
  have X1 := S1.K B
  refine set_plain X I hs (osa_open (s := { s with toks := s.toks + 1 }) X I hpl ht fun b => ?_)
  refine wpAny_bind (wpAny_pure (wpAny_bind (wpAny_bind (wpAny_loadPart (s := { s with toks := s.toks + 1 }) I.at_ (wpAny_bind (Looks.here (s := { s with toks := s.toks + 1 }) (looks_clsIn X1 hcd) ?_))))))
  rw [hdd]
  refine wpAny_pure (a := some d) (wpAny_bind (wpAny_pure (wpAny_bind ?_)))
  have S2 := sd_put B S1 u D h1 h2 h3 hz hput (s.toks + 1) (s.toks + 1 + 1)
  refine ns_put (M := model PR w) D h1.noref ?_
  obtain ⟨es2, ep2, l2', D2, h12, hp2, _, hz2⟩ := sd_at S2 u.mem'
  refine wpAny_bind (wpAny_lookBehind D2 (pastItsLine_dict ?_) (wpAny_pure (h _ S2)))
  rw [List.size_toArray, h12.length, hp2.length_eq, sizeLine_eq]
  lia

theorem c_attr {M : Model} {env : Env} {o : Expr} {name : Str} {apos pos : Pos} {args : List Expr} {kws : List Keyword} {Q : Value → Shared → Prop}
    (h : wpAny M A (eval o env) (fun ov s₁ => wpAny M A (methodCall o name apos pos env ov (args.length + kws.length) (backTo pos (starEach args env)) (backToKw pos (keywordEach kws env))) Q E s₁) E s)
    (hb : attributeBase o name env (eval o env) = eval o env := by kernel_rfl) : wpAny M A (eval (.Call (.Attribute o name apos) args kws pos) env) Q E s := by
  rw [arm_eval_Call, hb]
  exact wpAny_bind (wpAny_mono h (fun ov s₁ h₁ => wpAny_bind (wpAny_standAt h₁)) fun _ _ x => x)
theorem m_pos {o : Expr} {env : Env} {apos pos : Pos} (h : (apos.endLine == pos.line) = true) : methodCallPos true o env apos pos = pure pos := by
  unfold methodCallPos; simp [h]
theorem m_own (B : Base w s₁) (S : St w s₁ F led s) {x C d f : Addr} {l : List (Str × Value)} {o : Expr} {env : Env} {name : Str} {apos pos : Pos} {n : Nat} {args : List (Bool × Sem Value)} {kws : List (Option Str × Sem Value)} {Q : Value → Shared → Prop}
    (hx : (x, Cell.inst C d) ∈ led) (hdl : (d, Cell.sd l) ∈ led) (hf : findIn (hd.heap_1 w.params) (.ref C) name = some (some (.ref f)))
    (h : wpAny (model PR w) A (callWith pos (.ref f) [.ref x] args kws) Q E s)
    (hfr : fresh l name = true := by kernel_rfl)
    (ht : typeIn (hd.heap_1 w.params) (.ref f) = some (.type "function") := by kernel_rfl)
    (hga : findIn (hd.heap_1 w.params) (.ref C) "__getattribute__" = some (some (.builtin "object.__getattribute__")) := by kernel_rfl)
    (hk : findIn (hd.heap_1 w.params) (.ref C) "__getattr__" = some none := by kernel_rfl)
    (hform : methodCallForm n args kws = true := by kernel_rfl) (hline : (apos.endLine == pos.line) = true := by kernel_rfl) :
    wpAny (model PR w) A (methodCall o name apos pos env (.ref x) n args kws) Q E s := by
  obtain ⟨es, ep, l', I, h1, h2, h3⟩ := inst_at S hx hdl
  unfold methodCall calleeOf
  rw [hform]
  refine wpAny_bind (wpAny_holding (method_fn (S.K B) I hga hk hf ht ?_ (wpAny_bind (wpAny_of_eq (m_pos hline) h))))
  show (lookIn name (dictOf es ep)).map (·.isSome) = _
  rw [sd_looknone h1 h2 (fresh_not hfr)]; rfl
theorem m_bm {T id : String} {ov : Value} {o : Expr} {env : Env} {name : Str} {apos pos : Pos} {n : Nat} {args : List (Bool × Sem Value)} {kws : List (Option Str × Sem Value)} {Q : Value → Shared → Prop}
    (pa : PlainAttrs T) (slot : Slot T name id) (hty : typeOf (.builtin id) = pure (.type "method_descriptor")) (hr : RecvOk T ov s)
    (h : wpAny (model PR w) A (callWith pos (.builtin id) [ov] args kws) Q E s)
    (hform : methodCallForm n args kws = true := by kernel_rfl) (hline : (apos.endLine == pos.line) = true := by kernel_rfl) :
    wpAny (model PR w) A (methodCall o name apos pos env ov n args kws) Q E s := by
  unfold methodCall calleeOf
  rw [hform]
  exact wpAny_bind (wpAny_holding (getMethod_builtin hr.1 pa slot hty hr.2 (wpAny_bind (wpAny_of_eq (m_pos hline) h))))
/-- a property of the class -/
theorem a_prop (B : Base w s₁) (S : St w s₁ F led s) {x C d p fget : Addr} {l : List (Str × Value)} {rest : List Value} {name : Str} {expr : Bool} {Q : Value → Shared → Prop} (hx : (x, Cell.inst C d) ∈ led) (hdl : (d, Cell.sd l) ∈ led)
    (hf : findIn (hd.heap_1 w.params) (.ref C) name = some (some (.ref p))) (hp : recIn (hd.heap_1 w.params) p "property" = some (.ref fget :: rest))
    (h : ∀ s', St w s₁ F led s' → codeAny (model PR w) A.in1 (.call (.ref fget) ⟨[.ref x], []⟩) (fun r s'' => ∃ v, r = .ok (.ret v) ∧ handedIn v = true ∧ Q v s'') s')
    (hsp : specialIn (hd.heap_1 w.params) (.ref p) "__get__" = some (some (.builtin "property.__get__")) := by kernel_rfl)
    (htk : takesIn (hd.heap_1 w.params) (.ref p) = some true := by kernel_rfl)
    (hc : (clsIn (hd.heap_1 w.params) C).isSome = true := by kernel_rfl)
    (hga : findIn (hd.heap_1 w.params) (.ref C) "__getattribute__" = some (some (.builtin "object.__getattribute__")) := by kernel_rfl)
    (hk : findIn (hd.heap_1 w.params) (.ref C) "__getattr__" = some none := by kernel_rfl) :
    wpAny (model PR w) A (getAttr (.ref x) name expr) Q E s := by
  obtain ⟨es, ep, l', I, h1, h2, h3⟩ := inst_at S hx hdl
  obtain ⟨cd, hcd⟩ := Option.isSome_iff_exists.mp hc
  have X := S.K B
  refine get_bind (g := .builtin "property.__get__") (a := .ref p) X I hga ?_ hk (wpAny_call (prop_get (s := { s with toks := s.toks + 1 }) (S.toks _ |>.K B) hp ?_))
  · unfold findObj
    rw [hcd, hf]
    simp only [Option.bind_some]
    rw [hsp]
    simp only [Option.bind_some]
    rw [htk]
    rfl
  · refine codeAny_mono (h _ (S.toks (s.toks + 1))) fun r s'' hr => ?_
    obtain ⟨v, rfl, hv, hq⟩ := hr
    show wpAny _ _ (handedOut v) _ _ _
    rw [handedOut_of hv]
    exact wpAny_pure hq
end
/-! MI -/
/-- a tree run over the written part of the heap -/
noncomputable def endK {α : Type} (t : Sem α) : Option α := by
  cases t
  case pure a => exact some a
  all_goals exact none
noncomputable def lookK {α : Type} (K : Frag) (t : Sem α) : Option (Sem α) := by
  cases t
  case load a p k => exact (K.lookup a).map k
  case rule _ k => exact some (k ())
  case point _ k => exact some (k ())
  case «at» _ k => exact some (k ())
  all_goals exact none
noncomputable def runK {α : Type} (K : Frag) (n : Nat) : Sem α → Option α :=
  Nat.rec (fun _ => none) (fun _ r t => (endK t).elim ((lookK K t).elim none r) some) n
theorem endK_sound {α : Type} {t : Sem α} {a : α} (h : endK t = some a) : t = .pure a := by
  cases t <;> first | (cases h; rfl) | cases h
theorem lookK_sound {α : Type} {K : Frag} {M : Model} {A : Around} {E : Value → Shared → Prop} {s : Shared} (X : K.In s.heap) {t t' : Sem α} {Q : α → Shared → Prop} (h : lookK K t = some t') (q : wpAny M A t' Q E s) : wpAny M A t Q E s := by
  cases t
  case load a p k =>
    obtain ⟨o, ho, rfl⟩ := Option.map_eq_some_iff.mp h
    exact nd_load (X _ _ ho) q
  case rule _ k => cases h; exact nd_rule q
  case point _ k => cases h; exact nd_point q
  case «at» p k => cases h; exact fun Γ _ hΓ => q Γ p hΓ
  all_goals cases h
theorem runK_sound {α : Type} {K : Frag} {M : Model} {A : Around} {E : Value → Shared → Prop} {s : Shared} (X : K.In s.heap) (n : Nat) : ∀ {t : Sem α} {a : α} {Q : α → Shared → Prop}, runK K n t = some a → Q a s → wpAny M A t Q E s := by
  induction n with
  | zero => intro t a Q h; cases h
  | succ n ih =>
    intro t a Q h q
    have h : (endK t).elim ((lookK K t).elim none (runK K n)) some = some a := h
    cases he : endK t with
    | some b =>
      rw [he] at h
      cases h
      rw [endK_sound he]
      exact wpAny_pure q
    | none =>
      rw [he] at h
      cases hl : lookK K t with
      | none => rw [hl] at h; cases h
      | some t' =>
        rw [hl] at h
        exact lookK_sound X hl (ih h q)
theorem bindsK {w : World} {s₁ s : Shared} {F : List Addr} {led : Led} (B : Base w s₁) (S : St w s₁ F led s) {fd : FuncData} {args : Args} {binds : List (Str × Value)} (h : runK (hd.heap_1 w.params) 200 (bindArgs fd args) = some binds) : BindsTo s fd args binds :=
  fun _ _ _ _ hq => runK_sound (S.K B) 200 h hq

section
variable {w : World} {s₁ s : Shared} {F : List Addr} {led led' : Led} {A : Around} {E : Value → Shared → Prop}
theorem cwt1 {env : Env} {pos : Pos} {T : String} {e1 : Expr} {Q : Value → Shared → Prop}
    (h : wpAny (model PR w) A (eval e1 env) (fun v1 s11 => wpAny (model PR w) A (call (.type T) [v1]) Q E s11) E s)
    (ha : backTo pos (starEach [e1] env) = [(false, eval e1 env)] := by kernel_rfl) : wpAny (model PR w) A (callWith pos (.type T) [] (backTo pos (starEach [e1] env)) (backToKw pos (keywordEach [] env))) Q E s := by
  rw [ha]
  exact PySem.callWith_type rfl (evalArgs_plain (Calls.spliced_cons (wpAny_mono h (fun v1 s11 h1 => Calls.spliced_nil h1) fun _ _ x => x)))
theorem y_type_int {n : Int} {t : Tok} {Q : Value → Shared → Prop} (h : Q (.type "int") s) : wpAny (model PR w) A (call (.type "type") [.int n t]) Q E s := call_type_of rfl (by decide) h
theorem s_len {x : Str} {t : Tok} {Q : Value → Shared → Prop} (S : St w s₁ F led s) (hz : x.length < 2 ^ 60) (h : ∀ t s', St w s₁ F led s' → Q (.int x.length t) s') : wpAny (model PR w) A (call (.builtin "len") [.str x t]) Q E s :=
  P.len_str (by lia) (h _ _ (S.toks _))
theorem x_slice {M : Model} {env : Env} {lo up : Expr} {p : Pos} {Q : Value → Shared → Prop}
    (h : wpAny M A (eval lo env) (fun l s₁' => wpAny M A (eval up env) (fun u s₂ => ∃ F led, St w s₁ F led s₂ ∧ ∀ a s', St w s₁ F ((a, Cell.fld "slice" #[l, u, .none]) :: led) s' → Q (.ref a) s') E s₁') E s) :
    wpAny M A (eval (.Slice (some lo) (some up) none p) env) Q E s := by
  refine wpAny_Slice ?_
  rw [evalPart_some, evalPart_some, evalPart_none]
  refine wpAny_mono h (fun l s₁' h₁ => wpAny_mono h₁ (fun u s₂ h₂ => wpAny_pure ?_) fun _ _ x => x) fun _ _ x => x
  obtain ⟨F, led, S, hq⟩ := h₂
  exact hq _ _ (S.alloc rfl)
theorem s_slice1 {value slice : Expr} {x : Str} {t : Tok} {a : Addr} {i : Nat} {ti tj : Tok} {c : Nat} {Q : Value → Shared → Prop} (S : St w s₁ F led s) (hm : (a, Cell.fld "slice" #[.int i ti, .int (i + 1 : Nat) tj, .none]) ∈ led) (hc : x.cps[i]? = some c)
    (h : ∀ t s', St w s₁ F led s' → Q (.str ⟨#[c]⟩ t) s')
    (hs : subscripted slice false (.str x t) (.ref a) = operate [.str x t, .ref a] (getItem (.str x t) (.ref a)) := by kernel_rfl) :
    wpAny (model PR w) A (subscriptTail value slice (.str x t) (.ref a)) Q E s := by
  obtain ⟨o, e, rfl⟩ := S.at_ _ hm
  have hi : i < x.cps.size := (Array.getElem?_eq_some_iff.mp hc).1
  refine tail_any (T := "str") rfl PySem.F.slot_str_getitem.lookup (wpAny_getItem_str_slice (l := some ((i : Int), ti)) (u := some (((i + 1 : Nat) : Int), tj)) (st := none) ⟨_, e, rfl, rfl⟩ rfl ?_) hs
  have hp : slicePicked x (some ((i : Int), ti)) (some (((i + 1 : Nat) : Int), tj)) none = [i] := by
    show Builtin.Str.strSliceIndices (some (i : Int)) (some ((i + 1 : Nat) : Int)) 1 x.length = [i]
    rw [StrLaws.strSliceIndices_plain (by lia) (by show i + 1 ≤ x.cps.size; lia)]
    simp
  unfold sliceMade
  rw [hp]
  by_cases h1 : x.length = 1
  · have hx : x = ⟨#[c]⟩ := by
      obtain ⟨cps⟩ := x
      have h1 : cps.size = 1 := h1
      have hi : i < cps.size := hi
      have h0 : i = 0 := by lia
      subst h0
      congr 1
      apply Array.ext
      · rw [h1]; rfl
      · intro k hk1 hk2
        have : k = 0 := by lia
        subst this
        have := (Array.getElem?_eq_some_iff.mp hc).2
        simpa using this
    rw [if_pos (by rw [h1]; rfl), hx]
    exact h _ _ S
  · rw [if_neg (by simp; intro q; exact h1 (by rw [← q]))]
    have : ([i].filterMap (x.cps[·]?)).toArray = #[c] := by simp [hc]
    rw [this]
    exact ⟨by show 1 ≤ sizeLine; decide, h _ _ (S.toks _)⟩

/-! decided comparisons -/
theorem s_eq {x y : Str} {t u : Tok} (b : Bool) {Q : Value → Shared → Prop} (hb : (x == y) = b) (h : Q (.bool b) s) : wpAny (model PR w) A (compareOp .Eq (.str x t) (.str y u)) Q E s := eq_str (by rw [hb]; exact h)
theorem s_ne {x y : Str} {t u : Tok} (b : Bool) {Q : Value → Shared → Prop} (hb : (x != y) = b) (h : Q (.bool b) s) : wpAny (model PR w) A (compareOp .NotEq (.str x t) (.str y u)) Q E s := ne_str (by rw [hb]; exact h)
theorem s_in {x y : Str} {t u : Tok} (b : Bool) {Q : Value → Shared → Prop} (hb : Txt.contains x y = b) (h : Q (.bool b) s) : wpAny (model PR w) A (compareOp .In (.str y u) (.str x t)) Q E s := SB.contains (by rw [hb]; exact h)
theorem s_nin {x y : Str} {t u : Tok} (b : Bool) {Q : Value → Shared → Prop} (hb : (!Txt.contains x y) = b) (h : Q (.bool b) s) : wpAny (model PR w) A (compareOp .NotIn (.str y u) (.str x t)) Q E s := SB.notContains (by rw [hb]; exact h)
theorem s_true {x : Str} {t : Tok} (b : Bool) {Q : Bool → Shared → Prop} (S : St w s₁ F led s) (hb : ((x.length : Int) != 0) = b) (hz : x.length < 2 ^ 60) (h : ∀ s', St w s₁ F led s' → Q b s') : wpAny (model PR w) A (truthy (.str x t)) Q E s :=
  P.truthy_str (by lia) (by rw [hb]; exact h _ (S.toks _))
theorem v_is {M : Model} {a b : Value} (c : Bool) {Q : Value → Shared → Prop} (hp : plainIs a b = true) (hb : (a == b) = c) (h : Q (.bool c) s) : wpAny M A (compareOp .Is a b) Q E s := wpAny_is_plain hp (by rw [hb]; exact h)
theorem v_isnot {M : Model} {a b : Value} (c : Bool) {Q : Value → Shared → Prop} (hp : plainIs a b = true) (hb : (!(a == b)) = c) (h : Q (.bool c) s) : wpAny M A (compareOp .IsNot a b) Q E s := wpAny_isNot_plain hp (by rw [hb]; exact h)
theorem d_gt {a b : Int} {t u : Tok} (c : Bool) {Q : Value → Shared → Prop} (hb : decide (a > b) = c) (h : Q (.bool c) s) : wpAny (model PR w) A (compareOp .Gt (.int a t) (.int b u)) Q E s := gt_int (by rw [hb]; exact h)
theorem d_lt {a b : Int} {t u : Tok} (c : Bool) {Q : Value → Shared → Prop} (hb : decide (a < b) = c) (h : Q (.bool c) s) : wpAny (model PR w) A (compareOp .Lt (.int a t) (.int b u)) Q E s := lt_int (by rw [hb]; exact h)
theorem d_ge {a b : Int} {t u : Tok} (c : Bool) {Q : Value → Shared → Prop} (hb : decide (a ≥ b) = c) (h : Q (.bool c) s) : wpAny (model PR w) A (compareOp .GtE (.int a t) (.int b u)) Q E s := ge_int (by rw [hb]; exact h)
theorem d_le {a b : Int} {t u : Tok} (c : Bool) {Q : Value → Shared → Prop} (hb : decide (a ≤ b) = c) (h : Q (.bool c) s) : wpAny (model PR w) A (compareOp .LtE (.int a t) (.int b u)) Q E s := le_int (by rw [hb]; exact h)
theorem d_eq {a b : Int} {t u : Tok} (c : Bool) {Q : Value → Shared → Prop} (hb : (a == b) = c) (h : Q (.bool c) s) : wpAny (model PR w) A (compareOp .Eq (.int a t) (.int b u)) Q E s := eq_int (by rw [hb]; exact h)
theorem i_true {a : Int} {t : Tok} (c : Bool) {Q : Bool → Shared → Prop} (hb : (a != 0) = c) (h : Q c s) : wpAny (model PR w) A (truthy (.int a t)) Q E s := truthy_int (by rw [hb]; exact h)
theorem n_true {M : Model} {Q : Bool → Shared → Prop} (h : Q false s) : wpAny M A (truthy .none) Q E s := truthy_none h
theorem i_neg {a : Int} {t : Tok} {Q : Value → Shared → Prop} (S : St w s₁ F led s) (h : ∀ t s', St w s₁ F led s' → Q (.int (-a) t) s') : wpAny (model PR w) A (unaryOp .USub (.int a t)) Q E s := neg_int (h _ _ (S.toks _))
theorem d_no {p P1 P2 : Prop} [Decidable p] (hp : ¬ p) (h : P2) : (decide p = true → P1) ∧ (decide p = false → P2) := ⟨fun q => absurd (of_decide_eq_true q) hp, fun _ => h⟩
theorem d_yes {p P1 P2 : Prop} [Decidable p] (hp : p) (h : P1) : (decide p = true → P1) ∧ (decide p = false → P2) := ⟨fun _ => h, fun q => absurd hp (of_decide_eq_false q)⟩
theorem s_iadd {x y : Str} {t u : Tok} {Q : Value → Shared → Prop} (S : St w s₁ F led s) (hz : x.length + y.length ≤ sizeLine) (h : ∀ t s', St w s₁ F led s' → Q (.str (x ++ y) t) s') : wpAny (model PR w) A (inplaceOp .Add (.str x t) (.str y u)) Q E s := SB.iadd (fun t' k => h t' _ (S.toks k)) hz
theorem s_add {x y : Str} {t u : Tok} {Q : Value → Shared → Prop} (S : St w s₁ F led s) (hz : x.length + y.length ≤ sizeLine) (h : ∀ t s', St w s₁ F led s' → Q (.str (x ++ y) t) s') : wpAny (model PR w) A (binaryOp .Add (.str x t) (.str y u)) Q E s := SB.add (fun t' k => h t' _ (S.toks k)) hz
section
variable {M : Model} {Q : Value → Shared → Prop}
theorem is_sn {x : Str} {t : Tok} (h : Q (.bool false) s) : wpAny M A (compareOp .Is (.str x t) .none) Q E s := v_is false rfl rfl h
theorem is_in {x : Int} {t : Tok} (h : Q (.bool false) s) : wpAny M A (compareOp .Is (.int x t) .none) Q E s := v_is false rfl rfl h
theorem is_nn (h : Q (.bool true) s) : wpAny M A (compareOp .Is .none .none) Q E s := v_is true rfl rfl h
theorem isn_sn {x : Str} {t : Tok} (h : Q (.bool true) s) : wpAny M A (compareOp .IsNot (.str x t) .none) Q E s := v_isnot true rfl rfl h
theorem isn_in {x : Int} {t : Tok} (h : Q (.bool true) s) : wpAny M A (compareOp .IsNot (.int x t) .none) Q E s := v_isnot true rfl rfl h
theorem isn_nn (h : Q (.bool false) s) : wpAny M A (compareOp .IsNot .none .none) Q E s := v_isnot false rfl rfl h
end
theorem b_nf {P1 P2 : Prop} (h : P1) : ((!false) = true → P1) ∧ ((!false) = false → P2) := ⟨fun _ => h, nofun⟩
theorem b_nt {P1 P2 : Prop} (h : P2) : ((!true) = true → P1) ∧ ((!true) = false → P2) := ⟨nofun, fun _ => h⟩
/-- a while that is left by break alone or by its test, the ways meeting -/
theorem x_whileJ {test : Expr} {body : List Stmt} {pos : Pos} {env : Env} {Q : Flow → Shared → Prop} (I : Nat → Shared → Prop) (J : Shared → Prop) (n : Nat) (h : I n s)
    (turn : ∀ n s, I n s → wpAny (model PR w) A (isTrue test env (eval test env)) (fun b s₂ => (b = true → wpAny (model PR w) A (execs body env) (Kloop I n (fun f s => f = .next ∧ J s)) FF s₂) ∧ (b = false → J s₂)) FF s)
    (hj : ∀ s, J s → Q .next s) : wpAny (model PR w) A (exec (.While test body [] pos) env) Q E s :=
  wpAny_mono (x_while (E := E) I n h (Q := fun f s => f = .next ∧ J s) fun n s hI => wpAny_mono (turn n s hI) (fun b s₂ x => ⟨x.1, fun hb => ⟨rfl, x.2 hb⟩⟩) fun _ _ x => x) (fun f s' x => by obtain ⟨rfl, x⟩ := x; exact hj s' x) fun _ _ x => x
theorem x_tup2 {M : Model} {env : Env} {e1 e2 : Expr} {k : Nat} {p : Pos} {Q : Value → Shared → Prop}
    (h : wpAny M A (eval e1 env) (fun v1 s₁' => wpAny M A (eval e2 env) (fun v2 s₂ => ∃ F led, St w s₁ F led s₂ ∧ ∀ a s', St w s₁ F ((a, Cell.tup [v1, v2]) :: led) s' → Q (.ref a) s') E s₁') E s)
    (ha : backTo p (starEach [e1, e2] env) = [(false, eval e1 env), (false, eval e2 env)] := by kernel_rfl) : wpAny M A (eval (.Tuple [e1, e2] k p) env) Q E s := by
  refine Tuple_ ?_
  rw [ha]
  refine Calls.spliced_cons (wpAny_mono h (fun v1 s₁' h1 => Calls.spliced_cons (wpAny_mono h1 (fun v2 s₂ h2 => Calls.spliced_nil ?_) fun _ _ x => x)) fun _ _ x => x)
  obtain ⟨F, led, S, hq⟩ := h2
  exact wpAny_newObj_type (hq _ _ (S.alloc ⟨0, rfl⟩)) (by show 2 ≤ sizeLine; decide)
theorem s_intup2 {x y z : Str} {t u v : Tok} {a : Addr} (b : Bool) {Q : Value → Shared → Prop} (S : St w s₁ F led s) (hA : A.units < cLine) (hm : (a, Cell.tup [.str y u, .str z v]) ∈ led) (hb : ([y, z].any (· == x)) = b) (h : Q (.bool b) s) : wpAny (model PR w) A (compareOp .In (.str x t) (.ref a)) Q E s := by
  obtain ⟨n, e⟩ := tup_at S hm
  refine in_tuple_strs ⟨_, e, rfl, n, rfl⟩ (.cons y u (.cons z v .nil)) ?_
  rw [hb]; exact h
/-! looks at the goal -/
section
variable {M : Model} {env : Env}
theorem g_eval {e : Expr} {Q : Value → Shared → Prop} (h : wpAny M A (eval e env) Q E s) : wpAny M A (eval e env) Q E s := h
theorem g_name {x : Str} {p : Pos} {Q : Value → Shared → Prop} (h : wpAny M A (eval (.Name x p) env) Q E s) : wpAny M A (eval (.Name x p) env) Q E s := h
theorem g_const {c : Const} {k : Nat} {p : Pos} {Q : Value → Shared → Prop} (h : wpAny M A (eval (.Constant c k p) env) Q E s) : wpAny M A (eval (.Constant c k p) env) Q E s := h
theorem g_exec {st : Stmt} {Q : Flow → Shared → Prop} (h : wpAny M A (exec st env) Q E s) : wpAny M A (exec st env) Q E s := h
theorem g_test {e : Expr} {t : Sem Value} {Q : Bool → Shared → Prop} (h : wpAny M A (isTrue e env t) Q E s) : wpAny M A (isTrue e env t) Q E s := h
theorem g_truthy {v : Value} {Q : Bool → Shared → Prop} (h : wpAny M A (truthy v) Q E s) : wpAny M A (truthy v) Q E s := h
theorem g_cmp {o : CmpOp} {a b : Value} {Q : Value → Shared → Prop} (h : wpAny M A (compareOp o a b) Q E s) : wpAny M A (compareOp o a b) Q E s := h
theorem g_bin {o : Operator} {a b : Value} {Q : Value → Shared → Prop} (h : wpAny M A (binaryOp o a b) Q E s) : wpAny M A (binaryOp o a b) Q E s := h
theorem g_store {x : Str} {v : Value} {Q : Unit → Shared → Prop} (h : wpAny M A (storeName env x v) Q E s) : wpAny M A (storeName env x v) Q E s := h
theorem g_get {a : Value} {x : Str} {b : Bool} {Q : Value → Shared → Prop} (h : wpAny M A (getAttr a x b) Q E s) : wpAny M A (getAttr a x b) Q E s := h
theorem g_set {a v : Value} {x : Str} {Q : Unit → Shared → Prop} (h : wpAny M A (setAttr a x v) Q E s) : wpAny M A (setAttr a x v) Q E s := h
end
end
/-! MX -/
theorem neP {α β : Type} (a : Nonempty α) (b : Nonempty β) : Nonempty (α × β) := let ⟨x⟩ := a; let ⟨y⟩ := b; ⟨(x, y)⟩
theorem neW : Nonempty World := ⟨aWorld 0⟩
theorem neS : Nonempty Shared := ⟨⟨{}, #[], {}, 0, {}⟩⟩
theorem pad {P : Prop} (h : Nat → P) : P := h 0
theorem neA : Nonempty Around := ⟨{}⟩
theorem neI : Nonempty It := ⟨⟨0, 0, 0, "", 0, "", 0⟩⟩
noncomputable def k0 {α : Type} (a : α) : α := a
noncomputable def k1 {α : Type} (a : α) : α := a
noncomputable def k2 {α : Type} (a : α) : α := a
noncomputable def k3 {α : Type} (a : α) : α := a
noncomputable def k4 {α : Type} (a : α) : α := a
noncomputable def k5 {α : Type} (a : α) : α := a
noncomputable def k6 {α : Type} (a : α) : α := a
noncomputable def k7 {α : Type} (a : α) : α := a
noncomputable def k8 {α : Type} (a : α) : α := a
noncomputable def k9 {α : Type} (a : α) : α := a
noncomputable def k10 {α : Type} (a : α) : α := a
noncomputable def k11 {α : Type} (a : α) : α := a
noncomputable def k12 {α : Type} (a : α) : α := a
noncomputable def k13 {α : Type} (a : α) : α := a
noncomputable def k14 {α : Type} (a : α) : α := a
noncomputable def k15 {α : Type} (a : α) : α := a
noncomputable def k16 {α : Type} (a : α) : α := a
noncomputable def k17 {α : Type} (a : α) : α := a
noncomputable def k18 {α : Type} (a : α) : α := a
noncomputable def k19 {α : Type} (a : α) : α := a
noncomputable def k20 {α : Type} (a : α) : α := a
noncomputable def k21 {α : Type} (a : α) : α := a
noncomputable def w1 {α0 : Type} (ne : Nonempty (α0)) (P : α0 → Prop) : α0 := @Classical.epsilon _ ne fun v => ¬ P v
theorem wall1 {α0 : Type} {P : α0 → Prop} (ne : Nonempty (α0)) (h : P (k0 (w1 ne P))) (x0 : α0) : P x0 :=
  Classical.byContradiction fun hx => (@Classical.epsilon_spec _ (fun v : α0 => ¬ P v) ⟨x0, hx⟩) h
noncomputable def w2 {α0 α1 : Type} (ne : Nonempty (α0 × α1)) (P : α0 → α1 → Prop) : α0 × α1 := @Classical.epsilon _ ne fun v => ¬ P v.1 v.2
theorem wall2 {α0 α1 : Type} {P : α0 → α1 → Prop} (ne : Nonempty (α0 × α1)) (h : P (k0 (w2 ne P).1) (k1 (w2 ne P).2)) (x0 : α0) (x1 : α1) : P x0 x1 :=
  Classical.byContradiction fun hx => (@Classical.epsilon_spec _ (fun v : α0 × α1 => ¬ P v.1 v.2) ⟨(x0, x1), hx⟩) h
noncomputable def w3 {α0 α1 α2 : Type} (ne : Nonempty (α0 × α1 × α2)) (P : α0 → α1 → α2 → Prop) : α0 × α1 × α2 := @Classical.epsilon _ ne fun v => ¬ P v.1 v.2.1 v.2.2
theorem wall3 {α0 α1 α2 : Type} {P : α0 → α1 → α2 → Prop} (ne : Nonempty (α0 × α1 × α2)) (h : P (k0 (w3 ne P).1) (k1 (w3 ne P).2.1) (k2 (w3 ne P).2.2)) (x0 : α0) (x1 : α1) (x2 : α2) : P x0 x1 x2 :=
  Classical.byContradiction fun hx => (@Classical.epsilon_spec _ (fun v : α0 × α1 × α2 => ¬ P v.1 v.2.1 v.2.2) ⟨(x0, x1, x2), hx⟩) h
noncomputable def w4 {α0 α1 α2 α3 : Type} (ne : Nonempty (α0 × α1 × α2 × α3)) (P : α0 → α1 → α2 → α3 → Prop) : α0 × α1 × α2 × α3 := @Classical.epsilon _ ne fun v => ¬ P v.1 v.2.1 v.2.2.1 v.2.2.2
theorem wall4 {α0 α1 α2 α3 : Type} {P : α0 → α1 → α2 → α3 → Prop} (ne : Nonempty (α0 × α1 × α2 × α3)) (h : P (k0 (w4 ne P).1) (k1 (w4 ne P).2.1) (k2 (w4 ne P).2.2.1) (k3 (w4 ne P).2.2.2)) (x0 : α0) (x1 : α1) (x2 : α2) (x3 : α3) : P x0 x1 x2 x3 :=
  Classical.byContradiction fun hx => (@Classical.epsilon_spec _ (fun v : α0 × α1 × α2 × α3 => ¬ P v.1 v.2.1 v.2.2.1 v.2.2.2) ⟨(x0, x1, x2, x3), hx⟩) h
noncomputable def w6 {α0 α1 α2 α3 α4 α5 : Type} (ne : Nonempty (α0 × α1 × α2 × α3 × α4 × α5)) (P : α0 → α1 → α2 → α3 → α4 → α5 → Prop) : α0 × α1 × α2 × α3 × α4 × α5 := @Classical.epsilon _ ne fun v => ¬ P v.1 v.2.1 v.2.2.1 v.2.2.2.1 v.2.2.2.2.1 v.2.2.2.2.2
theorem wall6 {α0 α1 α2 α3 α4 α5 : Type} {P : α0 → α1 → α2 → α3 → α4 → α5 → Prop} (ne : Nonempty (α0 × α1 × α2 × α3 × α4 × α5)) (h : P (k0 (w6 ne P).1) (k1 (w6 ne P).2.1) (k2 (w6 ne P).2.2.1) (k3 (w6 ne P).2.2.2.1) (k4 (w6 ne P).2.2.2.2.1) (k5 (w6 ne P).2.2.2.2.2)) (x0 : α0) (x1 : α1) (x2 : α2) (x3 : α3) (x4 : α4) (x5 : α5) : P x0 x1 x2 x3 x4 x5 :=
  Classical.byContradiction fun hx => (@Classical.epsilon_spec _ (fun v : α0 × α1 × α2 × α3 × α4 × α5 => ¬ P v.1 v.2.1 v.2.2.1 v.2.2.2.1 v.2.2.2.2.1 v.2.2.2.2.2) ⟨(x0, x1, x2, x3, x4, x5), hx⟩) h
noncomputable def w8 {α0 α1 α2 α3 α4 α5 α6 α7 : Type} (ne : Nonempty (α0 × α1 × α2 × α3 × α4 × α5 × α6 × α7)) (P : α0 → α1 → α2 → α3 → α4 → α5 → α6 → α7 → Prop) : α0 × α1 × α2 × α3 × α4 × α5 × α6 × α7 := @Classical.epsilon _ ne fun v => ¬ P v.1 v.2.1 v.2.2.1 v.2.2.2.1 v.2.2.2.2.1 v.2.2.2.2.2.1 v.2.2.2.2.2.2.1 v.2.2.2.2.2.2.2
theorem wall8 {α0 α1 α2 α3 α4 α5 α6 α7 : Type} {P : α0 → α1 → α2 → α3 → α4 → α5 → α6 → α7 → Prop} (ne : Nonempty (α0 × α1 × α2 × α3 × α4 × α5 × α6 × α7)) (h : P (k0 (w8 ne P).1) (k1 (w8 ne P).2.1) (k2 (w8 ne P).2.2.1) (k3 (w8 ne P).2.2.2.1) (k4 (w8 ne P).2.2.2.2.1) (k5 (w8 ne P).2.2.2.2.2.1) (k6 (w8 ne P).2.2.2.2.2.2.1) (k7 (w8 ne P).2.2.2.2.2.2.2)) (x0 : α0) (x1 : α1) (x2 : α2) (x3 : α3) (x4 : α4) (x5 : α5) (x6 : α6) (x7 : α7) : P x0 x1 x2 x3 x4 x5 x6 x7 :=
  Classical.byContradiction fun hx => (@Classical.epsilon_spec _ (fun v : α0 × α1 × α2 × α3 × α4 × α5 × α6 × α7 => ¬ P v.1 v.2.1 v.2.2.1 v.2.2.2.1 v.2.2.2.2.1 v.2.2.2.2.2.1 v.2.2.2.2.2.2.1 v.2.2.2.2.2.2.2) ⟨(x0, x1, x2, x3, x4, x5, x6, x7), hx⟩) h
noncomputable def w10 {α0 α1 α2 α3 α4 α5 α6 α7 α8 α9 : Type} (ne : Nonempty (α0 × α1 × α2 × α3 × α4 × α5 × α6 × α7 × α8 × α9)) (P : α0 → α1 → α2 → α3 → α4 → α5 → α6 → α7 → α8 → α9 → Prop) : α0 × α1 × α2 × α3 × α4 × α5 × α6 × α7 × α8 × α9 := @Classical.epsilon _ ne fun v => ¬ P v.1 v.2.1 v.2.2.1 v.2.2.2.1 v.2.2.2.2.1 v.2.2.2.2.2.1 v.2.2.2.2.2.2.1 v.2.2.2.2.2.2.2.1 v.2.2.2.2.2.2.2.2.1 v.2.2.2.2.2.2.2.2.2
theorem wall10 {α0 α1 α2 α3 α4 α5 α6 α7 α8 α9 : Type} {P : α0 → α1 → α2 → α3 → α4 → α5 → α6 → α7 → α8 → α9 → Prop} (ne : Nonempty (α0 × α1 × α2 × α3 × α4 × α5 × α6 × α7 × α8 × α9)) (h : P (k0 (w10 ne P).1) (k1 (w10 ne P).2.1) (k2 (w10 ne P).2.2.1) (k3 (w10 ne P).2.2.2.1) (k4 (w10 ne P).2.2.2.2.1) (k5 (w10 ne P).2.2.2.2.2.1) (k6 (w10 ne P).2.2.2.2.2.2.1) (k7 (w10 ne P).2.2.2.2.2.2.2.1) (k8 (w10 ne P).2.2.2.2.2.2.2.2.1) (k9 (w10 ne P).2.2.2.2.2.2.2.2.2)) (x0 : α0) (x1 : α1) (x2 : α2) (x3 : α3) (x4 : α4) (x5 : α5) (x6 : α6) (x7 : α7) (x8 : α8) (x9 : α9) : P x0 x1 x2 x3 x4 x5 x6 x7 x8 x9 :=
  Classical.byContradiction fun hx => (@Classical.epsilon_spec _ (fun v : α0 × α1 × α2 × α3 × α4 × α5 × α6 × α7 × α8 × α9 => ¬ P v.1 v.2.1 v.2.2.1 v.2.2.2.1 v.2.2.2.2.1 v.2.2.2.2.2.1 v.2.2.2.2.2.2.1 v.2.2.2.2.2.2.2.1 v.2.2.2.2.2.2.2.2.1 v.2.2.2.2.2.2.2.2.2) ⟨(x0, x1, x2, x3, x4, x5, x6, x7, x8, x9), hx⟩) h
noncomputable def w13 {α0 α1 α2 α3 α4 α5 α6 α7 α8 α9 α10 α11 α12 : Type} (ne : Nonempty (α0 × α1 × α2 × α3 × α4 × α5 × α6 × α7 × α8 × α9 × α10 × α11 × α12)) (P : α0 → α1 → α2 → α3 → α4 → α5 → α6 → α7 → α8 → α9 → α10 → α11 → α12 → Prop) : α0 × α1 × α2 × α3 × α4 × α5 × α6 × α7 × α8 × α9 × α10 × α11 × α12 := @Classical.epsilon _ ne fun v => ¬ P v.1 v.2.1 v.2.2.1 v.2.2.2.1 v.2.2.2.2.1 v.2.2.2.2.2.1 v.2.2.2.2.2.2.1 v.2.2.2.2.2.2.2.1 v.2.2.2.2.2.2.2.2.1 v.2.2.2.2.2.2.2.2.2.1 v.2.2.2.2.2.2.2.2.2.2.1 v.2.2.2.2.2.2.2.2.2.2.2.1 v.2.2.2.2.2.2.2.2.2.2.2.2
theorem wall13 {α0 α1 α2 α3 α4 α5 α6 α7 α8 α9 α10 α11 α12 : Type} {P : α0 → α1 → α2 → α3 → α4 → α5 → α6 → α7 → α8 → α9 → α10 → α11 → α12 → Prop} (ne : Nonempty (α0 × α1 × α2 × α3 × α4 × α5 × α6 × α7 × α8 × α9 × α10 × α11 × α12)) (h : P (k0 (w13 ne P).1) (k1 (w13 ne P).2.1) (k2 (w13 ne P).2.2.1) (k3 (w13 ne P).2.2.2.1) (k4 (w13 ne P).2.2.2.2.1) (k5 (w13 ne P).2.2.2.2.2.1) (k6 (w13 ne P).2.2.2.2.2.2.1) (k7 (w13 ne P).2.2.2.2.2.2.2.1) (k8 (w13 ne P).2.2.2.2.2.2.2.2.1) (k9 (w13 ne P).2.2.2.2.2.2.2.2.2.1) (k10 (w13 ne P).2.2.2.2.2.2.2.2.2.2.1) (k11 (w13 ne P).2.2.2.2.2.2.2.2.2.2.2.1) (k12 (w13 ne P).2.2.2.2.2.2.2.2.2.2.2.2)) (x0 : α0) (x1 : α1) (x2 : α2) (x3 : α3) (x4 : α4) (x5 : α5) (x6 : α6) (x7 : α7) (x8 : α8) (x9 : α9) (x10 : α10) (x11 : α11) (x12 : α12) : P x0 x1 x2 x3 x4 x5 x6 x7 x8 x9 x10 x11 x12 :=
  Classical.byContradiction fun hx => (@Classical.epsilon_spec _ (fun v : α0 × α1 × α2 × α3 × α4 × α5 × α6 × α7 × α8 × α9 × α10 × α11 × α12 => ¬ P v.1 v.2.1 v.2.2.1 v.2.2.2.1 v.2.2.2.2.1 v.2.2.2.2.2.1 v.2.2.2.2.2.2.1 v.2.2.2.2.2.2.2.1 v.2.2.2.2.2.2.2.2.1 v.2.2.2.2.2.2.2.2.2.1 v.2.2.2.2.2.2.2.2.2.2.1 v.2.2.2.2.2.2.2.2.2.2.2.1 v.2.2.2.2.2.2.2.2.2.2.2.2) ⟨(x0, x1, x2, x3, x4, x5, x6, x7, x8, x9, x10, x11, x12), hx⟩) h
noncomputable def w16 {α0 α1 α2 α3 α4 α5 α6 α7 α8 α9 α10 α11 α12 α13 α14 α15 : Type} (ne : Nonempty (α0 × α1 × α2 × α3 × α4 × α5 × α6 × α7 × α8 × α9 × α10 × α11 × α12 × α13 × α14 × α15)) (P : α0 → α1 → α2 → α3 → α4 → α5 → α6 → α7 → α8 → α9 → α10 → α11 → α12 → α13 → α14 → α15 → Prop) : α0 × α1 × α2 × α3 × α4 × α5 × α6 × α7 × α8 × α9 × α10 × α11 × α12 × α13 × α14 × α15 := @Classical.epsilon _ ne fun v => ¬ P v.1 v.2.1 v.2.2.1 v.2.2.2.1 v.2.2.2.2.1 v.2.2.2.2.2.1 v.2.2.2.2.2.2.1 v.2.2.2.2.2.2.2.1 v.2.2.2.2.2.2.2.2.1 v.2.2.2.2.2.2.2.2.2.1 v.2.2.2.2.2.2.2.2.2.2.1 v.2.2.2.2.2.2.2.2.2.2.2.1 v.2.2.2.2.2.2.2.2.2.2.2.2.1 v.2.2.2.2.2.2.2.2.2.2.2.2.2.1 v.2.2.2.2.2.2.2.2.2.2.2.2.2.2.1 v.2.2.2.2.2.2.2.2.2.2.2.2.2.2.2
theorem wall16 {α0 α1 α2 α3 α4 α5 α6 α7 α8 α9 α10 α11 α12 α13 α14 α15 : Type} {P : α0 → α1 → α2 → α3 → α4 → α5 → α6 → α7 → α8 → α9 → α10 → α11 → α12 → α13 → α14 → α15 → Prop} (ne : Nonempty (α0 × α1 × α2 × α3 × α4 × α5 × α6 × α7 × α8 × α9 × α10 × α11 × α12 × α13 × α14 × α15)) (h : P (k0 (w16 ne P).1) (k1 (w16 ne P).2.1) (k2 (w16 ne P).2.2.1) (k3 (w16 ne P).2.2.2.1) (k4 (w16 ne P).2.2.2.2.1) (k5 (w16 ne P).2.2.2.2.2.1) (k6 (w16 ne P).2.2.2.2.2.2.1) (k7 (w16 ne P).2.2.2.2.2.2.2.1) (k8 (w16 ne P).2.2.2.2.2.2.2.2.1) (k9 (w16 ne P).2.2.2.2.2.2.2.2.2.1) (k10 (w16 ne P).2.2.2.2.2.2.2.2.2.2.1) (k11 (w16 ne P).2.2.2.2.2.2.2.2.2.2.2.1) (k12 (w16 ne P).2.2.2.2.2.2.2.2.2.2.2.2.1) (k13 (w16 ne P).2.2.2.2.2.2.2.2.2.2.2.2.2.1) (k14 (w16 ne P).2.2.2.2.2.2.2.2.2.2.2.2.2.2.1) (k15 (w16 ne P).2.2.2.2.2.2.2.2.2.2.2.2.2.2.2)) (x0 : α0) (x1 : α1) (x2 : α2) (x3 : α3) (x4 : α4) (x5 : α5) (x6 : α6) (x7 : α7) (x8 : α8) (x9 : α9) (x10 : α10) (x11 : α11) (x12 : α12) (x13 : α13) (x14 : α14) (x15 : α15) : P x0 x1 x2 x3 x4 x5 x6 x7 x8 x9 x10 x11 x12 x13 x14 x15 :=
  Classical.byContradiction fun hx => (@Classical.epsilon_spec _ (fun v : α0 × α1 × α2 × α3 × α4 × α5 × α6 × α7 × α8 × α9 × α10 × α11 × α12 × α13 × α14 × α15 => ¬ P v.1 v.2.1 v.2.2.1 v.2.2.2.1 v.2.2.2.2.1 v.2.2.2.2.2.1 v.2.2.2.2.2.2.1 v.2.2.2.2.2.2.2.1 v.2.2.2.2.2.2.2.2.1 v.2.2.2.2.2.2.2.2.2.1 v.2.2.2.2.2.2.2.2.2.2.1 v.2.2.2.2.2.2.2.2.2.2.2.1 v.2.2.2.2.2.2.2.2.2.2.2.2.1 v.2.2.2.2.2.2.2.2.2.2.2.2.2.1 v.2.2.2.2.2.2.2.2.2.2.2.2.2.2.1 v.2.2.2.2.2.2.2.2.2.2.2.2.2.2.2) ⟨(x0, x1, x2, x3, x4, x5, x6, x7, x8, x9, x10, x11, x12, x13, x14, x15), hx⟩) h
noncomputable def w18 {α0 α1 α2 α3 α4 α5 α6 α7 α8 α9 α10 α11 α12 α13 α14 α15 α16 α17 : Type} (ne : Nonempty (α0 × α1 × α2 × α3 × α4 × α5 × α6 × α7 × α8 × α9 × α10 × α11 × α12 × α13 × α14 × α15 × α16 × α17)) (P : α0 → α1 → α2 → α3 → α4 → α5 → α6 → α7 → α8 → α9 → α10 → α11 → α12 → α13 → α14 → α15 → α16 → α17 → Prop) : α0 × α1 × α2 × α3 × α4 × α5 × α6 × α7 × α8 × α9 × α10 × α11 × α12 × α13 × α14 × α15 × α16 × α17 := @Classical.epsilon _ ne fun v => ¬ P v.1 v.2.1 v.2.2.1 v.2.2.2.1 v.2.2.2.2.1 v.2.2.2.2.2.1 v.2.2.2.2.2.2.1 v.2.2.2.2.2.2.2.1 v.2.2.2.2.2.2.2.2.1 v.2.2.2.2.2.2.2.2.2.1 v.2.2.2.2.2.2.2.2.2.2.1 v.2.2.2.2.2.2.2.2.2.2.2.1 v.2.2.2.2.2.2.2.2.2.2.2.2.1 v.2.2.2.2.2.2.2.2.2.2.2.2.2.1 v.2.2.2.2.2.2.2.2.2.2.2.2.2.2.1 v.2.2.2.2.2.2.2.2.2.2.2.2.2.2.2.1 v.2.2.2.2.2.2.2.2.2.2.2.2.2.2.2.2.1 v.2.2.2.2.2.2.2.2.2.2.2.2.2.2.2.2.2
theorem wall18 {α0 α1 α2 α3 α4 α5 α6 α7 α8 α9 α10 α11 α12 α13 α14 α15 α16 α17 : Type} {P : α0 → α1 → α2 → α3 → α4 → α5 → α6 → α7 → α8 → α9 → α10 → α11 → α12 → α13 → α14 → α15 → α16 → α17 → Prop} (ne : Nonempty (α0 × α1 × α2 × α3 × α4 × α5 × α6 × α7 × α8 × α9 × α10 × α11 × α12 × α13 × α14 × α15 × α16 × α17)) (h : P (k0 (w18 ne P).1) (k1 (w18 ne P).2.1) (k2 (w18 ne P).2.2.1) (k3 (w18 ne P).2.2.2.1) (k4 (w18 ne P).2.2.2.2.1) (k5 (w18 ne P).2.2.2.2.2.1) (k6 (w18 ne P).2.2.2.2.2.2.1) (k7 (w18 ne P).2.2.2.2.2.2.2.1) (k8 (w18 ne P).2.2.2.2.2.2.2.2.1) (k9 (w18 ne P).2.2.2.2.2.2.2.2.2.1) (k10 (w18 ne P).2.2.2.2.2.2.2.2.2.2.1) (k11 (w18 ne P).2.2.2.2.2.2.2.2.2.2.2.1) (k12 (w18 ne P).2.2.2.2.2.2.2.2.2.2.2.2.1) (k13 (w18 ne P).2.2.2.2.2.2.2.2.2.2.2.2.2.1) (k14 (w18 ne P).2.2.2.2.2.2.2.2.2.2.2.2.2.2.1) (k15 (w18 ne P).2.2.2.2.2.2.2.2.2.2.2.2.2.2.2.1) (k16 (w18 ne P).2.2.2.2.2.2.2.2.2.2.2.2.2.2.2.2.1) (k17 (w18 ne P).2.2.2.2.2.2.2.2.2.2.2.2.2.2.2.2.2)) (x0 : α0) (x1 : α1) (x2 : α2) (x3 : α3) (x4 : α4) (x5 : α5) (x6 : α6) (x7 : α7) (x8 : α8) (x9 : α9) (x10 : α10) (x11 : α11) (x12 : α12) (x13 : α13) (x14 : α14) (x15 : α15) (x16 : α16) (x17 : α17) : P x0 x1 x2 x3 x4 x5 x6 x7 x8 x9 x10 x11 x12 x13 x14 x15 x16 x17 :=
  Classical.byContradiction fun hx => (@Classical.epsilon_spec _ (fun v : α0 × α1 × α2 × α3 × α4 × α5 × α6 × α7 × α8 × α9 × α10 × α11 × α12 × α13 × α14 × α15 × α16 × α17 => ¬ P v.1 v.2.1 v.2.2.1 v.2.2.2.1 v.2.2.2.2.1 v.2.2.2.2.2.1 v.2.2.2.2.2.2.1 v.2.2.2.2.2.2.2.1 v.2.2.2.2.2.2.2.2.1 v.2.2.2.2.2.2.2.2.2.1 v.2.2.2.2.2.2.2.2.2.2.1 v.2.2.2.2.2.2.2.2.2.2.2.1 v.2.2.2.2.2.2.2.2.2.2.2.2.1 v.2.2.2.2.2.2.2.2.2.2.2.2.2.1 v.2.2.2.2.2.2.2.2.2.2.2.2.2.2.1 v.2.2.2.2.2.2.2.2.2.2.2.2.2.2.2.1 v.2.2.2.2.2.2.2.2.2.2.2.2.2.2.2.2.1 v.2.2.2.2.2.2.2.2.2.2.2.2.2.2.2.2.2) ⟨(x0, x1, x2, x3, x4, x5, x6, x7, x8, x9, x10, x11, x12, x13, x14, x15, x16, x17), hx⟩) h
noncomputable def w22 {α0 α1 α2 α3 α4 α5 α6 α7 α8 α9 α10 α11 α12 α13 α14 α15 α16 α17 α18 α19 α20 α21 : Type} (ne : Nonempty (α0 × α1 × α2 × α3 × α4 × α5 × α6 × α7 × α8 × α9 × α10 × α11 × α12 × α13 × α14 × α15 × α16 × α17 × α18 × α19 × α20 × α21)) (P : α0 → α1 → α2 → α3 → α4 → α5 → α6 → α7 → α8 → α9 → α10 → α11 → α12 → α13 → α14 → α15 → α16 → α17 → α18 → α19 → α20 → α21 → Prop) : α0 × α1 × α2 × α3 × α4 × α5 × α6 × α7 × α8 × α9 × α10 × α11 × α12 × α13 × α14 × α15 × α16 × α17 × α18 × α19 × α20 × α21 := @Classical.epsilon _ ne fun v => ¬ P v.1 v.2.1 v.2.2.1 v.2.2.2.1 v.2.2.2.2.1 v.2.2.2.2.2.1 v.2.2.2.2.2.2.1 v.2.2.2.2.2.2.2.1 v.2.2.2.2.2.2.2.2.1 v.2.2.2.2.2.2.2.2.2.1 v.2.2.2.2.2.2.2.2.2.2.1 v.2.2.2.2.2.2.2.2.2.2.2.1 v.2.2.2.2.2.2.2.2.2.2.2.2.1 v.2.2.2.2.2.2.2.2.2.2.2.2.2.1 v.2.2.2.2.2.2.2.2.2.2.2.2.2.2.1 v.2.2.2.2.2.2.2.2.2.2.2.2.2.2.2.1 v.2.2.2.2.2.2.2.2.2.2.2.2.2.2.2.2.1 v.2.2.2.2.2.2.2.2.2.2.2.2.2.2.2.2.2.1 v.2.2.2.2.2.2.2.2.2.2.2.2.2.2.2.2.2.2.1 v.2.2.2.2.2.2.2.2.2.2.2.2.2.2.2.2.2.2.2.1 v.2.2.2.2.2.2.2.2.2.2.2.2.2.2.2.2.2.2.2.2.1 v.2.2.2.2.2.2.2.2.2.2.2.2.2.2.2.2.2.2.2.2.2
theorem wall22 {α0 α1 α2 α3 α4 α5 α6 α7 α8 α9 α10 α11 α12 α13 α14 α15 α16 α17 α18 α19 α20 α21 : Type} {P : α0 → α1 → α2 → α3 → α4 → α5 → α6 → α7 → α8 → α9 → α10 → α11 → α12 → α13 → α14 → α15 → α16 → α17 → α18 → α19 → α20 → α21 → Prop} (ne : Nonempty (α0 × α1 × α2 × α3 × α4 × α5 × α6 × α7 × α8 × α9 × α10 × α11 × α12 × α13 × α14 × α15 × α16 × α17 × α18 × α19 × α20 × α21)) (h : P (k0 (w22 ne P).1) (k1 (w22 ne P).2.1) (k2 (w22 ne P).2.2.1) (k3 (w22 ne P).2.2.2.1) (k4 (w22 ne P).2.2.2.2.1) (k5 (w22 ne P).2.2.2.2.2.1) (k6 (w22 ne P).2.2.2.2.2.2.1) (k7 (w22 ne P).2.2.2.2.2.2.2.1) (k8 (w22 ne P).2.2.2.2.2.2.2.2.1) (k9 (w22 ne P).2.2.2.2.2.2.2.2.2.1) (k10 (w22 ne P).2.2.2.2.2.2.2.2.2.2.1) (k11 (w22 ne P).2.2.2.2.2.2.2.2.2.2.2.1) (k12 (w22 ne P).2.2.2.2.2.2.2.2.2.2.2.2.1) (k13 (w22 ne P).2.2.2.2.2.2.2.2.2.2.2.2.2.1) (k14 (w22 ne P).2.2.2.2.2.2.2.2.2.2.2.2.2.2.1) (k15 (w22 ne P).2.2.2.2.2.2.2.2.2.2.2.2.2.2.2.1) (k16 (w22 ne P).2.2.2.2.2.2.2.2.2.2.2.2.2.2.2.2.1) (k17 (w22 ne P).2.2.2.2.2.2.2.2.2.2.2.2.2.2.2.2.2.1) (k18 (w22 ne P).2.2.2.2.2.2.2.2.2.2.2.2.2.2.2.2.2.2.1) (k19 (w22 ne P).2.2.2.2.2.2.2.2.2.2.2.2.2.2.2.2.2.2.2.1) (k20 (w22 ne P).2.2.2.2.2.2.2.2.2.2.2.2.2.2.2.2.2.2.2.2.1) (k21 (w22 ne P).2.2.2.2.2.2.2.2.2.2.2.2.2.2.2.2.2.2.2.2.2)) (x0 : α0) (x1 : α1) (x2 : α2) (x3 : α3) (x4 : α4) (x5 : α5) (x6 : α6) (x7 : α7) (x8 : α8) (x9 : α9) (x10 : α10) (x11 : α11) (x12 : α12) (x13 : α13) (x14 : α14) (x15 : α15) (x16 : α16) (x17 : α17) (x18 : α18) (x19 : α19) (x20 : α20) (x21 : α21) : P x0 x1 x2 x3 x4 x5 x6 x7 x8 x9 x10 x11 x12 x13 x14 x15 x16 x17 x18 x19 x20 x21 :=
  Classical.byContradiction fun hx => (@Classical.epsilon_spec _ (fun v : α0 × α1 × α2 × α3 × α4 × α5 × α6 × α7 × α8 × α9 × α10 × α11 × α12 × α13 × α14 × α15 × α16 × α17 × α18 × α19 × α20 × α21 => ¬ P v.1 v.2.1 v.2.2.1 v.2.2.2.1 v.2.2.2.2.1 v.2.2.2.2.2.1 v.2.2.2.2.2.2.1 v.2.2.2.2.2.2.2.1 v.2.2.2.2.2.2.2.2.1 v.2.2.2.2.2.2.2.2.2.1 v.2.2.2.2.2.2.2.2.2.2.1 v.2.2.2.2.2.2.2.2.2.2.2.1 v.2.2.2.2.2.2.2.2.2.2.2.2.1 v.2.2.2.2.2.2.2.2.2.2.2.2.2.1 v.2.2.2.2.2.2.2.2.2.2.2.2.2.2.1 v.2.2.2.2.2.2.2.2.2.2.2.2.2.2.2.1 v.2.2.2.2.2.2.2.2.2.2.2.2.2.2.2.2.1 v.2.2.2.2.2.2.2.2.2.2.2.2.2.2.2.2.2.1 v.2.2.2.2.2.2.2.2.2.2.2.2.2.2.2.2.2.2.1 v.2.2.2.2.2.2.2.2.2.2.2.2.2.2.2.2.2.2.2.1 v.2.2.2.2.2.2.2.2.2.2.2.2.2.2.2.2.2.2.2.2.1 v.2.2.2.2.2.2.2.2.2.2.2.2.2.2.2.2.2.2.2.2.2) ⟨(x0, x1, x2, x3, x4, x5, x6, x7, x8, x9, x10, x11, x12, x13, x14, x15, x16, x17, x18, x19, x20, x21), hx⟩) h
noncomputable def wN (P : Nat → Prop) : Nat := @Classical.epsilon Nat ⟨0⟩ fun x => ¬ P x
theorem wallN {P : Nat → Prop} (h : P (wN P)) (x : Nat) : P x :=
  Classical.byContradiction fun hx => (@Classical.epsilon_spec Nat (fun x => ¬ P x) ⟨x, hx⟩) h
set_option hygiene false in
local macro_rules | `(tactic| walk_at "ne") => `(tactic| (repeat (first | exact neW | exact neS | exact neA | exact neI | exact neX | exact neL | exact inferInstance | refine neP ?_ ?_)))
set_option hygiene false in
local macro_rules | `(tactic| walk_at "tk") => `(tactic| (clear S; intro t s S))
/-! the steps -/
/-! the rules once more, what stays the same ahead of what changes (small terms) -/
theorem ld' {w : World} {s₁ : Shared} {F : List Addr} {A : Around} {E : Value → Shared → Prop} {M : Model} {sc : Scope} {L g : Addr} {cs : List (Str × Addr)} {q : Str} {fn : Option Addr} {cd : Value} {fr : Option Addr} {b : Addr} {x : Str} (hk : sc.kind = .function) (hl : Env.kindOf ⟨sc, L, g, cs, q, fn, cd, fr, b⟩ x = some .local) (hd : (x == ("__debug__" : Str)) = false)
    {m : List (Str × Value)} {led : Led} (hm : (L, Cell.ns m) ∈ led) {v : Value} (hv : (x, v) ∈ m) {pos : Pos} {Q : Value → Shared → Prop} {s : Shared} (S : St w s₁ F led s) (h : Q v s) :
    wpAny M A (eval (.Name x pos) ⟨sc, L, g, cs, q, fn, cd, fr, b⟩) Q E s := ld S hm hv h hk hl hd
theorem gl' {w : World} {s₁ : Shared} {F : List Addr} {A : Around} {E : Value → Shared → Prop} (B : Base w s₁) {M : Model} {sc : Scope} {L g : Addr} {cs : List (Str × Addr)} {q : Str} {fn : Option Addr} {cd : Value} {fr : Option Addr} {b : Addr} {x : Str} {v : Value} (e : nsIn (hd.heap_1 w.params) mainGlobals x = some (some v))
    (hk : sc.kind = .function) (hx : Env.kindOf ⟨sc, L, g, cs, q, fn, cd, fr, b⟩ x = some .globalImplicit) (hg : g = mainGlobals) (hd : (x == ("__debug__" : Str)) = false) {pos : Pos} {led : Led} {Q : Value → Shared → Prop} {s : Shared} (S : St w s₁ F led s) (h : Q v s) :
    wpAny M A (eval (.Name x pos) ⟨sc, L, g, cs, q, fn, cd, fr, b⟩) Q E s := gl B S e h hk hx hg hd
theorem bl' {w : World} {s₁ : Shared} {F : List Addr} {A : Around} {E : Value → Shared → Prop} (B : Base w s₁) {M : Model} {sc : Scope} {L g : Addr} {cs : List (Str × Addr)} {q : Str} {fn : Option Addr} {cd : Value} {fr : Option Addr} {b : Addr} {x : Str} {v : Value} (e : nsIn (hd.heap_1 w.params) mainGlobals x = some none) (hv : bootBuiltins x = some v)
    (hk : sc.kind = .function) (hx : Env.kindOf ⟨sc, L, g, cs, q, fn, cd, fr, b⟩ x = some .globalImplicit) (hg : g = mainGlobals) (hb : b = builtinsNs) (hd : (x == ("__debug__" : Str)) = false) (hn : (x == ("__name__" : Str)) = false) {pos : Pos} {led : Led} {Q : Value → Shared → Prop} {s : Shared} (S : St w s₁ F led s) (h : Q v s) :
    wpAny M A (eval (.Name x pos) ⟨sc, L, g, cs, q, fn, cd, fr, b⟩) Q E s := bl B S e hv h hk hx hg hb hd hn
theorem st_old' {w : World} {s₁ : Shared} {F : List Addr} {A : Around} {E : Value → Shared → Prop} (B : Base w s₁) {M : Model} {sc : Scope} {L g : Addr} {cs : List (Str × Addr)} {q : Str} {fn : Option Addr} {cd : Value} {fr : Option Addr} {b : Addr} {x : Str} (hk : sc.kind = .function) (hl : Env.kindOf ⟨sc, L, g, cs, q, fn, cd, fr, b⟩ x = some .local)
    {m m' : List (Str × Value)} {led led' : Led} {v : Value} (hm : Upd led L (Cell.ns m) (Cell.ns m') led') (hp : PutR m x v m') {Q : Unit → Shared → Prop} {s : Shared} (S : St w s₁ F led s) (h : ∀ s', St w s₁ F led' s' → Q () s') :
    wpAny M A (storeName ⟨sc, L, g, cs, q, fn, cd, fr, b⟩ x v) Q E s := st_old B S hm hp h hk hl
theorem st_new' {w : World} {s₁ : Shared} {F : List Addr} {A : Around} {E : Value → Shared → Prop} (B : Base w s₁) {M : Model} {sc : Scope} {L g : Addr} {cs : List (Str × Addr)} {q : Str} {fn : Option Addr} {cd : Value} {fr : Option Addr} {b : Addr} {x : Str} (hk : sc.kind = .function) (hl : Env.kindOf ⟨sc, L, g, cs, q, fn, cd, fr, b⟩ x = some .local)
    {m : List (Str × Value)} {led led' : Led} {v : Value} (hm : Upd led L (Cell.ns m) (Cell.ns ((x, v) :: m)) led') (hf : fresh m x = true) {Q : Unit → Shared → Prop} {s : Shared} (S : St w s₁ F led s) (h : ∀ s', St w s₁ F led' s' → Q () s') :
    wpAny M A (storeName ⟨sc, L, g, cs, q, fn, cd, fr, b⟩ x v) Q E s := st_new B S hm h hf hk hl
theorem a_val' {w : World} {s₁ : Shared} {F : List Addr} {A : Around} {E : Value → Shared → Prop} (B : Base w s₁) {x C d : Addr} {led : Led} (hx : (x, Cell.inst C d) ∈ led) {l : List (Str × Value)} (hdl : (d, Cell.sd l) ∈ led) {name : Str}
    (hga : findIn (hd.heap_1 w.params) (.ref C) "__getattribute__" = some (some (.builtin "object.__getattribute__")))
    (hc : (clsIn (hd.heap_1 w.params) C).any (·.hasDict) = true) (hn : findIn (hd.heap_1 w.params) (.ref C) name = some none) {v : Value} (hv : (name, v) ∈ l) (hh : handedIn v = true)
    {expr : Bool} {Q : Value → Shared → Prop} {s : Shared} (S : St w s₁ F led s) (h : ∀ s', St w s₁ F led s' → Q v s') :
    wpAny (model PR w) A (getAttr (.ref x) name expr) Q E s := a_val B S hx hdl hv h hga hc hn hh
theorem i_const' {w : World} {s₁ : Shared} {F : List Addr} {A : Around} {E : Value → Shared → Prop} {M : Model} {env : Env} {led : Led} {i : Int} {k : Nat} {pos : Pos} {Q : Value → Shared → Prop} {s : Shared} (S : St w s₁ F led s) (h : ∀ t s', St w s₁ F led s' → Q (.int i t) s') :
    wpAny M A (eval (.Constant (.int i) k pos) env) Q E s := i_const S h
theorem s_const' {w : World} {s₁ : Shared} {F : List Addr} {A : Around} {E : Value → Shared → Prop} {M : Model} {env : Env} {led : Led} {x : Str} {k : Nat} {pos : Pos} {Q : Value → Shared → Prop} {s : Shared} (S : St w s₁ F led s) (h : ∀ t s', St w s₁ F led s' → Q (.str x t) s') :
    wpAny M A (eval (.Constant (.str x) k pos) env) Q E s := s_const S h
set_option hygiene false in
local macro_rules | `(tactic| walk_at "mem") => `(tactic| ((with_reducible (repeat (first | apply List.mem_cons_self | apply List.mem_cons_of_mem))); done))
set_option hygiene false in
local macro_rules | `(tactic| walk_at "mema") => `(tactic| ((with_reducible (repeat (first | assumption | apply List.mem_cons_self | apply List.mem_cons_of_mem))); done))
set_option hygiene false in
local macro_rules | `(tactic| walk_at "upd") => `(tactic| ((with_reducible (repeat (first | apply Upd.here | apply Upd.there))); done))
set_option hygiene false in
local macro_rules | `(tactic| walk_at "put") => `(tactic| ((with_reducible (repeat (first | apply PutR.here | apply PutR.there))); done))
set_option hygiene false in
local macro_rules | `(tactic| walk_at "pull") => `(tactic| ((with_reducible (repeat (first | apply Pull.here | apply Pull.there))); done))
set_option hygiene false in
local macro_rules | `(tactic| walk_at "sub") => `(tactic| ((with_reducible (repeat (first | exact SubL.nil | refine SubL.cons (by walk_at "mem") ?_))); done))
set_option hygiene false in
local macro_rules | `(tactic| walk_at "go") => `(tactic| with_reducible (first
  | ((fail_if_success (fail_if_success refine g_name ?_)); first
      | refine ld' (by rfl) (by kernel_rfl) (by kernel_rfl) (by walk_at "mem") (by walk_at "mem") S ?_
      | refine gl' B (by k_is) (by rfl) (by kernel_rfl) (by rfl) (by kernel_rfl) S ?_
      | refine bl' (x := "len") (v := .builtin "len") B (by k_is) (by kernel_rfl) (by rfl) (by kernel_rfl) (by rfl) (by rfl) (by kernel_rfl) (by kernel_rfl) S ?_
      | refine bl' (x := "ord") (v := .builtin "ord") B (by k_is) (by kernel_rfl) (by rfl) (by kernel_rfl) (by rfl) (by rfl) (by kernel_rfl) (by kernel_rfl) S ?_
      | refine bl' (x := "chr") (v := .builtin "chr") B (by k_is) (by kernel_rfl) (by rfl) (by kernel_rfl) (by rfl) (by rfl) (by kernel_rfl) (by kernel_rfl) S ?_
      | refine bl' (x := "range") (v := .type "range") B (by k_is) (by kernel_rfl) (by rfl) (by kernel_rfl) (by rfl) (by rfl) (by kernel_rfl) (by kernel_rfl) S ?_
      | refine bl' (x := "bytes") (v := .type "bytes") B (by k_is) (by kernel_rfl) (by rfl) (by kernel_rfl) (by rfl) (by rfl) (by kernel_rfl) (by kernel_rfl) S ?_
      | refine bl' (x := "bytearray") (v := .type "bytearray") B (by k_is) (by kernel_rfl) (by rfl) (by kernel_rfl) (by rfl) (by rfl) (by kernel_rfl) (by kernel_rfl) S ?_
      | refine bl' (x := "min") (v := .builtin "min") B (by k_is) (by kernel_rfl) (by rfl) (by kernel_rfl) (by rfl) (by rfl) (by kernel_rfl) (by kernel_rfl) S ?_
      | refine bl' (x := "list") (v := .type "list") B (by k_is) (by kernel_rfl) (by rfl) (by kernel_rfl) (by rfl) (by rfl) (by kernel_rfl) (by kernel_rfl) S ?_
      | refine bl' (x := "isinstance") (v := .builtin "isinstance") B (by k_is) (by kernel_rfl) (by rfl) (by kernel_rfl) (by rfl) (by rfl) (by kernel_rfl) (by kernel_rfl) S ?_
      | refine bl' (x := "type") (v := .type "type") B (by k_is) (by kernel_rfl) (by rfl) (by kernel_rfl) (by rfl) (by rfl) (by kernel_rfl) (by kernel_rfl) S ?_
      | refine bl' (x := "int") (v := .type "int") B (by k_is) (by kernel_rfl) (by rfl) (by kernel_rfl) (by rfl) (by rfl) (by kernel_rfl) (by kernel_rfl) S ?_
      | refine bl' (x := "bool") (v := .type "bool") B (by k_is) (by kernel_rfl) (by rfl) (by kernel_rfl) (by rfl) (by rfl) (by kernel_rfl) (by kernel_rfl) S ?_
      | refine bl' (x := "str") (v := .type "str") B (by k_is) (by kernel_rfl) (by rfl) (by kernel_rfl) (by rfl) (by rfl) (by kernel_rfl) (by kernel_rfl) S ?_
      | refine bl' (x := "StopIteration") (v := .type "StopIteration") B (by k_is) (by kernel_rfl) (by rfl) (by kernel_rfl) (by rfl) (by rfl) (by kernel_rfl) (by kernel_rfl) S ?_
      )
  | ((fail_if_success (fail_if_success refine g_const ?_)); first
      | (refine i_const' S ?_; walk_at "tk")
      | (refine s_const' S ?_; walk_at "tk")
      | refine n_const ?_
      | refine b_const ?_)
  | ((fail_if_success (fail_if_success refine g_eval ?_)); first
      | refine Attribute_name ?_
      | refine wpAny_Call_Name_kw ?_
      | refine c_attr ?_
      | refine Subscript_ ?_
      | refine wpAny_BinOp ?_
      | refine wpAny_UnaryOp ?_
      | refine x_slice (w := w) (s₁ := s₁) ?_
      | refine x_tup2 (w := w) (s₁ := s₁) ?_)
  | ((fail_if_success (fail_if_success refine g_exec ?_)); first
      | refine wpAny_Assign_Name ?_ (by kernel_rfl)
      | refine plainObj_wpAny_Assign_Attribute ?_ (by kernel_rfl)
      | refine wpAny_Assign_Subscript ?_ (by kernel_rfl)
      | refine wpAny_Return_some ?_
      | refine wpAny_AugAssign_AttributeAny ?_
      | refine wpAny_Continue ?_
      | refine wpAny_Break ?_
      | refine wpAny_Expr_any ?_ (by kernel_rfl) (by kernel_rfl))
  | ((fail_if_success (fail_if_success refine g_store ?_)); first
      | (refine st_old' B (by rfl) (by kernel_rfl) (by walk_at "upd") (by walk_at "put") S ?_; clear S; intro s S)
      | (refine st_new' B (by rfl) (by kernel_rfl) (by walk_at "upd") (by kernel_rfl) S ?_; clear S; intro s S))
  | ((fail_if_success (fail_if_success refine g_get ?_)); (refine a_val' B (by walk_at "mem") (by walk_at "mem") (by kernel_rfl) (by kernel_rfl) (by kernel_rfl) (by walk_at "mem") (by kernel_rfl) S ?_; clear S; intro s S))
  | ((fail_if_success (fail_if_success refine g_set ?_)); first
      | (refine a_set B S (by walk_at "mem") (by walk_at "upd") (.inl (by walk_at "put")) (Nat.le_of_ble_eq_true (by kernel_rfl)) ?_; clear S; intro s S)
      | (refine a_set B S (by walk_at "mem") (by walk_at "upd") (.inr ⟨rfl, by kernel_rfl⟩) (Nat.le_of_ble_eq_true (by kernel_rfl)) ?_; clear S; intro s S))
  | ((fail_if_success (fail_if_success refine g_test ?_)); first
      | refine wpAny_isTrue_Compare1 ?_ (by kernel_rfl)
      | refine t_and ?_
      | refine t_or ?_
      | refine t_and0 ?_
      | refine t_or0 ?_
      | refine isTrue_not ?_
      | refine t_name ?_
      | refine t_attr ?_
      | refine t_call ?_
      | refine t_constb ?_)
  | ((fail_if_success (fail_if_success refine g_truthy ?_)); first
      | (refine s_true false S (by decide +kernel) (by decide +kernel) ?_; clear S; intro s S)
      | (refine s_true true S (by decide +kernel) (by decide +kernel) ?_; clear S; intro s S)
      | refine wpAny_truthy_bool ?_
      | refine n_true ?_
      | refine i_true false (by decide +kernel) ?_
      | refine i_true true (by decide +kernel) ?_)
  | ((fail_if_success (fail_if_success refine g_cmp ?_)); first
      | refine is_sn ?_
      | refine is_nn ?_
      | refine is_in ?_
      | refine isn_sn ?_
      | refine isn_nn ?_
      | refine isn_in ?_
      | refine s_eq false (by decide +kernel) ?_
      | refine s_eq true (by decide +kernel) ?_
      | refine s_ne false (by decide +kernel) ?_
      | refine s_ne true (by decide +kernel) ?_
      | refine s_in false (by decide +kernel) ?_
      | refine s_in true (by decide +kernel) ?_
      | refine s_nin false (by decide +kernel) ?_
      | refine s_nin true (by decide +kernel) ?_
      | refine d_gt false (by decide +kernel) ?_
      | refine d_gt true (by decide +kernel) ?_
      | refine d_lt false (by decide +kernel) ?_
      | refine d_lt true (by decide +kernel) ?_
      | refine d_ge false (by decide +kernel) ?_
      | refine d_ge true (by decide +kernel) ?_
      | refine d_le false (by decide +kernel) ?_
      | refine d_le true (by decide +kernel) ?_
      | refine d_eq false (by decide +kernel) ?_
      | refine d_eq true (by decide +kernel) ?_
      | refine gt_int ?_
      | refine lt_int ?_
      | refine ge_int ?_
      | refine le_int ?_
      | refine eq_int ?_
      | refine ne_int ?_)
  | ((fail_if_success (fail_if_success refine g_bin ?_)); first
      | (refine i_add S ?_; walk_at "tk")
      | (refine i_sub S ?_; walk_at "tk")
      | (refine i_shr S (by decide) ?_; walk_at "tk"))
  | refine x_cons ?_
  | refine x_nil ?_
  | refine kseq_next ?_
  | refine kseq_ret ?_
  | refine kseq_brk ?_
  | refine kseq_cont ?_
  | refine kloop_brk ?_
  | refine kret_ret ?_
  | refine kret_next ?_
  | refine b_true ?_
  | refine b_false ?_
  | refine b_nf ?_
  | refine b_nt ?_
  | (refine i_neg S ?_; walk_at "tk")))
set_option hygiene false in
local macro_rules | `(tactic| walk_at "gox") => `(tactic| first | walk_at "go" | with_reducible refine x_if ?_)
/-! MS -/
theorem fill {w : World} {h : Heap} : (hd.heap_1 w.params).In h → PySem.Challenge.rw_oh0077_01 = PySem.Challenge.rw_oh0077_01 → True := by
  k_fill
  intro _ _; trivial

noncomputable def sd (its : List It) (new : It) (pos : Nat) : List It :=
  if h : pos = 0 then its.set 0 new else
    match its[(pos - 1) / 2]? with
    | some p => if new.lt p then sd (its.set pos p) new ((pos - 1) / 2) else its.set pos new
    | none => its.set pos new
termination_by pos
decreasing_by lia

theorem mem_set {α : Type} {l : List α} {i : Nat} {a x : α} (h : x ∈ l.set i a) : x ∈ l ∨ x = a := List.mem_or_eq_of_mem_set h

theorem map_at {its : List It} {k : Nat} (hk : k < its.length) : (its.map It.v)[((k : Nat) : Int).toNat]? = some (its[k]).v := by
  rw [Int.toNat_natCast, List.getElem?_map, List.getElem?_eq_getElem hk]; rfl
theorem map_set {its : List It} {k : Nat} {i : It} : (its.set k i).map It.v = (its.map It.v).set ((k : Nat) : Int).toNat i.v := by
  rw [Int.toNat_natCast, List.map_set]
theorem siftdown_spec {w : World} {s₁ s : Shared} {F : List Addr} {R : Led} {A : Around} {fs : List Env} {E : Value → Shared → Prop} {Q : Value → Shared → Prop} {hp : Addr} {its : List It} {new : It} {pos : Nat} {t0 t1 : Tok}
    (B : Base w s₁) (hA : Ar A fs 3) (S : St w s₁ F ((hp, Cell.list (its.map It.v)) :: R) s) (hR : ∀ i ∈ its, i.e ∈ R) (hpos : its[pos]? = some new) (hlen : its.length < 2 ^ 60)
    (h : ∀ s', St w s₁ F ((hp, Cell.list ((sd its new pos).map It.v)) :: R) s' → Q .none s') :
    wpAny (model PR w) A (call (.ref 787) [.ref hp, .int 0 t0, .int pos t1]) Q E s := by
  revert w s₁ s F R A fs E Q hp its new pos t0 t1
  refine @pad _ ?_
  refine @wall16 _ _ _ _ _ _ _ _ _ _ _ _ _ _ _ _ _ (by walk_at "ne") ?_
  generalize k1 _ = w, k2 _ = s₁, k3 _ = s, k4 _ = F, k5 _ = R, k6 _ = A, k7 _ = fs, k8 _ = E, k9 _ = Q, k10 _ = hp, k11 _ = its, k12 _ = new, k13 _ = pos, k14 _ = t0, k15 _ = t1
  intro B hA S hR hpos hlen h
  have hlp := (List.getElem?_eq_some_iff.mp hpos).1
  have hnew : new.e ∈ R := hR _ (List.mem_of_getElem? hpos)
  with_reducible refine enter (m := [("pos", .int pos t1), ("startpos", .int 0 t0), ("heap", .ref hp)]) B S (by k_is) (hA.room) (bindsK B S (by kernel_rfl)) ?_ (by kernel_rfl) (by kernel_rfl)
  clear S
  refine @wallN _ ?_
  generalize wN _ = L
  intro s hL S
  have hA' := hA.deeper
  walk_at "go"
  walk_at "go"
  walk_at "go"
  walk_at "go"
  walk_at "go"
  with_reducible refine l_get S (by walk_at "mem") (by lia) (by lia) (v := new.v) (by rw [map_at hlp, (List.getElem?_eq_some_iff.mp hpos).2]) ?_
  walk_at "go"
  walk_at "go"
  walk_at "go"
  with_reducible refine x_while (fun n s => ∃ (its' : List It) (t : Tok), its'.length = its.length ∧ (∀ i ∈ its', i.e ∈ R) ∧ n < its.length ∧ sd its' new n = sd its new pos ∧
      St w s₁ (L :: F) ((L, Cell.ns [("newitem", new.v), ("pos", .int n t), ("startpos", .int 0 t0), ("heap", .ref hp)]) :: (hp, Cell.list (its'.map It.v)) :: R) s) pos ⟨its, t1, rfl, hR, hlp, rfl, S⟩ ?_
  clear S hpos
  repeat clear S
  rintro n s ⟨its', t, hl', hR', hn, hsd, S⟩
  revert n s its' t
  refine @wall4 _ _ _ _ _ (by walk_at "ne") ?_
  generalize k0 _ = n, k1 _ = s, k2 _ = its', k3 _ = t
  set_option tactic.hygienic false in intros
  rename St _ _ _ _ s => S
  repeat walk_at "go"
  refine ⟨fun hb => ?_, fun hb => ?_⟩
  · have hb := of_decide_eq_true hb
    have hn0 : ¬ n = 0 := by lia
    have hk : (n - 1) / 2 < its'.length := by lia
    have e1 : Int.fdiv ((n : Int) - 1) (2 ^ (1 : Int).toNat) = (((n - 1) / 2 : Nat) : Int) := by
      rw [Int.fdiv_eq_ediv_of_nonneg _ (by decide)]
      have : ((n : Int) - 1) = ((n - 1 : Nat) : Int) := by lia
      rw [this]; rfl
    repeat walk_at "go"
    rw [e1] at S ⊢
    with_reducible refine l_get S (by walk_at "mem") (by lia) (by lia) (map_at hk) ?_
    repeat walk_at "go"
    try with_reducible refine x_if ?_
    repeat walk_at "go"
    with_reducible refine t_lt S (hA' _).un (List.mem_cons_of_mem _ (List.mem_cons_of_mem _ hnew)) (List.mem_cons_of_mem _ (List.mem_cons_of_mem _ (hR' _ (List.getElem_mem hk)))) ?_
    walk_at "go"
    rw [sd, dif_neg hn0, List.getElem?_eq_getElem hk] at hsd
    dsimp only at hsd
    refine ⟨fun hlt => ?_, fun hlt => ?_⟩
    · rw [if_pos hlt] at hsd
      repeat walk_at "go"
      with_reducible refine l_set B S (vs' := (its'.set n (its'[(n - 1) / 2])).map It.v) (by walk_at "upd") (by lia) (by lia) (by simp; lia) map_set ?_
      clear S; intro s S
      repeat walk_at "go"
      with_reducible refine kloop_cont ⟨(n - 1) / 2, by lia, its'.set n (its'[(n - 1) / 2]), t, by simp [hl'], fun i hi => ?_, by lia, hsd, S.names (by walk_at "upd") (by walk_at "sub") (nodup_of (by kernel_rfl))⟩
      rcases mem_set hi with hi | rfl
      · exact hR' i hi
      · exact hR' _ (List.getElem_mem hk)
    · rw [if_neg (by rw [hlt]; decide)] at hsd
      repeat walk_at "go"
      with_reducible refine l_set B S (vs' := (its'.set n new).map It.v) (by walk_at "upd") (by lia) (by lia) (by simp; lia) map_set ?_
      clear S; intro s S
      repeat walk_at "go"
      rw [hsd] at S
      exact h _ (S.unframe (by walk_at "pull"))
  · have hn0 : n = 0 := by have := of_decide_eq_false hb; lia
    rw [sd, dif_pos hn0] at hsd
    subst hn0
    repeat walk_at "go"
    with_reducible refine l_set B S (vs' := (its'.set 0 new).map It.v) (by walk_at "upd") (by lia) (by lia) (by simp; lia) map_set ?_
    clear S; intro s S
    repeat walk_at "go"
    rw [hsd] at S
    exact h _ (S.unframe (by walk_at "pull"))
/-! MH -/

theorem at_eq {its : List It} {k : Int} {n : Nat} (h : k = (n : Nat)) (hn : n < its.length) : (its.map It.v)[k.toNat]? = some (its[n]).v := by
  subst h; exact map_at hn
noncomputable def pickC (its : List It) (c : Nat) : Nat := match its[c]?, its[c + 1]? with
  | some x, some y => if x.lt y then c else c + 1
  | _, _ => c
theorem pickC_le (its : List It) (c : Nat) : c ≤ pickC its c := by
  unfold pickC; split <;> (try split) <;> lia
theorem pickC_lt {its : List It} {c : Nat} (h : c < its.length) : pickC its c < its.length := by
  unfold pickC; split
  · rename_i y h1 h2
    have := (List.getElem?_eq_some_iff.mp h2).1
    split <;> lia
  · exact h
noncomputable def suGo (its : List It) (pos : Nat) : List It × Nat :=
  if h : 2 * pos + 1 < its.length then
    suGo (its.set pos (its[pickC its (2 * pos + 1)]'(pickC_lt h))) (pickC its (2 * pos + 1))
  else (its, pos)
termination_by its.length - pos
decreasing_by
  have := pickC_le its (2 * pos + 1)
  rw [List.length_set]; lia
noncomputable def su (its : List It) (new : It) : List It := sd ((suGo its 0).1.set (suGo its 0).2 new) new (suGo its 0).2

theorem siftup_spec {w : World} {s₁ s : Shared} {F : List Addr} {R : Led} {A : Around} {fs : List Env} {E : Value → Shared → Prop} {Q : Value → Shared → Prop} {hp : Addr} {its : List It} {new : It} {t0 : Tok}
    (B : Base w s₁) (hA : Ar A fs 5) (S : St w s₁ F ((hp, Cell.list (its.map It.v)) :: R) s) (hR : ∀ i ∈ its, i.e ∈ R) (hpos : its[0]? = some new) (hlen : its.length < 2 ^ 59)
    (h : ∀ s', St w s₁ F ((hp, Cell.list ((su its new).map It.v)) :: R) s' → Q .none s') :
    wpAny (model PR w) A (call (.ref 794) [.ref hp, .int 0 t0]) Q E s := by
  revert w s₁ s F R A fs E Q hp its new t0
  refine @wall13 _ _ _ _ _ _ _ _ _ _ _ _ _ _ (by walk_at "ne") ?_
  generalize k0 _ = w, k1 _ = s₁, k2 _ = s, k3 _ = F, k4 _ = R, k5 _ = A, k6 _ = fs, k7 _ = E, k8 _ = Q, k9 _ = hp, k10 _ = its, k11 _ = new, k12 _ = t0
  intro B hA S hR hpos hlen h
  have hlp := (List.getElem?_eq_some_iff.mp hpos).1
  have hnew : new.e ∈ R := hR _ (List.mem_of_getElem? hpos)
  with_reducible refine enter (m := [("pos", .int 0 t0), ("heap", .ref hp)]) B S (by k_is) (hA.room) (bindsK B S (by kernel_rfl)) ?_ (by kernel_rfl) (by kernel_rfl)
  clear S
  refine @wallN _ ?_
  generalize wN _ = L
  intro s hL S
  have hA' := hA.deeper
  repeat walk_at "go"
  with_reducible refine cwb1 ?_
  repeat walk_at "go"
  with_reducible refine l_len S (by walk_at "mem") (by simp; lia) ?_
  clear S; intro tE s S
  revert tE s
  refine @wall2 _ _ _ (by walk_at "ne") ?_
  generalize k0 _ = tE, k1 _ = s
  set_option tactic.hygienic false in intros
  rename St _ _ _ _ s => S
  rw [List.length_map]
  repeat walk_at "go"
  with_reducible refine l_get S (by walk_at "mem") (by lia) (by lia) (v := new.v) (by rw [show (0 : Int) = ((0 : Nat) : Int) from rfl, map_at hlp, (List.getElem?_eq_some_iff.mp hpos).2]) ?_
  repeat walk_at "go"
  with_reducible refine i_mul S ?_ (IntMulOk.of_left (by decide +kernel))
  clear S; intro t s S
  repeat walk_at "go"
  with_reducible refine x_while (fun n s => ∃ (its' : List It) (pos : Nat) (t1 t2 : Tok), n = its'.length - pos ∧ its'.length = its.length ∧ (∀ i ∈ its', i.e ∈ R) ∧ pos < its.length ∧ suGo its' pos = suGo its 0 ∧
      St w s₁ (L :: F) ((L, Cell.ns [("childpos", .int (2 * pos + 1) t1), ("newitem", new.v), ("startpos", .int 0 t0), ("endpos", .int its.length tE), ("pos", .int pos t2), ("heap", .ref hp)]) :: (hp, Cell.list (its'.map It.v)) :: R) s) its.length ?_ ?_
  · exact ⟨its, 0, t, t0, rfl, rfl, hR, hlp, rfl, S⟩
  clear S hpos
  repeat clear S
  rintro n s ⟨its', pos, t1, t2, hn, hl', hR', hpos, hsu, S⟩
  revert n s its' pos t1 t2
  refine @wall6 _ _ _ _ _ _ _ (by walk_at "ne") ?_
  generalize k0 _ = n, k1 _ = s, k2 _ = its', k3 _ = pos, k4 _ = t1, k5 _ = t2
  set_option tactic.hygienic false in intros
  rename St _ _ _ _ s => S
  repeat walk_at "go"
  refine ⟨fun hb => ?_, fun hb => ?_⟩
  · have hb := of_decide_eq_true hb
    have hc : 2 * pos + 1 < its'.length := by lia
    rw [suGo, dif_pos hc] at hsu
    have hpc := pickC_lt hc
    have hpl := pickC_le its' (2 * pos + 1)
    obtain ⟨c', hpk⟩ : ∃ c', pickC its' (2 * pos + 1) = c' := ⟨_, rfl⟩
    simp only [hpk] at hsu hpc hpl
    repeat walk_at "go"
    with_reducible refine x_if_join (fun s => ∃ t3 t4, St w s₁ (L :: F) ((L, Cell.ns [("rightpos", .int (2 * pos + 1 + 1) t4), ("childpos", .int (c' : Nat) t3), ("newitem", new.v), ("startpos", .int 0 t0), ("endpos", .int its.length tE), ("pos", .int pos t2), ("heap", .ref hp)]) :: (hp, Cell.list (its'.map It.v)) :: R) s) ?_ ?_
    · repeat walk_at "go"
      refine ⟨fun hr => ?_, fun hr => ?_⟩
      · have hr := of_decide_eq_true hr
        have hd : 2 * pos + 1 + 1 < its'.length := by lia
        rw [pickC, List.getElem?_eq_getElem hc, List.getElem?_eq_getElem hd] at hpk
        dsimp only at hpk
        repeat walk_at "go"
        with_reducible refine l_get S (by walk_at "mem") (by lia) (by lia) (at_eq (n := 2 * pos + 1) (by lia) hc) ?_
        repeat walk_at "go"
        with_reducible refine l_get S (by walk_at "mem") (by lia) (by lia) (at_eq (n := 2 * pos + 1 + 1) (by lia) hd) ?_
        with_reducible refine t_lt S (hA' _).un (List.mem_cons_of_mem _ (List.mem_cons_of_mem _ (hR' _ (List.getElem_mem hc)))) (List.mem_cons_of_mem _ (List.mem_cons_of_mem _ (hR' _ (List.getElem_mem hd)))) ?_
        repeat walk_at "go"
        refine ⟨fun hx => ?_, fun hx => ?_⟩
        · rw [Bool.not_eq_true'] at hx
          rw [if_neg (by rw [hx]; decide)] at hpk
          repeat walk_at "go"
          subst hpk
          exact ⟨rfl, _, _, S⟩
        · rw [Bool.not_eq_false'] at hx
          rw [if_pos hx] at hpk
          subst hpk
          exact b_false ⟨_, _, S⟩
      · have hr := of_decide_eq_false hr
        rw [pickC, List.getElem?_eq_getElem hc, List.getElem?_eq_none (by lia)] at hpk
        dsimp only at hpk
        subst hpk
        exact b_false ⟨_, _, S⟩
    · clear S
      repeat clear S
      rintro s ⟨t3, t4, S⟩
      revert s t3 t4
      refine @wall3 _ _ _ _ (by walk_at "ne") ?_
      generalize k0 _ = s, k1 _ = t3, k2 _ = t4
      set_option tactic.hygienic false in intros
      rename St _ _ _ _ s => S
      repeat walk_at "go"
      with_reducible refine l_get S (by walk_at "mem") (by lia) (by lia) (map_at hpc) ?_
      repeat walk_at "go"
      with_reducible refine l_set B S (vs' := (its'.set pos (its'[c'])).map It.v) (by walk_at "upd") (by lia) (by lia) (by simp; lia) map_set ?_
      clear S; intro s S
      repeat walk_at "go"
      with_reducible refine i_mul S ?_ (IntMulOk.of_left (by decide +kernel))
      clear S; intro t s S
      repeat walk_at "go"
      with_reducible refine kloop_next ⟨its'.length - c', by lia, its'.set pos (its'[c']), c', t, t3, by simp, by simp [hl'], fun i hi => ?_, by lia, hsu, S.names (by walk_at "upd") (by walk_at "sub") (nodup_of (by kernel_rfl))⟩
      rcases mem_set hi with hi | rfl
      · exact hR' i hi
      · exact hR' _ (List.getElem_mem hpc)
  · have hb := of_decide_eq_false hb
    rw [suGo, dif_neg (by lia)] at hsu
    repeat walk_at "go"
    with_reducible refine l_set B S (vs' := (its'.set pos new).map It.v) (by walk_at "upd") (by lia) (by lia) (by simp; lia) map_set ?_
    clear S; intro s S
    repeat walk_at "go"
    with_reducible refine cwf3 B (by k_is) rfl ?_
    repeat walk_at "go"
    refine ⟨.of S, ?_⟩
    with_reducible refine siftdown_spec (its := its'.set pos new) (new := new) (R := (L, Cell.ns [("childpos", .int (2 * pos + 1) t1), ("newitem", new.v), ("startpos", .int 0 t0), ("endpos", .int its.length tE), ("pos", .int pos t2), ("heap", .ref hp)]) :: R) B ((hA' _).le (by decide)) (S.perm ?_) (fun i hi => List.mem_cons_of_mem _ ?_) (by rw [List.getElem?_set_self (by lia)]) (by rw [List.length_set]; lia) ?_
    · exact .swap ..
    · rcases mem_set hi with hi | rfl
      · exact hR' i hi
      · exact hnew
    · clear S; intro s S
      repeat walk_at "go"
      have e : sd (its'.set pos new) new pos = su its new := by rw [su, ← hsu]
      rw [e] at S
      exact h _ (S.unframe (by walk_at "pull"))

theorem l_true {w : World} {s₁ s : Shared} {F : List Addr} {led : Led} {A : Around} {E : Value → Shared → Prop} {l : Addr} {vs : List Value} {Q : Bool → Shared → Prop} (S : St w s₁ F led s) (hm : (l, Cell.list vs) ∈ led) (hz : vs.length < 2 ^ 60) (h : ∀ s', St w s₁ F led s' → Q (!vs.isEmpty) s') :
    wpAny (model PR w) A (truthy (.ref l)) Q E s := by
  refine wpAny_truthy_list (isList_at S hm) (by rw [List.size_toArray]; lia) ?_
  have : vs.toArray.isEmpty = vs.isEmpty := by simp
  rw [this]
  exact h _ (S.toks _)

theorem heappush_spec {w : World} {s₁ s : Shared} {F : List Addr} {R : Led} {A : Around} {fs : List Env} {E : Value → Shared → Prop} {Q : Value → Shared → Prop} {hp : Addr} {its : List It} {new : It}
    (B : Base w s₁) (hA : Ar A fs 5) (S : St w s₁ F ((hp, Cell.list (its.map It.v)) :: R) s) (hR : ∀ i ∈ its, i.e ∈ R) (hnew : new.e ∈ R) (hlen : its.length < 2 ^ 20)
    (h : ∀ s', St w s₁ F ((hp, Cell.list ((sd (its ++ [new]) new its.length).map It.v)) :: R) s' → Q .none s') :
    wpAny (model PR w) A (call (.ref 773) [.ref hp, new.v]) Q E s := by
  revert w s₁ s F R A fs E Q hp its new
  refine @pad _ ?_
  refine @wall13 _ _ _ _ _ _ _ _ _ _ _ _ _ _ (by walk_at "ne") ?_
  generalize k1 _ = w, k2 _ = s₁, k3 _ = s, k4 _ = F, k5 _ = R, k6 _ = A, k7 _ = fs, k8 _ = E, k9 _ = Q, k10 _ = hp, k11 _ = its, k12 _ = new
  intro B hA S hR hnew hlen h
  have hsl : (2 : Nat) ^ 20 ≤ sizeLine := by decide
  with_reducible refine enter (m := [("item", new.v), ("heap", .ref hp)]) B S (by k_is) (hA.room) (bindsK B S (by kernel_rfl)) ?_ (by kernel_rfl) (by kernel_rfl)
  clear S
  refine @wallN _ ?_
  generalize wN _ = L
  intro s hL S
  have hA' := hA.deeper
  repeat walk_at "go"
  with_reducible refine m_bm PySem.F.plainAttrs_list PySem.F.slot_list_append PySem.F.type_list_append (recv_list S (by walk_at "mem")) ?_
  with_reducible refine cwbm1 ?_
  repeat walk_at "go"
  with_reducible refine l_append B S (by walk_at "upd") (by rw [List.length_map]; lia) ?_
  clear S; intro s S
  repeat walk_at "go"
  with_reducible refine cwf3 B (by k_is) rfl ?_
  repeat walk_at "go"
  with_reducible refine cwb1 ?_
  repeat walk_at "go"
  with_reducible refine l_len S (by walk_at "mem") (by rw [List.length_append, List.length_map]; simp only [List.length_cons, List.length_nil]; lia) ?_
  clear S; intro t s S
  repeat walk_at "go"
  refine ⟨.of S, ?_⟩
  have e : (((List.map It.v its ++ [new.v]).length : Nat) : Int) - 1 = (its.length : Nat) := by simp
  rw [e]
  have e2 : List.map It.v its ++ [new.v] = (its ++ [new]).map It.v := by simp
  rw [e2] at S
  replace S := S.perm (.swap ..)
  with_reducible refine siftdown_spec (new := new) B ((hA' _).le (by decide)) S ?_ ?_ ?_ ?_
  · intro i hi
    rcases List.mem_append.mp hi with hi | hi
    · exact List.mem_cons_of_mem _ (hR i hi)
    · rw [List.mem_singleton] at hi; subst hi; exact List.mem_cons_of_mem _ hnew
  · simp
  · rw [List.length_append]; simp only [List.length_cons, List.length_nil]; lia
  · clear S; intro s S
    repeat walk_at "go"
    exact h _ (S.unframe (by walk_at "pull"))

theorem heappop_one {w : World} {s₁ s : Shared} {F : List Addr} {R : Led} {A : Around} {fs : List Env} {E : Value → Shared → Prop} {Q : Value → Shared → Prop} {hp : Addr} {x : It}
    (B : Base w s₁) (hA : Ar A fs 7) (S : St w s₁ F ((hp, Cell.list [x.v]) :: R) s)
    (h : ∀ s', St w s₁ F ((hp, Cell.list []) :: R) s' → Q x.v s') :
    wpAny (model PR w) A (call (.ref 780) [.ref hp]) Q E s := by
  have hsl : (2 : Nat) ^ 20 ≤ sizeLine := by decide
  with_reducible refine enter (m := [("heap", .ref hp)]) B S (by k_is) (hA.room) (bindsK B S (by kernel_rfl)) ?_ (by kernel_rfl) (by kernel_rfl)
  clear S
  intro L s hL S
  have hA' := hA.deeper
  repeat walk_at "go"
  with_reducible refine m_bm PySem.F.plainAttrs_list PySem.F.slot_list_pop PySem.F.type_list_pop (recv_list S (by walk_at "mem")) ?_
  with_reducible refine cwbm0 ?_
  have S : St w s₁ (L :: F) ((L, Cell.ns [("heap", .ref hp)]) :: (hp, Cell.list ([] ++ [x.v])) :: R) s := S
  with_reducible refine l_pop B S (by walk_at "upd") (by decide) ?_
  clear S; intro s S
  repeat walk_at "go"
  try with_reducible refine x_if ?_
  repeat walk_at "go"
  with_reducible refine l_true S (by walk_at "mem") (by decide) ?_
  clear S; intro s S
  refine b_false ?_
  repeat walk_at "go"
  exact h _ (S.unframe (by walk_at "pull"))

theorem heappop_more {w : World} {s₁ s : Shared} {F : List Addr} {R : Led} {A : Around} {fs : List Env} {E : Value → Shared → Prop} {Q : Value → Shared → Prop} {hp : Addr} {x last : It} {its : List It}
    (B : Base w s₁) (hA : Ar A fs 7) (S : St w s₁ F ((hp, Cell.list ((x :: its ++ [last]).map It.v)) :: R) s) (hR : ∀ i ∈ x :: its ++ [last], i.e ∈ R) (hlen : its.length < 2 ^ 20)
    (h : ∀ s', St w s₁ F ((hp, Cell.list ((su (last :: its) last).map It.v)) :: R) s' → Q x.v s') :
    wpAny (model PR w) A (call (.ref 780) [.ref hp]) Q E s := by
  revert w s₁ s F R A fs E Q hp x last its
  refine @wall13 _ _ _ _ _ _ _ _ _ _ _ _ _ _ (by walk_at "ne") ?_
  generalize k0 _ = w, k1 _ = s₁, k2 _ = s, k3 _ = F, k4 _ = R, k5 _ = A, k6 _ = fs, k7 _ = E, k8 _ = Q, k9 _ = hp, k10 _ = x, k11 _ = last, k12 _ = its
  intro B hA S hR hlen h
  have hsl : (2 : Nat) ^ 21 ≤ sizeLine := by decide
  with_reducible refine enter (m := [("heap", .ref hp)]) B S (by k_is) (hA.room) (bindsK B S (by kernel_rfl)) ?_ (by kernel_rfl) (by kernel_rfl)
  clear S
  refine @wallN _ ?_
  generalize wN _ = L
  intro s hL S
  have hA' := hA.deeper
  have e : (x :: its ++ [last]).map It.v = (x.v :: its.map It.v) ++ [last.v] := by simp
  rw [e] at S
  repeat walk_at "go"
  with_reducible refine m_bm PySem.F.plainAttrs_list PySem.F.slot_list_pop PySem.F.type_list_pop (recv_list S (by walk_at "mem")) ?_
  with_reducible refine cwbm0 ?_
  with_reducible refine l_pop B S (by walk_at "upd") (by simp only [List.length_cons, List.length_map]; lia) ?_
  clear S; intro s S
  repeat walk_at "go"
  try with_reducible refine x_if ?_
  repeat walk_at "go"
  with_reducible refine l_true S (by walk_at "mem") (by simp only [List.length_cons, List.length_map]; lia) ?_
  clear S; intro s S
  refine b_true ?_
  repeat walk_at "go"
  with_reducible refine l_get S (by walk_at "mem") (by decide) (by decide) (v := x.v) (by kernel_rfl) ?_
  repeat walk_at "go"
  with_reducible refine l_set B S (vs' := (last :: its).map It.v) (by walk_at "upd") (by decide) (by decide) (by simp only [List.length_cons, List.length_map]; lia) (by kernel_rfl) ?_
  clear S; intro s S
  repeat walk_at "go"
  with_reducible refine cwf2 B (by k_is) rfl ?_
  repeat walk_at "go"
  refine ⟨.of S, ?_⟩
  replace S := S.perm (.swap ..)
  with_reducible refine siftup_spec (new := last) B ((hA' _).le (by decide)) S ?_ ?_ ?_ ?_
  · intro i hi
    refine List.mem_cons_of_mem _ (hR i ?_)
    rcases List.mem_cons.mp hi with rfl | hi
    · simp
    · simp [hi]
  · rfl
  · simp only [List.length_cons]; lia
  · clear S; intro s S
    repeat walk_at "go"
    exact h _ (S.unframe (by walk_at "pull"))
/-! MJ -/

theorem index_spec {w : World} {s₁ s : Shared} {F : List Addr} {R : Led} {A : Around} {fs : List Env} {E : Value → Shared → Prop} {Q : Value → Shared → Prop} {t : Tok} {what : Value}
    (B : Base w s₁) (hA : Ar A fs 2) (S : St w s₁ F R s) (h : ∀ s', St w s₁ F R s' → Q (.int 1 t) s') :
    wpAny (model PR w) A (call (.ref 70) [.int 1 t, what]) Q E s := by
  revert w s₁ s F R A fs E Q t what
  refine @pad _ ?_
  refine @pad _ ?_
  refine @wall13 _ _ _ _ _ _ _ _ _ _ _ _ _ _ (by walk_at "ne") ?_
  generalize k2 _ = w, k3 _ = s₁, k4 _ = s, k5 _ = F, k6 _ = R, k7 _ = A, k8 _ = fs, k9 _ = E, k10 _ = Q, k11 _ = t, k12 _ = what
  intro B hA S h
  with_reducible refine enter (m := [("what", what), ("n", .int 1 t)]) B S (by k_is) (hA.room) (bindsK B S (by kernel_rfl)) ?_ (by kernel_rfl) (by kernel_rfl)
  clear S
  refine @wallN _ ?_
  generalize wN _ = L
  intro s hL S
  repeat walk_at "go"
  try with_reducible refine x_if ?_
  repeat walk_at "go"
  with_reducible refine cwt1 ?_
  repeat walk_at "go"
  with_reducible refine y_type_int ?_
  repeat walk_at "go"
  refine v_isnot false (by kernel_rfl) (by kernel_rfl) ?_
  repeat walk_at "go"
  with_reducible refine cwt1 ?_
  repeat walk_at "go"
  with_reducible refine call_int_int ?_
  repeat walk_at "go"
  try with_reducible refine x_if ?_
  repeat walk_at "go"
  exact h _ (S.unframe (by walk_at "pull"))

/-- the dict of a StringIO -/
noncomputable def ioD (buf : Str) (pos : Int) (t1 t2 t3 : Tok) : List (Str × Value) := [("_StringIO__pos", .int pos t1), ("_StringIO__buf", .str buf t2), ("_StringIO__newline", .str "\n" t3)]

theorem check_spec {w : World} {s₁ s : Shared} {F : List Addr} {R : Led} {A : Around} {fs : List Env} {E : Value → Shared → Prop} {Q : Value → Shared → Prop} {x d : Addr} {buf : Str} {pos : Int} {t1 t2 t3 : Tok}
    (B : Base w s₁) (hA : Ar A fs 2) (S : St w s₁ F ((x, Cell.inst 604 d) :: (d, Cell.sd (ioD buf pos t1 t2 t3)) :: R) s) (h : ∀ s', St w s₁ F ((x, Cell.inst 604 d) :: (d, Cell.sd (ioD buf pos t1 t2 t3)) :: R) s' → Q .none s') :
    wpAny (model PR w) A (call (.ref 388) [.ref x]) Q E s := by
  with_reducible refine enter (m := [("self", .ref x)]) B S (by k_is) (hA.room) (bindsK B S (by kernel_rfl)) ?_ (by kernel_rfl) (by kernel_rfl)
  clear S
  unfold ioD at *
  intro L s hL S
  repeat walk_at "go"
  try with_reducible refine x_if ?_
  repeat walk_at "go"
  exact h _ (S.unframe (by walk_at "pull"))

/-- one sign read -/
theorem read_spec {w : World} {s₁ s : Shared} {F : List Addr} {R : Led} {A : Around} {fs : List Env} {E : Value → Shared → Prop} {Q : Value → Shared → Prop} {x d : Addr} {buf : Str} {pos : Nat} {tz t1 t2 t3 : Tok} {c : Nat}
    (B : Base w s₁) (hA : Ar A fs 4) (S : St w s₁ F ((x, Cell.inst 604 d) :: (d, Cell.sd (ioD buf pos t1 t2 t3)) :: R) s) (hc : buf.cps[pos]? = some c) (hz : buf.length < 2 ^ 20)
    (h : ∀ t t1 s', St w s₁ F ((x, Cell.inst 604 d) :: (d, Cell.sd (ioD buf ((pos + 1 : Nat) : Int) t1 t2 t3)) :: R) s' → Q (.str ⟨#[c]⟩ t) s') :
    wpAny (model PR w) A (call (.ref 550) [.ref x, .int 1 tz]) Q E s := by
  revert w s₁ s F R A fs E Q x d buf pos tz t1 t2 t3 c
  refine @wall18 _ _ _ _ _ _ _ _ _ _ _ _ _ _ _ _ _ _ _ (by walk_at "ne") ?_
  generalize k0 _ = w, k1 _ = s₁, k2 _ = s, k3 _ = F, k4 _ = R, k5 _ = A, k6 _ = fs, k7 _ = E, k8 _ = Q, k9 _ = x, k10 _ = d, k11 _ = buf, k12 _ = pos, k13 _ = tz, k14 _ = t1, k15 _ = t2, k16 _ = t3, k17 _ = c
  intro B hA S hc hz h
  with_reducible refine enter (m := [("size", .int 1 tz), ("self", .ref x)]) B S (by k_is) (hA.room) (bindsK B S (by kernel_rfl)) ?_ (by kernel_rfl) (by kernel_rfl)
  clear S
  refine @wallN _ ?_
  generalize wN _ = L
  intro s hL S
  have hA' := hA.deeper
  repeat walk_at "go"
  try with_reducible refine x_if ?_
  repeat walk_at "go"
  with_reducible refine cwf2 B (by k_is) rfl ?_
  repeat walk_at "go"
  refine ⟨.of S, ?_⟩
  with_reducible refine index_spec B ((hA' _).le (by decide)) S ?_
  clear S; intro s S
  repeat walk_at "go"
  with_reducible refine m_own B S (by walk_at "mem") (by walk_at "mem") (by k_is) ?_
  with_reducible refine cwfm0 B (by k_is) rfl ?_
  refine ⟨.of S, ?_⟩
  replace S := S.pull (a := d) (by walk_at "pull")
  replace S := S.pull (a := x) (by walk_at "pull")
  with_reducible refine check_spec B ((hA' _).le (by decide)) S ?_
  clear S; intro s S
  unfold ioD at *
  repeat walk_at "go"
  with_reducible refine cwb1 ?_
  repeat walk_at "go"
  with_reducible refine s_len S (by lia) ?_
  clear S; intro t s S
  repeat walk_at "go"
  try with_reducible refine x_if ?_
  repeat walk_at "go"
  have hlen : pos < buf.length := (Array.getElem?_eq_some_iff.mp hc).1
  with_reducible refine d_no (by lia) ?_
  repeat walk_at "go"
  with_reducible refine x_if_join (fun s => ∃ t4, St w s₁ (L :: F) ((x, Cell.inst 604 d) :: (d, Cell.sd (ioD buf pos t1 t2 t3)) :: (L, Cell.ns [("stop", .int ((pos + 1 : Nat) : Int) t4), ("start", .int pos t1), ("size", .int 1 tz), ("self", .ref x)]) :: R) s) ?_ ?_
  · repeat walk_at "go"
    refine ⟨fun hb => ?_, fun hb => ?_⟩
    · repeat walk_at "go"
      exact ⟨rfl, _, S⟩
    · have hb := of_decide_eq_false hb
      have e : buf.length = pos + 1 := by lia
      rw [e] at S
      exact b_false ⟨_, S⟩
  · clear S
    repeat clear S
    rintro s ⟨t4, S⟩
    revert s t4
    refine @wall2 _ _ _ (by walk_at "ne") ?_
    generalize k0 _ = s, k1 _ = t4
    set_option tactic.hygienic false in intros
    rename St _ _ _ _ s => S
    unfold ioD at *
    repeat walk_at "go"
    refine ⟨_, _, S, ?_⟩
    clear S; intro a s S
    with_reducible refine s_slice1 S (by walk_at "mem") hc ?_
    clear S; intro t s S
    repeat walk_at "go"
    exact h _ _ _ ((S.drop (a := a) (by walk_at "pull")).unframe (by walk_at "pull"))

/-- nothing left to read -/
theorem read_end {w : World} {s₁ s : Shared} {F : List Addr} {R : Led} {A : Around} {fs : List Env} {E : Value → Shared → Prop} {Q : Value → Shared → Prop} {x d : Addr} {buf : Str} {pos : Nat} {tz t1 t2 t3 : Tok} 
    (B : Base w s₁) (hA : Ar A fs 4) (S : St w s₁ F ((x, Cell.inst 604 d) :: (d, Cell.sd (ioD buf pos t1 t2 t3)) :: R) s) (hc : buf.length ≤ pos) (hz : buf.length < 2 ^ 20)
    (h : ∀ t s', St w s₁ F ((x, Cell.inst 604 d) :: (d, Cell.sd (ioD buf pos t1 t2 t3)) :: R) s' → Q (.str (Str.ofString "") t) s') :
    wpAny (model PR w) A (call (.ref 550) [.ref x, .int 1 tz]) Q E s := by
  revert w s₁ s F R A fs E Q x d buf pos tz t1 t2 t3
  refine @pad _ ?_
  refine @wall18 _ _ _ _ _ _ _ _ _ _ _ _ _ _ _ _ _ _ _ (by walk_at "ne") ?_
  generalize k1 _ = w, k2 _ = s₁, k3 _ = s, k4 _ = F, k5 _ = R, k6 _ = A, k7 _ = fs, k8 _ = E, k9 _ = Q, k10 _ = x, k11 _ = d, k12 _ = buf, k13 _ = pos, k14 _ = tz, k15 _ = t1, k16 _ = t2, k17 _ = t3
  intro B hA S hc hz h
  with_reducible refine enter (m := [("size", .int 1 tz), ("self", .ref x)]) B S (by k_is) (hA.room) (bindsK B S (by kernel_rfl)) ?_ (by kernel_rfl) (by kernel_rfl)
  clear S
  refine @wallN _ ?_
  generalize wN _ = L
  intro s hL S
  have hA' := hA.deeper
  repeat walk_at "go"
  try with_reducible refine x_if ?_
  repeat walk_at "go"
  with_reducible refine cwf2 B (by k_is) rfl ?_
  repeat walk_at "go"
  refine ⟨.of S, ?_⟩
  with_reducible refine index_spec B ((hA' _).le (by decide)) S ?_
  clear S; intro s S
  repeat walk_at "go"
  with_reducible refine m_own B S (by walk_at "mem") (by walk_at "mem") (by k_is) ?_
  with_reducible refine cwfm0 B (by k_is) rfl ?_
  refine ⟨.of S, ?_⟩
  replace S := S.pull (a := d) (by walk_at "pull")
  replace S := S.pull (a := x) (by walk_at "pull")
  with_reducible refine check_spec B ((hA' _).le (by decide)) S ?_
  clear S; intro s S
  unfold ioD at *
  repeat walk_at "go"
  with_reducible refine cwb1 ?_
  repeat walk_at "go"
  with_reducible refine s_len S (by lia) ?_
  clear S; intro t s S
  repeat walk_at "go"
  try with_reducible refine x_if ?_
  repeat walk_at "go"
  with_reducible refine d_yes (by lia) ?_
  repeat walk_at "go"
  exact h _ _ (S.unframe (by walk_at "pull"))
/-! ML -/

/-- what of a lexer stays: the addresses, the word signs, the tokens of its texts -/
structure Lx where
  x : Addr
  d : Addr
  io : Addr
  iod : Addr
  pb : Addr
  fk : Addr
  W : Str
  τ : Nat → Tok
  buf : Str
  u2 : Tok
  u3 : Tok
theorem neX : Nonempty Lx := ⟨⟨0, 0, 0, 0, 0, 0, "", fun _ => 0, "", 0, 0⟩⟩
structure Lx.Ok (X : Lx) : Prop where
  a : Txt.contains X.W ⟨#[97]⟩ = true
  q : Txt.contains X.W ⟨#[39]⟩ = false
  dq : Txt.contains X.W ⟨#[34]⟩ = false
  sz : X.buf.length < 2 ^ 20
noncomputable def lexD (X : Lx) (st tok : Value) : List (Str × Value) := [("state", st), ("token", tok), ("instream", .ref X.io), ("infile", .none), ("posix", .bool true), ("eof", .none), ("commenters", .str "" (X.τ 0)), ("wordchars", .str X.W (X.τ 1)),
  ("whitespace", .str " \t\r\n" (X.τ 2)), ("whitespace_split", .bool true), ("quotes", .str "'\"" (X.τ 3)), ("escape", .str "\\" (X.τ 4)), ("escapedquotes", .str "\"" (X.τ 5)), ("pushback", .ref X.pb), ("lineno", .int 1 (X.τ 6)),
  ("debug", .int 0 (X.τ 7)), ("filestack", .ref X.fk), ("source", .none), ("_punctuation_chars", .str "" (X.τ 8))]
/-- the lexer's cells -/
noncomputable def lexC (X : Lx) (st tok : Value) (pos : Int) (u1 : Tok) (R : Led) : Led := (X.x, Cell.inst 739 X.d) :: (X.d, Cell.sd (lexD X st tok)) :: (X.io, Cell.inst 604 X.iod) :: (X.iod, Cell.sd (ioD X.buf pos u1 X.u2 X.u3)) :: R

theorem punct_spec {w : World} {s₁ s : Shared} {F : List Addr} {led : Led} {A : Around} {fs : List Env} {Q : Value → Shared → Prop} {x d : Addr} {l : List (Str × Value)} {u : Tok}
    (B : Base w s₁) (hA : Ar A fs 2) (S : St w s₁ F led s) (hx : (x, Cell.inst 739 d) ∈ led) (hdl : (d, Cell.sd l) ∈ led) (hv : (Str.ofString "_punctuation_chars", Value.str (Str.ofString "") u) ∈ l) (h : ∀ s', St w s₁ F led s' → Q (.str "" u) s') :
    codeAny (model PR w) A (.call (.ref 670) ⟨[.ref x], []⟩) (fun r s'' => ∃ v, r = .ok (.ret v) ∧ handedIn v = true ∧ Q v s'') s := by
  with_reducible refine enterC (m := [("self", .ref x)]) B S (by k_is) (hA.room) (bindsK B S (by kernel_rfl)) ?_ (by kernel_rfl) (by kernel_rfl)
  clear S
  intro L s hL S
  repeat walk_at "go"
  with_reducible refine a_val B S (List.mem_cons_of_mem _ hx) (List.mem_cons_of_mem _ hdl) hv ?_
  clear S; intro s S
  repeat walk_at "go"
  exact ⟨_, rfl, rfl, h _ (S.unframe (by walk_at "pull"))⟩
theorem a_punct {w : World} {s₁ s : Shared} {F : List Addr} {led : Led} {A : Around} {fs : List Env} {E : Value → Shared → Prop} {Q : Value → Shared → Prop} {x d : Addr} {l : List (Str × Value)} {u : Tok} {expr : Bool}
    (B : Base w s₁) (hA : Ar A fs 3) (S : St w s₁ F led s) (hx : (x, Cell.inst 739 d) ∈ led) (hdl : (d, Cell.sd l) ∈ led) (hv : (Str.ofString "_punctuation_chars", Value.str (Str.ofString "") u) ∈ l) (h : ∀ s', St w s₁ F led s' → Q (.str "" u) s') :
    wpAny (model PR w) A (getAttr (.ref x) "punctuation_chars" expr) Q E s := by
  refine a_prop B S hx hdl (by k_is) (by k_is) fun s' S' => ?_
  exact punct_spec B hA.in1 S' hx hdl hv h
/-! MK -/

/-- the states of the lexer -/
inductive Ls where
  | sp | a | q | d
noncomputable def Ls.s : Ls → Str
  | .sp => " "
  | .a => "a"
  | .q => "'"
  | .d => "\""
noncomputable def stV (t : Tok) : Option Ls → Value
  | none => .none
  | some l => .str l.s t
noncomputable def lexRun : Ls → List Nat → Bool → List Nat → Option (Option Ls × List Nat × Bool × List Nat)
  | .sp, tok, qd, [] => some (none, tok, qd, [])
  | .a, tok, qd, [] => some (none, tok, qd, [])
  | .q, _, _, [] => none
  | .d, _, _, [] => none
  | .sp, tok, qd, c :: r => if c = 97 then lexRun .a [97] qd r else if c = 39 then lexRun .q tok qd r else none
  | .a, tok, qd, c :: r => if c = 32 then (if tok = [] ∧ qd = false then none else some (some .sp, tok, qd, r)) else if c = 97 then lexRun .a (tok ++ [97]) qd r else if c = 39 then lexRun .q tok qd r else if c = 34 then lexRun .d tok qd r else none
  | .q, tok, _, c :: r => if c = 39 then lexRun .a tok true r else if c = 32 ∨ c = 35 ∨ c = 92 ∨ c = 34 ∨ c = 36 ∨ c = 59 then lexRun .q (tok ++ [c]) true r else none
  | .d, tok, _, c :: r => if c = 34 then lexRun .a tok true r else if c = 39 then lexRun .d (tok ++ [39]) true r else none

noncomputable def tv (tok : List Nat) (t : Tok) : Value := .str ⟨tok.toArray⟩ t

theorem tok_ne (c : Nat) (r : List Nat) : ((⟨(c :: r).toArray⟩ : Str) == Str.ofString "") = false := by
  rw [beq_eq_false_iff_ne]
  intro e
  have : (c :: r).toArray = (Str.ofString "").cps := congrArg Str.cps e
  have h2 : (Str.ofString "").cps = #[] := by decide +kernel
  rw [h2] at this
  simp at this

set_option hygiene false in
local macro_rules | `(tactic| walk_at "lexfin") => `(tactic| (
  replace S := S.pull (a := X.iod) (by walk_at "pull")
  replace S := S.pull (a := X.io) (by walk_at "pull")
  replace S := S.pull (a := X.d) (by walk_at "pull")
  replace S := S.pull (a := X.x) (by walk_at "pull")
  replace S := S.pull (a := L) (by walk_at "pull")))
set_option hygiene false in
local macro_rules | `(tactic| walk_at "lexnm") => `(tactic| (
  replace S := S.names (m' := [("escapedstate", .str " " te), ("quoted", .bool _), ("self", .ref X.x)]) (by walk_at "upd") (by walk_at "sub") (nodup_of (by kernel_rfl))))
theorem neL : Nonempty Ls := ⟨.sp⟩
theorem len_mk (l : List Nat) : (⟨l.toArray⟩ : Str).length = l.length := List.size_toArray
theorem e39 : (⟨#[39]⟩ : Str) = Ls.q.s := by decide +kernel
theorem e34 : (⟨#[34]⟩ : Str) = Ls.d.s := by decide +kernel
theorem tk_add (tk : List Nat) (c : Nat) : ((⟨tk.toArray⟩ : Str) ++ (⟨#[c]⟩ : Str)) = ⟨(tk ++ [c]).toArray⟩ := by
  show (⟨tk.toArray ++ #[c]⟩ : Str) = _
  simp
theorem tk_len (tk : List Nat) (c : Nat) {p n : Nat} (h : tk.length ≤ p) (h2 : p < n) (h3 : n < 2 ^ 20) : (⟨tk.toArray⟩ : Str).length + (⟨#[c]⟩ : Str).length ≤ sizeLine := by
  have hsl : (2 : Nat) ^ 21 ≤ sizeLine := by decide
  show tk.toArray.size + 1 ≤ sizeLine
  rw [List.size_toArray]; lia
theorem read_token_spec {w : World} {s₁ s : Shared} {F : List Addr} {R : Led} {A : Around} {fs : List Env} {E : Value → Shared → Prop} {Q : Value → Shared → Prop} {X : Lx} {t0 : Tok} {t1 : Tok} {pos : Nat} {u1 : Tok} {fin : Option Ls} {tok : List Nat} {qd : Bool} {rest : List Nat}
    (B : Base w s₁) (hA : Ar A fs 7) (hX : X.Ok) (S : St w s₁ F (lexC X (.str " " t0) (tv [] t1) pos u1 R) s) (hpos : pos ≤ X.buf.length)
    (hrun : lexRun .sp [] false (X.buf.cps.toList.drop pos) = some (fin, tok, qd, rest))
    (h : ∀ t t' t'' u' s', St w s₁ F (lexC X (stV t fin) (.str "" t') ((X.buf.length - rest.length : Nat) : Int) u' R) s' → Q (if tok = [] ∧ qd = false then .none else tv tok t'') s') :
    wpAny (model PR w) A (call (.ref 707) [.ref X.x]) Q E s := by
  revert w s₁ s F R A fs E Q X t0 t1 pos u1 fin tok qd rest
  refine @wall18 _ _ _ _ _ _ _ _ _ _ _ _ _ _ _ _ _ _ _ (by walk_at "ne") ?_
  generalize k0 _ = w, k1 _ = s₁, k2 _ = s, k3 _ = F, k4 _ = R, k5 _ = A, k6 _ = fs, k7 _ = E, k8 _ = Q, k9 _ = X, k10 _ = t0, k11 _ = t1, k12 _ = pos, k13 _ = u1, k14 _ = fin, k15 _ = tok, k16 _ = qd, k17 _ = rest
  intro B hA hX S hpos hrun h
  with_reducible refine enter (m := [("self", .ref X.x)]) B S (by k_is) (hA.room) (bindsK B S (by kernel_rfl)) ?_ (by kernel_rfl) (by kernel_rfl)
  clear S
  unfold lexC lexD at *
  refine @wallN _ ?_
  generalize wN _ = L
  intro s hL S
  have hA' := hA.deeper
  repeat walk_at "go"
  with_reducible refine x_whileJ (fun n s => ∃ (st : Ls) (tk : List Nat) (q : Bool) (p : Nat) (t0 t1 te u1 : Tok), p ≤ X.buf.length ∧ n = X.buf.length - p ∧ tk.length ≤ p ∧ lexRun st tk q (X.buf.cps.toList.drop p) = some (fin, tok, qd, rest) ∧ St w s₁ (L :: F) ((L, Cell.ns [("escapedstate", .str " " te), ("quoted", .bool q), ("self", .ref X.x)]) :: lexC X (.str st.s t0) (tv tk t1) p u1 R) s) (fun s => ∃ (t0 t1 u1 : Tok), St w s₁ (L :: F) ((L, Cell.ns [("quoted", .bool qd), ("self", .ref X.x)]) :: lexC X (stV t0 fin) (tv tok t1) ((X.buf.length - rest.length : Nat) : Int) u1 R) s) (X.buf.length - pos) ?_ ?_ ?_
  · exact ⟨.sp, [], false, pos, t0, t1, t, u1, hpos, rfl, Nat.zero_le _, hrun, S⟩
  · clear S hrun
    repeat clear S
    rintro n s ⟨st, tk, q, p, t0, t1, te, u1, hp, hn, htk, hrun, S⟩
    revert n s st tk q p t0 t1 te u1
    refine @wall10 _ _ _ _ _ _ _ _ _ _ _ (by walk_at "ne") ?_
    generalize k0 _ = n, k1 _ = s, k2 _ = st, k3 _ = tk, k4 _ = q, k5 _ = p, k6 _ = t0, k7 _ = t1, k8 _ = te, k9 _ = u1
    set_option tactic.hygienic false in intros
    rename St _ _ _ _ s => S
    unfold lexC lexD at S
    repeat walk_at "go"
    try with_reducible refine x_if ?_
    repeat walk_at "go"
    with_reducible refine a_punct B ((hA' _).le (by decide)) S (by walk_at "mem") (by walk_at "mem") (by walk_at "mem") ?_
    clear S
    intro s S
    repeat walk_at "go"
    with_reducible refine m_own B S (by walk_at "mem") (by walk_at "mem") (by k_is) ?_
    with_reducible refine cwfm1 B (by k_is) rfl ?_
    repeat walk_at "go"
    refine ⟨.of S, ?_⟩
    replace S := S.pull (a := X.iod) (by walk_at "pull")
    replace S := S.pull (a := X.io) (by walk_at "pull")
    cases hd : X.buf.cps.toList.drop p with
    | nil =>
      rw [hd] at hrun
      have hle : X.buf.length ≤ p := by
        have := congrArg List.length hd
        rw [List.length_drop, List.length_nil, Array.length_toList] at this
        show X.buf.cps.size ≤ p
        lia
      have hpe : p = X.buf.length := Nat.le_antisymm hp hle
      with_reducible refine read_end B ((hA' _).le (by decide)) S hle hX.sz ?_
      clear S; intro t s S
      unfold ioD at *
      cases st with
      | sp =>
        unfold Ls.s at S
        cases hrun
        repeat walk_at "gox"
        replace S := S.names (m' := [("quoted", .bool qd), ("self", .ref X.x)]) (by walk_at "upd") (by walk_at "sub") (nodup_of (by kernel_rfl))
        replace S := S.pull (a := X.iod) (by walk_at "pull")
        replace S := S.pull (a := X.io) (by walk_at "pull")
        replace S := S.pull (a := X.d) (by walk_at "pull")
        replace S := S.pull (a := X.x) (by walk_at "pull")
        replace S := S.pull (a := L) (by walk_at "pull")
        subst hpe
        exact ⟨rfl, t0, t1, u1, S⟩
      | a =>
        unfold Ls.s at S
        cases hrun
        repeat walk_at "gox"
        refine ⟨_, _, S, ?_⟩
        clear S; intro ta s S
        with_reducible refine s_intup2 true S (hA' _).un (by walk_at "mem") (by decide +kernel) ?_
        repeat walk_at "gox"
        replace S := S.drop (a := ta) (by walk_at "pull")
        replace S := S.names (m' := [("quoted", .bool qd), ("self", .ref X.x)]) (by walk_at "upd") (by walk_at "sub") (nodup_of (by kernel_rfl))
        replace S := S.pull (a := X.iod) (by walk_at "pull")
        replace S := S.pull (a := X.io) (by walk_at "pull")
        replace S := S.pull (a := X.d) (by walk_at "pull")
        replace S := S.pull (a := X.x) (by walk_at "pull")
        replace S := S.pull (a := L) (by walk_at "pull")
        subst hpe
        exact ⟨rfl, t0, t1, u1, S⟩
      | q => cases hrun
      | d => cases hrun
    | cons c r =>
      replace S := S
      revert t s c r
      refine @wall4 _ _ _ _ _ (by walk_at "ne") ?_
      generalize k0 _ = t, k1 _ = s, k2 _ = c, k3 _ = r
      set_option tactic.hygienic false in intros
      rename St _ _ _ _ s => S
      rw [hd] at hrun
      have hc : X.buf.cps[p]? = some c := by
        have h1 := congrArg List.head? hd
        rw [List.head?_drop, List.head?_cons] at h1
        rw [← Array.getElem?_toList]; exact h1
      have hlt : p < X.buf.length := (Array.getElem?_eq_some_iff.mp hc).1
      have hr : X.buf.cps.toList.drop (p + 1) = r := by rw [← List.tail_drop, hd]; rfl
      with_reducible refine read_spec B ((hA' _).le (by decide)) S hc hX.sz ?_
      clear S; intro t u1 s S
      revert t u1 s
      refine @wall3 _ _ _ _ (by walk_at "ne") ?_
      generalize k0 _ = t, k1 _ = u1, k2 _ = s
      set_option tactic.hygienic false in intros
      rename St _ _ _ _ s => S
      unfold ioD at *
      cases st with
      | sp =>
        rw [lexRun] at hrun
        unfold Ls.s at S
        by_cases h97 : c = 97
        · subst h97
          rw [if_pos rfl] at hrun
          repeat walk_at "gox"
          with_reducible refine s_in true hX.a ?_
          repeat walk_at "gox"
          walk_at "lexnm"
          walk_at "lexfin"
          exact kloop_next ⟨X.buf.length - (p + 1), by lia, .a, [97], q, p + 1, _, _, te, _, hlt, rfl, by simp, by rw [hr]; exact hrun, S⟩
        · rw [if_neg h97] at hrun
          by_cases h39 : c = 39
          · subst h39
            rw [if_pos rfl] at hrun
            repeat walk_at "gox"
            with_reducible refine s_in false hX.q ?_
            repeat walk_at "gox"
            with_reducible refine a_punct B ((hA' _).le (by decide)) S (by walk_at "mem") (by walk_at "mem") (by walk_at "mem") ?_
            clear S; intro s S
            repeat walk_at "gox"
            walk_at "lexnm"
            walk_at "lexfin"
            rw [e39] at S
            exact kloop_next ⟨X.buf.length - (p + 1), by lia, .q, tk, q, p + 1, _, _, te, _, hlt, rfl, by lia, by rw [hr]; exact hrun, S⟩
          · rw [if_neg h39] at hrun
            cases hrun
      | a =>
        rw [lexRun] at hrun
        unfold Ls.s at S
        by_cases h32 : c = 32
        · subst h32
          rw [if_pos rfl] at hrun
          have hne : ¬ (tk = [] ∧ q = false) := fun hh => by rw [if_pos hh] at hrun; cases hrun
          rw [if_neg hne] at hrun
          cases hrun
          have hpe : p + 1 = X.buf.length - rest.length := by
            have := congrArg List.length hd
            rw [List.length_drop, List.length_cons, Array.length_toList] at this
            have h2 : X.buf.cps.size = X.buf.length := rfl
            lia
          cases tok with
          | nil =>
            have hq : qd = true := by cases qd with | true => rfl | false => exact absurd ⟨rfl, rfl⟩ hne
            subst hq
            unfold tv at S
            repeat walk_at "gox"
            refine ⟨_, _, S, ?_⟩
            clear S; intro ta s S
            with_reducible refine s_intup2 true S (hA' _).un (by walk_at "mem") (by decide +kernel) ?_
            repeat walk_at "gox"
            replace S := S.drop (a := ta) (by walk_at "pull")
            replace S := S.names (m' := [("quoted", .bool true), ("self", .ref X.x)]) (by walk_at "upd") (by walk_at "sub") (nodup_of (by kernel_rfl))
            walk_at "lexfin"
            rw [hpe] at S
            exact ⟨rfl, _, _, _, S⟩
          | cons c' r' =>
            unfold tv at S
            repeat walk_at "gox"
            refine ⟨_, _, S, ?_⟩
            clear S; intro ta s S
            with_reducible refine s_intup2 true S (hA' _).un (by walk_at "mem") (by decide +kernel) ?_
            repeat walk_at "gox"
            with_reducible refine s_true true S (by rw [bne_iff_ne, len_mk, List.length_cons]; lia) (by rw [len_mk]; have := hX.sz; lia) ?_
            clear S; intro s S
            repeat walk_at "gox"
            replace S := S.drop (a := ta) (by walk_at "pull")
            replace S := S.names (m' := [("quoted", .bool qd), ("self", .ref X.x)]) (by walk_at "upd") (by walk_at "sub") (nodup_of (by kernel_rfl))
            walk_at "lexfin"
            rw [hpe] at S
            exact ⟨rfl, _, _, _, S⟩
        · rw [if_neg h32] at hrun
          by_cases h97 : c = 97
          · subst h97
            rw [if_pos rfl] at hrun
            unfold tv at S
            repeat walk_at "gox"
            refine ⟨_, _, S, ?_⟩
            clear S; intro ta s S
            with_reducible refine s_intup2 true S (hA' _).un (by walk_at "mem") (by decide +kernel) ?_
            repeat walk_at "gox"
            with_reducible refine s_in true hX.a ?_
            repeat walk_at "gox"
            with_reducible refine s_iadd S (tk_len tk _ htk hlt hX.sz) ?_
            clear S; intro t' s S
            rw [tk_add]
            repeat walk_at "gox"
            replace S := S.drop (a := ta) (by walk_at "pull")
            walk_at "lexnm"
            walk_at "lexfin"
            exact kloop_next ⟨X.buf.length - (p + 1), by lia, .a, tk ++ [97], q, p + 1, _, _, te, _, hlt, rfl, by rw [List.length_append]; simp only [List.length_cons, List.length_nil]; lia, by rw [hr]; exact hrun, S⟩
          · rw [if_neg h97] at hrun
            by_cases h39 : c = 39
            · subst h39
              rw [if_pos rfl] at hrun
              repeat walk_at "gox"
              refine ⟨_, _, S, ?_⟩
              clear S; intro ta s S
              with_reducible refine s_intup2 true S (hA' _).un (by walk_at "mem") (by decide +kernel) ?_
              repeat walk_at "gox"
              replace S := S.drop (a := ta) (by walk_at "pull")
              walk_at "lexnm"
              walk_at "lexfin"
              rw [e39] at S
              exact kloop_next ⟨X.buf.length - (p + 1), by lia, .q, tk, q, p + 1, _, _, te, _, hlt, rfl, by lia, by rw [hr]; exact hrun, S⟩
            · rw [if_neg h39] at hrun
              by_cases h34 : c = 34
              · subst h34
                rw [if_pos rfl] at hrun
                repeat walk_at "gox"
                refine ⟨_, _, S, ?_⟩
                clear S; intro ta s S
                with_reducible refine s_intup2 true S (hA' _).un (by walk_at "mem") (by decide +kernel) ?_
                repeat walk_at "gox"
                replace S := S.drop (a := ta) (by walk_at "pull")
                walk_at "lexnm"
                walk_at "lexfin"
                rw [e34] at S
                exact kloop_next ⟨X.buf.length - (p + 1), by lia, .d, tk, q, p + 1, _, _, te, _, hlt, rfl, by lia, by rw [hr]; exact hrun, S⟩
              · rw [if_neg h34] at hrun
                cases hrun
      | q =>
        rw [lexRun] at hrun
        unfold Ls.s at S
        by_cases h39 : c = 39
        · subst h39
          rw [if_pos rfl] at hrun
          repeat walk_at "gox"
          walk_at "lexnm"
          walk_at "lexfin"
          exact kloop_next ⟨X.buf.length - (p + 1), by lia, .a, tk, true, p + 1, _, _, te, _, hlt, rfl, by lia, by rw [hr]; exact hrun, S⟩
        · rw [if_neg h39] at hrun
          by_cases hc6 : c = 32 ∨ c = 35 ∨ c = 92 ∨ c = 34 ∨ c = 36 ∨ c = 59
          · rw [if_pos hc6] at hrun
            unfold tv at S
            rcases hc6 with rfl | rfl | rfl | rfl | rfl | rfl
            all_goals
              repeat walk_at "gox"
              with_reducible refine s_iadd S (tk_len tk _ htk hlt hX.sz) ?_
              clear S; intro t' s S
              rw [tk_add]
              repeat walk_at "gox"
              walk_at "lexnm"
              walk_at "lexfin"
              exact kloop_next ⟨X.buf.length - (p + 1), by lia, .q, tk ++ [_], true, p + 1, _, _, te, _, hlt, rfl, by rw [List.length_append]; simp only [List.length_cons, List.length_nil]; lia, by rw [hr]; exact hrun, S⟩
          · rw [if_neg hc6] at hrun
            cases hrun
      | d =>
        rw [lexRun] at hrun
        unfold Ls.s at S
        by_cases h34 : c = 34
        · subst h34
          rw [if_pos rfl] at hrun
          repeat walk_at "gox"
          walk_at "lexnm"
          walk_at "lexfin"
          exact kloop_next ⟨X.buf.length - (p + 1), by lia, .a, tk, true, p + 1, _, _, te, _, hlt, rfl, by lia, by rw [hr]; exact hrun, S⟩
        · rw [if_neg h34] at hrun
          by_cases h39 : c = 39
          · subst h39
            rw [if_pos rfl] at hrun
            unfold tv at S
            repeat walk_at "gox"
            with_reducible refine s_iadd S (tk_len tk _ htk hlt hX.sz) ?_
            clear S; intro t' s S
            rw [tk_add]
            repeat walk_at "gox"
            walk_at "lexnm"
            walk_at "lexfin"
            exact kloop_next ⟨X.buf.length - (p + 1), by lia, .d, tk ++ [39], true, p + 1, _, _, te, _, hlt, rfl, by rw [List.length_append]; simp only [List.length_cons, List.length_nil]; lia, by rw [hr]; exact hrun, S⟩
          · rw [if_neg h39] at hrun
            cases hrun
  · clear S hrun
    repeat clear S
    rintro s ⟨t0, t1, u1, S⟩
    revert s t0 t1 u1
    refine @wall4 _ _ _ _ _ (by walk_at "ne") ?_
    generalize k0 _ = s, k1 _ = t0, k2 _ = t1, k3 _ = u1
    set_option tactic.hygienic false in intros
    rename St _ _ _ _ s => S
    unfold lexC lexD at S
    cases qd with
    | true =>
      repeat walk_at "gox"
      replace S := S.unframe (by walk_at "pull")
      have hq := h t0 _ t1 u1 s S
      rw [if_neg (by simp)] at hq
      exact hq
    | false =>
      cases tok with
      | nil =>
        unfold tv at S
        repeat walk_at "gox"
        replace S := S.unframe (by walk_at "pull")
        have hq := h t0 _ t1 u1 s S
        rw [if_pos ⟨rfl, rfl⟩] at hq
        exact hq
      | cons c r =>
        unfold tv at S
        repeat walk_at "gox"
        with_reducible refine s_eq false (tok_ne c r) ?_
        repeat walk_at "gox"
        replace S := S.unframe (by walk_at "pull")
        have hq := h t0 _ t1 u1 s S
        rw [if_neg (by simp)] at hq
        exact hq
/-! MD -/
theorem dq_nobool : typeLookup (.type "collections.deque") "__bool__" = pure none := by rw [typeLookup_type, builtinLookup_eq_fast]; kernel_rfl
theorem dq_len : Slot "collections.deque" "__len__" "collections.deque.__len__" :=
  .of (owner := "collections.deque") (n := "__len__") (by rw [typeLookup_type, builtinLookup_eq_fast]; kernel_rfl) (by decide +kernel) (by decide +kernel) (by decide +kernel)
    (by first | exact .inl (by decide +kernel) | exact .inr (by decide +kernel)) (by rw [isSubtype_type]; kernel_rfl)
theorem dq_len_entry : entryFor table "collections.deque.__len__" = some Builtin.«collections.deque.__len__» := by first | exact entryFor_of_fast (by kernel_rfl) | exact entryFor_of_tree (by kernel_rfl)
theorem dq_len_args (a : Value) : argsOk "collections.deque.__len__" ⟨[a], []⟩ := by unfold argsOk; kernel_rfl
theorem dq_init : Slot "collections.deque" "__init__" "collections.deque.__init__" :=
  .of (owner := "collections.deque") (n := "__init__") (by rw [typeLookup_type, builtinLookup_eq_fast]; kernel_rfl) (by decide +kernel) (by decide +kernel) (by decide +kernel)
    (by first | exact .inl (by decide +kernel) | exact .inr (by decide +kernel)) (by rw [isSubtype_type]; kernel_rfl)
theorem dq_init_entry : entryFor table "collections.deque.__init__" = some Builtin.«collections.deque.__init__» := by first | exact entryFor_of_fast (by kernel_rfl) | exact entryFor_of_tree (by kernel_rfl)
theorem dq_init_args (a : Value) : argsOk "collections.deque.__init__" ⟨[a], []⟩ := by unfold argsOk; kernel_rfl
theorem dq_new_entry : entryFor table "collections.deque.__new__" = some Builtin.«collections.deque.__new__» := by first | exact entryFor_of_fast (by kernel_rfl) | exact entryFor_of_tree (by kernel_rfl)
theorem dq_new_look : typeLookup (.type "collections.deque") "__new__" = pure (some (.builtin "collections.deque.__new__")) := by rw [typeLookup_type, builtinLookup_eq_fast]; kernel_rfl
theorem dq_mro : mroOf (.type "collections.deque") = pure [.type "collections.deque", .type "object"] := by rw [mroOf_type]; kernel_rfl
theorem dq_new_plain : plainId "collections.deque.__new__" = true := by decide +kernel
theorem dq_called : TypeCalled "collections.deque" "collections.deque.__new__" "collections.deque.__init__" :=
  ⟨by decide +kernel, by decide +kernel, ⟨_, _, dq_mro⟩, madeBy_type dq_mro dq_new_look (by decide +kernel), by decide +kernel, by rw [isSubtype_type]; kernel_rfl, dq_init⟩
theorem dq_typeCall : checkTypeCall "collections.deque" ⟨[], []⟩ = pure () := by kernel_rfl
theorem dq_newCall : checkBuiltinCall "collections.deque.__new__" ⟨[.type "collections.deque"], []⟩ = pure () := by kernel_rfl
theorem dq_sub : isSubtype (.type "collections.deque") (.type "collections.deque") = pure true := by rw [isSubtype_type]; kernel_rfl

noncomputable def dqC : Cell := .itr "collections.deque" #[.none, rawInt 0]

section
variable {w : World} {s₁ s : Shared} {F : List Addr} {led led' : Led} {A : Around} {E : Value → Shared → Prop}
theorem dq_truth {a : Addr} {Q : Bool → Shared → Prop} (S : St w s₁ F led s) (hm : (a, dqC) ∈ led) (h : ∀ s', St w s₁ F led s' → Q false s') : wpAny (model PR w) A (truthy (.ref a)) Q E s := by
  obtain ⟨o, ho, hc, hd⟩ := S.at_ _ hm
  have hT : s.TypeIs (.ref a) "collections.deque" := ⟨o, ho, hc⟩
  have key : wpAny (model PR w) A (runValue (.builtin "len" ⟨[.ref a], []⟩)) (fun r s' => (∃ t, r = .int 0 t) ∧ Q false s') E s := by
    refine wpAny_runValue (codeAny_builtin entry_len ?_)
    rw [Around.under_plainId plain_len _]
    unfold Builtin.«len»
    refine wpAny_bind (m := oneArg "len" _) (wpAny_pure ?_)
    refine wpAny_bind (m := callSpecial? (.ref a) (Str.ofString "__len__")) (wpAny_callSpecial?_slot (name := Str.ofString "__len__") hT dq_len
      (wpAny_call_entry dq_len hT dq_len_entry ?_ (dq_len_args _)))
    show wpAny _ _ (do retInt (← Builtin.Deque.size (.ref a))) _ _ s
    unfold Builtin.Deque.size
    refine wpAny_bind (wpAny_bind (wpAny_fieldsOf ho hd (wpAny_pure (wpAny_bind (wpAny_mkInt (wpAny_pure ⟨_, rfl, ?_⟩))))))
    refine wpAny_bind (wpAny_holding (wpAny_pure ?_))
    refine wpAny_bind (wpAny_letGo ?_)
    exact wpAny_bind (wpAny_mkInt (wpAny_pure ⟨⟨_, rfl⟩, h _ ((S.toks _).toks _)⟩))
  unfold truthy
  refine wpAny_bind (wpAny_callSpecial?_none (name := Str.ofString "__bool__") hT dq_nobool ?_)
  refine wpAny_bind (wpAny_specialOf (name := Str.ofString "__len__") hT dq_len.lookup ?_)
  exact wpAny_bind (wpAny_mono key (fun r s' h' => by obtain ⟨⟨t, rfl⟩, hq⟩ := h'; exact wpAny_pure hq) fun _ _ e => e)

theorem dq_make {Q : Value → Shared → Prop} (B : Base w s₁) (S : St w s₁ F led s) (h : ∀ a s', St w s₁ F ((a, dqC) :: led) s' → Q (.ref a) s') : wpAny (model PR w) A (call (.type "collections.deque") []) Q E s := by
  refine callType_codes (Q₁ := fun obj s' => ∃ a, obj = .ref a ∧ s'.heap.get? a = some { cls := .type "collections.deque", data := .fields #[.none, rawInt 0] } ∧ St w s₁ F ((a, dqC) :: led) s') dq_called dq_typeCall dq_init_entry ?_ fun obj s' h' => ?_
  · refine codeAny_call_builtin dq_new_plain dq_new_entry (wpAny_of_eq dq_newCall ?_)
    show wpAny _ _ (do let (cls, _) ← Builtin.Deque.newArgs Builtin.Deque.ty ⟨[.type "collections.deque"], []⟩; ret (← Builtin.Deque.new cls #[] none)) _ _ s
    have hsub := dq_sub
    unfold Builtin.Deque.newArgs Builtin.Deque.new Builtin.Deque.ty
    refine wpAny_bind (wpAny_bind (wpAny_of_eq (a := true) rfl ?_))
    refine wpAny_bind (wpAny_of_eq dq_sub ?_)
    refine wpAny_pure ?_
    refine wpAny_bind ?_
    have hD : typeHasDict (.type "collections.deque") = false := by decide +kernel
    have hz : ¬ ((#[] : Array Value).size > sizeLine) := by decide +kernel
    simp only [hD, hz, if_false, Bool.false_eq_true]
    show wpAny _ _ (newObj (.type "collections.deque") (.fields #[.none, rawInt 0]) none) _ _ s
    exact wpAny_newObj_type (wpAny_pure ⟨_, rfl, Heap.get?_push_size _ rfl, S.alloc ⟨rfl, rfl⟩⟩)
  · obtain ⟨a, rfl, ha, S'⟩ := h'
    refine ⟨⟨_, ha, rfl⟩, dq_init_args _, ?_⟩
    show wpAny _ _ (setField (.ref a) 0 .none >>= fun _ => Builtin.Deque.clear (.ref a) >>= fun _ => ret .none) _ _ s'
    refine wpAny_bind (wpAny_setField ha rfl (by decide) ?_)
    have ha' := Heap.get?_update_self (Obj.mapFields (·.setIfInBounds 0 .none)) ha rfl
    have S'' : St w s₁ F ((a, dqC) :: led) { s' with heap := s'.heap.update a (Obj.mapFields (·.setIfInBounds 0 .none)) } :=
      S'.same B (c' := dqC) .here (Heap.SameBut.update ..) ha' ⟨rfl, rfl⟩ (fun o e hd => by rw [ha] at e; cases e; cases hd) s'.toks
    unfold Builtin.Deque.clear Builtin.Deque.items
    refine wpAny_bind (wpAny_bind (wpAny_bind (wpAny_fieldsOf ha' rfl (wpAny_pure ?_))))
    exact wpAny_pure (wpAny_pure ⟨rfl, h _ _ S''⟩)
end
/-! MG -/

/-- what a call of a lexer's method does: the lexer's state, the answer -/
noncomputable def Lexes (w : World) (s₁ : Shared) (f : Addr) (n : Nat) (X : Lx) (st tok : Value) (pos : Nat) (raw st' : Tok → Value) (pos' : Nat) : Prop :=
  ∀ {F : List Addr} {R : Led} {A : Around} {fs : List Env} {Q : Value → Shared → Prop} {E : Value → Shared → Prop} {s : Shared} {u : Tok}, Ar A fs n → (X.pb, dqC) ∈ R → (X.fk, dqC) ∈ R →
    St w s₁ F (lexC X st tok pos u R) s → (∀ t t' t'' u' s', St w s₁ F (lexC X (st' t) (.str "" t') pos' u' R) s' → Q (raw t'') s') → wpAny (model PR w) A (call (.ref f) [.ref X.x]) Q E s

theorem reads_none {w : World} {s₁ : Shared} {X : Lx} {t1 : Tok} (B : Base w s₁) (hX : X.Ok) : Lexes w s₁ 707 7 X .none (.str "" t1) X.buf.length (fun _ => .none) (fun _ => .none) X.buf.length := by
  revert w s₁ X t1
  refine @wall4 _ _ _ _ _ (by walk_at "ne") ?_
  generalize k0 _ = w, k1 _ = s₁, k2 _ = X, k3 _ = t1
  intro B hX
  intro F R A fs Q E s u1 hA hpb hfk S h
  revert F R A fs Q E s u1
  refine @wall8 _ _ _ _ _ _ _ _ _ (by walk_at "ne") ?_
  generalize k0 _ = F, k1 _ = R, k2 _ = A, k3 _ = fs, k4 _ = Q, k5 _ = E, k6 _ = s, k7 _ = u1
  set_option tactic.hygienic false in intros
  rename St _ _ _ _ s => S
  with_reducible refine enter (m := [("self", .ref X.x)]) B S (by k_is) (hA.room) (bindsK B S (by kernel_rfl)) ?_ (by kernel_rfl) (by kernel_rfl)
  clear S
  unfold lexC lexD at *
  refine @wallN _ ?_
  generalize wN _ = L
  intro s hL S
  have hA' := hA.deeper
  repeat walk_at "go"
  with_reducible refine x_whileJ (fun n s => ∃ (te u1 : Tok), St w s₁ (L :: F) ((L, Cell.ns [("escapedstate", .str " " te), ("quoted", .bool false), ("self", .ref X.x)]) :: lexC X .none (.str "" t1) X.buf.length u1 R) s) (fun s => ∃ (t1 u1 : Tok), St w s₁ (L :: F) ((L, Cell.ns [("quoted", .bool false), ("self", .ref X.x)]) :: lexC X .none (.str "" t1) X.buf.length u1 R) s) 0 ?_ ?_ ?_
  · exact ⟨_, u1, S⟩
  · clear S
    repeat clear S
    rintro n s ⟨te, u1, S⟩
    revert n s te u1
    refine @wall4 _ _ _ _ _ (by walk_at "ne") ?_
    generalize k0 _ = n, k1 _ = s, k2 _ = te, k3 _ = u1
    set_option tactic.hygienic false in intros
    rename St _ _ _ _ s => S
    unfold lexC lexD at S
    repeat walk_at "go"
    try with_reducible refine x_if ?_
    repeat walk_at "go"
    with_reducible refine a_punct B ((hA' _).le (by decide)) S (by walk_at "mem") (by walk_at "mem") (by walk_at "mem") ?_
    clear S
    intro s S
    repeat walk_at "go"
    with_reducible refine m_own B S (by walk_at "mem") (by walk_at "mem") (by k_is) ?_
    with_reducible refine cwfm1 B (by k_is) rfl ?_
    repeat walk_at "go"
    refine ⟨.of S, ?_⟩
    replace S := S.pull (a := X.iod) (by walk_at "pull")
    replace S := S.pull (a := X.io) (by walk_at "pull")
    with_reducible refine read_end B ((hA' _).le (by decide)) S (Nat.le_refl _) hX.sz ?_
    clear S; intro t s S
    unfold ioD at *
    repeat walk_at "gox"
    replace S := S.names (m' := [("quoted", .bool false), ("self", .ref X.x)]) (by walk_at "upd") (by walk_at "sub") (nodup_of (by kernel_rfl))
    replace S := S.pull (a := X.iod) (by walk_at "pull")
    replace S := S.pull (a := X.io) (by walk_at "pull")
    replace S := S.pull (a := X.d) (by walk_at "pull")
    replace S := S.pull (a := X.x) (by walk_at "pull")
    replace S := S.pull (a := L) (by walk_at "pull")
    exact ⟨rfl, _, _, S⟩
  · clear S
    repeat clear S
    rintro s ⟨t1, u1, S⟩
    revert s t1 u1
    refine @wall3 _ _ _ _ (by walk_at "ne") ?_
    generalize k0 _ = s, k1 _ = t1, k2 _ = u1
    set_option tactic.hygienic false in intros
    rename St _ _ _ _ s => S
    unfold lexC lexD at S
    repeat walk_at "gox"
    replace S := S.unframe (by walk_at "pull")
    exact h t1 _ t1 u1 s S

theorem reads_tok {w : World} {s₁ : Shared} {X : Lx} {t0 t1 : Tok} {pos : Nat} {fin : Option Ls} {tok : List Nat} {qd : Bool} {rest : List Nat} (B : Base w s₁) (hX : X.Ok) (hpos : pos ≤ X.buf.length)
    (hrun : lexRun .sp [] false (X.buf.cps.toList.drop pos) = some (fin, tok, qd, rest)) : Lexes w s₁ 707 7 X (.str " " t0) (.str "" t1) pos (fun t => if tok = [] ∧ qd = false then .none else tv tok t) (fun t => stV t fin) (X.buf.length - rest.length) := by
  intro F R A fs Q E s u1 hA hpb hfk S h
  -- close F R A fs Q E s u1
  have e : (Str.ofString "") = ⟨([] : List Nat).toArray⟩ := by decide +kernel
  refine read_token_spec (t1 := t1) B hA hX (by unfold tv; rw [← e]; exact S) hpos hrun h

theorem gets_none {w : World} {s₁ : Shared} {X : Lx} {st tok : Value} {st' : Tok → Value} {pos pos' : Nat} (B : Base w s₁) (hr : Lexes w s₁ 707 7 X st tok pos (fun _ => .none) st' pos') : Lexes w s₁ 700 8 X st tok pos (fun _ => .none) st' pos' := by
  revert w s₁ X st tok st' pos pos'
  refine @wall8 _ _ _ _ _ _ _ _ _ (by walk_at "ne") ?_
  generalize k0 _ = w, k1 _ = s₁, k2 _ = X, k3 _ = st, k4 _ = tok, k5 _ = st', k6 _ = pos, k7 _ = pos'
  intro B hr
  intro F R A fs Q E s u1 hA hpb hfk S h
  revert F R A fs Q E s u1
  refine @wall8 _ _ _ _ _ _ _ _ _ (by walk_at "ne") ?_
  generalize k0 _ = F, k1 _ = R, k2 _ = A, k3 _ = fs, k4 _ = Q, k5 _ = E, k6 _ = s, k7 _ = u1
  set_option tactic.hygienic false in intros
  rename St _ _ _ _ s => S
  with_reducible refine enter (m := [("self", .ref X.x)]) B S (by k_is) (hA.room) (bindsK B S (by kernel_rfl)) ?_ (by kernel_rfl) (by kernel_rfl)
  clear S
  unfold lexC lexD at *
  refine @wallN _ ?_
  generalize wN _ = L
  intro s hL S
  have hA' := hA.deeper
  repeat walk_at "gox"
  with_reducible refine dq_truth S (by iterate 5 apply List.mem_cons_of_mem
                                       exact hpb) ?_
  clear S; intro s S
  repeat walk_at "gox"
  with_reducible refine m_own B S (by walk_at "mem") (by walk_at "mem") (by k_is) ?_
  with_reducible refine cwfm0 B (by k_is) rfl ?_
  refine ⟨.of S, ?_⟩
  replace S := S.pull (a := X.iod) (by walk_at "pull")
  replace S := S.pull (a := X.io) (by walk_at "pull")
  replace S := S.pull (a := X.d) (by walk_at "pull")
  replace S := S.pull (a := X.x) (by walk_at "pull")
  refine hr (A := A.deeper _) (hA' _) (List.mem_cons_of_mem _ hpb) (List.mem_cons_of_mem _ hfk) S ?_
  clear S; intro ta tb tc ub s S
  revert ta tb tc ub s
  refine @pad _ ?_
  refine @wall6 _ _ _ _ _ _ _ (by walk_at "ne") ?_
  generalize k1 _ = ta, k2 _ = tb, k3 _ = tc, k4 _ = ub, k5 _ = s
  set_option tactic.hygienic false in intros
  rename St _ _ _ _ s => S
  unfold lexC lexD at S
  repeat walk_at "gox"
  with_reducible refine x_while (fun n s => St w s₁ (L :: F) ((X.x, Cell.inst 739 X.d) :: (X.d, Cell.sd (lexD X (st' ta) (.str "" tb))) :: (X.io, Cell.inst 604 X.iod) :: (X.iod, Cell.sd (ioD X.buf pos' ub X.u2 X.u3)) :: (L, Cell.ns [("raw", .none), ("self", .ref X.x)]) :: R) s) 0 ?_ ?_
  · exact S
  clear S; intro n s S
  revert n s
  refine @wall2 _ _ _ (by walk_at "ne") ?_
  generalize k0 _ = n, k1 _ = s
  set_option tactic.hygienic false in intros
  rename St _ _ _ _ s => S
  unfold lexD at S
  repeat walk_at "gox"
  with_reducible refine EqNone.eq_none_none ?_
  repeat walk_at "gox"
  with_reducible refine dq_truth S (by iterate 5 apply List.mem_cons_of_mem
                                       exact hfk) ?_
  clear S; intro s S
  repeat walk_at "gox"
  with_reducible refine kloop_ret ?_
  repeat walk_at "gox"
  replace S := S.unframe (by walk_at "pull")
  exact h ta tb tc ub s S

theorem gets_tok {w : World} {s₁ : Shared} {X : Lx} {st tok : Value} {st' : Tok → Value} {pos pos' : Nat} {x : Str} (B : Base w s₁) (hr : Lexes w s₁ 707 7 X st tok pos (fun t => .str x t) st' pos') : Lexes w s₁ 700 8 X st tok pos (fun t => .str x t) st' pos' := by
  revert w s₁ X st tok st' pos pos' x
  refine @pad _ ?_
  refine @wall10 _ _ _ _ _ _ _ _ _ _ _ (by walk_at "ne") ?_
  generalize k1 _ = w, k2 _ = s₁, k3 _ = X, k4 _ = st, k5 _ = tok, k6 _ = st', k7 _ = pos, k8 _ = pos', k9 _ = x
  intro B hr
  intro F R A fs Q E s u1 hA hpb hfk S h
  revert F R A fs Q E s u1
  refine @wall8 _ _ _ _ _ _ _ _ _ (by walk_at "ne") ?_
  generalize k0 _ = F, k1 _ = R, k2 _ = A, k3 _ = fs, k4 _ = Q, k5 _ = E, k6 _ = s, k7 _ = u1
  set_option tactic.hygienic false in intros
  rename St _ _ _ _ s => S
  with_reducible refine enter (m := [("self", .ref X.x)]) B S (by k_is) (hA.room) (bindsK B S (by kernel_rfl)) ?_ (by kernel_rfl) (by kernel_rfl)
  clear S
  unfold lexC lexD at *
  refine @wallN _ ?_
  generalize wN _ = L
  intro s hL S
  have hA' := hA.deeper
  repeat walk_at "gox"
  with_reducible refine dq_truth S (by iterate 5 apply List.mem_cons_of_mem
                                       exact hpb) ?_
  clear S; intro s S
  repeat walk_at "gox"
  with_reducible refine m_own B S (by walk_at "mem") (by walk_at "mem") (by k_is) ?_
  with_reducible refine cwfm0 B (by k_is) rfl ?_
  refine ⟨.of S, ?_⟩
  replace S := S.pull (a := X.iod) (by walk_at "pull")
  replace S := S.pull (a := X.io) (by walk_at "pull")
  replace S := S.pull (a := X.d) (by walk_at "pull")
  replace S := S.pull (a := X.x) (by walk_at "pull")
  refine hr (A := A.deeper _) (hA' _) (List.mem_cons_of_mem _ hpb) (List.mem_cons_of_mem _ hfk) S ?_
  clear S; intro ta tb tc ub s S
  revert ta tb tc ub s
  refine @pad _ ?_
  refine @wall6 _ _ _ _ _ _ _ (by walk_at "ne") ?_
  generalize k1 _ = ta, k2 _ = tb, k3 _ = tc, k4 _ = ub, k5 _ = s
  set_option tactic.hygienic false in intros
  rename St _ _ _ _ s => S
  unfold lexC lexD at S
  repeat walk_at "gox"
  with_reducible refine x_while (fun n s => St w s₁ (L :: F) ((X.x, Cell.inst 739 X.d) :: (X.d, Cell.sd (lexD X (st' ta) (.str "" tb))) :: (X.io, Cell.inst 604 X.iod) :: (X.iod, Cell.sd (ioD X.buf pos' ub X.u2 X.u3)) :: (L, Cell.ns [("raw", .str x tc), ("self", .ref X.x)]) :: R) s) 0 ?_ ?_
  · exact S
  clear S; intro n s S
  revert n s
  refine @wall2 _ _ _ (by walk_at "ne") ?_
  generalize k0 _ = n, k1 _ = s
  set_option tactic.hygienic false in intros
  rename St _ _ _ _ s => S
  unfold lexD at S
  repeat walk_at "gox"
  with_reducible refine EqNone.eq_str_none ?_
  repeat walk_at "gox"
  replace S := S.unframe (by walk_at "pull")
  exact h ta tb tc ub s S
/-! MN -/

/-! a heap without some objects -/
noncomputable def without (h : Heap) : List Addr → Heap
  | [] => h
  | a :: r => (without h r).update a fun _ => { cls := .none, data := .freed }
theorem upd_freed (h : Heap) (a : Addr) : (h.update a fun _ => { cls := .none, data := .freed }).get? a = none := by
  cases e : (h.update a fun _ => ({ cls := .none, data := .freed } : Obj)).get? a with
  | none => rfl
  | some o =>
    obtain ⟨e1, e2⟩ := Heap.get?_some_iff.mp e
    obtain ⟨objs, life⟩ := h
    simp only [Heap.update, Array.getElem?_modify, if_true] at e1
    cases q : objs[a]? with
    | none => rw [q] at e1; cases e1
    | some o' => rw [q] at e1; cases e1; cases e2
theorem without_in (h : Heap) : ∀ (l : List Addr) {b : Addr}, b ∈ l → (without h l).get? b = none
  | [], _, hb => by cases hb
  | a :: r, b, hb => by
    unfold without
    by_cases e : a = b
    · subst e; exact upd_freed ..
    · rw [Heap.get?_update_other _ _ e]
      exact without_in h r ((List.mem_cons.mp hb).resolve_left fun q => e q.symm)
theorem without_out (h : Heap) : ∀ (l : List Addr) {b : Addr}, b ∉ l → (without h l).get? b = h.get? b
  | [], _, _ => rfl
  | a :: r, b, hb => by
    unfold without
    have hab : a ≠ b := fun e => hb (by subst e; exact List.mem_cons_self)
    rw [Heap.get?_update_other _ _ hab]
    exact without_out h r fun q => hb (List.mem_cons_of_mem _ q)

/-- the frames of a stack are function frames, among the known ones -/
noncomputable def Frs (fs : List Env) (F : List Addr) : Prop := ∀ env ∈ fs, env.scope.kind ≠ .module ∧ ∃ L ∈ F, env.frame = some L

section
variable {w : World} {s₁ s : Shared} {F : List Addr} {led led' : Led} {A : Around} {E : Value → Shared → Prop}

theorem Frs.cons {fs : List Env} {L : Addr} {env : Env} (h : Frs fs F) (hk : env.scope.kind ≠ .module) (he : env.frame = some L) : Frs (env :: fs) (L :: F) := fun e hm => by
  rcases List.mem_cons.mp hm with rfl | hm
  · exact ⟨hk, L, List.mem_cons_self, he⟩
  · obtain ⟨a, L', b, c⟩ := h e hm
    exact ⟨a, L', List.mem_cons_of_mem _ b, c⟩
theorem Frs.funFrames {h base : Heap} (hb : ∀ L ∈ F, base.get? L = none) (ha : ∀ L ∈ F, Alive h L) : ∀ {fs : List Env}, Frs fs F → h.FunFrames base fs
  | [], _ => trivial
  | env :: r, hf => by
    obtain ⟨hk, L, hL, he⟩ := hf env List.mem_cons_self
    obtain ⟨o, ho, hd⟩ := ha L hL
    exact ⟨hk, ⟨L, o, he, hb L hL, ho, fun vs q => by rw [q] at hd; cases hd⟩, Frs.funFrames hb ha fun e hm => hf e (List.mem_cons_of_mem _ hm)⟩

/-- an exception is made and leaves a frame: what is known stays known -/
theorem St.left (S : St w s₁ F led s) (B : Base w s₁) {h' h'' : Heap} {e L : Addr} {X : String} {l : List Env} {cls : Value} (hL : L ∈ F) (M : Heap.MadeExc s.heap h' e X []) (hl : Heap.Left (without h' (e :: F)) l e cls h' h'') : St w s₁ F led { s with heap := h'' } := by
  obtain ⟨hst, _, _, hkeep⟩ := hl
  have ene : ∀ b o, s.heap.get? b = some o → b ≠ e := fun b o hb q => by rw [q, M.new] at hb; cases hb
  have same : ∀ b o, b ∉ F → s.heap.get? b = some o → h''.get? b = some o := fun b o hb ho => by
    refine hst b o ?_
    rw [without_out _ _ (fun q => (List.mem_cons.mp q).elim (ene b o ho) hb)]
    exact M.keeps b o ho
  have oldF : ∀ b, b < s₁.heap.objs.size → b ∉ F := fun b hb q => absurd (S.frs b q).1 (Nat.not_le.mpr hb)
  have alive : ∀ f ∈ F, Alive h'' f := fun f hf => by
    obtain ⟨_, o, ho, hd⟩ := S.frs f hf
    obtain ⟨sl, e'⟩ := hkeep f o (M.keeps f o ho) (fun vs q => by rw [q] at hd; cases hd)
    exact ⟨_, e', hd⟩
  have osz : ∀ b o, s₁.heap.get? b = some o → b < s₁.heap.objs.size := fun b o q => Heap.lt_size q
  refine ⟨fun b o hb ho => same b o (oldF b (osz b o ho)) (S.old b o hb ho), ?_, S.os, S.gens, ?_, fun p hp => ?_, S.nd, S.lo, fun f hf => ⟨(S.frs f hf).1, alive f hf⟩, S.fns⟩
  · obtain ⟨ps, x, y⟩ := S.tab
    exact ⟨ps, isCode_keeps x fun b hb o q => same b o (oldF b (B.lts hb)) q, tableAt_keeps y fun b hb o q => same b o (oldF b (B.lts hb)) q⟩
  · obtain ⟨o, ho, _⟩ := alive L hL
    exact Nat.le_trans (S.frs L hL).1 (Nat.le_of_lt (Heap.lt_size ho))
  · obtain ⟨o, ho, hc⟩ := S.at_ p hp
    by_cases hF : p.1 ∈ F
    · have hns := S.fns p hp hF
      obtain ⟨a, c⟩ := p
      cases c <;> simp only [Cell.isNs] at hns <;> try cases hns
      obtain ⟨es, ep, h1, h2, h3, h4⟩ := hc
      obtain ⟨sl, e'⟩ := hkeep a o (M.keeps a o ho) (fun vs q => by rw [q] at h1; cases h1)
      exact ⟨_, e', es, ep, h1, h2, h3, h4⟩
    · exact ⟨o, same _ o hF ho, hc⟩

/-- calls of defs that may raise -/
theorem code_fnX (B : Base w s₁) (S : St w s₁ F led s) {f : Addr} {o : Obj} {fd : FuncData} {body : List Stmt} {pos : List Value} {kw : List (Str × Value)} {binds : List (Str × Value)} {R : Result → Shared → Prop}
    (hf : (hd.heap_1 w.params).lookup f = some o) (hdata : o.data = .func fd) (hroom : A.depth < recursionLimit) (hbody : fd.body = .stmts body)
    (hbind : BindsTo s fd ⟨pos, kw⟩ binds)
    (h : ∀ L s', s₁.heap.objs.size ≤ L → St w s₁ (L :: F) ((L, Cell.ns binds.reverse) :: led) s' → wpAny (model PR w) (A.deeper (callEnv fd L f)) (execs body (callEnv fd L f)) (Kret fun v s'' => R (.ok (.ret v)) s'')
      (fun e s' => wpAny (model PR w) (A.deeper (callEnv fd L f)) (leaving (callEnv fd L f) e) (fun _ s'' => R (.error e) s'') (fun e' s'' => R (.error e') s'') s') s')
    (hcd : codeIn (hd.heap_1 w.params) fd.code fd.qualname = true)
    (hnd : (Keys binds.reverse).Nodup)
    (hcell : ∀ x ∈ fd.scope.names, x.2 ≠ .cell) (hloc : ∀ x ∈ binds, fd.scope.names.lookup x.1 = some .local)
    (hco : fd.scope.isCoroutine = false) (hgen : fd.scope.isGenerator = false) (hk : fd.scope.kind = .function) :
    codeAny (model PR w) A (.call (.ref f) ⟨pos, kw⟩) R s := by
  have K := S.K B
  refine codeAny_call_def hroom (K _ _ hf) hdata (S.lim B) (codeRec_of K hcd) hbody hbind hcell hloc (fun h₀ hn hk => ?_) hco hgen hk
  obtain ⟨ob, e, hc, hdd⟩ := Cell.ns_ok (P := w.params) (m := binds.reverse) hn (fun p hp => lookup_of_mem hnd hp) hnd
  have hsz : s.heap.objs.size < h₀.objs.size := Heap.lt_size e
  have S' : St w s₁ F led { s with heap := h₀, toks := s.toks + binds.length } := S.ext (s' := { s with heap := h₀, toks := s.toks + binds.length }) hk (Nat.le_of_lt hsz) S.gens rfl
  have S'' := S'.push e hc S.size (fun p hp => by obtain ⟨o', e', _⟩ := S.at_ p hp; exact Nat.ne_of_lt (Heap.lt_size e')) (fun _ => rfl)
  have S3 : St w s₁ (s.heap.objs.size :: F) ((s.heap.objs.size, Cell.ns binds.reverse) :: led) { s with heap := h₀, toks := s.toks + binds.length } :=
    ⟨S''.old, S''.tab, S''.os, S''.gens, S''.size, S''.at_, S''.nd, S''.lo, fun f hf => by
      rcases List.mem_cons.mp hf with rfl | hf
      · exact ⟨S.size, ob, e, hdd⟩
      · exact S''.frs f hf, fun p hp hf => by
      rcases List.mem_cons.mp hp with rfl | hp
      · rfl
      · rcases List.mem_cons.mp hf with e' | hf
        · obtain ⟨o', e'', _⟩ := S.at_ p hp
          exact absurd e' (Nat.ne_of_lt (Heap.lt_size e''))
        · exact S.fns p hp hf⟩
  exact wpAny_mono (h _ _ S.size S3) (fun fl s' x => x) (fun _ _ x => x)
theorem enterX (B : Base w s₁) (S : St w s₁ F led s) {f : Addr} {oc : Value} {od : Option Addr} {osl : Array (Option Value)} {nm qn : Str} {ps : Arguments} {body : List Stmt} {sc : Scope} {dV kV doc pm : Value} {an : Option Addr} {cdv ct : Value}
    {pos : List Value} {kw : List (Str × Value)} (m : List (Str × Value)) {Q : Value → Shared → Prop}
    (hf : (hd.heap_1 w.params).lookup f = some ⟨oc, od, .func ⟨nm, qn, ps, .stmts body, sc, mainGlobals, [], dV, kV, doc, pm, an, cdv, ct, builtinsNs⟩, osl⟩)
    (hroom : A.depth < recursionLimit)
    (hbind : BindsTo s ⟨nm, qn, ps, .stmts body, sc, mainGlobals, [], dV, kV, doc, pm, an, cdv, ct, builtinsNs⟩ ⟨pos, kw⟩ m.reverse)
    (h : ∀ L s', s₁.heap.objs.size ≤ L → St w s₁ (L :: F) ((L, Cell.ns m) :: led) s' →
      wpAny (model PR w) (A.deeper ⟨sc, L, mainGlobals, [], qn ++ ".<locals>.", some f, cdv, some L, builtinsNs⟩) (execs body ⟨sc, L, mainGlobals, [], qn ++ ".<locals>.", some f, cdv, some L, builtinsNs⟩) (Kret Q)
        (fun e s' => wpAny (model PR w) (A.deeper ⟨sc, L, mainGlobals, [], qn ++ ".<locals>.", some f, cdv, some L, builtinsNs⟩) (leaving ⟨sc, L, mainGlobals, [], qn ++ ".<locals>.", some f, cdv, some L, builtinsNs⟩ e) (fun _ s'' => E e s'') (fun e' s'' => E e' s'') s') s')
    (hcd : codeIn (hd.heap_1 w.params) cdv qn = true) (hok : fnOk sc m.reverse = true) :
    wpAny (model PR w) A (call (.ref f) pos kw) Q E s := by
  simp only [fnOk, Bool.and_eq_true, Bool.not_eq_true'] at hok
  obtain ⟨⟨⟨⟨⟨h1, h2⟩, h3⟩, h4⟩, h5⟩, h6⟩ := hok
  refine wpAny_call (code_fnX B S hf rfl hroom rfl hbind (fun L s' hL S' => h L s' hL (by rw [List.reverse_reverse] at S'; exact S')) hcd (nodup_of h6) (fun x hx e => ?_) (fun x hx => of_decide_eq_true (List.all_eq_true.mp h2 x hx)) h3 h4 (by show sc.kind = _; cases q : sc.kind <;> rw [q] at h5 <;> first | rfl | cases h5))
  have := List.all_eq_true.mp h1 x hx
  rw [e] at this; cases this
end

theorem stop_bi : bootBuiltins (Str.ofString "StopIteration") = some (.type "StopIteration") := by decide +kernel

/-- the lexer is asked for one more, and there is one -/
theorem next_tok {w : World} {s₁ s : Shared} {F : List Addr} {R : Led} {A : Around} {fs : List Env} {Q : Option Value → Shared → Prop} {E : Value → Shared → Prop} {X : Lx} {st tok : Value} {st' : Tok → Value} {pos pos' : Nat} {x : Str} {u : Tok}
    (B : Base w s₁) (hg : Lexes w s₁ 700 8 X st tok pos (fun t => .str x t) st' pos') (hA : Ar A fs 9) (hpb : (X.pb, dqC) ∈ R) (hfk : (X.fk, dqC) ∈ R) (S : St w s₁ F (lexC X st tok pos u R) s)
    (h : ∀ t t' t'' u' s', St w s₁ F (lexC X (st' t) (.str "" t') pos' u' R) s' → Q (some (.str x t'')) s') : wpAny (model PR w) A (pyNext (.ref X.x)) Q E s := by
  revert w s₁ s F R A fs Q E X st tok st' pos pos' x u
  refine @pad _ ?_
  refine @wall18 _ _ _ _ _ _ _ _ _ _ _ _ _ _ _ _ _ _ _ (by walk_at "ne") ?_
  generalize k1 _ = w, k2 _ = s₁, k3 _ = s, k4 _ = F, k5 _ = R, k6 _ = A, k7 _ = fs, k8 _ = Q, k9 _ = E, k10 _ = X, k11 _ = st, k12 _ = tok, k13 _ = st', k14 _ = pos, k15 _ = pos', k16 _ = x, k17 _ = u
  intro B hg hA hpb hfk S h
  unfold lexC at S
  obtain ⟨es, ep, l', I, h1, h2, h3⟩ := inst_at S (x := X.x) (C := 739) (d := X.d) (by walk_at "mem") (by walk_at "mem")
  unfold pyNext
  refine wpAny_bind (wpAny_attempt (special_fn (name := "__next__") (args := []) (f := 736) (S.K B) I (by k_is) (by k_is) ?_))
  with_reducible refine enter (m := [("self", .ref X.x)]) B S (by k_is) (hA.room) (bindsK B S (by kernel_rfl)) ?_ (by kernel_rfl) (by kernel_rfl)
  clear S I
  unfold lexD at *
  refine @wallN _ ?_
  generalize wN _ = L
  intro s hL S
  have hA' := hA.deeper
  repeat walk_at "gox"
  with_reducible refine m_own B S (by walk_at "mem") (by walk_at "mem") (by k_is) ?_
  with_reducible refine cwfm0 B (by k_is) rfl ?_
  refine ⟨.of S, ?_⟩
  replace S := S.pull (a := X.iod) (by walk_at "pull")
  replace S := S.pull (a := X.io) (by walk_at "pull")
  replace S := S.pull (a := X.d) (by walk_at "pull")
  replace S := S.pull (a := X.x) (by walk_at "pull")
  refine hg (A := A.deeper _) (hA' _) (List.mem_cons_of_mem _ hpb) (List.mem_cons_of_mem _ hfk) S ?_
  clear S; intro ta tb tc ub s S
  revert ta tb tc ub s
  refine @pad _ ?_
  refine @wall6 _ _ _ _ _ _ _ (by walk_at "ne") ?_
  generalize k1 _ = ta, k2 _ = tb, k3 _ = tc, k4 _ = ub, k5 _ = s
  set_option tactic.hygienic false in intros
  rename St _ _ _ _ s => S
  unfold lexC lexD at S
  repeat walk_at "gox"
  with_reducible refine EqNone.eq_str_none ?_
  repeat walk_at "gox"
  replace S := S.unframe (by walk_at "pull")
  exact wpAny_pure (h ta tb tc ub s S)

theorem next_end {w : World} {s₁ s : Shared} {F : List Addr} {R : Led} {A : Around} {fs : List Env} {Q : Option Value → Shared → Prop} {E : Value → Shared → Prop} {X : Lx} {st tok : Value} {st' : Tok → Value} {pos pos' : Nat} {u : Tok}
    (B : Base w s₁) (hg : Lexes w s₁ 700 8 X st tok pos (fun _ => .none) st' pos') (hA : Ar A fs 9) (hF : Frs fs F) (hpb : (X.pb, dqC) ∈ R) (hfk : (X.fk, dqC) ∈ R) (S : St w s₁ F (lexC X st tok pos u R) s)
    (h : ∀ t t' u' s', St w s₁ F (lexC X (st' t) (.str "" t') pos' u' R) s' → Q none s') : wpAny (model PR w) A (pyNext (.ref X.x)) Q E s := by
  revert w s₁ s F R A fs Q E X st tok st' pos pos' u
  refine @wall16 _ _ _ _ _ _ _ _ _ _ _ _ _ _ _ _ _ (by walk_at "ne") ?_
  generalize k0 _ = w, k1 _ = s₁, k2 _ = s, k3 _ = F, k4 _ = R, k5 _ = A, k6 _ = fs, k7 _ = Q, k8 _ = E, k9 _ = X, k10 _ = st, k11 _ = tok, k12 _ = st', k13 _ = pos, k14 _ = pos', k15 _ = u
  intro B hg hA hF hpb hfk S h
  unfold lexC at S
  obtain ⟨es, ep, l', I, h1, h2, h3⟩ := inst_at S (x := X.x) (C := 739) (d := X.d) (by walk_at "mem") (by walk_at "mem")
  unfold pyNext
  refine wpAny_bind (wpAny_attempt (special_fn (name := "__next__") (args := []) (f := 736) (S.K B) I (by k_is) (by k_is) ?_))
  with_reducible refine enterX (m := [("self", .ref X.x)]) B S (by k_is) (hA.room) (bindsK B S (by kernel_rfl)) ?_ (by kernel_rfl) (by kernel_rfl)
  clear S I
  unfold lexD at *
  refine @wallN _ ?_
  generalize wN _ = L
  intro s hL S
  have hA' := hA.deeper
  repeat walk_at "gox"
  with_reducible refine m_own B S (by walk_at "mem") (by walk_at "mem") (by k_is) ?_
  with_reducible refine cwfm0 B (by k_is) rfl ?_
  refine ⟨.of S, ?_⟩
  replace S := S.pull (a := X.iod) (by walk_at "pull")
  replace S := S.pull (a := X.io) (by walk_at "pull")
  replace S := S.pull (a := X.d) (by walk_at "pull")
  replace S := S.pull (a := X.x) (by walk_at "pull")
  refine hg (A := A.deeper _) (hA' _) (List.mem_cons_of_mem _ hpb) (List.mem_cons_of_mem _ hfk) S ?_
  clear S; intro ta tb tc ub s S
  revert ta tb tc ub s
  refine @pad _ ?_
  refine @wall6 _ _ _ _ _ _ _ (by walk_at "ne") ?_
  generalize k1 _ = ta, k2 _ = tb, k3 _ = tc, k4 _ = ub, k5 _ = s
  set_option tactic.hygienic false in intros
  rename St _ _ _ _ s => S
  unfold lexC lexD at S
  repeat walk_at "gox"
  with_reducible refine EqNone.eq_none_none ?_
  repeat walk_at "gox"
  with_reducible refine owsi_raiseC (hA' _).hnd ?_ ?_
  · with_reducible refine bl (x := "StopIteration") (v := .type "StopIteration") B S (by k_is) stop_bi ?_
    exact ⟨rfl, rfl⟩
  · intro h' e M
    obtain ⟨tt, he, _⟩ := M.there
    have hal : ∀ f ∈ L :: F, Alive h' f := fun f hf => by
      obtain ⟨_, o, ho, hd⟩ := S.frs f hf
      exact ⟨o, M.keeps f o ho, hd⟩
    refine wpAny_leaving_first (base := without h' (e :: L :: F)) (hA' _).frames (Frs.funFrames (F := L :: F) (fun f hf => without_in _ _ (List.mem_cons_of_mem _ hf)) hal (hF.cons (by exact fun q => by cases q) rfl)) rfl he ?_ (without_in _ _ List.mem_cons_self) rfl rfl fun h'' hl => ?_
    · intro b o hb
      by_cases q : b ∈ e :: L :: F
      · rw [without_in _ _ q] at hb; cases hb
      · rw [without_out _ _ q] at hb; exact hb
    · have S2 := (S.left B List.mem_cons_self M hl).unframe (by walk_at "pull")
      obtain ⟨_, _, ⟨oe, vs, T, oT, ts, e1, e2, _⟩, _⟩ := hl
      refine wpAny_bind (wpAny_isInstance (T := "StopIteration") ⟨oe, e1, e2⟩ owsi_facts.sub ?_)
      exact wpAny_pure (h ta tb ub _ S2)
/-! MO -/

/-- a tree run over the written part of the heap; new objects are gathered -/
noncomputable def lookA {α : Type} (K : Frag) (st : Setting) (a t : Nat) (x : Sem α) : Option (Sem α × Option Obj × Nat) := by
  cases x
  case load b p k => exact (K.lookup b).map fun o => (k o, none, t)
  case rule _ k => exact some (k (), none, t)
  case point _ k => exact some (k (), none, t)
  case «at» _ k => exact some (k (), none, t)
  case ask k => exact some (k st, none, t)
  case fresh k => exact some (k t, none, t + 1)
  case alloc o k => exact some (k a, some o, t)
  all_goals exact none
noncomputable def consA {α : Type} (o : Obj) (r : Option (α × List Obj × Nat)) : Option (α × List Obj × Nat) := r.map fun y => (y.1, o :: y.2.1, y.2.2)
noncomputable def runA {α : Type} (K : Frag) (st : Setting) (n : Nat) : Nat → Nat → Sem α → Option (α × List Obj × Nat) :=
  Nat.rec (fun _ _ _ => none) (fun _ r a t x => (endK x).elim ((lookA K st a t x).elim none fun y => y.2.1.elim (r a y.2.2 y.1) fun o => consA o (r (a + 1) y.2.2 y.1)) fun v => some (v, [], t)) n
noncomputable def pushes (h : Heap) : List Obj → Heap
  | [] => h
  | o :: r => pushes (h.push o) r
theorem lookA_sound {α : Type} {K : Frag} {M : Model} {A : Around} {E : Value → Shared → Prop} {s : Shared} (X : K.In s.heap) {x : Sem α} {y : Sem α × Option Obj × Nat} {Q : α → Shared → Prop}
    (h : lookA K ⟨M.prog, M.w.params⟩ s.heap.objs.size s.toks x = some y) (q : y.2.1.elim (wpAny M A y.1 Q E { s with toks := y.2.2 }) fun o => wpAny M A y.1 Q E { s with heap := s.heap.push o, toks := y.2.2 }) : wpAny M A x Q E s := by
  cases x
  case load a p k =>
    obtain ⟨o, ho, rfl⟩ := Option.map_eq_some_iff.mp h
    exact nd_load (X _ _ ho) q
  case rule _ k => cases h; exact nd_rule q
  case point _ k => cases h; exact nd_point q
  case «at» p k => cases h; exact fun Γ _ hΓ => q Γ p hΓ
  case ask k => cases h; exact nd_ask q
  case fresh k => cases h; exact nd_fresh q
  case alloc o k => cases h; exact nd_alloc q
  all_goals cases h
theorem runA_sound {α : Type} {K : Frag} {M : Model} {A : Around} {E : Value → Shared → Prop} (n : Nat) : ∀ {s : Shared} {t : Sem α} {x : α} {os : List Obj} {t' : Nat} {Q : α → Shared → Prop}, K.In s.heap →
    runA K ⟨M.prog, M.w.params⟩ n s.heap.objs.size s.toks t = some (x, os, t') → Q x { s with heap := pushes s.heap os, toks := t' } → wpAny M A t Q E s := by
  induction n with
  | zero => intro s t x os t' Q X h; cases h
  | succ n ih =>
    intro s t x os t' Q X h q
    have h : (endK t).elim ((lookA K ⟨M.prog, M.w.params⟩ s.heap.objs.size s.toks t).elim none fun y => y.2.1.elim (runA K ⟨M.prog, M.w.params⟩ n s.heap.objs.size y.2.2 y.1) fun o => consA o (runA K ⟨M.prog, M.w.params⟩ n (s.heap.objs.size + 1) y.2.2 y.1)) (fun v => some (v, [], s.toks)) = some (x, os, t') := h
    cases he : endK t with
    | some b =>
      rw [he] at h
      cases h
      rw [endK_sound he]
      exact wpAny_pure q
    | none =>
      rw [he] at h
      cases hl : lookA K ⟨M.prog, M.w.params⟩ s.heap.objs.size s.toks t with
      | none => rw [hl] at h; cases h
      | some y =>
        rw [hl] at h
        obtain ⟨t2, o, tk⟩ := y
        refine lookA_sound X hl ?_
        cases o with
        | none => exact ih (s := { s with toks := tk }) X h q
        | some o =>
          obtain ⟨⟨y1, y2, y3⟩, hy, e⟩ := Option.map_eq_some_iff.mp h
          cases e
          refine ih (s := { s with heap := s.heap.push o, toks := tk }) (fun a o' e => Heap.get?_push_of_some _ (X a o' e)) ?_ q
          show runA K _ n (s.heap.push o).objs.size tk _ = _
          rw [Heap.size_push]
          exact hy
noncomputable abbrev SET (w : World) : Setting := ⟨(model PR w).prog, (model PR w).w.params⟩

section
variable {w : World} {s₁ s : Shared} {F : List Addr} {led led' : Led} {A : Around} {E : Value → Shared → Prop}
theorem St.pushes {s : Shared} (S : St w s₁ F led s) (os : List Obj) (t : Nat) : St w s₁ F led { s with heap := Mine.pushes s.heap os, toks := t } := by
  induction os generalizing s with
  | nil => exact S.toks t
  | cons o r ih => exact ih (S.alloc' (o := o))
/-- a call with a class or a def of the text for callee, one argument -/
theorem cwk1 (B : Base w s₁) {env : Env} {pos : Pos} {f : Addr} {e1 : Expr} {Q : Value → Shared → Prop} (hk : keepIn (hd.heap_1 w.params) (.ref f) = true)
    (h : wpAny (model PR w) A (eval e1 env) (fun v1 s11 => SomeSt w s₁ s11 ∧ wpAny (model PR w) A (call (.ref f) [v1]) Q E s11) E s)
    (ha : backTo pos (starEach [e1] env) = [(false, eval e1 env)] := by kernel_rfl) : wpAny (model PR w) A (callWith pos (.ref f) [] (backTo pos (starEach [e1] env)) (backToKw pos (keywordEach [] env))) Q E s := by
  rw [ha]
  refine callWith_of rfl (keeps_K hk) (evalArgs_plain (Calls.spliced_cons (wpAny_mono h (fun v1 s11 h1 => Calls.spliced_nil ⟨?_, h1.2⟩) fun _ _ x => x)))
  obtain ⟨⟨_, _, S⟩, _⟩ := h1
  exact S.K B
theorem cwk1k1 (B : Base w s₁) {env : Env} {pos : Pos} {f : Addr} {e1 e2 : Expr} {k : Str} {kp : Pos} {Q : Value → Shared → Prop} (hk : keepIn (hd.heap_1 w.params) (.ref f) = true)
    (h : wpAny (model PR w) A (eval e1 env) (fun v1 s11 => wpAny (model PR w) A (eval e2 env) (fun v2 s12 => SomeSt w s₁ s12 ∧ wpAny (model PR w) A (call (.ref f) [v1] [(k, v2)]) Q E s12) E s11) E s)
    (ha : backTo pos (starEach [e1] env) = [(false, eval e1 env)] := by kernel_rfl) (hb : backToKw pos (keywordEach [⟨some k, e2, kp⟩] env) = [(some k, eval e2 env >>= fun v => standAt pos >>= fun _ => pure v)] := by kernel_rfl) : wpAny (model PR w) A (callWith pos (.ref f) [] (backTo pos (starEach [e1] env)) (backToKw pos (keywordEach [⟨some k, e2, kp⟩] env))) Q E s := by
  rw [ha, hb]
  refine callWith_of rfl (keeps_K hk) (PySem.evalArgs_kw rfl (Calls.spliced_cons (wpAny_mono h (fun v1 s11 h1 => Calls.spliced_nil (wpAny_evalAll_cons (wpAny_bind (wpAny_mono h1 (fun v2 s12 h2 => wpAny_bind (wpAny_standAt (wpAny_pure (wpAny_evalAll_nil ⟨?_, h2.2⟩)))) fun _ _ x => x)))) fun _ _ x => x)))
  obtain ⟨⟨_, _, S⟩, _⟩ := h2
  exact S.K B
theorem y_type_str {x : Str} {t : Tok} {Q : Value → Shared → Prop} (h : Q (.type "str") s) : wpAny (model PR w) A (call (.type "type") [.str x t]) Q E s := call_type_of rfl (by decide) h
end

theorem Ar.make {A : Around} {fs : List Env} {n : Nat} {C : Addr} {vals : List Value} {kw : List (Str × Value)} (h : Ar A fs (n + 1)) : Ar (A.under (.builtin "type.__call__" ⟨.ref C :: vals, kw⟩)) fs n := by
  obtain ⟨hd, d, fr, gs, u⟩ := A
  obtain ⟨h1, h2, h3, h4⟩ := h
  dsimp only at h1 h2 h3 h4
  subst h3 h4
  refine ⟨?_, ?_, rfl, ?_⟩
  · show d + 1 + n < _; lia
  · show u + 1 + 20 * n < _; lia
  · rfl
theorem translated_spec {w : World} {s₁ s : Shared} {F : List Addr} {R : Led} {A : Around} {fs : List Env} {E : Value → Shared → Prop} {Q : Value → Shared → Prop} {x d : Addr} {buf : Str} {y : Value} {pos : Int} {t1 t2 t3 : Tok}
    (B : Base w s₁) (hA : Ar A fs 2) (S : St w s₁ F ((x, Cell.inst 604 d) :: (d, Cell.sd (ioD buf pos t1 t2 t3)) :: R) s) (h : ∀ s', St w s₁ F ((x, Cell.inst 604 d) :: (d, Cell.sd (ioD buf pos t1 t2 t3)) :: R) s' → Q y s') :
    wpAny (model PR w) A (call (.ref 381) [.ref x, y]) Q E s := by
  revert w s₁ s F R A fs E Q x d buf y pos t1 t2 t3
  refine @pad _ ?_
  refine @wall18 _ _ _ _ _ _ _ _ _ _ _ _ _ _ _ _ _ _ _ (by walk_at "ne") ?_
  generalize k1 _ = w, k2 _ = s₁, k3 _ = s, k4 _ = F, k5 _ = R, k6 _ = A, k7 _ = fs, k8 _ = E, k9 _ = Q, k10 _ = x, k11 _ = d, k12 _ = buf, k13 _ = y, k14 _ = pos, k15 _ = t1, k16 _ = t2, k17 _ = t3
  intro B hA S h
  with_reducible refine enter (m := [("s", y), ("self", .ref x)]) B S (by k_is) (hA.room) (bindsK B S (by kernel_rfl)) ?_ (by kernel_rfl) (by kernel_rfl)
  clear S
  unfold ioD at *
  refine @wallN _ ?_
  generalize wN _ = L
  intro s hL S
  repeat walk_at "gox"
  exact h _ (S.unframe (by walk_at "pull"))

theorem ioinit_spec {w : World} {s₁ s : Shared} {F : List Addr} {R : Led} {A : Around} {fs : List Env} {E : Value → Shared → Prop} {Q : Value → Shared → Prop} {x d : Addr} {buf : Str} {t0 : Tok}
    (B : Base w s₁) (hA : Ar A fs 4) (S : St w s₁ F ((x, Cell.inst 604 d) :: (d, Cell.sd []) :: R) s) (h : ∀ t1 t2 t3 s', St w s₁ F ((x, Cell.inst 604 d) :: (d, Cell.sd (ioD buf 0 t1 t2 t3)) :: R) s' → Q .none s') :
    wpAny (model PR w) A (call (.ref 374) [.ref x, .str buf t0]) Q E s := by
  revert w s₁ s F R A fs E Q x d buf t0
  refine @wall13 _ _ _ _ _ _ _ _ _ _ _ _ _ _ (by walk_at "ne") ?_
  generalize k0 _ = w, k1 _ = s₁, k2 _ = s, k3 _ = F, k4 _ = R, k5 _ = A, k6 _ = fs, k7 _ = E, k8 _ = Q, k9 _ = x, k10 _ = d, k11 _ = buf, k12 _ = t0
  intro B hA S h
  with_reducible refine enter (m := [("newline", .str "\n" 769), ("initial_value", .str buf t0), ("self", .ref x)]) B S (by k_is) (hA.room) (bindsK B S (by kernel_rfl)) ?_ (by kernel_rfl) (by kernel_rfl)
  clear S
  refine @wallN _ ?_
  generalize wN _ = L
  intro s hL S
  have hA' := hA.deeper
  repeat walk_at "gox"
  with_reducible refine cwt1 ?_
  repeat walk_at "gox"
  with_reducible refine y_type_str ?_
  repeat walk_at "gox"
  refine v_isnot false (by kernel_rfl) (by kernel_rfl) ?_
  repeat walk_at "gox"
  with_reducible refine cwt1 ?_
  repeat walk_at "gox"
  with_reducible refine y_type_str ?_
  repeat walk_at "gox"
  refine v_isnot false (by kernel_rfl) (by kernel_rfl) ?_
  repeat walk_at "gox"
  with_reducible refine m_own B S (by walk_at "mem") (by walk_at "mem") (by k_is) ?_
  with_reducible refine cwfm1 B (by k_is) rfl ?_
  repeat walk_at "gox"
  refine ⟨.of S, ?_⟩
  replace S := S.pull (a := d) (by walk_at "pull")
  replace S := S.pull (a := x) (by walk_at "pull")
  with_reducible refine translated_spec B ((hA' _).le (by decide)) S ?_
  clear S; intro s S
  unfold ioD at S
  repeat walk_at "gox"
  replace S := S.unframe (by walk_at "pull")
  exact h _ _ _ _ S

theorem fr_of {w : World} {s₁ s : Shared} {F : List Addr} {led : Led} (B : Base w s₁) (S : St w s₁ F led s) {L : Addr} {m : List (Str × Value)} (hm : (L, Cell.ns m) ∈ led) : ∃ h₀ f, Fr h₀ L s.heap f ∧ (hd.heap_1 w.params).In h₀ := by
  obtain ⟨f, hn, _, _⟩ := Cell.ns_at S hm
  refine ⟨without s₁.heap [753], f, ⟨hn, fun b o e => ?_, ?_⟩, fun a o e => ?_⟩
  · by_cases q : b = 753
    · rw [without_in _ _ (by rw [q]; exact List.mem_cons_self)] at e; cases e
    · rw [without_out _ _ (by simpa using q)] at e
      exact S.old b o (.inl q) e
  · show ((s₁.heap).update 753 _).objs.size ≤ L
    rw [Heap.size_after_update]
    exact S.lo _ hm
  · have q : a ≠ 753 := by
      rintro rfl
      have : (hd.heap_1 w.params).lookup 753 = none := by kernel_rfl
      rw [this] at e; cases e
    rw [without_out _ _ (by simpa using q)]
    exact B.K a o e

/-- calls of defs whose binding makes objects -/
theorem enterV {w : World} {s₁ s : Shared} {F : List Addr} {led : Led} {A : Around} {E : Value → Shared → Prop} (B : Base w s₁) (S : St w s₁ F led s) {f : Addr} {oc : Value} {od : Option Addr} {osl : Array (Option Value)} {nm qn : Str} {ps : Arguments} {body : List Stmt} {sc : Scope} {dV kV doc pm : Value} {an : Option Addr} {cdv ct : Value}
    {pos : List Value} {kw : List (Str × Value)} (m : List (Str × Value)) {os : List Obj} {t' : Nat} {Q : Value → Shared → Prop}
    (hf : (hd.heap_1 w.params).lookup f = some ⟨oc, od, .func ⟨nm, qn, ps, .stmts body, sc, mainGlobals, [], dV, kV, doc, pm, an, cdv, ct, builtinsNs⟩, osl⟩)
    (hroom : A.depth < recursionLimit)
    (hbind : runA (hd.heap_1 w.params) (SET w) 200 s.heap.objs.size s.toks (bindArgs ⟨nm, qn, ps, .stmts body, sc, mainGlobals, [], dV, kV, doc, pm, an, cdv, ct, builtinsNs⟩ ⟨pos, kw⟩) = some (m.reverse, os, t'))
    (h : ∀ L s', s₁.heap.objs.size ≤ L → St w s₁ (L :: F) ((L, Cell.ns m) :: led) s' →
      wpAny (model PR w) (A.deeper ⟨sc, L, mainGlobals, [], qn ++ ".<locals>.", some f, cdv, some L, builtinsNs⟩) (execs body ⟨sc, L, mainGlobals, [], qn ++ ".<locals>.", some f, cdv, some L, builtinsNs⟩) (Kret Q) FF s')
    (hcd : codeIn (hd.heap_1 w.params) cdv qn = true) (hok : fnOk sc m.reverse = true) :
    wpAny (model PR w) A (call (.ref f) pos kw) Q E s := by
  simp only [fnOk, Bool.and_eq_true, Bool.not_eq_true'] at hok
  obtain ⟨⟨⟨⟨⟨h1, h2⟩, h3⟩, h4⟩, h5⟩, h6⟩ := hok
  have K := S.K B
  have S1 := S.pushes os t'
  refine wpAny_call (codeAny_call_function hroom (K _ _ hf) rfl h3 h4 rfl (codeRec_of K hcd) (runA_sound 200 K hbind ?_))
  refine wpAny_newFunctionEnv (fun x hx e => ?_) (fun x hx => of_decide_eq_true (List.all_eq_true.mp h2 x hx)) (fun h₀ hn hsb => ⟨(S1.lim B).fresh _ hsb, codeAny_func ?_⟩) (by show sc.kind = _; cases q : sc.kind <;> rw [q] at h5 <;> first | rfl | cases h5)
  · have := List.all_eq_true.mp h1 x hx
    rw [e] at this; cases this
  · have hk : ∀ b o, (Mine.pushes s.heap os).get? b = some o → h₀.get? b = some o := fun b o e => hsb.extBut b o (Nat.ne_of_lt (Heap.lt_size e)) (Heap.get?_push_of_some _ e)
    have hnd := nodup_of h6
    obtain ⟨ob, e, hc, hdd⟩ := Cell.ns_ok (P := w.params) (m := m) hn (fun p hp => lookup_of_mem (by rw [List.reverse_reverse]; rw [List.reverse_reverse] at hnd; exact hnd) (by rw [List.reverse_reverse]; exact hp)) (by rw [List.reverse_reverse] at hnd; exact hnd)
    have hsz : (Mine.pushes s.heap os).objs.size < h₀.objs.size := Heap.lt_size e
    have S' : St w s₁ F led { s with heap := h₀, toks := t' + m.reverse.length } := S1.ext (s' := { s with heap := h₀, toks := t' + m.reverse.length }) hk (Nat.le_of_lt hsz) S.gens rfl
    have S'' := S'.push e hc S1.size (fun p hp => by obtain ⟨o', e', _⟩ := S1.at_ p hp; exact Nat.ne_of_lt (Heap.lt_size e')) (fun _ => rfl)
    have S3 : St w s₁ ((Mine.pushes s.heap os).objs.size :: F) (((Mine.pushes s.heap os).objs.size, Cell.ns m) :: led) { s with heap := h₀, toks := t' + m.reverse.length } :=
      ⟨S''.old, S''.tab, S''.os, S''.gens, S''.size, S''.at_, S''.nd, S''.lo, fun f hf => by
        rcases List.mem_cons.mp hf with rfl | hf
        · exact ⟨S1.size, ob, e, hdd⟩
        · exact S''.frs f hf, fun p hp hf => by
        rcases List.mem_cons.mp hp with rfl | hp
        · rfl
        · rcases List.mem_cons.mp hf with e' | hf
          · obtain ⟨o', e'', _⟩ := S1.at_ p hp
            exact absurd e' (Nat.ne_of_lt (Heap.lt_size e''))
          · exact S.fns p hp hf⟩
    exact wpAny_mono (h _ _ S1.size S3) (fun fl s' x => x) (fun _ _ x => x.elim)

/-- object.__new__ of StringIO -/
theorem objnew_io {w : World} {s₁ s : Shared} {F : List Addr} {R : Led} {A : Around} {E : Value → Shared → Prop} {Q : Value → Shared → Prop}
    (B : Base w s₁) (S : St w s₁ F R s) (h : ∀ x d s', St w s₁ F ((x, Cell.inst 604 d) :: (d, Cell.sd []) :: R) s' → Q (.ref x) s') :
    wpAny (model PR w) A (call (.builtin "object.__new__") [.ref 604]) Q E s := by
  have K := S.K B
  have fo := PySem.F.objNew
  have hq : (Code.builtin "object.__new__" ⟨[.ref 604], []⟩).quiet = true := Code.quiet_builtin _ fo.quiet
  have hk : runK (hd.heap_1 w.params) 400 (checkBuiltinCall "object.__new__" ⟨[.ref 604], []⟩) = some () := by kernel_rfl
  have hb : runA (hd.heap_1 w.params) (SET w) 400 s.heap.objs.size s.toks (Builtin.«object.__new__» ⟨[.ref 604], []⟩) = some (Fin.done (.ret (.ref (s.heap.objs.size + 1))), [emptyDict, instObj 604 s.heap.objs.size], s.toks) := by kernel_rfl
  with_reducible refine wpAny_call (codeAny_call_builtin_code hq ?_)
  with_reducible refine runK_sound K 400 hk ?_
  with_reducible refine codeAny_builtin fo.entry ?_
  with_reducible refine runA_sound 400 K hb ?_
  have S1 := S.alloc (o := emptyDict) (c := .sd []) ⟨[], 0, [], rfl, .nil, .refl _, .nil, Nat.zero_le _⟩
  have S2 := S1.alloc (o := instObj 604 s.heap.objs.size) (c := .inst 604 s.heap.objs.size) rfl
  have e : (s.heap.push emptyDict).objs.size = s.heap.objs.size + 1 := Heap.size_push ..
  dsimp only at S2
  rw [e] at S2
  exact h _ _ _ S2

theorem m_get {M : Model} {A : Around} {E : Value → Shared → Prop} {s : Shared} {ov f : Value} {first : List Value} {o : Expr} {env : Env} {name : Str} {apos pos : Pos} {n : Nat} {args : List (Bool × Sem Value)} {kws : List (Option Str × Sem Value)} {Q : Value → Shared → Prop}
    (h : ∀ pl, wpAny M A (getMethod ov name pl) (fun r s' => r = (f, first) ∧ wpAny M A (callWith pos f first args kws) Q E s') E s)
    (hform : methodCallForm n args kws = true) (hline : (apos.endLine == pos.line) = true) :
    wpAny M A (methodCall o name apos pos env ov n args kws) Q E s := by
  unfold methodCall calleeOf
  rw [hform]
  refine wpAny_bind (wpAny_holding (wpAny_mono (h _) (fun r s' x => ?_) fun _ _ x => x))
  obtain ⟨rfl, x⟩ := x
  exact wpAny_bind (wpAny_of_eq (m_pos hline) x)
theorem ionew_spec {w : World} {s₁ s : Shared} {F : List Addr} {R : Led} {A : Around} {fs : List Env} {E : Value → Shared → Prop} {Q : Value → Shared → Prop} {v : Value}
    (B : Base w s₁) (hA : Ar A fs 2) (S : St w s₁ F R s) (h : ∀ x d s', St w s₁ F ((x, Cell.inst 604 d) :: (d, Cell.sd []) :: R) s' → Q (.ref x) s') :
    wpAny (model PR w) A (call (.ref 97) [.ref 604, v]) Q E s := by
  with_reducible refine enterV (m := [("kwargs", .ref (s.heap.objs.size + 1)), ("args", .ref s.heap.objs.size), ("cls", .ref 604)]) (os := [{ cls := .type "tuple", data := .seq #[v] }, { cls := .type "dict", data := .dict #[] }]) (t' := s.toks) B S (by k_is) (hA.room) (by kernel_rfl) ?_ (by kernel_rfl) (by kernel_rfl)
  clear S
  intro L s hL S
  repeat walk_at "gox"
  with_reducible refine runK_sound (S.K B) 50 (a := .bool true) (by kernel_rfl) ?_
  repeat walk_at "gox"
  with_reducible refine runK_sound (S.K B) 50 (a := .bool false) (by kernel_rfl) ?_
  repeat walk_at "gox"
  with_reducible refine bl (x := "object") (v := .type "object") B S (by k_is) (by kernel_rfl) ?_
  obtain ⟨h₀, f, Fr', K0⟩ := fr_of B S (L := L) (by walk_at "mem")
  with_reducible refine m_get (f := .builtin "object.__new__") (first := []) ?_ (by kernel_rfl) (by kernel_rfl)
  intro pl
  with_reducible refine method_type Fr' K0 PyProof.Rows.meta_object (by decide +kernel) (v := .builtin "object.__new__") (by kernel_rfl) (by kernel_rfl) ?_
  refine ⟨rfl, ?_⟩
  replace S := S.toks (s.toks + 1)
  generalize { s with toks := s.toks + 1 } = s at S ⊢
  with_reducible refine cwb1 ?_
  repeat walk_at "gox"
  with_reducible refine objnew_io B S ?_
  clear S
  intro x d s S
  repeat walk_at "gox"
  replace S := S.unframe (by walk_at "pull")
  exact h _ _ _ S

/-- a StringIO is made -/
theorem io_make {w : World} {s₁ s : Shared} {F : List Addr} {R : Led} {A : Around} {fs : List Env} {E : Value → Shared → Prop} {Q : Value → Shared → Prop} {buf : Str} {t0 : Tok}
    (B : Base w s₁) (hA : Ar A fs 7) (S : St w s₁ F R s) (h : ∀ x d t1 t2 t3 s', St w s₁ F ((x, Cell.inst 604 d) :: (d, Cell.sd (ioD buf 0 t1 t2 t3)) :: R) s' → Q (.ref x) s') :
    wpAny (model PR w) A (call (.ref 604) [.str buf t0]) Q E s := by
  have K := S.K B
  refine wpAny_call (codeAny_of_tree ?_)
  show wpAny _ _ (callAny (.ref 604) _) _ _ _
  refine nd_load (K 604 _ (by k_is)) ?_
  show wpAny _ _ (callAny.viaDunder (.ref 604) _) _ _ _
  unfold callAny.viaDunder
  refine wpAny_bind (runK_sound K 300 (a := some (.builtin "type.__call__")) (by kernel_rfl) ?_)
  dsimp only
  rw [tc_bind]
  refine wpAny_bind (wpAny_pure (wpAny_bind (wpAny_pure ?_)))
  refine wpAny_pure (a := Fin.again (.call (.builtin "type.__call__") ⟨[.ref 604, .str buf t0], []⟩)) (And.intro rfl ?_)
  refine codeAny_call_builtin_at (Code.quiet_builtin _ (by decide +kernel)) entry_typeCall (check_slot tc_kind tc_split ?_ (tc_args _ _ _) ?_)
  · exact looks_instIn K (by kernel_rfl)
  have hA2 := hA.make (C := 604) (vals := [.str buf t0]) (kw := [])
  unfold Builtin.«type.__call__»
  show wpAny _ _ (mroOf (.ref 604) >>= _) _ _ _
  refine wpAny_bind (runK_sound K 300 (a := [.ref 604, .ref 127, .ref 100, .type "object"]) (by kernel_rfl) ?_)
  show wpAny _ _ (Bind.madeBy (.ref 604) >>= _) _ _ _
  refine wpAny_bind (runK_sound K 300 (a := none) (by kernel_rfl) ?_)
  show wpAny _ _ (getAttr (.ref 604) (Str.ofString "__new__") >>= _) _ _ _
  refine wpAny_bind (cls_bind K (mc := .type "type") (g := .builtin "staticmethod.__get__") (a := .ref 101) (obj := .none) (tp := .ref 604) (by kernel_rfl) (by kernel_rfl) (wpAny_call (sm_get (s := { s with toks := s.toks + 1 }) (f := .ref 97) (rest := []) K (by kernel_rfl) (handed_on rfl ?_))))
  replace S := S.toks (s.toks + 1)
  refine wpAny_bind (wpAny_holding ?_)
  refine ionew_spec B (hA2.le (by decide)) S ?_
  clear S
  intro x d s S
  have K := S.K B
  obtain ⟨es, ep, l', I, h1, h2, h3⟩ := inst_at S (x := x) (C := 604) (d := d) (by walk_at "mem") (by walk_at "mem")
  unfold isInstance
  refine wpAny_bind (wpAny_bind (I.type.here (runK_sound K 300 (a := true) (by kernel_rfl) ?_)))
  show wpAny _ _ (holding [.ref x] (callSpecial? (.ref x) (Str.ofString "__init__") [.str buf t0] []) >>= _) _ _ _
  refine wpAny_bind (wpAny_holding (special_fn (f := 374) K I (by kernel_rfl) (by kernel_rfl) ?_))
  refine ioinit_spec B (hA2.le (by decide)) S ?_
  clear S I
  intro t1 t2 t3 s S
  exact wpAny_pure (h _ _ _ _ _ _ S)
/-! MP -/

/-! the words of a line -/
inductive LexAll : List Nat → List (List Nat) → Prop where
  | done {l rest} : lexRun .sp [] false l = some (none, [], false, rest) → LexAll l []
  | last {l tok qd} : lexRun .sp [] false l = some (none, tok, qd, []) → ¬ (tok = [] ∧ qd = false) → LexAll l [tok]
  | more {l tok qd rest ws} : lexRun .sp [] false l = some (some .sp, tok, qd, rest) → ¬ (tok = [] ∧ qd = false) → LexAll rest ws → LexAll l (tok :: ws)

theorem lexRun_suffix : ∀ (l : List Nat) (st : Ls) (tok : List Nat) (qd : Bool) {fin : Option Ls} {tok' : List Nat} {qd' : Bool} {rest : List Nat}, lexRun st tok qd l = some (fin, tok', qd', rest) → ∃ pre, l = pre ++ rest
  | [], st, tok, qd, fin, tok', qd', rest, h => by
    cases st <;> simp only [lexRun] at h <;> cases h <;> exact ⟨[], rfl⟩
  | c :: r, st, tok, qd, fin, tok', qd', rest, h => by
    have go : ∀ (st : Ls) (tok : List Nat) (qd : Bool), lexRun st tok qd r = some (fin, tok', qd', rest) → ∃ pre, c :: r = pre ++ rest := fun st tok qd h => by
      obtain ⟨pre, e⟩ := lexRun_suffix r st tok qd h
      exact ⟨c :: pre, by rw [e]; rfl⟩
    cases st <;> rw [lexRun] at h
    · split at h
      · exact go _ _ _ h
      · split at h
        · exact go _ _ _ h
        · cases h
    · split at h
      · split at h
        · cases h
        · cases h; exact ⟨[c], rfl⟩
      · split at h
        · exact go _ _ _ h
        · split at h
          · exact go _ _ _ h
          · split at h
            · exact go _ _ _ h
            · cases h
    · split at h
      · exact go _ _ _ h
      · split at h
        · exact go _ _ _ h
        · cases h
    · split at h
      · exact go _ _ _ h
      · split at h
        · exact go _ _ _ h
        · cases h
theorem drop_rest {b : List Nat} {pos : Nat} {pre rest : List Nat} (h : b.drop pos = pre ++ rest) (hp : pos ≤ b.length) : b.drop (b.length - rest.length) = rest := by
  have hl : rest.length ≤ (b.drop pos).length := by rw [h, List.length_append]; lia
  rw [List.length_drop] at hl
  have : b.length - rest.length = pos + pre.length := by
    have := congrArg List.length h
    rw [List.length_drop, List.length_append] at this
    lia
  rw [this, ← List.drop_drop, h, List.drop_left]

section
variable {w : World} {s₁ s : Shared} {F : List Addr} {led led' : Led} {A : Around} {E : Value → Shared → Prop}
theorem l_updf (B : Base w s₁) {l : Addr} {vs vs' : List Value} {f : Array Value → Array Value} {Q : Unit → Shared → Prop} {M : Model} (S : St w s₁ F led s) (hm : Upd led l (Cell.list vs) (Cell.list vs') led') (hf : f vs.toArray = vs'.toArray) (hz : vs.length ≤ 2000) (hz' : vs'.length ≤ 2000) (h : ∀ s', St w s₁ F led' s' → Q () s') :
    wpAny M A (updateSeq l f) Q E s := by
  have hl : (2000 : Nat) ≤ sizeLine := by decide
  obtain ⟨n, e⟩ := list_at S hm.mem
  refine wpAny_updateSeq e rfl (h _ (S.list B hm (n := if (f vs.toArray).size == vs.toArray.size then n else n + 1) (Heap.SameBut.update ..) ?_ s.toks)) (by rw [List.size_toArray]; lia) (by rw [hf, List.size_toArray]; lia)
  rw [Heap.get?_update_self _ e rfl]
  simp [Obj.mapSeq, hf]
theorem l_upd (B : Base w s₁) {l : Addr} {vs : List Value} {v : Value} {Q : Unit → Shared → Prop} {M : Model} (S : St w s₁ F led s) (hm : Upd led l (Cell.list vs) (Cell.list (vs ++ [v])) led') (hz : vs.length + 1 ≤ sizeLine) (h : ∀ s', St w s₁ F led' s' → Q () s') :
    wpAny M A (updateSeq l (·.push v)) Q E s := by
  obtain ⟨n, e⟩ := list_at S hm.mem
  refine wpAny_updateSeq e rfl (h _ (S.list B hm (n := n + 1) (Heap.SameBut.update ..) ?_ s.toks)) (by rw [List.size_toArray]; lia) (by rw [Array.size_push, List.size_toArray]; lia)
  rw [Heap.get?_update_self _ e rfl]
  simp [Obj.mapSeq]

/-- words with their tokens -/
noncomputable def wv (ws : List (Str × Tok)) : List Value := ws.map fun p => .str p.1 p.2
noncomputable def mk (l : List Nat) : Str := ⟨l.toArray⟩

/-- where a lexer stands -/
inductive LexAt (X : Lx) : Option Ls → Nat → List (List Nat) → Prop where
  | off : LexAt X none X.buf.length []
  | on {pos ws} : pos ≤ X.buf.length → LexAll (X.buf.cps.toList.drop pos) ws → LexAt X (some .sp) pos ws

theorem reads_eof {X : Lx} {t0 t1 : Tok} {pos : Nat} {fin : Option Ls} {rest : List Nat} (B : Base w s₁) (hX : X.Ok) (hpos : pos ≤ X.buf.length)
    (hrun : lexRun .sp [] false (X.buf.cps.toList.drop pos) = some (fin, [], false, rest)) : Lexes w s₁ 707 7 X (.str " " t0) (.str "" t1) pos (fun _ => .none) (fun t => stV t fin) (X.buf.length - rest.length) := by
  intro F R A fs Q E s u hA hpb hfk S h
  refine reads_tok B hX hpos hrun hA hpb hfk S fun t t' t'' u' s' S' => ?_
  show Q (if ([] : List Nat) = [] ∧ false = false then _ else _) s'
  rw [if_pos ⟨rfl, rfl⟩]
  exact h t t' t'' u' s' S'
theorem reads_word {X : Lx} {t0 t1 : Tok} {pos : Nat} {fin : Option Ls} {tok : List Nat} {qd : Bool} {rest : List Nat} (B : Base w s₁) (hX : X.Ok) (hpos : pos ≤ X.buf.length)
    (hrun : lexRun .sp [] false (X.buf.cps.toList.drop pos) = some (fin, tok, qd, rest)) (hne : ¬ (tok = [] ∧ qd = false)) : Lexes w s₁ 707 7 X (.str " " t0) (.str "" t1) pos (fun t => .str (mk tok) t) (fun t => stV t fin) (X.buf.length - rest.length) := by
  intro F R A fs Q E s u hA hpb hfk S h
  refine reads_tok B hX hpos hrun hA hpb hfk S fun t t' t'' u' s' S' => ?_
  show Q (if tok = [] ∧ qd = false then _ else _) s'
  rw [if_neg hne]
  exact h t t' t'' u' s' S'
theorem len_buf (X : Lx) : X.buf.cps.toList.length = X.buf.length := Array.length_toList

theorem extend_lex (B : Base w s₁) {X : Lx} (hX : X.Ok) {fs : List Env} (hA : Ar A fs 10) (hF : Frs fs F) {l : Addr} {R : Led} (hpb : (X.pb, dqC) ∈ R) (hfk : (X.fk, dqC) ∈ R) {Rs : Result → Shared → Prop} : ∀ (ws : List (List Nat)) (st : Option Ls) (pos : Nat) (done : List (Str × Tok)) (t0 t1 u : Tok) (s : Shared),
    LexAt X st pos ws → done.length + ws.length ≤ 1000 → St w s₁ F (lexC X (stV t0 st) (.str "" t1) pos u ((l, Cell.list (wv done)) :: R)) s →
    (∀ (all : List (Str × Tok)) s', all.map (·.1) = done.map (·.1) ++ ws.map mk → St w s₁ F ((l, Cell.list (wv all)) :: R) s' → Rs (.ok (.ret .none)) s') →
    codeAny (model PR w) A (.builtin "list.extend.loop" ⟨[.ref l, .ref X.x, .none], []⟩) Rs s := by
  intro ws
  have fin : ∀ (st st' : Option Ls) (pos pos' : Nat) (done : List (Str × Tok)) (t0 t1 u : Tok) (s : Shared), Lexes w s₁ 707 7 X (stV t0 st) (.str "" t1) pos (fun _ => .none) (fun t => stV t st') pos' →
      St w s₁ F (lexC X (stV t0 st) (.str "" t1) pos u ((l, Cell.list (wv done)) :: R)) s → (∀ s', St w s₁ F ((l, Cell.list (wv done)) :: R) s' → Rs (.ok (.ret .none)) s') →
      codeAny (model PR w) A (.builtin "list.extend.loop" ⟨[.ref l, .ref X.x, .none], []⟩) Rs s := by
    intro st st' pos pos' done t0 t1 u s hr S h
    refine codeAny_builtin PySem.F.entry_extend_loop ?_
    rw [Around.under_plainId PySem.F.plain_extend_loop _]
    show wpAny _ A.in1 (pyNext (.ref X.x) >>= _) _ _ s
    refine wpAny_bind (next_end B (gets_none B hr) hA.in1 hF (List.mem_cons_of_mem _ hpb) (List.mem_cons_of_mem _ hfk) S ?_)
    clear S; intro t t' u' s S
    exact wpAny_pure (h _ (S.tail.tail.tail.tail))
  induction ws with
  | nil =>
    intro st pos done t0 t1 u s hat hlen S h
    have h' : ∀ s', St w s₁ F ((l, Cell.list (wv done)) :: R) s' → Rs (.ok (.ret .none)) s' := fun s' S' => h done s' (by simp) S'
    cases hat with
    | off => exact fin none none _ _ done t0 t1 u s (reads_none B hX) S h'
    | on hp hl =>
      cases hl with
      | @done _ rest hrun =>
        refine fin (some .sp) none pos (X.buf.length - rest.length) done t0 t1 u s (reads_eof B hX hp hrun) S h'
  | cons tok ws ih =>
    intro st pos done t0 t1 u s hat hlen S h
    cases hat with
    | on hp hl =>
      have step : ∀ (fin : Option Ls) (qd : Bool) (rest : List Nat), lexRun .sp [] false (X.buf.cps.toList.drop pos) = some (fin, tok, qd, rest) → ¬ (tok = [] ∧ qd = false) → LexAt X fin (X.buf.length - rest.length) ws →
          codeAny (model PR w) A (.builtin "list.extend.loop" ⟨[.ref l, .ref X.x, .none], []⟩) Rs s := by
        intro fin qd rest hrun hne hat'
        refine codeAny_builtin PySem.F.entry_extend_loop ?_
        rw [Around.under_plainId PySem.F.plain_extend_loop _]
        show wpAny _ A.in1 (pyNext (.ref X.x) >>= _) _ _ s
        refine wpAny_bind (next_tok B (gets_tok (x := mk tok) B (reads_word B hX hp hrun hne)) hA.in1 (List.mem_cons_of_mem _ hpb) (List.mem_cons_of_mem _ hfk) S ?_)
        clear S; intro ta tb tc u' s S
        show wpAny _ A.in1 (updateSeq l (·.push (.str (mk tok) tc)) >>= _) _ _ _
        unfold lexC at S
        refine wpAny_bind (l_upd B S (by walk_at "upd") ?_ ?_)
        · have : (1001 : Nat) ≤ sizeLine := by decide
          unfold wv; rw [List.length_map]
          simp only [List.length_cons] at hlen
          lia
        · clear S; intro s S
          refine wpAny_pure ⟨plainId_quiet PySem.F.plain_extend_loop _, ih fin _ (done ++ [(mk tok, tc)]) ta tb u' s hat' (by rw [List.length_append]; simp only [List.length_cons, List.length_nil] at *; lia) ?_ ?_⟩
          · have e : wv done ++ [.str (mk tok) tc] = wv (done ++ [(mk tok, tc)]) := by simp [wv]
            rw [e] at S
            exact S
          · intro all s' hall S'
            exact h all s' (by rw [hall]; simp) S'
      cases hl with
      | last hrun hne =>
        refine step none _ [] hrun hne ?_
        exact .off
      | more hrun hne hl =>
        refine step (some .sp) _ _ hrun hne (.on (Nat.sub_le ..) ?_)
        obtain ⟨pre, e⟩ := lexRun_suffix _ _ _ _ hrun
        rw [← len_buf, drop_rest e (by rw [len_buf]; exact hp)]
        exact hl

/-- the lexer is its own iterator -/
theorem iter_lex (B : Base w s₁) {x d : Addr} {l : List (Str × Value)} {fs : List Env} {Q : Value → Shared → Prop} (hA : Ar A fs 2) (S : St w s₁ F led s) (hx : (x, Cell.inst 739 d) ∈ led) (hdl : (d, Cell.sd l) ∈ led) (h : ∀ s', St w s₁ F led s' → Q (.ref x) s') :
    wpAny (model PR w) A (pyIter (.ref x)) Q E s := by
  obtain ⟨es, ep, l', I, h1, h2, h3⟩ := inst_at S hx hdl
  have K := S.K B
  have one : wpAny (model PR w) A (call (.ref 729) [.ref x]) (OwitIt (model PR w) A Q E) E s := by
    with_reducible refine enter (m := [("self", .ref x)]) B S (by k_is) (hA.room) (bindsK B S (by kernel_rfl)) ?_ (by kernel_rfl) (by kernel_rfl)
    clear S I
    intro L s hL S
    repeat walk_at "gox"
    have S := S.unframe (by walk_at "pull")
    obtain ⟨es, ep, l', I, h1, h2, h3⟩ := inst_at S hx hdl
    unfold OwitIt
    exact wpAny_bind (I.type.here ((looks_findIn (K := hd.heap_1 w.params) (S.K B) (r := some (.ref 736)) (by kernel_rfl)).here (h _ S)))
  have hs : findIn (hd.heap_1 w.params) (.ref 739) "__iter__" = some (some (.ref 729)) := by kernel_rfl
  have hf : typeIn (hd.heap_1 w.params) (.ref 729) = some (.type "function") := by kernel_rfl
  have fin : wpAny (model PR w) A (call (.ref 729) [.ref x] >>= fun v => pure (some v)) (fun r s' => ∃ v, r = some v ∧ OwitIt (model PR w) A Q E v s') E s :=
    wpAny_bind (wpAny_mono one (fun v s' h' => wpAny_pure ⟨v, rfl, h'⟩) fun _ _ z => z)
  have two : ∀ refuse : Sem Value, wpAny (model PR w) A (callSpecialIfBoundUnlessNone? (.ref x) "__iter__" refuse) (fun r s' => ∃ v, r = some v ∧ OwitIt (model PR w) A Q E v s') E s := by
    intro refuse
    simp only [callSpecialIfBoundUnlessNone?, bindSpecialIfBound?]
    refine wpAny_holding (wpAny_bind (wpAny_bind (wpAny_bind (I.type.here ((looks_findIn K hs).here ?_)))))
    refine wpAny_bind (wpAny_askSetting (wpAny_ite ?_))
    have fin2 : wpAny (model PR w) A (if (Value.ref 729 == Value.none) = true then (refuse >>= fun v => pure (some v)) else (call (.ref 729) [.ref x] >>= fun v => pure (some v))) (fun r s' => ∃ v, r = some v ∧ OwitIt (model PR w) A Q E v s') E s := by
      rw [if_neg (show ¬ ((Value.ref 729 == Value.none) = true) from Bool.false_ne_true)]
      exact fin
    split
    · exact wpAny_bind ((bind_fn K _ hf).here (wpAny_pure (by exact fin2)))
    · exact wpAny_tryCatch (wpAny_bind ((bind_fn K _ hf).here (wpAny_pure (by exact fin2))))
  unfold pyIter
  refine wpAny_bind (wpAny_bind (I.type.here ((looks_findIn K hs).here ?_)))
  show wpAny (model PR w) A (callSpecialIfBoundUnlessNone? (.ref x) "__iter__" _ >>= _) Q E s
  refine wpAny_bind (wpAny_mono (two _) (fun r s' hr => ?_) fun _ _ z => z)
  obtain ⟨v, rfl, hv⟩ := hr
  refine wpAny_bind (wpAny_mono hv (fun r s₂ hr => ?_) fun _ _ z => z)
  cases r with
  | none => exact hr.elim
  | some g => exact wpAny_pure hr

/-- list(lex) -/
theorem list_lex (B : Base w s₁) {X : Lx} (hX : X.Ok) {fs : List Env} {Q : Value → Shared → Prop} (hA : Ar A fs 13) (hF : Frs fs F) {R : Led} (hpb : (X.pb, dqC) ∈ R) (hfk : (X.fk, dqC) ∈ R) {ws : List (List Nat)} {pos : Nat} {t0 t1 u : Tok}
    (hat : LexAt X (some .sp) pos ws) (hlen : ws.length ≤ 1000) (S : St w s₁ F (lexC X (.str " " t0) (.str "" t1) pos u R) s)
    (h : ∀ l (all : List (Str × Tok)) s', all.map (·.1) = ws.map mk → St w s₁ F ((l, Cell.list (wv all)) :: R) s' → Q (.ref l) s') :
    wpAny (model PR w) A (call (.type "list") [.ref X.x]) Q E s := by
  refine callType_codes (Q₁ := fun obj s' => obj = .ref s.heap.objs.size ∧ s' = { s with heap := s.heap.push { cls := .type "list", data := .seq #[] } }) PySem.F.called_list (PySem.F.typeCall_list_1 _) PySem.F.entry_list_init
    (code_list_new _ ⟨rfl, rfl⟩) fun obj s' h' => ?_
  obtain ⟨rfl, rfl⟩ := h'
  have hS : (s.heap.push { cls := .type "list", data := .seq #[] }).get? s.heap.objs.size = some { cls := .type "list", data := .seq #[] } := Heap.get?_push_size _ rfl
  have S1 := S.alloc (o := { cls := .type "list", data := .seq #[] }) (c := Cell.list []) ⟨0, rfl⟩
  generalize hl : s.heap.objs.size = l at S1 hS ⊢
  generalize hs : { s with heap := s.heap.push { cls := .type "list", data := .seq #[] } } = s at S1 ⊢
  refine ⟨?_, PySem.F.args_list_init_2 _ _, ?_⟩
  · obtain ⟨n, e⟩ := list_at S1 List.mem_cons_self
    exact ⟨_, e, rfl⟩
  clear S hS hl hs
  show wpAny _ A.in1.in1 (do let old ← Builtin.List.listItems (.ref l); Builtin.List.listUpdate (.ref l) (fun _ => #[]); letGo old.toList.reverse; Builtin.List.listExtendWith (.ref l) (.ref X.x) .none) _ _ s
  have hne : l ≠ X.x := fun e => by
    have := S1.nd
    unfold lexC at this
    rw [List.map_cons, List.map_cons, List.nodup_cons] at this
    exact this.1 (by rw [← e]; exact List.mem_cons_self)
  obtain ⟨n0, e0⟩ := list_at S1 List.mem_cons_self
  refine wpAny_bind ?_
  unfold Builtin.List.listItems
  refine wpAny_bind (wpAny_seqItems e0 rfl (wpAny_pure ?_))
  show wpAny _ A.in1.in1 (updateSeq l (fun _ => #[]) >>= fun _ => letGo ([] : List Value).toArray.toList.reverse >>= fun _ => Builtin.List.listExtendWith (.ref l) (.ref X.x) .none) _ _ s
  refine wpAny_bind (l_updf B S1 (vs' := []) .here rfl (by decide) (by decide) ?_)
  clear S1 e0; intro s S
  refine wpAny_bind (wpAny_letGo ?_)
  unfold Builtin.List.listExtendWith
  unfold lexC at S
  obtain ⟨es, ep, l', I, h1, h2, h3⟩ := inst_at S (x := X.x) (C := 739) (d := X.d) (by walk_at "mem") (by walk_at "mem")
  refine wpAny_bind (I.type.here ?_)
  have q1 : Builtin.List.listSameRef (.ref l) (.ref X.x) = false := by simp [Builtin.List.listSameRef, hne]
  have q2 : (Value.ref 739 == Value.type "list") = false := by decide
  have q3 : (Value.ref 739 == Value.type "tuple") = false := by decide
  simp only [q1, q2, q3, Bool.or_false, Bool.false_eq_true, if_false]
  refine wpAny_bind (iter_lex B (hA.in1.in1.le (by decide)) S (by walk_at "mem") (by walk_at "mem") ?_)
  clear S I; intro s S
  obtain ⟨es, ep, l', I, h1, h2, h3⟩ := inst_at S (x := X.x) (C := 739) (d := X.d) (by walk_at "mem") (by walk_at "mem")
  refine wpAny_bind (wpAny_holding ?_)
  unfold Builtin.List.listLengthHint
  refine wpAny_bind (m := specialOf (.ref X.x) (Str.ofString "__len__")) (wpAny_bind (I.type.here ((looks_findIn (K := hd.heap_1 w.params) (S.K B) (r := none) (by kernel_rfl)).here ?_)))
  show wpAny _ A.in1.in1 (specialOf (Value.ref X.x) (Str.ofString "__length_hint__") >>= _) _ _ _
  refine wpAny_bind (wpAny_bind (I.type.here ((looks_findIn (K := hd.heap_1 w.params) (S.K B) (r := none) (by kernel_rfl)).here ?_)))
  refine wpAny_pure ?_
  show wpAny _ A.in1.in1 (rule "list.extend.makes-room" >>= fun _ => Builtin.List.listTouch (.ref l) >>= fun _ => again (.builtin "list.extend.loop" ⟨[.ref l, .ref X.x, .none], []⟩)) _ _ _
  refine wpAny_bind (wpAny_rule ?_)
  refine wpAny_bind ?_
  show wpAny _ _ (updateSeq l (·.push .none) >>= fun _ => updateSeq l (·.pop)) _ _ _
  refine wpAny_bind (l_updf B S (vs' := [.none]) .here rfl (by decide) (by decide) ?_)
  clear S I; intro s S
  refine l_updf B S (vs' := []) .here rfl (by decide) (by decide) ?_
  clear S; intro s S
  refine wpAny_pure ⟨plainId_quiet PySem.F.plain_extend_loop _, ?_⟩
  have S := S.pull (a := X.iod) (by walk_at "pull")
  have S := S.pull (a := X.io) (by walk_at "pull")
  have S := S.pull (a := X.d) (by walk_at "pull")
  have S := S.pull (a := X.x) (by walk_at "pull")
  refine extend_lex B hX (l := l) (hA.in1.le (by decide)) hF hpb hfk ws (some .sp) pos [] t0 t1 u s hat (by simpa using hlen) S ?_
  intro all s' hall S'
  exact ⟨rfl, h l all s' (by simpa using hall) S'⟩
end
/-! MQ -/

inductive PullS : List (Str × Value) → (Str × Value) → List (Str × Value) → Prop where
  | here {p r} : PullS (p :: r) p r
  | there {q r p r'} : PullS r p r' → PullS (q :: r) p (q :: r')
theorem PullS.perm {l p r} (u : PullS l p r) : l.Perm (p :: r) := by
  induction u with
  | here => exact .refl _
  | there _ ih => exact (ih.cons _).trans (.swap ..)
theorem permS_cons {l r l2 : List (Str × Value)} {p : Str × Value} (u : PullS l p r) (h : r.Perm l2) : l.Perm (p :: l2) := u.perm.trans (h.cons _)
theorem St.sdperm {w : World} {s₁ s : Shared} {F : List Addr} {led led' : Led} {d : Addr} {l l₂ : List (Str × Value)} (S : St w s₁ F led s) (u : Upd led d (Cell.sd l) (Cell.sd l₂) led') (hp : l.Perm l₂) : St w s₁ F led' s :=
  ⟨S.old, S.tab, S.os, S.gens, S.size, fun p h => by
    rcases u.cases S.nd p h with rfl | ⟨h, _⟩
    · obtain ⟨o, e, es, ep, l', h1, h2, h3, h4, h5⟩ := S.at_ _ u.mem
      exact ⟨o, e, es, ep, l', h1, h2, h3.trans hp, (Keys.perm hp).nodup_iff.mp h4, by rw [← hp.length_eq]; exact h5⟩
    · exact S.at_ p h, by rw [u.keys]; exact S.nd, fun p h => by
    rcases u.cases S.nd p h with rfl | ⟨h, _⟩
    · exact S.lo (d, Cell.sd l) u.mem
    · exact S.lo p h, S.frs, fun p h hf => by
    rcases u.cases S.nd p h with rfl | ⟨h, _⟩
    · have := S.fns (d, Cell.sd l) u.mem hf
      cases this
    · exact S.fns p h hf⟩
set_option hygiene false in
local macro_rules | `(tactic| walk_at "pulls") => `(tactic| ((with_reducible (repeat (first | apply PullS.here | apply PullS.there))); done))

noncomputable def lexL (io pb fk : Addr) (W com : Str) (sp : Bool) (st tok : Value) (a0 a1 a2 a3 a4 a5 a6 a7 a8 : Tok) : List (Str × Value) := [("state", st), ("token", tok), ("instream", .ref io), ("infile", .none), ("posix", .bool true), ("eof", .none), ("commenters", .str com a0), ("wordchars", .str W a1),
  ("whitespace", .str " \t\r\n" a2), ("whitespace_split", .bool sp), ("quotes", .str "'\"" a3), ("escape", .str "\\" a4), ("escapedquotes", .str "\"" a5), ("pushback", .ref pb), ("lineno", .int 1 a6),
  ("debug", .int 0 a7), ("filestack", .ref fk), ("source", .none), ("_punctuation_chars", .str "" a8)]
noncomputable abbrev W1 : Str := "abcdfeghijklmnopqrstuvwxyzABCDEFGHIJKLMNOPQRSTUVWXYZ0123456789_"
noncomputable abbrev W2 : Str := "ßàáâãäåæçèéêëìíîïðñòóôõöøùúûüýþÿÀÁÂÃÄÅÆÇÈÉÊËÌÍÎÏÐÑÒÓÔÕÖØÙÚÛÜÝÞ"
theorem W_len : Str.length W1 + Str.length W2 ≤ sizeLine := by decide +kernel
theorem W_a : Txt.contains (W1 ++ W2) ⟨#[97]⟩ = true := by decide +kernel
theorem W_q : Txt.contains (W1 ++ W2) ⟨#[39]⟩ = false := by decide +kernel
theorem W_d : Txt.contains (W1 ++ W2) ⟨#[34]⟩ = false := by decide +kernel

theorem cwt0 {w : World} {A : Around} {E : Value → Shared → Prop} {s : Shared} {env : Env} {pos : Pos} {T : String} {Q : Value → Shared → Prop} (h : wpAny (model PR w) A (call (.type T) []) Q E s) :
    wpAny (model PR w) A (callWith pos (.type T) [] (backTo pos (starEach [] env)) (backToKw pos (keywordEach [] env))) Q E s := PyProof.Rows.callWith_type0 h
theorem lexinit_spec {w : World} {s₁ s : Shared} {F : List Addr} {R : Led} {A : Around} {fs : List Env} {Rs : Result → Shared → Prop} {x d : Addr} {buf : Str} {t0 : Tok}
    (B : Base w s₁) (hA : Ar A fs 9) (S : St w s₁ F ((x, Cell.inst 739 d) :: (d, Cell.sd []) :: R) s)
    (h : ∀ io iod pb fk t1 t2 t3 b0 b1 a0 a1 a2 a3 a4 a5 a6 a7 a8 s', St w s₁ F ((x, Cell.inst 739 d) :: (d, Cell.sd (lexL io pb fk (W1 ++ W2) "#" false (.str " " b0) (.str "" b1) a0 a1 a2 a3 a4 a5 a6 a7 a8)) :: (io, Cell.inst 604 iod) :: (iod, Cell.sd (ioD buf 0 t1 t2 t3)) :: (pb, dqC) :: (fk, dqC) :: R) s' → Rs (.ok (.ret .none)) s') :
    codeAny (model PR w) A (.call (.ref 663) ⟨[.ref x, .str buf t0], [("posix", .bool true)]⟩) Rs s := by
  revert w s₁ s F R A fs Rs x d buf t0
  refine @pad _ ?_
  refine @wall13 _ _ _ _ _ _ _ _ _ _ _ _ _ _ (by walk_at "ne") ?_
  generalize k1 _ = w, k2 _ = s₁, k3 _ = s, k4 _ = F, k5 _ = R, k6 _ = A, k7 _ = fs, k8 _ = Rs, k9 _ = x, k10 _ = d, k11 _ = buf, k12 _ = t0
  intro B hA S h
  with_reducible refine enterC (m := [("punctuation_chars", .bool false), ("posix", .bool true), ("infile", .none), ("instream", .str buf t0), ("self", .ref x)]) B S (by k_is) (hA.room) (bindsK B S (by kernel_rfl)) ?_ (by kernel_rfl) (by kernel_rfl)
  clear S
  refine @wallN _ ?_
  generalize wN _ = L
  intro s hL S
  have hA' := hA.deeper
  repeat walk_at "gox"
  with_reducible refine cwb2 ?_
  repeat walk_at "gox"
  with_reducible refine call_isinstance_yes (Tx := "str") (typeIs_str _ _ _) (by kernel_rfl) (by rw [isSubtype_type]; kernel_rfl) ?_
  repeat walk_at "gox"
  with_reducible refine cwk1 B (by kernel_rfl) ?_
  repeat walk_at "gox"
  refine ⟨.of S, ?_⟩
  with_reducible refine io_make B ((hA' _).le (by decide)) S ?_
  clear S; intro io iod t1 t2 t3 s S
  revert io iod t1 t2 t3 s
  refine @wall6 _ _ _ _ _ _ _ (by walk_at "ne") ?_
  generalize k0 _ = io, k1 _ = iod, k2 _ = t1, k3 _ = t2, k4 _ = t3, k5 _ = s
  set_option tactic.hygienic false in intros
  rename St _ _ _ _ s => S
  repeat walk_at "gox"
  with_reducible refine isnot_ref_none ?_
  repeat walk_at "gox"
  with_reducible refine s_iadd (x := W1) (y := W2) S W_len ?_
  clear S; intro t s S
  repeat walk_at "gox"
  with_reducible refine cwt0 ?_
  with_reducible refine dq_make B S ?_
  clear S; intro pb s S
  revert pb s
  refine @wall2 _ _ _ (by walk_at "ne") ?_
  generalize k0 _ = pb, k1 _ = s
  set_option tactic.hygienic false in intros
  rename St _ _ _ _ s => S
  repeat walk_at "gox"
  with_reducible refine cwt0 ?_
  with_reducible refine dq_make B S ?_
  clear S; intro fk s S
  revert fk s
  refine @wall2 _ _ _ (by walk_at "ne") ?_
  generalize k0 _ = fk, k1 _ = s
  set_option tactic.hygienic false in intros
  rename St _ _ _ _ s => S
  repeat walk_at "gox"
  replace S := S.sdperm (d := d) (l₂ := lexL io pb fk (W1 ++ W2) "#" false (.str " " _) (.str "" _) _ _ _ _ _ _ _ _ _) (by walk_at "upd") (by
    unfold lexL
    repeat (first | exact List.Perm.refl [] | with_reducible refine permS_cons (by walk_at "pulls") ?_))
  replace S := S.unframe (by walk_at "pull")
  replace S := S.pull (a := fk) (by walk_at "pull")
  replace S := S.pull (a := pb) (by walk_at "pull")
  replace S := S.pull (a := iod) (by walk_at "pull")
  replace S := S.pull (a := io) (by walk_at "pull")
  replace S := S.pull (a := d) (by walk_at "pull")
  replace S := S.pull (a := x) (by walk_at "pull")
  exact h _ _ _ _ _ _ _ _ _ _ _ _ _ _ _ _ _ _ _ S

theorem lex_make {w : World} {s₁ s : Shared} {F : List Addr} {R : Led} {A : Around} {fs : List Env} {E : Value → Shared → Prop} {Q : Value → Shared → Prop} {buf : Str} {t0 : Tok}
    (B : Base w s₁) (hA : Ar A fs 10) (S : St w s₁ F R s)
    (h : ∀ x d io iod pb fk t1 t2 t3 b0 b1 a0 a1 a2 a3 a4 a5 a6 a7 a8 s', St w s₁ F ((x, Cell.inst 739 d) :: (d, Cell.sd (lexL io pb fk (W1 ++ W2) "#" false (.str " " b0) (.str "" b1) a0 a1 a2 a3 a4 a5 a6 a7 a8)) :: (io, Cell.inst 604 iod) :: (iod, Cell.sd (ioD buf 0 t1 t2 t3)) :: (pb, dqC) :: (fk, dqC) :: R) s' → Q (.ref x) s') :
    wpAny (model PR w) A (call (.ref 739) [.str buf t0] [("posix", .bool true)]) Q E s := by
  have K := S.K B
  have S1 := S.alloc (o := emptyDict) (c := .sd []) ⟨[], 0, [], rfl, .nil, .refl _, .nil, Nat.zero_le _⟩
  have S2 := S1.alloc (o := instObj 739 s.heap.objs.size) (c := .inst 739 s.heap.objs.size) rfl
  have e : (s.heap.push emptyDict).objs.size = s.heap.objs.size + 1 := Heap.size_push ..
  dsimp only at S2
  rw [e] at S2
  obtain ⟨hh, g, dr, tt, os⟩ := s
  have hm : makesIn (hd.heap_1 w.params) 739 = true := by kernel_rfl
  have hi : findIn (hd.heap_1 w.params) (.ref 739) "__init__" = some (some (.ref 663)) := by kernel_rfl
  have hf : typeIn (hd.heap_1 w.params) (.ref 663) = some (.type "function") := by kernel_rfl
  refine wpAny_call (make_core (makes_of K hm) (looks_findIn K hi) (fun self => bind_fn K self hf) (.inl rfl) ?_)
  have hA2 := hA.make (C := 739) (vals := [.str buf t0]) (kw := [("posix", .bool true)])
  refine lexinit_spec (t0 := t0) (buf := buf) B hA2 S2 fun io iod pb fk t1 t2 t3 b0 b1 a0 a1 a2 a3 a4 a5 a6 a7 a8 s' S' => ?_
  exact ⟨rfl, h _ _ io iod pb fk t1 t2 t3 b0 b1 a0 a1 a2 a3 a4 a5 a6 a7 a8 s' S'⟩

/-- the words of a line -/
theorem split_spec {w : World} {s₁ s : Shared} {F : List Addr} {R : Led} {A : Around} {fs : List Env} {E : Value → Shared → Prop} {Q : Value → Shared → Prop} {buf : Str} {t0 : Tok} {ws : List (List Nat)}
    (B : Base w s₁) (hA : Ar A fs 15) (hF : Frs fs F) (S : St w s₁ F R s) (hl : LexAll buf.cps.toList ws) (hlen : ws.length ≤ 1000) (hb : buf.length < 2 ^ 20)
    (h : ∀ l (all : List (Str × Tok)) s', all.map (·.1) = ws.map mk → St w s₁ F ((l, Cell.list (wv all)) :: R) s' → Q (.ref l) s') :
    wpAny (model PR w) A (call (.ref 751) [.str buf t0]) Q E s := by
  revert w s₁ s F R A fs E Q buf t0 ws
  refine @pad _ ?_
  refine @wall13 _ _ _ _ _ _ _ _ _ _ _ _ _ _ (by walk_at "ne") ?_
  generalize k1 _ = w, k2 _ = s₁, k3 _ = s, k4 _ = F, k5 _ = R, k6 _ = A, k7 _ = fs, k8 _ = E, k9 _ = Q, k10 _ = buf, k11 _ = t0, k12 _ = ws
  intro B hA hF S hl hlen hb h
  with_reducible refine enter (m := [("posix", .bool true), ("comments", .bool false), ("s", .str buf t0)]) B S (by k_is) (hA.room) (bindsK B S (by kernel_rfl)) ?_ (by kernel_rfl) (by kernel_rfl)
  clear S
  refine @wallN _ ?_
  generalize wN _ = L
  intro s hL S
  have hA' := hA.deeper
  repeat walk_at "gox"
  with_reducible refine cwk1k1 B (by kernel_rfl) ?_
  repeat walk_at "gox"
  refine ⟨.of S, ?_⟩
  with_reducible refine lex_make B ((hA' _).le (by decide)) S ?_
  clear S; intro x d io iod pb fk t1 t2 t3 b0 b1 a0 a1 a2 a3 a4 a5 a6 a7 a8 s S
  revert x d io iod pb fk t1 t2 t3 b0 b1 a0 a1 a2 a3 a4 a5 a6 a7 a8 s
  refine @pad _ ?_
  refine @wall22 _ _ _ _ _ _ _ _ _ _ _ _ _ _ _ _ _ _ _ _ _ _ _ (by walk_at "ne") ?_
  generalize k1 _ = x, k2 _ = d, k3 _ = io, k4 _ = iod, k5 _ = pb, k6 _ = fk, k7 _ = t1, k8 _ = t2, k9 _ = t3, k10 _ = b0, k11 _ = b1, k12 _ = a0, k13 _ = a1, k14 _ = a2, k15 _ = a3, k16 _ = a4, k17 _ = a5, k18 _ = a6, k19 _ = a7, k20 _ = a8, k21 _ = s
  set_option tactic.hygienic false in intros
  rename St _ _ _ _ s => S
  unfold lexL at S
  repeat walk_at "gox"
  with_reducible refine cwt1 ?_
  repeat walk_at "gox"
  replace S := S.pull (a := iod) (by walk_at "pull")
  replace S := S.pull (a := io) (by walk_at "pull")
  replace S := S.pull (a := d) (by walk_at "pull")
  replace S := S.pull (a := x) (by walk_at "pull")
  obtain ⟨X, hX⟩ : ∃ X : Lx, X = ⟨x, d, io, iod, pb, fk, W1 ++ W2, fun n => [t, a1, a2, a3, a4, a5, a6, a7, a8].getD n 0, buf, t2, t3⟩ := ⟨_, rfl⟩
  have hX2 : X.Ok := by subst hX; exact ⟨W_a, W_q, W_d, hb⟩
  have hx : Value.ref x = .ref X.x := by rw [hX]
  rw [hx]
  refine list_lex B hX2 ((hA' _).le (by decide)) (hF.cons ?_ rfl) (R := (pb, dqC) :: (fk, dqC) :: (L, Cell.ns [("lex", .ref x), ("posix", .bool true), ("comments", .bool false), ("s", .str buf t0)]) :: R) (by subst hX; exact List.mem_cons_self) (by subst hX; exact List.mem_cons_of_mem _ List.mem_cons_self) (ws := ws) (pos := 0) (t0 := b0) (t1 := b1) (u := t1) ?_ hlen ?_ ?_
  · exact fun q => by cases q
  · subst hX; exact .on (Nat.zero_le _) (by simpa using hl)
  · subst hX; exact S
  · clear S; intro l all s' hall S
    repeat walk_at "gox"
    replace S := S.drop (a := pb) (by walk_at "pull")
    replace S := S.drop (a := fk) (by walk_at "pull")
    replace S := S.unframe (by walk_at "pull")
    exact h _ _ _ hall S
/-! MU -/

noncomputable def sg : List Nat := [97, 39, 32, 35, 92, 34, 36, 59]
/-- the names of the orders -/
noncomputable def Nm (l : List Nat) : Prop := l = [] ∨ ∃ c ∈ sg, l = [c] ∨ l = [c, c]
noncomputable def safe (l : List Nat) : Bool := l.all (· == 97)
noncomputable def qt (l : List Nat) : List Nat := if l = [] then [39, 39] else if safe l then l else 39 :: (l.flatMap fun c => if c = 39 then [39, 34, 39, 34, 39] else [c]) ++ [39]
theorem Nm.cases {P : List Nat → Prop} (h0 : P []) (h1 : ∀ c ∈ sg, P [c]) (h2 : ∀ c ∈ sg, P [c, c]) {l : List Nat} (h : Nm l) : P l := by
  rcases h with rfl | ⟨c, hc, rfl | rfl⟩
  · exact h0
  · exact h1 c hc
  · exact h2 c hc
theorem sg_all {P : Nat → Prop} (h1 : P 97) (h2 : P 39) (h3 : P 32) (h4 : P 35) (h5 : P 92) (h6 : P 34) (h7 : P 36) (h8 : P 59) : ∀ c ∈ sg, P c := by
  intro c hc
  simp only [sg, List.mem_cons, List.not_mem_nil, or_false] at hc
  rcases hc with rfl | rfl | rfl | rfl | rfl | rfl | rfl | rfl <;> assumption

noncomputable def sres (a : Addr) (l : List Nat) : Fin := .done (.ret (if safe l then .none else .ref (a + 1)))
theorem srch_run (w : World) (a t : Nat) (t0 : Tok) {l : List Nat} (h : Nm l) (hne : l ≠ []) : (runA (hd.heap_1 w.params) (SET w) 400 a t (Builtin.«re.Pattern.search» ⟨[.ref 56, .str (mk l) t0], []⟩)).map (fun r => (r.1, r.2.2)) = some (sres a l, t) := by
  revert hne
  refine h.cases (P := fun l => l ≠ [] → (runA (hd.heap_1 w.params) (SET w) 400 a t (Builtin.«re.Pattern.search» ⟨[.ref 56, .str (mk l) t0], []⟩)).map (fun r => (r.1, r.2.2)) = some (sres a l, t)) (fun h => absurd rfl h) ?_ ?_
  · exact sg_all (fun _ => by kernel_rfl) (fun _ => by kernel_rfl) (fun _ => by kernel_rfl) (fun _ => by kernel_rfl) (fun _ => by kernel_rfl) (fun _ => by kernel_rfl) (fun _ => by kernel_rfl) (fun _ => by kernel_rfl)
  · exact sg_all (fun _ => by kernel_rfl) (fun _ => by kernel_rfl) (fun _ => by kernel_rfl) (fun _ => by kernel_rfl) (fun _ => by kernel_rfl) (fun _ => by kernel_rfl) (fun _ => by kernel_rfl) (fun _ => by kernel_rfl)
theorem srch_entry : entryFor table "re.Pattern.search" = some Builtin.«re.Pattern.search» := entryFor_of_tree (by kernel_rfl)
theorem srch_plain : plainId "re.Pattern.search" = true := by decide +kernel
theorem srch_check (w : World) (x : Str) (t0 : Tok) : runK (hd.heap_1 w.params) 400 (checkBoundCall "re.Pattern.search" ⟨[.ref 56, .str x t0], []⟩) = some () := by kernel_rfl

section
variable {w : World} {s₁ s : Shared} {F : List Addr} {led led' : Led} {A : Around} {E : Value → Shared → Prop}
theorem cwu1 (B : Base w s₁) {env : Env} {pos : Pos} {e1 : Expr} {Q : Value → Shared → Prop}
    (h : wpAny (model PR w) A (eval e1 env) (fun v1 s11 => SomeSt w s₁ s11 ∧ wpAny (model PR w) A (call (.ref 759) [v1]) Q E s11) E s)
    (ha : backTo pos (starEach [e1] env) = [(false, eval e1 env)] := by kernel_rfl) : wpAny (model PR w) A (callWith pos (.ref 759) [] (backTo pos (starEach [e1] env)) (backToKw pos (keywordEach [] env))) Q E s := by
  rw [ha]
  refine callWith_of (P := fun h => (hd.heap_1 w.params).In h) rfl (fun h X => ⟨.machine, .inr (.inl rfl), (Looks.ld (part := none) (X 759 _ (by k_is))).andThen (Looks.of_pure (by kernel_rfl))⟩) (evalArgs_plain (Calls.spliced_cons (wpAny_mono h (fun v1 s11 h1 => Calls.spliced_nil ⟨?_, h1.2⟩) fun _ _ x => x)))
  obtain ⟨⟨_, _, S⟩, _⟩ := h1
  exact S.K B
theorem s_constT {M : Model} {env : Env} {x : Str} {k pos} {Q : Value → Shared → Prop} (S : St w s₁ F led s) (h : ∀ t s', 0 < s'.toks → St w s₁ F led s' → Q (.str x t) s') : wpAny M A (eval (.Constant (.str x) k pos) env) Q E s := wpAny_Constant_str (h _ _ (Nat.succ_pos _) (S.toks _))
theorem srch_spec (B : Base w s₁) (S : St w s₁ F led s) {l : List Nat} {t0 : Tok} {Q : Value → Shared → Prop} (hl : Nm l) (hne : l ≠ []) (h : ∀ a s', St w s₁ F led s' → Q (if safe l then .none else .ref a) s') :
    wpAny (model PR w) A (call (.ref 759) [.str (mk l) t0]) Q E s := by
  have K := S.K B
  refine wpAny_call (codeAny_of_tree ?_)
  show wpAny _ _ (callAny (.ref 759) _) _ _ _
  refine nd_load (K 759 _ (by k_is)) ?_
  show wpAny _ _ (checkBoundCall "re.Pattern.search" ⟨[.ref 56, .str (mk l) t0], []⟩ >>= fun _ => again (.builtin "re.Pattern.search" ⟨[.ref 56, .str (mk l) t0], []⟩)) _ _ _
  refine wpAny_bind (runK_sound K 400 (srch_check w _ t0) (wpAny_pure ⟨plainId_quiet srch_plain _, codeAny_builtin srch_entry ?_⟩))
  have hr := srch_run w s.heap.objs.size s.toks t0 hl hne
  obtain ⟨⟨x, os, t'⟩, hr1, hr2⟩ := Option.map_eq_some_iff.mp hr
  cases hr2
  exact runA_sound 400 K hr1 (h (s.heap.objs.size + 1) _ (S.pushes os s.toks))
end

theorem rep_eq {l : List Nat} (h : Nm l) (hs : safe l = false) : (Str.ofString "'" ++ Txt.replace (mk l) (Str.ofString "'") (Str.ofString "'\"'\"'")) ++ Str.ofString "'" = mk (qt l) := by
  revert hs
  refine h.cases (P := fun l => safe l = false → (Str.ofString "'" ++ Txt.replace (mk l) (Str.ofString "'") (Str.ofString "'\"'\"'")) ++ Str.ofString "'" = mk (qt l)) (fun h => by cases h) ?_ ?_
  · exact sg_all (fun h => by cases h) (fun _ => by decide +kernel) (fun _ => by decide +kernel) (fun _ => by decide +kernel) (fun _ => by decide +kernel) (fun _ => by decide +kernel) (fun _ => by decide +kernel) (fun _ => by decide +kernel)
  · exact sg_all (fun h => by cases h) (fun _ => by decide +kernel) (fun _ => by decide +kernel) (fun _ => by decide +kernel) (fun _ => by decide +kernel) (fun _ => by decide +kernel) (fun _ => by decide +kernel) (fun _ => by decide +kernel)
theorem Nm.len {l : List Nat} (h : Nm l) : l.length ≤ 2 := by
  rcases h with rfl | ⟨c, hc, rfl | rfl⟩ <;> simp
theorem rep_len {l : List Nat} (h : Nm l) : (Txt.replace (mk l) (Str.ofString "'") (Str.ofString "'\"'\"'")).length ≤ 10 := by
  refine h.cases (P := fun l => (Txt.replace (mk l) (Str.ofString "'") (Str.ofString "'\"'\"'")).length ≤ 10) (by decide +kernel) ?_ ?_
  · exact sg_all (by decide +kernel) (by decide +kernel) (by decide +kernel) (by decide +kernel) (by decide +kernel) (by decide +kernel) (by decide +kernel) (by decide +kernel)
  · exact sg_all (by decide +kernel) (by decide +kernel) (by decide +kernel) (by decide +kernel) (by decide +kernel) (by decide +kernel) (by decide +kernel) (by decide +kernel)
theorem qlen : (Str.ofString "'").length = 1 := by decide +kernel
theorem rlen : (Str.ofString "'\"'\"'").length = 5 := by decide +kernel
theorem app_len (x y : Str) : (x ++ y).length = x.length + y.length := Array.size_append

theorem quote_spec {w : World} {s₁ s : Shared} {F : List Addr} {R : Led} {A : Around} {E : Value → Shared → Prop} {Q : Value → Shared → Prop} {l : List Nat} {t0 : Tok}
    (B : Base w s₁) (hroom : A.depth < recursionLimit) (hl : Nm l) (S : St w s₁ F R s) (h : ∀ t s', St w s₁ F R s' → Q (.str (mk (qt l)) t) s') :
    wpAny (model PR w) A (call (.ref 766) [.str (mk l) t0]) Q E s := by
  revert w s₁ s F R A E Q l t0
  refine @wall10 _ _ _ _ _ _ _ _ _ _ _ (by walk_at "ne") ?_
  generalize k0 _ = w, k1 _ = s₁, k2 _ = s, k3 _ = F, k4 _ = R, k5 _ = A, k6 _ = E, k7 _ = Q, k8 _ = l, k9 _ = t0
  intro B hroom hl S h
  have hsz : (100 : Nat) ≤ sizeLine := by decide
  with_reducible refine enter (m := [("s", .str (mk l) t0)]) B S (by k_is) hroom (bindsK B S (by kernel_rfl)) ?_ (by kernel_rfl) (by kernel_rfl)
  clear S
  refine @wallN _ ?_
  generalize wN _ = L
  intro s hL S
  by_cases hne : l = []
  · subst hne
    have e : mk [] = Str.ofString "" := by decide +kernel
    rw [e] at S
    repeat walk_at "gox"
    replace S := S.unframe (by walk_at "pull")
    have e2 : Str.ofString "''" = mk (qt []) := by decide +kernel
    rw [e2]
    exact h _ _ S
  · repeat walk_at "gox"
    with_reducible refine s_true true S ?_ ?_ ?_
    · show (((mk l).length : Int) != 0) = true
      rw [bne_iff_ne, show (mk l).length = l.length from len_mk l]
      have := List.length_pos_iff.mpr hne
      lia
    · rw [show (mk l).length = l.length from len_mk l]; have := hl.len; lia
    clear S; intro s S
    repeat walk_at "gox"
    with_reducible refine cwu1 B ?_
    repeat walk_at "gox"
    refine ⟨.of S, ?_⟩
    with_reducible refine srch_spec B S hl hne ?_
    clear S; intro a s S
    cases hsf : safe l with
    | true =>
      simp only [if_true]
      repeat walk_at "gox"
      replace S := S.unframe (by walk_at "pull")
      have e : qt l = l := by unfold qt; rw [if_neg hne, hsf]; rfl
      rw [e] at h
      exact h _ _ S
    | false =>
      simp only [Bool.false_eq_true, if_false]
      walk_at "gox"
      with_reducible refine is_ref_none ?_
      repeat (first | (with_reducible refine s_constT S ?_; clear S; intro t s ht S) | walk_at "gox")
      with_reducible refine m_bm PySem.F.plainAttrs_str PySem.F.slot_str_replace PySem.F.type_str_replace recv_str ?_
      with_reducible refine cwbm2 ?_
      with_reducible refine wpAny_Constant_str ?_
      with_reducible refine wpAny_Constant_str ?_
      have hxl : (mk l).length = l.length := len_mk l
      have hl2 := hl.len
      with_reducible refine SC.replace (Nat.ne_of_gt ht) (Nat.succ_ne_zero _) (Nat.ne_of_lt (Nat.lt_succ_self _)) (by decide +kernel) ?_ ?_
      · rw [hxl, rlen]; lia
      · intro t' k
        replace S := S.toks k
        dsimp only
        generalize { s with toks := k } = s at S ⊢
        have hrl := rep_len hl
        with_reducible refine s_add S (by rw [qlen]; lia) ?_
        clear S; intro t s S
        repeat walk_at "gox"
        with_reducible refine s_add S (by rw [app_len, qlen]; lia) ?_
        clear S; intro t s S
        repeat walk_at "gox"
        replace S := S.unframe (by walk_at "pull")
        rw [rep_eq hl hsf]
        exact h _ _ S
/-! MV -/

section
variable {w : World} {s₁ s : Shared} {F : List Addr} {led led' : Led} {A : Around} {E : Value → Shared → Prop}

/-- a later state for a start, in which nothing may grow but the heap -/
theorem Base.strict (B : Base w { s with toks := 0 }) : St w { s with toks := 0 } [] [] s :=
  { old := fun _ _ _ e => e
    tab := B.tab
    os := rfl
    gens := ⟨[], (List.append_nil _).symm, (fun _ h => by cases h), fun _ => rfl⟩
    size := Nat.le_refl _
    at_ := fun _ h => by cases h
    nd := List.nodup_nil
    lo := fun _ h => by cases h
    frs := fun _ h => by cases h
    fns := fun _ h => by cases h }
theorem St.keeps {s₂ : Shared} (S : St w { s₂ with toks := 0 } [] [] s) : Keeps s₂ s := by
  have hH : ¬ Hole { s₂ with toks := 0 } := fun h => h rfl
  obtain ⟨l, h1, _, h3⟩ := S.gens
  rw [h3 hH, List.append_nil] at h1
  have ho := S.os
  refine ⟨s.heap, s.toks, ?_, fun b o e => S.old b o (.inr hH) e⟩
  obtain ⟨h, g, d, t, o⟩ := s
  obtain ⟨h', g', d', t', o'⟩ := s₂
  dsimp only at h1 ho ⊢
  have : g = g' := Array.toList_inj.mp h1
  subst this
  cases ho
  rfl

theorem base_of (B : Base w s₁) (S : St w s₁ F led s) {s₂ : Shared} (k : ∀ b o, b < s₁.heap.objs.size → s.heap.get? b = some o → s₂.heap.get? b = some o) : Base w { s₂ with toks := 0 } := by
  obtain ⟨mg, hg⟩ := B.glob
  obtain ⟨mb, hb, hb'⟩ := B.bi
  obtain ⟨m, bm, ob, M⟩ := B.bmod
  obtain ⟨mc, hc, hc'⟩ := B.lim
  have kns : ∀ {a : Addr} {f : Str → Option Value}, a ≠ 753 → s₁.heap.Ns a f → s₂.heap.Ns a f := fun ha hn =>
    let ⟨o, es, ep, e, r⟩ := hn; ⟨o, es, ep, k _ o (Heap.lt_size e) (S.old _ o (.inl ha) e), r⟩
  have hbm : bm ≠ 753 := by
    rintro rfl
    obtain ⟨ps, _, _, e⟩ := B.tab
    have := M.obj
    rw [e] at this
    cases this
    have h2 := M.data
    cases h2
  refine ⟨fun a o e => k a o (Heap.lt_size (B.K a o e)) (S.K B a o e), ⟨mg, kns (by decide) hg⟩, ⟨mb, kns (by decide) hb, hb'⟩, ⟨mc, kns (by decide) hc, hc'⟩, ?_, m, bm, ob, ⟨kns (by decide) M.ns, M.name, M.ne, k _ _ (Heap.lt_size M.obj) (S.old _ _ (.inl hbm) M.obj), M.cls, M.dict, M.data⟩⟩
  obtain ⟨ps, x, y⟩ := S.tab
  exact ⟨ps, isCode_keeps x fun b hb o e => k b o (B.lts hb) e, tableAt_keeps y fun b hb o e => k b o (B.lts hb) e⟩

/-- a heap that keeps all but one object, of which nothing is known -/
theorem St.but (S : St w s₁ F led s) (B : Base w s₁) {I L : Addr} (hI : s₁.heap.objs.size ≤ I) (hIl : ∀ p ∈ led, p.1 ≠ I) (hIF : I ∉ F) (hL : L ∈ F) {s' : Shared} (k : ∀ b o, b ≠ I → s.heap.get? b = some o → s'.heap.get? b = some o) (h2 : GensOk s₁ s') (h3 : (s'.os, s'.drawn) = (s.os, s.drawn)) : St w s₁ F led s' := by
  have nI : ∀ b, b < s₁.heap.objs.size → b ≠ I := fun b hb e => absurd hI (Nat.not_le.mpr (e ▸ hb))
  have al : ∀ f ∈ F, Alive s'.heap f := fun f hf => by
    obtain ⟨_, o, e, r⟩ := S.frs f hf
    exact ⟨o, k f o (fun q => hIF (q ▸ hf)) e, r⟩
  refine ⟨fun b o hb e => k b o (nI b (Heap.lt_size e)) (S.old b o hb e), ?_, h3.trans S.os, h2, ?_, fun p hp => ?_, S.nd, S.lo, fun f hf => ⟨(S.frs f hf).1, al f hf⟩, S.fns⟩
  · obtain ⟨ps, x, y⟩ := S.tab
    exact ⟨ps, isCode_keeps x fun b hb o e => k b o (nI b (B.lts hb)) e, tableAt_keeps y fun b hb o e => k b o (nI b (B.lts hb)) e⟩
  · obtain ⟨o, e, _⟩ := al L hL
    exact Nat.le_trans (S.frs L hL).1 (Nat.le_of_lt (Heap.lt_size e))
  · obtain ⟨o, e, r⟩ := S.at_ p hp
    exact ⟨o, k _ o (hIl p hp) e, r⟩

/-- the genexpr's code: found, or made and laid into the table -/
theorem genCode (B : Base w s₁) (S : St w s₁ F led s) (hH : Hole s₁) {env : Env} {pos : Pos} {qn : Str} {sc : Scope} {M : Model} {Q : Value → Shared → Prop} (hc : env.code = .ref 757) (h : ∀ c s', St w s₁ F led s' → (∀ b o, b ≠ 753 → s.heap.get? b = some o → s'.heap.get? b = some o) → Q c s') :
    wpAny M A (genexprCode env pos qn sc) Q E s := by
  obtain ⟨ps, hok, htab⟩ := S.tab
  cases hf : codeAmong pos ps.toList with
  | some c' => exact wpAny_genexprCode_hit hc hok hf (h _ _ S fun _ _ _ e => e)
  | none =>
    refine wpAny_genexprCodeX hc hok htab hf fun c' h' tk hx hc' hlt hok' _ htab' _ => h _ _ ?_ fun b o hb e => hx b o hb e
    have h753 : 753 < s₁.heap.objs.size := B.lts (.inr rfl)
    refine ⟨fun b o hb e => ?_, ⟨_, hok', htab'⟩, S.os, S.gens, Nat.le_trans S.size (Nat.le_of_lt (Nat.lt_of_le_of_lt hc' hlt)), fun p hp => ?_, S.nd, S.lo, fun f hf => ?_, S.fns⟩
    · rcases hb with hb | hb
      · exact hx b o hb (S.old b o (.inl hb) e)
      · exact absurd hH hb
    · obtain ⟨o, e, r⟩ := S.at_ p hp
      exact ⟨o, hx _ o (fun q => by have := S.lo p hp; rw [q] at this; exact absurd h753 (Nat.not_lt.mpr this)) e, r⟩
    · obtain ⟨a, o, e, r⟩ := S.frs f hf
      exact ⟨a, o, hx _ o (fun q => by rw [q] at a; exact absurd h753 (Nat.not_lt.mpr a)) e, r⟩
end

theorem gens_push {a b : Array GenState} {gs : GenState} (h : GenOnlyQ a.size (a.push gs) b) (hgs : gs.bare = true) : ∃ y, b = a.push y ∧ y.bare = true := by
  rcases h with rfl | ⟨⟨hsz, hoth⟩, hb⟩
  · exact ⟨gs, rfl, hgs⟩
  · rw [Array.size_push] at hsz
    have hlt : a.size < b.size := by lia
    refine ⟨b[a.size], ?_, hb _ (Array.getElem?_eq_getElem hlt)⟩
    apply Array.ext
    · rw [Array.size_push]; exact hsz
    · intro i h1 h2
      by_cases hi : i = a.size
      · subst hi; rw [Array.getElem_push_eq]
      · have := hoth i hi
        rw [Array.size_push] at h2
        have hia : i < a.size := by lia
        rw [Array.getElem?_eq_getElem h1, Array.getElem?_push_lt hia] at this
        rw [Array.getElem_push_lt hia]
        exact Option.some.inj this
theorem passing_all (n : Nat) : passing (fun _ => true) n 0 = List.range n := by
  unfold passing
  rw [List.drop_zero]
  exact List.filter_eq_self.mpr fun _ _ => rfl

/-- the line of some names -/
noncomputable def lineOf (ns : List (List Nat)) : Str := Txt.join (Str.ofString " ") (ns.map fun n => mk (qt n))
noncomputable def joinF (ns : List (List Nat)) (i : Nat) (y : Value) : Prop := ∃ n t, ns[i]? = some n ∧ y = .str (mk (qt n)) t

theorem qt_len {l : List Nat} (h : Nm l) : (qt l).length ≤ 12 := by
  refine h.cases (P := fun l => (qt l).length ≤ 12) (by decide +kernel) ?_ ?_
  · exact sg_all (by decide +kernel) (by decide +kernel) (by decide +kernel) (by decide +kernel) (by decide +kernel) (by decide +kernel) (by decide +kernel) (by decide +kernel)
  · exact sg_all (by decide +kernel) (by decide +kernel) (by decide +kernel) (by decide +kernel) (by decide +kernel) (by decide +kernel) (by decide +kernel) (by decide +kernel)
theorem sum_le {l : List Nat} {k : Nat} (h : ∀ x ∈ l, x ≤ k) : l.sum ≤ l.length * k := by
  induction l with
  | nil => simp
  | cons a r ih =>
    have := ih fun x hx => h x (List.mem_cons_of_mem _ hx)
    have := h a List.mem_cons_self
    rw [List.sum_cons, List.length_cons, Nat.succ_mul]
    lia

theorem join_spec {w : World} {s₁ s : Shared} {F : List Addr} {R : Led} {A : Around} {fs : List Env} {E : Value → Shared → Prop} {Q : Value → Shared → Prop} {l : Addr} {ws : List (Str × Tok)} {ns : List (List Nat)}
    (B : Base w s₁) (hH : Hole s₁) (hA : Ar A fs 8) (S : St w s₁ F R s) (hl : (l, Cell.list (wv ws)) ∈ R) (hws : ws.map (·.1) = ns.map mk) (hns : ∀ n ∈ ns, Nm n) (hlen : ns.length ≤ 1000)
    (h : ∀ t s', St w s₁ F R s' → Q (.str (lineOf ns) t) s') :
    wpAny (model PR w) A (call (.ref 758) [.ref l]) Q E s := by
  revert w s₁ s F R A fs E Q l ws ns
  refine @pad _ ?_
  refine @wall13 _ _ _ _ _ _ _ _ _ _ _ _ _ _ (by walk_at "ne") ?_
  generalize k1 _ = w, k2 _ = s₁, k3 _ = s, k4 _ = F, k5 _ = R, k6 _ = A, k7 _ = fs, k8 _ = E, k9 _ = Q, k10 _ = l, k11 _ = ws, k12 _ = ns
  intro B hH hA S hl hws hns hlen h
  with_reducible refine enter (m := [("split_command", .ref l)]) B S (by k_is) (hA.room) (bindsK B S (by kernel_rfl)) ?_ (by kernel_rfl) (by kernel_rfl)
  clear S
  refine @wallN _ ?_
  generalize wN _ = L
  intro s hL S
  have hA' := hA.deeper
  repeat walk_at "gox"
  with_reducible refine m_bm PySem.F.plainAttrs_str PySem.F.slot_str_join PySem.F.type_str_join recv_str ?_
  with_reducible refine cwbm1 ?_
  have hml : (l, Cell.list (wv ws)) ∈ (L, Cell.ns [("split_command", .ref l)]) :: R := List.mem_cons_of_mem _ hl
  have hwl : ws.length = ns.length := by have := congrArg List.length hws; simpa using this
  have hroom2 : A.depth + 3 < recursionLimit := by have := hA.depth; lia
  with_reducible refine wpAny_GeneratorExp_walksQD (hA' _).hnd ?h1 (cl := []) ?h2 ?h3 ?h4 ?h5 ?h6 (hA' _).room ?h7 ?h8
  case h1 => kernel_rfl
  case h2 => kernel_rfl
  case h3 => intro y hy; simp only [List.mem_cons, List.not_mem_nil, or_false] at hy; rcases hy with rfl | rfl | rfl <;> exact fun q => by cases q
  case h4 => kernel_rfl
  case h5 => kernel_rfl
  case h6 => kernel_rfl
  case h8 => intro _; kernel_rfl
  walk_at "gox"
  have isl := isList_at S hml
  with_reducible refine wpAny_pyIter_list isl ?_
  have S1 := S.alloc' (o := { cls := .type "list_iterator", data := .fields #[.ref l, .int 0 0] })
  have hIs : s₁.heap.objs.size ≤ s.heap.objs.size := S.size
  have hIl : ∀ p ∈ (L, Cell.ns [("split_command", .ref l)]) :: R, p.1 ≠ s.heap.objs.size := fun p hp => by
    obtain ⟨o, e, _⟩ := S.at_ p hp
    exact Nat.ne_of_lt (Heap.lt_size e)
  have hIF : s.heap.objs.size ∉ L :: F := fun hm => by
    obtain ⟨_, o, e, _⟩ := S.frs _ hm
    exact absurd (Heap.lt_size e) (Nat.lt_irrefl _)
  have hit : ({ s with heap := s.heap.push { cls := .type "list_iterator", data := .fields #[.ref l, .int 0 0] } } : Shared).heap.get? s.heap.objs.size = some { cls := .type "list_iterator", data := .fields #[.ref l, .int 0 0] } := Heap.get?_push_size _ rfl
  generalize s.heap.objs.size = I at hIs hIl hIF hit ⊢
  generalize { s with heap := s.heap.push { cls := .type "list_iterator", data := .fields #[.ref l, .int 0 0] } } = s at S1 hit ⊢
  clear S isl
  have h753 : 753 < s₁.heap.objs.size := B.lts (.inr rfl)
  refine ⟨S1.lim B, ?_⟩
  refine genCode B S1 hH rfl ?_
  intro code s4 S4 hk4
  have hit4 := hk4 _ _ (fun q => absurd (q ▸ hIs) (Nat.not_le.mpr h753)) hit
  obtain ⟨mg, bm, ob, Mo⟩ := (S4.base B 0).bmod
  refine wpAny_builtinsFor Mo.ns Mo.name Mo.ne Mo.obj Mo.cls Mo.dict Mo.data ?_
  have hne : l ≠ I := hIl _ hml
  have isl4 := isList_at S4 hml
  refine ⟨I, [I, l], [I], (wv ws).toArray.size, _, _, fun _ => true, joinF ns, rfl, fun A' hh => Walks.list hh I l hne _, ⟨⟨_, hit4, rfl, rfl⟩, isl4⟩, ?_, S4.lim B, ?_, ?_, ?_⟩
  · intro b hb
    simp only [List.mem_cons, List.not_mem_nil, or_false] at hb
    rcases hb with rfl | rfl
    · exact Heap.lt_size hit4
    · obtain ⟨o, e, _⟩ := isl4
      exact Heap.lt_size e
  · intro q
    rw [List.mem_singleton] at q
    have : cStatics < 753 := by decide
    rw [q] at this
    exact absurd hIs (Nat.not_le.mpr (Nat.lt_trans this h753))
  · intro href hhref
    constructor
    · intro A' E' i v s₂ m₂ hh hd hu hP hn hm hk
      exact wpAny_tests_nil ⟨rfl, s₂.heap, s₂.toks, rfl, fun _ _ e => e⟩
    · intro A' E' i v s₂ m₂ hh hd hu hP _ hn hm hk
      have B2 : Base w { s₂ with toks := 0 } := base_of B S4 fun b o hb e => by
        refine hk b (List.mem_range.mpr (Heap.lt_size e)) (fun q => ?_) o (hhref b o e)
        rw [List.mem_singleton] at q
        exact absurd hIs (Nat.not_le.mpr (q ▸ hb))
      have S2 := B2.strict
      obtain ⟨n, t0, hn1, rfl⟩ : ∃ n t0, ns[i]? = some n ∧ v = .str (mk n) t0 := by
        have hP' : (wv ws)[i]? = some v := by simpa using hP
        unfold wv at hP'
        rw [List.getElem?_map] at hP'
        obtain ⟨p, hp1, rfl⟩ := Option.map_eq_some_iff.mp hP'
        have := congrArg (fun x => x[i]?) hws
        simp only [List.getElem?_map, hp1, Option.map_some] at this
        obtain ⟨n, e1, e2⟩ := Option.map_eq_some_iff.mp this.symm
        exact ⟨n, p.2, e1, by rw [e2]⟩
      unfold genEnv
      dsimp only
      with_reducible refine wpAny_Call_Name_kw ?_
      with_reducible refine gl B2 S2 (by k_is) ?_
      with_reducible refine cwf1 B2 (by k_is) rfl ?_
      refine wpAny_Name (wpAny_loadName_local rfl (by kernel_rfl) hn hm ?_) (by kernel_rfl)
      refine ⟨.of S2, ?_⟩
      with_reducible refine quote_spec B2 ?_ (hns n (List.mem_of_getElem? hn1)) S2 ?_
      · have : A'.depth ≤ A.depth + 1 + 1 := hd
        lia
      · intro t s3 S3
        exact ⟨⟨n, t, hn1, rfl⟩, S3.keeps⟩
  · intro a h₅ tk gs hgs ha hsz5 hk5 W hat
    rw [passing_all] at W
    have hnl : (wv ws).toArray.size = ns.length := by rw [List.size_toArray]; unfold wv; rw [List.length_map, hwl]
    refine SC.joinGen (W.in4_2) ?_ hat ?_ List.mem_cons_self ?_ ?_ ?_
    · rintro i s' ⟨⟨o, nm, qn, e1, e2, _⟩, _⟩
      exact ⟨o, e1, e2⟩
    · intro b hb
      show b < h₅.objs.size
      rw [hsz5]
      rcases List.mem_cons.mp hb with rfl | hb
      · exact Nat.lt_succ_self _
      · rcases List.mem_cons.mp hb with rfl | hb
        · exact Nat.lt_succ_of_lt ha
        · exact Nat.lt_succ_of_lt (Nat.lt_trans (List.mem_range.mp hb) ha)
    · rintro i v ⟨j, _, n, t, _, rfl⟩
      exact ⟨_, _, rfl⟩
    · intro s' lst hm hitems
      have hlst : lst.map (·.1) = ns.map fun n => mk (qt n) := by
        apply List.ext_getElem?
        intro j
        rw [List.getElem?_map, List.getElem?_map]
        have hz : lst.length = ns.length := by
          have := hitems.1
          rw [List.size_toArray, List.length_range, hnl] at this
          unfold strValues at this
          simpa using this
        by_cases hj : j < ns.length
        · have hj' : j < lst.length := by lia
          rw [List.getElem?_eq_getElem hj', List.getElem?_eq_getElem hj]
          obtain ⟨i, hi, n, t, hn, he⟩ := hitems.2 j (.str (lst[j]).1 (lst[j]).2) (by unfold strValues; simp [hj'])
          rw [List.getElem?_range (by rw [hnl]; exact hj)] at hi
          cases hi
          rw [List.getElem?_eq_getElem hj] at hn
          cases hn
          injection he with he1 he2
          simp only [Option.map_some, he1]
        · rw [List.getElem?_eq_none (by lia), List.getElem?_eq_none (by lia)]; rfl
      rw [hlst]
      refine ⟨joinOk_of_weight ?_ (by decide +kernel), fun t' k => ?_⟩
      · have h12 : ((ns.map fun n => mk (qt n)).map (·.length)).sum ≤ ((ns.map fun n => mk (qt n)).map (·.length)).length * 12 := sum_le fun x hx => by
          simp only [List.map_map, List.mem_map, Function.comp] at hx
          obtain ⟨n, hn, rfl⟩ := hx
          rw [show (mk (qt n)).length = (qt n).length from len_mk _]
          exact qt_len (hns n hn)
        simp only [List.length_map] at h12 ⊢
        lia
      · have hg : GensOk s₁ { s' with toks := k } := by
          obtain ⟨gl, g1, g2, g3⟩ := S4.gens
          obtain ⟨y, hy1, hy2⟩ := gens_push hm.gens hgs
          refine ⟨gl ++ [y], ?_, fun g hg => ?_, fun q => absurd hH q⟩
          · show s'.gens.toList = _
            rw [hy1, Array.toList_push, g1, List.append_assoc]
          · rcases List.mem_append.mp hg with hg | hg
            · exact g2 g hg
            · rw [List.mem_singleton] at hg; rw [hg]; exact hy2
        have S5 : St w s₁ (L :: F) ((L, Cell.ns [("split_command", .ref l)]) :: R) { s' with toks := k } := by
          refine S4.but B hIs hIl hIF List.mem_cons_self (fun b o hb e => ?_) hg ?_
          · refine hm.heap b o ?_ (hk5 b o e)
            intro q
            rcases List.mem_cons.mp q with rfl | q
            · exact absurd (Heap.lt_size e) (Nat.lt_irrefl _)
            · exact hb (List.mem_singleton.mp q)
          · have h1 := hm.os
            have h2 := hm.drawn
            dsimp only at h1 h2 ⊢
            rw [h1, h2]
        clear S1 S4
        generalize { s' with toks := k } = s at S5 ⊢
        replace S := S5
        repeat walk_at "gox"
        replace S := S.unframe (by walk_at "pull")
        exact h _ _ S
    · have : (1000 : Nat) ≤ sizeLine := by decide
      rw [List.length_range, hnl]
      lia
/-! MW -/

section
variable {w : World} {s₁ s : Shared} {F : List Addr} {led led' : Led} {A : Around} {E : Value → Shared → Prop}
/-- what a turn of a for does with what the iterator gives -/
noncomputable def Kturn (w : World) (A : Around) (env : Env) (x : Str) (body : List Stmt) (I : Nat → Shared → Prop) (n : Nat) (Q : Flow → Shared → Prop) : Option Value → Shared → Prop := fun r s' => match r with
  | none => Q .next s'
  | some v => wpAny (model PR w) A (storeName env x v) (fun _ s₂ => wpAny (model PR w) A (execs body env) (Kloop I n Q) FF s₂) FF s'
theorem kturn_none {env : Env} {x : Str} {body : List Stmt} {I : Nat → Shared → Prop} {n : Nat} {Q : Flow → Shared → Prop} (h : Q .next s) : Kturn w A env x body I n Q none s := h
theorem kturn_some {env : Env} {x : Str} {body : List Stmt} {I : Nat → Shared → Prop} {n : Nat} {Q : Flow → Shared → Prop} {v : Value} (h : wpAny (model PR w) A (storeName env x v) (fun _ s₂ => wpAny (model PR w) A (execs body env) (Kloop I n Q) FF s₂) FF s) : Kturn w A env x body I n Q (some v) s := h
noncomputable def LoopAt (w : World) (A : Around) (env : Env) (x : Str) (body : List Stmt) (Q : Flow → Shared → Prop) (it : Value) (s₂ : Shared) : Prop :=
  ∃ (I : Nat → Shared → Prop) (n : Nat), I n s₂ ∧ ∀ n s, I n s → wpAny (model PR w) A (pyNext it) (Kturn w A env x body I n Q) FF s
theorem x_for {x : Str} {px pos : Pos} {iter : Expr} {body : List Stmt} {env : Env} {Q : Flow → Shared → Prop}
    (h : wpAny (model PR w) A (eval iter env) (fun xv s₁ => wpAny (model PR w) A (pyIter xv) (LoopAt w A env x body Q) FF s₁) FF s)
    (hs : ∀ x, foldedSetIterable iter env x = pure x := by intro _; kernel_rfl) :
    wpAny (model PR w) A (exec (.For (.Name x px) iter body [] pos) env) Q E s := by
  refine wpAny_For (wpAny_mono h (fun xv s₁ h₁ => wpAny_mono h₁ (fun it s₂ h₂ => ?_) fun _ _ z => z.elim) fun _ _ z => z.elim) hs
  obtain ⟨I, n, h0, turn⟩ := h₂
  refine codeAny_forLoop I (fun n s hI => wpAny_mono (turn n s hI) (fun r s₁ h₁ => ?_) fun _ _ z => z.elim) n h0
  cases r with
  | none => exact wpAny_execs_nil h₁
  | some v =>
    refine wpAny_assign_Name (wpAny_mono h₁ (fun _ s₂ h₂ => wpAny_mono h₂ (fun f s₃ h₃ => ?_) fun _ _ z => z.elim) fun _ _ z => z.elim)
    cases f <;> exact h₃

/-- range objects and their iterators -/
noncomputable def rgC (a b c : Int) (t u v : Tok) : Cell := .fld "range" #[.int a t, .int b u, .int c v]
noncomputable def riC (a n c : Int) : Cell := .fld "range_iterator" #[rawInt a, rawInt n, rawInt c]
theorem rg_iter {r : Addr} {a b c : Int} {t u v : Tok} {Q : Value → Shared → Prop} (S : St w s₁ F led s) (hm : (r, rgC a b c t u v) ∈ led) (hsm : Builtin.Range.small a b c = true) (h : ∀ it s', St w s₁ F ((it, riC a (Builtin.Range.rangeSize a b c) c) :: led) s' → Q (.ref it) s') :
    wpAny (model PR w) A (pyIter (.ref r)) Q E s := by
  obtain ⟨o, e, rfl⟩ := S.at_ _ hm
  exact wpAny_pyIter_range e hsm (h _ _ (S.alloc rfl))
theorem ri_item (B : Base w s₁) {it : Addr} {a n c : Int} {Q : Option Value → Shared → Prop} (S : St w s₁ F led s) (hm : Upd led it (riC a n c) (riC (a + c) (n - 1) c) led') (hn : 0 < n) (h : ∀ t s', St w s₁ F led' s' → Q (some (.int a t)) s') :
    wpAny (model PR w) A (pyNext (.ref it)) Q E s := by
  obtain ⟨o, e, rfl⟩ := S.at_ _ hm.mem
  exact wpAny_pyNext_range_item e hn fun h' hit hs => h _ _ (S.same B hm hs hit rfl (fun o e' hd => by rw [e] at e'; cases e'; cases hd) _)
/-- an object of which nothing is known any more -/
theorem St.lose (S : St w s₁ F led s) (B : Base w s₁) {it L : Addr} {c : Cell} (hm : Pull led it c led') (hc : c.isNs = false) (hL : L ∈ F) {h' : Heap} (k : Heap.ExtBut it s.heap h') (t : Nat) : St w s₁ F led' { s with heap := h', toks := t } := by
  have S1 := S.pull hm
  have S2 := S.drop hm
  refine S2.but B (S1.lo _ List.mem_cons_self) (fun p hp e => ?_) (fun hF => ?_) hL (fun b o hb e => k b o hb e) S.gens rfl
  · have := S1.nd
    rw [List.map_cons, List.nodup_cons] at this
    exact this.1 (List.mem_map.mpr ⟨p, hp, e⟩)
  · have := S1.fns _ List.mem_cons_self hF
    rw [hc] at this
    cases this
theorem ri_end (B : Base w s₁) {it L : Addr} {a n c : Int} {Q : Option Value → Shared → Prop} (hh : A.handled = none) (S : St w s₁ F led s) (hm : Pull led it (riC a n c) led') (hL : L ∈ F) (hn : n ≤ 0) (h : ∀ s', St w s₁ F led' s' → Q none s') :
    wpAny (model PR w) A (pyNext (.ref it)) Q E s := by
  obtain ⟨o, e, rfl⟩ := (S.pull hm).at_ _ List.mem_cons_self
  exact wpAny_pyNext_range_end hh e hn fun h' hx => h _ (S.lose B hm rfl hL hx s.toks)
/-- iterators of lists -/
noncomputable def liC (l : Addr) (i : Nat) : Cell := .itr "list_iterator" #[.ref l, .int i 0]
theorem l_iter {l : Addr} {vs : List Value} {Q : Value → Shared → Prop} (S : St w s₁ F led s) (hm : (l, Cell.list vs) ∈ led) (h : ∀ it s', St w s₁ F ((it, liC l 0) :: led) s' → Q (.ref it) s') :
    wpAny (model PR w) A (pyIter (.ref l)) Q E s :=
  wpAny_pyIter_list (isList_at S hm) (h _ _ (S.alloc ⟨rfl, rfl⟩))
theorem li_item (B : Base w s₁) {it l : Addr} {i : Nat} {vs : List Value} {v : Value} {Q : Option Value → Shared → Prop} (S : St w s₁ F led s) (hm : Upd led it (liC l i) (liC l (i + 1)) led') (hl : (l, Cell.list vs) ∈ led) (hv : vs[i]? = some v) (h : ∀ s', St w s₁ F led' s' → Q (some v) s') :
    wpAny (model PR w) A (pyNext (.ref it)) Q E s := by
  obtain ⟨o, e, hc, hd⟩ := S.at_ _ hm.mem
  refine wpAny_pyNext_list_item ⟨o, e, hc, hd⟩ (isList_at S hl) (by simpa using hv) fun h' hit hs => ?_
  obtain ⟨o', e', hc', hd'⟩ := hit
  exact h _ (S.same B hm hs e' ⟨hc', hd'⟩ (fun o2 e2 hd2 => by rw [e] at e2; cases e2; rw [hd] at hd2; cases hd2) s.toks)
theorem li_end (B : Base w s₁) {it l L : Addr} {i : Nat} {vs : List Value} {Q : Option Value → Shared → Prop} (hh : A.handled = none) (S : St w s₁ F led s) (hm : Pull led it (liC l i) led') (hl : (l, Cell.list vs) ∈ led) (hL : L ∈ F) (hv : vs[i]? = none) (h : ∀ s', St w s₁ F led' s' → Q none s') :
    wpAny (model PR w) A (pyNext (.ref it)) Q E s := by
  obtain ⟨o, e, hc, hd⟩ := (S.pull hm).at_ _ List.mem_cons_self
  exact wpAny_pyNext_list_end hh ⟨o, e, hc, hd⟩ (isList_at S hl) (by simpa using hv) fun h' hx => h _ (S.lose B hm rfl hL hx s.toks)
end
/-! MZ -/
section
variable {w : World} {s₁ s : Shared} {F : List Addr} {led led' : Led} {A : Around} {E : Value → Shared → Prop}
noncomputable def compEnv0 (scope : Scope) (C : Addr) (env : Env) : Env := ⟨scope, C, env.globals, [], env.qual, none, env.code, env.frame, env.builtins⟩
/-- what a turn of a comprehension does -/
noncomputable def Kcomp (w : World) (A : Around) (cenv : Env) (x : Str) (elt : Expr) (D : Addr) (I : Nat → Shared → Prop) (n : Nat) (Z : Shared → Prop) : Option Value → Shared → Prop := fun r s' => match r with
  | none => Z s'
  | some v => wpAny (model PR w) A (storeName cenv x v) (fun _ s₂ => wpAny (model PR w) A (eval elt cenv) (fun y s₃ => wpAny (model PR w) A (call (.builtin "list.append") [.ref D, y]) (fun _ s₄ => ∃ m, m < n ∧ I m s₄) FF s₃) FF s₂) FF s'
theorem x_comp {elt iter : Expr} {x : Str} {px : Pos} {scope : Scope} {pos : Pos} {env : Env} {Q : Value → Shared → Prop} (B : Base w s₁)
    (hfree : ∀ y ∈ scope.names, y.2 ≠ .free) (hcell : ∀ y ∈ scope.names, y.2 ≠ .cell) (hkind : scope.kind = .function) (hnames : ∀ y ∈ scope.names, y.2 = .local → scope.names.lookup y.1 = some .local)
    (h : wpAny (model PR w) A (eval iter env) (fun xv s₁' => wpAny (model PR w) A (pyIter xv) (fun it s₂ => ∃ F led, St w s₁ F led s₂ ∧ (∃ L, L ∈ F) ∧ ∀ D C s₃, St w s₁ F ((C, Cell.ns []) :: (D, Cell.list []) :: led) s₃ →
      (∀ s' (Q' : Value → Shared → Prop) (E' : Value → Shared → Prop), s' = s₃ → Q' it s' → wpAny (model PR w) A (pyIter it) Q' E' s') ∧
      ∃ (I : Nat → Shared → Prop) (n : Nat), I n s₃ ∧ ∀ n s, I n s → wpAny (model PR w) A (pyNext it) (Kcomp w A (compEnv0 scope C env) x elt D I n (fun s' => ∃ m led', St w s₁ F ((C, Cell.ns m) :: led') s' ∧ ∀ s'', St w s₁ F led' s'' → Q (.ref D) s'')) FF s) FF s₁') FF s)
    (hs : ∀ x, foldedSetIterable iter env x = pure x := by intro _; kernel_rfl) :
    wpAny (model PR w) A (eval (.ListComp elt [⟨.Name x px, iter, [], 0⟩] scope pos) env) Q E s := by
  refine wpAny_ListComp hfree hkind hnames (wpAny_mono h (fun xv s₁' h₁ => wpAny_mono h₁ (fun it s₂ h₂ => ?_) fun _ _ z => z.elim) fun _ _ z => z.elim) hs
  obtain ⟨F, led, S, ⟨L, hL⟩, h₂⟩ := h₂
  have S1 := S.alloc (o := { cls := .type "list", data := .seq #[] }) (c := Cell.list []) ⟨0, rfl⟩
  refine wpAny_newObj_type ?_
  refine wpAny_newFunctionEnv hcell (by intro y hy; cases hy) (fun h₀ hn hsb => ?_) hkind
  dsimp only at hn hsb ⊢
  have e0 : (s₂.heap.push { cls := .type "list", dict := none, data := .seq ([] : List Value).toArray }).objs.size = s₂.heap.objs.size + 1 := Heap.size_push ..
  generalize hD : s₂.heap.objs.size = D at S1 e0 hn hsb ⊢
  generalize hH : s₂.heap.push { cls := .type "list", dict := none, data := .seq ([] : List Value).toArray } = H at hn hsb e0 ⊢
  have S1' : St w s₁ F ((D, Cell.list []) :: led) { s₂ with heap := H } := by rw [← hH]; exact S1
  have hCF : H.objs.size ∉ F := fun hm => by
    obtain ⟨_, o, e, _⟩ := S1'.frs _ hm
    exact absurd (Heap.lt_size e) (Nat.lt_irrefl _)
  have hk : ∀ b o, H.get? b = some o → h₀.get? b = some o := fun b o e => hsb.extBut b o (Nat.ne_of_lt (Heap.lt_size e)) (Heap.get?_push_of_some _ e)
  obtain ⟨ob, e, hc, hdd⟩ := Cell.ns_ok (P := w.params) (m := []) hn (fun p hp => by cases hp) List.nodup_nil
  have S2 : St w s₁ F ((D, Cell.list []) :: led) { s₂ with heap := h₀, toks := s₂.toks + ([] : List (Str × Value)).length } := S1'.ext (s' := { s₂ with heap := h₀, toks := s₂.toks + ([] : List (Str × Value)).length }) hk (Nat.le_of_lt (Heap.lt_size e)) S1'.gens rfl
  have S3 := S2.push e hc S1'.size (fun p hp => by obtain ⟨o', e', _⟩ := S1'.at_ p hp; exact Nat.ne_of_lt (Heap.lt_size e')) (fun q => absurd q hCF)
  obtain ⟨hself, I, n, h0, turn⟩ := h₂ D H.objs.size _ S3
  generalize H.objs.size = C at *
  generalize { s₂ with heap := h₀, toks := s₂.toks + ([] : List (Str × Value)).length } = s₃ at *
  have loop : codeAny (model PR w) A (.compLoop (.ListComp elt [⟨.Name x px, iter, [], 0⟩] scope pos) 0 it (.ref D) (compEnv0 scope C env))
      (fun r s' => ∃ m, s'.heap.Ns C m ∧ ∀ h', Heap.SameBut C s'.heap h' → match r with | .ok _ => Q (.ref D) { s' with heap := h' } | .error x => wpAny (model PR w) A (passOn "comprehension.variables-let-go" x (compEnv0 scope C env)) Q E { s' with heap := h' }) s₃ := by
    refine codeAny_compLoop_list I (fun n s hI => wpAny_mono (turn n s hI) (fun r s₁' h₁ => ?_) fun _ _ z => z.elim) n h0
    cases r with
    | none =>
      obtain ⟨m, led', S', hq⟩ := h₁
      obtain ⟨f, hf, _, _⟩ := Cell.ns_at S' List.mem_cons_self
      refine ⟨f, hf, fun h' hs' => hq _ ?_⟩
      have hnd := S'.nd
      rw [List.map_cons, List.nodup_cons] at hnd
      exact S'.tail.but B (S'.lo _ List.mem_cons_self) (fun p hp e => hnd.1 (List.mem_map.mpr ⟨p, hp, e⟩)) hCF hL (fun b o hb e => hs'.extBut b o hb e) S'.gens rfl
    | some v =>
      exact wpAny_assign_Name (wpAny_mono h₁ (fun _ s₂ h₂ => wpAny_mono h₂ (fun y s₃ h₃ => wpAny_mono h₃ (fun _ s₄ h₄ => h₄) fun _ _ z => z.elim) fun _ _ z => z.elim) fun _ _ z => z.elim)
  exact codeAny_compStart_list loop (hself _ _ _ rfl loop)
end
/-! MY -/
section
variable {w : World} {s₁ s : Shared} {F : List Addr} {led led' : Led} {A : Around} {E : Value → Shared → Prop}
/-- calls of defs with one captured name -/
theorem enterCell (B : Base w s₁) (S : St w s₁ F led s) {f : Addr} {oc : Value} {od : Option Addr} {osl : Array (Option Value)} {nm qn : Str} {ps : Arguments} {body : List Stmt} {sc : Scope} {dV kV doc pm : Value} {an : Option Addr} {cdv ct : Value}
    {pos : List Value} (m : List (Str × Value)) (y : Str) (cv : Option Value) {binds : List (Str × Value)} {Q : Value → Shared → Prop}
    (hf : (hd.heap_1 w.params).lookup f = some ⟨oc, od, .func ⟨nm, qn, ps, .stmts body, sc, mainGlobals, [], dV, kV, doc, pm, an, cdv, ct, builtinsNs⟩, osl⟩)
    (hroom : A.depth < recursionLimit)
    (hbind : bindArgs ⟨nm, qn, ps, .stmts body, sc, mainGlobals, [], dV, kV, doc, pm, an, cdv, ct, builtinsNs⟩ ⟨pos, []⟩ = pure binds)
    (hcs : ∀ n, cellsFrom n sc.names [] = [(y, n)])
    (hkind : ∀ x ∈ binds, sc.names.lookup x.1 = some .local ∨ (sc.names.lookup x.1 = some .cell ∧ x.1 = y))
    (hm : ∀ p ∈ m, bindL (fun n => sc.names.lookup n) binds (fun _ => none) p.1 = some p.2) (hnd : (Keys m).Nodup) (hcv : bindC (fun n => sc.names.lookup n) binds (fun _ => none) y = cv)
    (h : ∀ L C s', s₁.heap.objs.size ≤ L → St w s₁ (L :: F) ((L, Cell.ns m) :: (C, Cell.cel cv) :: led) s' →
      wpAny (model PR w) (A.deeper ⟨sc, L, mainGlobals, [(y, C)], qn ++ ".<locals>.", some f, cdv, some L, builtinsNs⟩) (execs body ⟨sc, L, mainGlobals, [(y, C)], qn ++ ".<locals>.", some f, cdv, some L, builtinsNs⟩) (Kret Q) FF s')
    (hcd : codeIn (hd.heap_1 w.params) cdv qn = true) (hco : sc.isCoroutine = false) (hgen : sc.isGenerator = false) (hk : sc.kind = .function) :
    wpAny (model PR w) A (call (.ref f) pos) Q E s := by
  have K := S.K B
  refine wpAny_call (codeAny_call_cells hroom (K _ _ hf) rfl (S.lim B) (codeRec_of K hcd) rfl hbind rfl (fun x hx => ?_) (fun s' x => ?_) hco hgen hk)
  · rcases hkind x hx with h1 | ⟨h1, h2⟩
    · exact .inl h1
    · refine .inr ⟨h1, ?_⟩
      show ((cellsFrom _ sc.names []).lookup x.1).isSome = true
      rw [hcs, h2]; simp
  · have hcells : (callEnvC ⟨nm, qn, ps, .stmts body, sc, mainGlobals, [], dV, kV, doc, pm, an, cdv, ct, builtinsNs⟩ s.heap.objs.size f) = ⟨sc, s.heap.objs.size, mainGlobals, [(y, s.heap.objs.size + 1)], qn ++ ".<locals>.", some f, cdv, some s.heap.objs.size, builtinsNs⟩ := by
      unfold callEnvC
      rw [hcs]
      rfl
    rw [hcells] at x ⊢
    obtain ⟨⟨⟨h', tk, hs'⟩, hns, hkeep, _⟩, hcell, _, _⟩ := x
    obtain ⟨oC, eC, dC⟩ := hcell y (s.heap.objs.size + 1) (by show List.lookup y [(y, s.heap.objs.size + 1)] = _; rw [List.lookup_cons, beq_self_eq_true])
    obtain ⟨ob, e, hc, hdd⟩ := Cell.ns_ok (P := w.params) (m := m) hns hm hnd
    subst hs'
    have S1 : St w s₁ F led { s with heap := h', toks := tk } := S.ext (s' := { s with heap := h', toks := tk }) hkeep (Nat.le_of_lt (Heap.lt_size e)) S.gens rfl
    have nF : ∀ b, s.heap.objs.size ≤ b → b ∉ F := fun b hb hm => by
      obtain ⟨_, o, e', _⟩ := S.frs _ hm
      exact absurd (Heap.lt_size e') (Nat.not_lt.mpr hb)
    have nl : ∀ b, s.heap.objs.size ≤ b → ∀ p ∈ led, p.1 ≠ b := fun b hb p hp e' => by
      obtain ⟨o', e'', _⟩ := S.at_ p hp
      exact absurd (Heap.lt_size e'') (Nat.not_lt.mpr (e' ▸ hb))
    have S2 := S1.push (c := Cell.cel cv) eC (by rw [← hcv]; exact dC) (Nat.le_succ_of_le S.size) (nl _ (Nat.le_succ _)) (fun q => absurd q (nF _ (Nat.le_succ _)))
    have S3 := S2.push e hc S.size (fun p hp => by
      rcases List.mem_cons.mp hp with rfl | hp
      · exact Nat.succ_ne_self _
      · exact nl _ (Nat.le_refl _) p hp) (fun _ => rfl)
    refine wpAny_mono (h _ _ _ S.size ⟨S3.old, S3.tab, S3.os, S3.gens, S3.size, S3.at_, S3.nd, S3.lo, fun g hg => ?_, fun p hp hg => ?_⟩) (fun fl s' x => x) (fun _ _ x => x.elim)
    · rcases List.mem_cons.mp hg with rfl | hg
      · exact ⟨S.size, ob, e, hdd⟩
      · exact S3.frs g hg
    · rcases List.mem_cons.mp hg with e' | hg
      · rcases List.mem_cons.mp hp with rfl | hp
        · rfl
        · rcases List.mem_cons.mp hp with rfl | hp
          · exact absurd e' (Nat.succ_ne_self _)
          · exact absurd e' (nl _ (Nat.le_refl _) p hp)
      · exact S3.fns p hp hg
/-- a captured name read -/
theorem ldc (S : St w s₁ F led s) {M : Model} {sc : Scope} {L g : Addr} {cs : List (Str × Addr)} {q : Str} {fn : Option Addr} {cd : Value} {fr : Option Addr} {b C : Addr} {x : Str} {pos : Pos} {v : Value} {Q : Value → Shared → Prop}
    (hm : (C, Cell.cel (some v)) ∈ led) (h : Q v s)
    (hk : sc.kind = .function := by rfl) (hl : Env.kindOf ⟨sc, L, g, cs, q, fn, cd, fr, b⟩ x = some .cell := by kernel_rfl) (hc : cs.lookup x = some C := by kernel_rfl) (hd : (x == ("__debug__" : Str)) = false := by kernel_rfl) :
    wpAny M A (eval (.Name x pos) ⟨sc, L, g, cs, q, fn, cd, fr, b⟩) Q E s := by
  obtain ⟨o, e, r⟩ := S.at_ _ hm
  exact wpAny_Name (wpAny_loadName_cell hk hl hc ⟨o, e, r⟩ h) hd
end
/-! NF -/
section
variable {w : World} {s₁ s : Shared} {F : List Addr} {led led' : Led} {A : Around} {E : Value → Shared → Prop}
/-- a comprehension with captured names -/
theorem x_compF {cl : List (Str × Addr)} {elt iter : Expr} {x : Str} {px : Pos} {scope : Scope} {pos : Pos} {env : Env} {Q : Value → Shared → Prop} (B : Base w s₁)
    (hclos : closureFor scope env = pure cl) (hcell : ∀ y ∈ scope.names, y.2 ≠ .cell) (hkind : scope.kind = .function) (hnames : ∀ y ∈ scope.names, y.2 = .local → scope.names.lookup y.1 = some .local)
    (h : wpAny (model PR w) A (eval iter env) (fun xv s₁' => wpAny (model PR w) A (pyIter xv) (fun it s₂ => ∃ F led, St w s₁ F led s₂ ∧ (∃ L, L ∈ F) ∧ ∀ D C s₃, St w s₁ F ((C, Cell.ns []) :: (D, Cell.list []) :: led) s₃ →
      (∀ s' (Q' : Value → Shared → Prop) (E' : Value → Shared → Prop), s' = s₃ → Q' it s' → wpAny (model PR w) A (pyIter it) Q' E' s') ∧
      ∃ (I : Nat → Shared → Prop) (n : Nat), I n s₃ ∧ ∀ n s, I n s → wpAny (model PR w) A (pyNext it) (Kcomp w A (compEnvC scope cl C env) x elt D I n (fun s' => ∃ m led', St w s₁ F ((C, Cell.ns m) :: led') s' ∧ ∀ s'', St w s₁ F led' s'' → Q (.ref D) s'')) FF s) FF s₁') FF s)
    (hs : ∀ x, foldedSetIterable iter env x = pure x := by intro _; kernel_rfl) :
    wpAny (model PR w) A (eval (.ListComp elt [⟨.Name x px, iter, [], 0⟩] scope pos) env) Q E s := by
  rw [eval_ListComp]
  refine wpAny_comprehension_free (use := none) rfl hs hclos hkind hnames (wpAny_mono h (fun xv s₁' h₁ => wpAny_mono h₁ (fun it s₂ h₂ => ?_) fun _ _ z => z.elim) fun _ _ z => z.elim)
  obtain ⟨F, led, S, ⟨L, hL⟩, h₂⟩ := h₂
  have S1 := S.alloc (o := { cls := .type "list", data := .seq #[] }) (c := Cell.list []) ⟨0, rfl⟩
  refine wpAny_newObj_type ?_
  refine wpAny_newFunctionEnv hcell (by intro y hy; cases hy) (fun h₀ hn hsb => ?_) hkind
  dsimp only at hn hsb ⊢
  have e0 : (s₂.heap.push { cls := .type "list", dict := none, data := .seq ([] : List Value).toArray }).objs.size = s₂.heap.objs.size + 1 := Heap.size_push ..
  generalize hD : s₂.heap.objs.size = D at S1 e0 hn hsb ⊢
  generalize hH : s₂.heap.push { cls := .type "list", dict := none, data := .seq ([] : List Value).toArray } = H at hn hsb e0 ⊢
  have S1' : St w s₁ F ((D, Cell.list []) :: led) { s₂ with heap := H } := by rw [← hH]; exact S1
  have hCF : H.objs.size ∉ F := fun hm => by
    obtain ⟨_, o, e, _⟩ := S1'.frs _ hm
    exact absurd (Heap.lt_size e) (Nat.lt_irrefl _)
  have hk : ∀ b o, H.get? b = some o → h₀.get? b = some o := fun b o e => hsb.extBut b o (Nat.ne_of_lt (Heap.lt_size e)) (Heap.get?_push_of_some _ e)
  obtain ⟨ob, e, hc, hdd⟩ := Cell.ns_ok (P := w.params) (m := []) hn (fun p hp => by cases hp) List.nodup_nil
  have S2 : St w s₁ F ((D, Cell.list []) :: led) { s₂ with heap := h₀, toks := s₂.toks + ([] : List (Str × Value)).length } := S1'.ext (s' := { s₂ with heap := h₀, toks := s₂.toks + ([] : List (Str × Value)).length }) hk (Nat.le_of_lt (Heap.lt_size e)) S1'.gens rfl
  have S3 := S2.push e hc S1'.size (fun p hp => by obtain ⟨o', e', _⟩ := S1'.at_ p hp; exact Nat.ne_of_lt (Heap.lt_size e')) (fun q => absurd q hCF)
  obtain ⟨hself, I, n, h0, turn⟩ := h₂ D H.objs.size _ S3
  generalize H.objs.size = C at *
  generalize { s₂ with heap := h₀, toks := s₂.toks + ([] : List (Str × Value)).length } = s₃ at *
  have loop : codeAny (model PR w) A (.compLoop (.ListComp elt [⟨.Name x px, iter, [], 0⟩] scope pos) 0 it (.ref D) (compEnvC scope cl C env))
      (compPost (model PR w) A E none Q (.ref D) C) s₃ := by
    refine codeAny_compLoop_list I (fun n s hI => wpAny_mono (turn n s hI) (fun r s₁' h₁ => ?_) fun _ _ z => z.elim) n h0
    cases r with
    | none =>
      obtain ⟨m, led', S', hq⟩ := h₁
      obtain ⟨f, hf, _, _⟩ := Cell.ns_at S' List.mem_cons_self
      refine ⟨f, hf, fun h' hs' => hq _ ?_⟩
      have hnd := S'.nd
      rw [List.map_cons, List.nodup_cons] at hnd
      exact S'.tail.but B (S'.lo _ List.mem_cons_self) (fun p hp e => hnd.1 (List.mem_map.mpr ⟨p, hp, e⟩)) hCF hL (fun b o hb e => hs'.extBut b o hb e) S'.gens rfl
    | some v =>
      exact wpAny_assign_Name (wpAny_mono h₁ (fun _ s₂ h₂ => wpAny_mono h₂ (fun y s₃ h₃ => wpAny_mono h₃ (fun _ s₄ h₄ => h₄) fun _ _ z => z.elim) fun _ _ z => z.elim) fun _ _ z => z.elim)
  exact codeAny_compStart_list loop (hself _ _ _ rfl loop)
end
/-! ND -/
section
variable {X : Type} (turn : Fin 3 → X → X) (pr : Fin 3 → Int) (start : X)
noncomputable def act (ks : List (Fin 3)) (x : X) : X := ks.foldl (fun x k => turn k x) x
noncomputable def cost (ks : List (Fin 3)) : Int := (ks.map pr).sum
theorem act_snoc (ks : List (Fin 3)) (k : Fin 3) (x : X) : act turn (ks ++ [k]) x = turn k (act turn ks x) := by simp [act]
theorem cost_snoc (ks : List (Fin 3)) (k : Fin 3) : cost pr (ks ++ [k]) = cost pr ks + pr k := by simp [cost]

noncomputable abbrev Hi (X : Type) := Int × List (Fin 3) × X
structure Inv (found : List (X × Int)) (heap : List (Hi X)) : Prop where
  it : ∀ h ∈ heap, h.1 = cost pr h.2.1 ∧ h.2.2 = act turn h.2.1 start ∧ h.2.1.length ≤ found.length
  best : ∀ q ∈ found, (∃ ks, act turn ks start = q.1 ∧ cost pr ks = q.2) ∧ ∀ ks, act turn ks start = q.1 → q.2 ≤ cost pr ks
  nd : (found.map (·.1)).Nodup
  nx : ∀ q ∈ found, ∀ k, turn k q.1 ∈ found.map (·.1) ∨ ∃ h ∈ heap, h.2.2 = turn k q.1 ∧ h.1 ≤ q.2 + pr k
  st : start ∈ found.map (·.1) ∨ ∃ h ∈ heap, h.2.2 = start ∧ h.1 ≤ 0

variable {turn pr start} {found : List (X × Int)} {heap rest : List (Hi X)} {h : Hi X}
theorem Inv.begin : Inv turn pr start [] [(0, [], start)] where
  it := by intro h hm; rw [List.mem_singleton] at hm; subst hm; exact ⟨rfl, rfl, Nat.le_refl _⟩
  best := nofun
  nd := List.nodup_nil
  nx := nofun
  st := .inr ⟨_, List.mem_singleton.mpr rfl, rfl, Int.le_refl _⟩

theorem Inv.front (I : Inv turn pr start found heap) (hp : ∀ k, 0 ≤ pr k) : ∀ (n : Nat) (ks : List (Fin 3)), ks.length = n → act turn ks start ∉ found.map (·.1) → ∃ h ∈ heap, h.1 ≤ cost pr ks := by
  intro n
  induction n with
  | zero =>
    intro ks hl hn
    have : ks = [] := List.eq_nil_of_length_eq_zero hl
    subst this
    rcases I.st with h | ⟨h, hm, _, hle⟩
    · exact absurd h hn
    · exact ⟨h, hm, hle⟩
  | succ n ih =>
    intro ks hl hn
    obtain ⟨k0, k, rfl⟩ : ∃ k0 k, ks = k0 ++ [k] := ⟨ks.dropLast, ks.getLast (by intro e; subst e; cases hl), (List.dropLast_concat_getLast _).symm⟩
    rw [act_snoc] at hn
    rw [cost_snoc]
    have hpk := hp k
    by_cases hf : act turn k0 start ∈ found.map (·.1)
    · obtain ⟨q, hq, e⟩ := List.mem_map.mp hf
      rcases I.nx q hq k with h | ⟨h, hm, _, hle⟩
      · rw [e] at h; exact absurd h hn
      · have := (I.best q hq).2 k0 e.symm
        exact ⟨h, hm, by lia⟩
    · obtain ⟨h, hm, hle⟩ := ih k0 (by simpa using hl) hf
      exact ⟨h, hm, by lia⟩

/-- all is found when the heap is empty -/
theorem Inv.all (I : Inv turn pr start found []) (hp : ∀ k, 0 ≤ pr k) (ks : List (Fin 3)) : act turn ks start ∈ found.map (·.1) := by
  by_cases hf : act turn ks start ∈ found.map (·.1)
  · exact hf
  · obtain ⟨_, hm, _⟩ := I.front hp _ ks rfl hf
    cases hm

theorem Inv.skip (I : Inv turn pr start found heap) (hm : ∀ g, g ∈ heap ↔ g = h ∨ g ∈ rest) (hf : h.2.2 ∈ found.map (·.1)) : Inv turn pr start found rest where
  it := fun g hg => I.it g ((hm g).mpr (.inr hg))
  best := I.best
  nd := I.nd
  nx := fun q hq k => by
    rcases I.nx q hq k with h1 | ⟨g, hg, e, hle⟩
    · exact .inl h1
    · rcases (hm g).mp hg with rfl | hg
      · exact .inl (e ▸ hf)
      · exact .inr ⟨g, hg, e, hle⟩
  st := by
    rcases I.st with h1 | ⟨g, hg, e, hle⟩
    · exact .inl h1
    · rcases (hm g).mp hg with rfl | hg
      · exact .inl (e ▸ hf)
      · exact .inr ⟨g, hg, e, hle⟩

/-- the least item's row is new: its price is least -/
theorem Inv.least (I : Inv turn pr start found heap) (hp : ∀ k, 0 ≤ pr k) (hmin : ∀ g ∈ heap, h.1 ≤ g.1) (hf : h.2.2 ∉ found.map (·.1)) : ∀ ks, act turn ks start = h.2.2 → h.1 ≤ cost pr ks := by
  intro ks e
  obtain ⟨g, hg, hle⟩ := I.front hp _ ks rfl (by rw [e]; exact hf)
  have := hmin g hg
  lia

theorem Inv.take (I : Inv turn pr start found heap) (hp : ∀ k, 0 ≤ pr k) (hm : ∀ g, g ∈ heap ↔ g = h ∨ g ∈ rest) (hmin : ∀ g ∈ heap, h.1 ≤ g.1) (hf : h.2.2 ∉ found.map (·.1)) {found' : List (X × Int)} {heap' : List (Hi X)}
    (hfo : found'.Perm ((h.2.2, h.1) :: found)) (hit : ∀ g ∈ heap', g ∈ rest ∨ ∃ k, g = (h.1 + pr k, h.2.1 ++ [k], turn k h.2.2)) (hre : ∀ g ∈ rest, g ∈ heap')
    (hpu : ∀ k, turn k h.2.2 ∈ found'.map (·.1) ∨ (h.1 + pr k, h.2.1 ++ [k], turn k h.2.2) ∈ heap') : Inv turn pr start found' heap' := by
  have hh := I.it h ((hm h).mpr (.inl rfl))
  have hmap : ∀ x, x ∈ found'.map (·.1) ↔ x = h.2.2 ∨ x ∈ found.map (·.1) := fun x => by
    rw [(hfo.map (·.1)).mem_iff, List.map_cons, List.mem_cons]
  constructor
  · intro g hg
    rw [hfo.length_eq, List.length_cons]
    rcases hit g hg with hg | ⟨k, rfl⟩
    · have := I.it g ((hm g).mpr (.inr hg))
      exact ⟨this.1, this.2.1, Nat.le_succ_of_le this.2.2⟩
    · refine ⟨?_, ?_, ?_⟩
      · rw [cost_snoc, hh.1]
      · rw [act_snoc]; dsimp only; rw [hh.2.1]
      · rw [List.length_append, List.length_singleton]; exact Nat.succ_le_succ hh.2.2
  · intro q hq
    rcases List.mem_cons.mp (hfo.mem_iff.mp hq) with rfl | hq
    · exact ⟨⟨h.2.1, hh.2.1.symm, hh.1.symm⟩, I.least hp hmin hf⟩
    · exact I.best q hq
  · rw [(hfo.map (·.1)).nodup_iff, List.map_cons, List.nodup_cons]
    exact ⟨hf, I.nd⟩
  · intro q hq k
    rcases List.mem_cons.mp (hfo.mem_iff.mp hq) with rfl | hq
    · rcases hpu k with h1 | h1
      · exact .inl h1
      · exact .inr ⟨_, h1, rfl, Int.le_refl _⟩
    · rcases I.nx q hq k with h1 | ⟨g, hg, e, hle⟩
      · exact .inl ((hmap _).mpr (.inr h1))
      · rcases (hm g).mp hg with rfl | hg
        · exact .inl ((hmap _).mpr (.inl e.symm))
        · exact .inr ⟨g, hre g hg, e, hle⟩
  · rcases I.st with h1 | ⟨g, hg, e, hle⟩
    · exact .inl ((hmap _).mpr (.inr h1))
    · rcases (hm g).mp hg with rfl | hg
      · exact .inl ((hmap _).mpr (.inl e.symm))
      · exact .inr ⟨g, hre g hg, e, hle⟩
end
/-! NG -/
/-- the three orders -/
noncomputable def tn {α : Type} (k : Fin 3) (l : List α) : List α := match l with
  | [a, b, c, d, e, f] => match k with
    | 0 => [b, a, d, c, f, e]
    | 1 => [c, b, a, f, e, d]
    | 2 => [f, e, d, c, b, a]
  | l => l
/-- the rows of six -/
theorem six {α : Type} {l : List α} (h : l.length = 6) : ∃ a b c d e f, l = [a, b, c, d, e, f] := by
  cases l with
  | nil => cases h
  | cons a l =>
  cases l with
  | nil => cases h
  | cons b l =>
  cases l with
  | nil => cases h
  | cons c l =>
  cases l with
  | nil => cases h
  | cons d l =>
  cases l with
  | nil => cases h
  | cons e l =>
  cases l with
  | nil => cases h
  | cons f l =>
  cases l with
  | nil => exact ⟨a, b, c, d, e, f, rfl⟩
  | cons g l => simp at h
theorem tn_len {α : Type} (k : Fin 3) (l : List α) : (tn k l).length = l.length := by
  unfold tn
  split
  · match k with | 0 => rfl | 1 => rfl | 2 => rfl
  · rfl
theorem tn_map {α β : Type} (g : α → β) (k : Fin 3) (l : List α) (h : l.length = 6) : tn k (l.map g) = (tn k l).map g := by
  obtain ⟨a, b, c, d, e, f, rfl⟩ := six h
  match k with | 0 => rfl | 1 => rfl | 2 => rfl
theorem act_len {α : Type} : ∀ (ks : List (Fin 3)) (l : List α), (act tn ks l).length = l.length
  | [], _ => rfl
  | k :: r, l => by
    show (act tn r (tn k l)).length = _
    rw [act_len r, tn_len]
theorem act_map {α β : Type} (g : α → β) : ∀ (ks : List (Fin 3)) (l : List α), l.length = 6 → act tn ks (l.map g) = (act tn ks l).map g
  | [], _, _ => rfl
  | k :: r, l, h => by
    show act tn r (tn k (l.map g)) = (act tn r (tn k l)).map g
    rw [tn_map g k l h, act_map g r _ (by rw [tn_len]; exact h)]
noncomputable def base6 : List Nat := [0, 1, 2, 3, 4, 5]
theorem act_of_base {α : Type} {ks js : List (Fin 3)} (h : act tn ks base6 = act tn js base6) {l : List α} (hl : l.length = 6) : act tn ks l = act tn js l := by
  obtain ⟨a, b, c, d, e, f, rfl⟩ := six hl
  exact by
    have e : [a, b, c, d, e, f] = base6.map fun i => match i with | 0 => a | 1 => b | 2 => c | 3 => d | 4 => e | _ => f := rfl
    rw [e, act_map _ ks _ rfl, act_map _ js _ rfl, h]

noncomputable def alt (first step : Nat) : List (Fin 3) := (List.range step).map fun i => if (first + i) % 2 = 0 then 0 else 1
noncomputable def special (whole first step : Nat) : List (Fin 3) := (if whole = 1 then [2] else []) ++ alt first step
noncomputable def specials : List (List (Fin 3)) := (List.range 2).flatMap fun w => (List.range 2).flatMap fun f => (List.range 7).map fun s => special w f s
theorem closed : specials.all (fun w => [0, 1, 2].all fun k => specials.any fun v => act tn v base6 == act tn (w ++ [k]) base6 && [0, 1, 2].all fun j => decide (v.count j ≤ (w ++ [k]).count j)) = true := by decide +kernel
theorem cost_count (pr : Fin 3 → Int) : ∀ (ks : List (Fin 3)), cost pr ks = ks.count 0 * pr 0 + ks.count 1 * pr 1 + ks.count 2 * pr 2
  | [] => by simp [cost]
  | k :: r => by
    have h : cost pr (k :: r) = pr k + cost pr r := by simp [cost]
    rw [h, cost_count pr r]
    match k with
    | 0 => simp [Int.add_mul]; lia
    | 1 => simp [Int.add_mul]; lia
    | 2 => simp [Int.add_mul]; lia
theorem fin3 (k : Fin 3) : k ∈ ([0, 1, 2] : List (Fin 3)) := by
  match k with | 0 => decide | 1 => decide | 2 => decide
theorem cost_le {pr : Fin 3 → Int} (hp : ∀ k, 0 ≤ pr k) {v w : List (Fin 3)} (h : ∀ j, v.count j ≤ w.count j) : cost pr v ≤ cost pr w := by
  rw [cost_count, cost_count]
  have e : ∀ j, (v.count j : Int) * pr j ≤ (w.count j : Int) * pr j := fun j => Int.mul_le_mul_of_nonneg_right (Int.ofNat_le.mpr (h j)) (hp j)
  have := e 0
  have := e 1
  have := e 2
  lia
theorem close1 {w : List (Fin 3)} (hw : w ∈ specials) (k : Fin 3) : ∃ v ∈ specials, act tn v base6 = act tn (w ++ [k]) base6 ∧ ∀ j, v.count j ≤ (w ++ [k]).count j := by
  have h1 := List.all_eq_true.mp (List.all_eq_true.mp closed w hw) k (fin3 k)
  obtain ⟨v, hv, h2⟩ := List.any_eq_true.mp h1
  rw [Bool.and_eq_true] at h2
  exact ⟨v, hv, beq_iff_eq.mp h2.1, fun j => of_decide_eq_true (List.all_eq_true.mp h2.2 j (fin3 j))⟩
/-- each line of orders has a special one that makes the same and costs no more -/
theorem close {pr : Fin 3 → Int} (hp : ∀ k, 0 ≤ pr k) : ∀ (n : Nat) (ks : List (Fin 3)), ks.length = n → ∃ v ∈ specials, act tn v base6 = act tn ks base6 ∧ cost pr v ≤ cost pr ks := by
  intro n
  induction n with
  | zero =>
    intro ks hl
    have : ks = [] := List.eq_nil_of_length_eq_zero hl
    subst this
    exact ⟨[], by decide +kernel, rfl, Int.le_refl _⟩
  | succ n ih =>
    intro ks hl
    obtain ⟨k0, k, rfl⟩ : ∃ k0 k, ks = k0 ++ [k] := ⟨ks.dropLast, ks.getLast (by intro e; subst e; cases hl), (List.dropLast_concat_getLast _).symm⟩
    obtain ⟨w, hw, e1, c1⟩ := ih k0 (by simpa using hl)
    obtain ⟨v, hv, e2, c2⟩ := close1 hw k
    refine ⟨v, hv, ?_, ?_⟩
    · rw [e2, act_snoc, act_snoc, e1]
    · have := cost_le hp c2
      rw [cost_snoc] at this ⊢
      lia
/-- at most twelve rows -/
noncomputable def twelve : List (List Nat) := (specials.map fun v => act tn v base6).eraseDups
theorem twelve_len : twelve.length = 12 := by decide +kernel
theorem in_twelve (ks : List (Fin 3)) : act tn ks base6 ∈ twelve := by
  obtain ⟨v, hv, e, _⟩ := close (pr := fun _ => 0) (fun _ => Int.le_refl _) _ ks rfl
  unfold twelve
  rw [List.mem_eraseDups, ← e]
  exact List.mem_map.mpr ⟨v, hv, rfl⟩
/-! NE -/
theorem nodup_len {α : Type} [DecidableEq α] : ∀ (l m : List α), l.Nodup → (∀ x ∈ l, x ∈ m) → l.length ≤ m.length
  | [], _, _, _ => Nat.zero_le _
  | x :: r, m, hn, hs => by
    rw [List.nodup_cons] at hn
    have hx := hs x List.mem_cons_self
    have h := nodup_len r (m.erase x) hn.2 fun y hy => by
      have hne : y ≠ x := fun e => hn.1 (e ▸ hy)
      exact (List.mem_erase_of_ne hne).mpr (hs y (List.mem_cons_of_mem _ hy))
    rw [List.length_erase_of_mem hx] at h
    have := List.length_pos_of_mem hx
    rw [List.length_cons]
    lia
theorem act_base {α : Type} (d : α) {l : List α} (hl : l.length = 6) (ks : List (Fin 3)) : act tn ks l = (act tn ks base6).map fun i => l.getD i d := by
  obtain ⟨a, b, c, e, f, g, rfl⟩ := six hl
  rw [← act_map _ ks _ rfl]
  rfl
/-- no more than twelve rows are found -/
theorem found_len {start : List Nat} {pr : Fin 3 → Int} {found : List (List Nat × Int)} {heap : List (Hi (List Nat))} (hl : start.length = 6) (I : Inv tn pr start found heap) : found.length ≤ 12 := by
  have h := nodup_len (found.map (·.1)) (twelve.map fun x => x.map fun i => start.getD i 0) I.nd fun x hx => by
    obtain ⟨q, hq, rfl⟩ := List.mem_map.mp hx
    obtain ⟨ks, e, _⟩ := (I.best q hq).1
    rw [← e, act_base 0 hl]
    exact List.mem_map.mpr ⟨_, in_twelve ks, rfl⟩
  simpa [twelve_len] using h

section
variable {X : Type} [DecidableEq X]
/-- a price noted for a row, where it is less -/
noncomputable def upd (m : List (X × Int)) (x : X) (p : Int) : List (X × Int) := if x ∈ m.map (·.1) then m.map fun q => if q.1 = x then (x, min p q.2) else q else m ++ [(x, p)]
theorem upd_keys {m : List (X × Int)} {x : X} {p : Int} (h : x ∈ m.map (·.1)) : (upd m x p).map (·.1) = m.map (·.1) := by
  unfold upd
  rw [if_pos h, List.map_map]
  refine List.map_congr_left fun q _ => ?_
  simp only [Function.comp]
  split
  · rename_i e; exact e.symm
  · rfl

structure Least (turn : Fin 3 → X → X) (pr : Fin 3 → Int) (start : X) (done : List (List (Fin 3))) (m : List (X × Int)) : Prop where
  nd : (m.map (·.1)).Nodup
  from_ : ∀ q ∈ m, ∃ w, act turn w start = q.1 ∧ cost pr w = q.2
  to : ∀ w ∈ done, ∃ q ∈ m, q.1 = act turn w start ∧ q.2 ≤ cost pr w
variable {turn : Fin 3 → X → X} {pr : Fin 3 → Int} {start : X} {done : List (List (Fin 3))} {m : List (X × Int)}
theorem Least.nil : Least turn pr start [] [] := ⟨List.nodup_nil, (fun _ h => by cases h), (fun _ h => by cases h)⟩
theorem Least.upd (H : Least turn pr start done m) (w : List (Fin 3)) : Least turn pr start (done ++ [w]) (upd m (act turn w start) (cost pr w)) := by
  by_cases h : act turn w start ∈ m.map (·.1)
  · constructor
    · rw [upd_keys h]; exact H.nd
    · intro q hq
      unfold Mine.upd at hq
      rw [if_pos h] at hq
      obtain ⟨q0, hq0, rfl⟩ := List.mem_map.mp hq
      split
      · rename_i e
        obtain ⟨w0, h1, h2⟩ := H.from_ q0 hq0
        rcases Int.le_total (cost pr w) q0.2 with hle | hle
        · exact ⟨w, rfl, by dsimp only; lia⟩
        · exact ⟨w0, by rw [h1, e], by dsimp only; lia⟩
      · exact H.from_ q0 hq0
    · intro v hv
      have key : ∀ q ∈ m, ∃ q' ∈ Mine.upd m (act turn w start) (cost pr w), q'.1 = q.1 ∧ q'.2 ≤ q.2 := fun q hq => by
        unfold Mine.upd
        rw [if_pos h]
        refine ⟨_, List.mem_map.mpr ⟨q, hq, rfl⟩, ?_⟩
        split
        · rename_i e; exact ⟨e.symm, Int.min_le_right ..⟩
        · exact ⟨rfl, Int.le_refl _⟩
      rcases List.mem_append.mp hv with hv | hv
      · obtain ⟨q, hq, e, hle⟩ := H.to v hv
        obtain ⟨q', hq', e', hle'⟩ := key q hq
        exact ⟨q', hq', e'.trans e, Int.le_trans hle' hle⟩
      · rw [List.mem_singleton] at hv
        subst hv
        obtain ⟨q, hq, e⟩ := List.mem_map.mp h
        unfold Mine.upd
        rw [if_pos h]
        refine ⟨_, List.mem_map.mpr ⟨q, hq, rfl⟩, ?_⟩
        rw [if_pos e]
        exact ⟨rfl, Int.min_le_left ..⟩
  · have e : Mine.upd m (act turn w start) (cost pr w) = m ++ [(act turn w start, cost pr w)] := by unfold Mine.upd; rw [if_neg h]
    rw [e]
    constructor
    · rw [List.map_append]
      refine List.nodup_append.mpr ⟨H.nd, by simp, ?_⟩
      intro a ha b hb hab
      simp only [List.map_cons, List.map_nil, List.mem_singleton] at hb
      exact h (hb ▸ hab ▸ ha)
    · intro q hq
      rcases List.mem_append.mp hq with hq | hq
      · exact H.from_ q hq
      · rw [List.mem_singleton] at hq; subst hq; exact ⟨w, rfl, rfl⟩
    · intro v hv
      rcases List.mem_append.mp hv with hv | hv
      · obtain ⟨q, hq, r⟩ := H.to v hv
        exact ⟨q, List.mem_append.mpr (.inl hq), r⟩
      · rw [List.mem_singleton] at hv; subst hv
        exact ⟨_, List.mem_append.mpr (.inr (List.mem_singleton.mpr rfl)), rfl, Int.le_refl _⟩
theorem uniq {m : List (X × Int)} (h : (m.map (·.1)).Nodup) : ∀ {a b : X × Int}, a ∈ m → b ∈ m → a.1 = b.1 → a = b := by
  induction m with
  | nil => intro a b ha; cases ha
  | cons q r ih =>
    rw [List.map_cons, List.nodup_cons] at h
    intro a b ha hb e
    rcases List.mem_cons.mp ha with ha1 | ha1 <;> rcases List.mem_cons.mp hb with hb1 | hb1
    · rw [ha1, hb1]
    · exact absurd (List.mem_map.mpr ⟨b, hb1, by rw [← e, ha1]⟩) h.1
    · exact absurd (List.mem_map.mpr ⟨a, ha1, by rw [e, hb1]⟩) h.1
    · exact ih h.2 ha1 hb1 e
end

/-- what was found is what is least -/
theorem found_least {start : List Nat} {pr : Fin 3 → Int} {found m : List (List Nat × Int)} (hl : start.length = 6) (hp : ∀ k, 0 ≤ pr k) (I : Inv tn pr start found []) (H : Least tn pr start specials m) : ∀ q, q ∈ found ↔ q ∈ m := by
  have one : ∀ q ∈ found, q ∈ m := fun q hq => by
    obtain ⟨⟨ks, e1, e2⟩, hmin⟩ := I.best q hq
    obtain ⟨v, hv, ev, cv⟩ := close hp _ ks rfl
    have ev' := act_of_base ev hl
    obtain ⟨q', hq', e3, hle⟩ := H.to v hv
    obtain ⟨w, e4, e5⟩ := H.from_ q' hq'
    have hx : q'.1 = q.1 := by rw [e3, ev', e1]
    have h1 := hmin w (by rw [e4, hx])
    have : q' = q := Prod.ext hx (by lia)
    exact this ▸ hq'
  intro q
  refine ⟨one q, fun hq => ?_⟩
  obtain ⟨w, e4, _⟩ := H.from_ q hq
  obtain ⟨q', hq', e⟩ := List.mem_map.mp (I.all hp w)
  have := uniq H.nd (one q' hq') hq (e.trans e4)
  exact this ▸ hq'
/-! NL -/
noncomputable def lineL : List (List Nat) → List Nat
  | [] => []
  | [n] => qt n
  | n :: m :: r => qt n ++ 32 :: lineL (m :: r)

theorem glue_foldl (g : Str) : ∀ (r : List Str) (a : Array Nat), (r.foldl (fun acc p => acc ++ g.cps ++ p.cps) a).toList = a.toList ++ r.flatMap fun p => g.cps.toList ++ p.cps.toList
  | [], a => by simp
  | p :: r, a => by
    rw [List.foldl_cons, glue_foldl g r, List.flatMap_cons]
    simp [List.append_assoc]
theorem sp_cps : (Str.ofString " ").cps.toList = [32] := by decide +kernel
theorem lineL_cons (n : List Nat) : ∀ (r : List (List Nat)), lineL (n :: r) = qt n ++ r.flatMap fun m => 32 :: qt m
  | [] => by simp [lineL]
  | m :: r => by
    rw [lineL, lineL_cons m r, List.flatMap_cons]
    simp
theorem lineOf_list (ns : List (List Nat)) : (lineOf ns).cps.toList = lineL ns := by
  unfold lineOf Txt.join Builtin.Str.glued
  cases ns with
  | nil => decide +kernel
  | cons n r =>
    rw [List.map_cons, List.drop_one, List.tail_cons, List.headD_cons]
    dsimp only
    rw [glue_foldl, lineL_cons, sp_cps, List.flatMap_map]
    rfl

noncomputable def lexWord (n : List Nat) : Prop := ∃ qd, ¬ (n = [] ∧ qd = false) ∧ lexRun .sp [] false (qt n) = some (none, n, qd, []) ∧ ∀ r, lexRun .sp [] false (qt n ++ 32 :: r) = some (some .sp, n, qd, r)
theorem lexWord_of {n : List Nat} (h : Nm n) : lexWord n := by
  refine h.cases (P := lexWord) ⟨true, by decide, rfl, fun r => rfl⟩ ?_ ?_
  · exact sg_all ⟨false, by decide, rfl, fun r => rfl⟩ ⟨true, by decide, rfl, fun r => rfl⟩ ⟨true, by decide, rfl, fun r => rfl⟩ ⟨true, by decide, rfl, fun r => rfl⟩ ⟨true, by decide, rfl, fun r => rfl⟩ ⟨true, by decide, rfl, fun r => rfl⟩ ⟨true, by decide, rfl, fun r => rfl⟩ ⟨true, by decide, rfl, fun r => rfl⟩
  · exact sg_all ⟨false, by decide, rfl, fun r => rfl⟩ ⟨true, by decide, rfl, fun r => rfl⟩ ⟨true, by decide, rfl, fun r => rfl⟩ ⟨true, by decide, rfl, fun r => rfl⟩ ⟨true, by decide, rfl, fun r => rfl⟩ ⟨true, by decide, rfl, fun r => rfl⟩ ⟨true, by decide, rfl, fun r => rfl⟩ ⟨true, by decide, rfl, fun r => rfl⟩

theorem lex_line : ∀ (ns : List (List Nat)), (∀ n ∈ ns, Nm n) → LexAll (lineL ns) ns
  | [], _ => .done (rest := []) rfl
  | [n], h => by
    obtain ⟨qd, h1, h2, _⟩ := lexWord_of (h n List.mem_cons_self)
    exact .last h2 h1
  | n :: m :: r, h => by
    obtain ⟨qd, h1, _, h3⟩ := lexWord_of (h n List.mem_cons_self)
    exact .more (h3 _) h1 (lex_line (m :: r) fun x hx => h x (List.mem_cons_of_mem _ hx))
theorem lex_lineOf {ns : List (List Nat)} (h : ∀ n ∈ ns, Nm n) : LexAll (lineOf ns).cps.toList ns := by
  rw [lineOf_list]; exact lex_line ns h
theorem lineL_len : ∀ (ns : List (List Nat)), (∀ n ∈ ns, Nm n) → (lineL ns).length ≤ 13 * ns.length
  | [], _ => Nat.zero_le _
  | [n], h => by
    have := qt_len (h n List.mem_cons_self)
    simp only [lineL, List.length_cons, List.length_nil]; lia
  | n :: m :: r, h => by
    have h1 := qt_len (h n List.mem_cons_self)
    have h2 := lineL_len (m :: r) fun x hx => h x (List.mem_cons_of_mem _ hx)
    rw [lineL, List.length_append, List.length_cons]
    simp only [List.length_cons] at *
    lia
/-! NH -/
theorem lt_le {i j : It} (h : i.lt j = true) : i.p ≤ j.p := by
  unfold It.lt ltT at h
  split at h
  · lia
  · have := of_decide_eq_true h; lia
theorem nlt_le {i j : It} (h : ¬ i.lt j = true) : j.p ≤ i.p := by
  unfold It.lt ltT at h
  split at h
  · lia
  · have := mt decide_eq_true h; lia

/-- two places exchanged -/
theorem set_swap {its : List It} {i j : Nat} {p a : It} (hi : i < its.length) (hj : its[j]? = some p) (hij : i ≠ j) : ((its.set i p).set j a).Perm (its.set i a) := by
  classical
  have hjl := (List.getElem?_eq_some_iff.mp hj).1
  have hje := (List.getElem?_eq_some_iff.mp hj).2
  have hj2 : j < (its.set i p).length := by rw [List.length_set]; exact hjl
  rw [List.perm_iff_count]
  intro b
  rw [List.count_set hj2, List.count_set hi, List.count_set hi]
  have e1 : (its.set i p)[j] = p := by rw [List.getElem_set_ne hij]; exact hje
  rw [e1]
  have h1 : (if its[i] == b then 1 else 0) ≤ its.count b := by
    split
    · rename_i h; rw [beq_iff_eq] at h; exact List.count_pos_iff.mpr (h ▸ List.getElem_mem hi)
    · exact Nat.zero_le _
  lia
theorem sd_perm : ∀ (n : Nat) (its : List It) (new : It) (pos : Nat), pos ≤ n → pos < its.length → (sd its new pos).Perm (its.set pos new) := by
  intro n
  induction n with
  | zero =>
    intro its new pos hn hp
    have : pos = 0 := by lia
    subst this
    rw [sd]; simp
  | succ n ih =>
    intro its new pos hn hp
    rw [sd]
    split
    · rename_i h; subst h; exact .refl _
    · rename_i h
      split
      · rename_i p hpp
        split
        · refine (ih (its.set pos p) new ((pos - 1) / 2) (by lia) (by rw [List.length_set]; lia)).trans ?_
          exact set_swap hp hpp (by lia)
        · exact .refl _
      · exact .refl _

noncomputable def Ord (l : List It) : Prop := ∀ (i : Nat) (h : i < l.length), 0 < i → (l[(i - 1) / 2]'(by lia)).p ≤ (l[i]).p
/-- ordered but for one place -/
structure OrdBut (l : List It) (pos : Nat) : Prop where
  rest : ∀ (i : Nat) (h : i < l.length), 0 < i → i ≠ pos → (l[(i - 1) / 2]'(by lia)).p ≤ (l[i]).p
  over : ∀ (i : Nat) (h : i < l.length), 0 < i → (hpar : (i - 1) / 2 = pos) → 0 < pos → (l[(pos - 1) / 2]'(by lia)).p ≤ (l[i]).p

theorem sd_ord : ∀ (n : Nat) (its : List It) (new : It) (pos : Nat), pos ≤ n → pos < its.length → OrdBut (its.set pos new) pos → Ord (sd its new pos) := by
  intro n
  induction n with
  | zero =>
    intro its new pos hn hp H
    have : pos = 0 := by lia
    subst this
    rw [sd]
    simp only [dite_true]
    intro i h hi
    exact H.rest i h hi (by lia)
  | succ n ih =>
    intro its new pos hn hp H
    rw [sd]
    split
    · rename_i h; subst h
      intro i h hi
      exact H.rest i h hi (by lia)
    · rename_i h0
      have hq : (pos - 1) / 2 < its.length := by lia
      have hqn : (pos - 1) / 2 ≠ pos := by lia
      split
      · rename_i p hpp
        have hpe := (List.getElem?_eq_some_iff.mp hpp).2
        split
        · rename_i hlt
          have hle := lt_le hlt
          refine ih (its.set pos p) new ((pos - 1) / 2) (by lia) (by rw [List.length_set]; lia) ?_
          have get : ∀ (k : Nat) (hk : k < ((its.set pos p).set ((pos - 1) / 2) new).length), (((its.set pos p).set ((pos - 1) / 2) new)[k]).p = if k = (pos - 1) / 2 then new.p else if k = pos then p.p else (its[k]'(by simpa using hk)).p := by
            intro k hk
            by_cases h1 : k = (pos - 1) / 2
            · subst h1; simp
            · by_cases h2 : k = pos
              · subst h2
                rw [List.getElem_set_ne (Ne.symm h1), List.getElem_set_self, if_neg h1, if_pos rfl]
              · rw [List.getElem_set_ne (Ne.symm h1), List.getElem_set_ne (Ne.symm h2), if_neg h1, if_neg h2]
          have get0 : ∀ (k : Nat) (hk : k < (its.set pos new).length), ((its.set pos new)[k]).p = if k = pos then new.p else (its[k]'(by simpa using hk)).p := by
            intro k hk
            by_cases h2 : k = pos
            · subst h2
              rw [List.getElem_set_self, if_pos rfl]
            · rw [List.getElem_set_ne (Ne.symm h2), if_neg h2]
          constructor
          · intro i h hi hne
            have h' : i < (its.set pos new).length := by simpa using h
            rw [get, get]
            by_cases e1 : i = pos
            · subst e1; rw [if_pos rfl, if_neg hne, if_pos rfl]; exact hle
            · rw [if_neg hne, if_neg e1]
              have hr := H.rest i h' hi e1
              rw [get0, get0, if_neg e1] at hr
              by_cases e2 : (i - 1) / 2 = (pos - 1) / 2
              · rw [if_pos e2]
                rw [if_neg (by lia)] at hr
                simp only [e2, hpe] at hr
                lia
              · rw [if_neg e2]
                by_cases e3 : (i - 1) / 2 = pos
                · rw [if_pos e3]
                  have ho := H.over i h' hi e3 (by lia)
                  rw [get0, get0, if_neg hqn, if_neg e1] at ho
                  simp only [hpe] at ho
                  exact ho
                · rw [if_neg e3]
                  rw [if_neg e3] at hr
                  exact hr
          · intro i h hi hpar hq0
            have h' : i < (its.set pos new).length := by simpa using h
            rw [get, get]
            have hqq : ((pos - 1) / 2 - 1) / 2 ≠ (pos - 1) / 2 := by lia
            rw [if_neg hqq, if_neg (by lia), if_neg (by lia)]
            have hr := H.rest ((pos - 1) / 2) (by simpa using hq) hq0 hqn
            rw [get0, get0, if_neg (by lia), if_neg hqn] at hr
            simp only [hpe] at hr
            by_cases e1 : i = pos
            · rw [if_pos e1]; exact hr
            · rw [if_neg e1]
              have hr2 := H.rest i h' hi e1
              rw [get0, get0, if_neg (by lia), if_neg e1] at hr2
              simp only [hpar, hpe] at hr2
              lia
        · rename_i hlt
          have hle := nlt_le hlt
          intro i h hi
          by_cases e1 : i = pos
          · subst e1
            rw [List.getElem_set_self, List.getElem_set_ne (by lia), hpe]
            exact hle
          · exact H.rest i h hi e1
      · rename_i hpp
        rw [List.getElem?_eq_getElem hq] at hpp
        cases hpp
structure Down (l : List It) (pos : Nat) : Prop where
  rest : ∀ (i : Nat) (h : i < l.length), 0 < i → i ≠ pos → (i - 1) / 2 ≠ pos → (l[(i - 1) / 2]'(by lia)).p ≤ (l[i]).p
  over : ∀ (i : Nat) (h : i < l.length), 0 < i → (hpar : (i - 1) / 2 = pos) → 0 < pos → (l[(pos - 1) / 2]'(by lia)).p ≤ (l[i]).p

theorem pick_le {its : List It} {c : Nat} (h : c < its.length) : ∀ (d : Nat) (hd : d < its.length), (d = c ∨ d = c + 1) → (its[pickC its c]'(pickC_lt h)).p ≤ (its[d]).p := by
  intro d hd hdc
  have hpk : pickC its c = pickC its c := rfl
  obtain ⟨k, hk⟩ : ∃ k, pickC its c = k := ⟨_, rfl⟩
  have hkl : k < its.length := hk ▸ pickC_lt h
  have goal : (its[k]).p ≤ (its[d]).p := by
    unfold pickC at hk
    rw [List.getElem?_eq_getElem h] at hk
    by_cases h2 : c + 1 < its.length
    · rw [List.getElem?_eq_getElem h2] at hk
      dsimp only at hk
      split at hk
      · rename_i hlt
        subst hk
        rcases hdc with rfl | rfl
        · exact Int.le_refl _
        · exact lt_le hlt
      · rename_i hlt
        subst hk
        rcases hdc with rfl | rfl
        · exact nlt_le hlt
        · exact Int.le_refl _
    · rw [List.getElem?_eq_none (by lia)] at hk
      dsimp only at hk
      subst hk
      rcases hdc with rfl | rfl
      · exact Int.le_refl _
      · lia
  simp only [hk]
  exact goal
theorem pick_or (its : List It) (c : Nat) : pickC its c = c ∨ pickC its c = c + 1 := by
  unfold pickC
  split
  · split <;> simp
  · simp

theorem suGo_down : ∀ (n : Nat) (its : List It) (pos : Nat), its.length - pos ≤ n → pos < its.length → Down its pos →
    (suGo its pos).1.length = its.length ∧ (suGo its pos).2 < its.length ∧ its.length ≤ 2 * (suGo its pos).2 + 1 ∧ Down (suGo its pos).1 (suGo its pos).2 ∧ ∀ a, ((suGo its pos).1.set (suGo its pos).2 a).Perm (its.set pos a) := by
  intro n
  induction n with
  | zero => intro its pos hn hp; lia
  | succ n ih =>
    intro its pos hn hp D
    rw [suGo]
    split
    · rename_i hc
      have hple := pick_le hc
      have hpor := pick_or its (2 * pos + 1)
      have hpl := pickC_lt hc
      obtain ⟨c, hcc⟩ : ∃ c, pickC its (2 * pos + 1) = c := ⟨_, rfl⟩
      simp only [hcc] at hple hpor hpl ⊢
      have get : ∀ (k : Nat) (hk : k < (its.set pos its[c]).length), ((its.set pos its[c])[k]).p = if k = pos then (its[c]).p else (its[k]'(by simpa using hk)).p := by
        intro k hk
        by_cases h2 : k = pos
        · subst h2
          rw [List.getElem_set_self, if_pos rfl]
        · rw [List.getElem_set_ne (Ne.symm h2), if_neg h2]
      have hpar : (c - 1) / 2 = pos := by lia
      have D2 : Down (its.set pos its[c]) c := by
        constructor
        · intro i h hi hne hpi
          have h' : i < its.length := by simpa using h
          rw [get, get]
          by_cases e1 : i = pos
          · rw [if_pos e1]
            subst e1
            rw [if_neg (by lia)]
            exact D.over c hpl (by lia) hpar hi
          · rw [if_neg e1]
            by_cases e2 : (i - 1) / 2 = pos
            · rw [if_pos e2]
              exact hple i h' (by lia)
            · rw [if_neg e2]
              exact D.rest i h' hi e1 e2
        · intro i h hi hpi hc0
          have h' : i < its.length := by simpa using h
          rw [get, get, if_pos hpar, if_neg (by lia)]
          have := D.rest i h' hi (by lia) (by lia)
          simp only [hpi] at this
          exact this
      obtain ⟨a1, a2, a3, a4, a5⟩ := ih (its.set pos its[c]) c (by rw [List.length_set]; lia) (by rw [List.length_set]; exact hpl) D2
      rw [List.length_set] at a1 a2 a3
      refine ⟨a1, a2, a3, a4, fun a => (a5 a).trans ?_⟩
      exact set_swap hp (List.getElem?_eq_getElem hpl) (by lia)
    · exact ⟨rfl, hp, by dsimp only; lia, D, fun a => .refl _⟩

/-- what heappop leaves: a heap again, of the same items -/
theorem su_spec {its : List It} {new : It} (h0 : 0 < its.length) (D : Down its 0) : (su its new).Perm (its.set 0 new) ∧ Ord (su its new) := by
  obtain ⟨a1, a2, a3, a4, a5⟩ := suGo_down its.length its 0 (by lia) h0 D
  unfold su
  have hl : (suGo its 0).2 < ((suGo its 0).1.set (suGo its 0).2 new).length := by rw [List.length_set, a1]; exact a2
  refine ⟨(sd_perm _ _ _ _ (Nat.le_refl _) hl).trans ?_, sd_ord _ _ _ _ (Nat.le_refl _) hl ?_⟩
  · rw [List.set_set]; exact a5 new
  · rw [List.set_set]
    constructor
    · intro i h hi hne
      rw [List.length_set, a1] at h
      rw [List.getElem_set_ne (Ne.symm hne), List.getElem_set_ne (by lia)]
      exact a4.rest i (by rw [a1]; exact h) hi hne (by lia)
    · intro i h hi hpar hp
      rw [List.length_set, a1] at h
      lia
theorem push_spec {its : List It} {new : It} (H : Ord its) : (sd (its ++ [new]) new its.length).Perm (its ++ [new]) ∧ Ord (sd (its ++ [new]) new its.length) := by
  have hl : its.length < (its ++ [new]).length := by simp
  have e : (its ++ [new]).set its.length new = its ++ [new] := by simp
  refine ⟨(sd_perm _ _ _ _ (Nat.le_refl _) hl).trans (by rw [e]), sd_ord _ _ _ _ (Nat.le_refl _) hl ?_⟩
  rw [e]
  constructor
  · intro i h hi hne
    simp only [List.length_append, List.length_cons, List.length_nil] at h
    rw [List.getElem_append_left (by lia), List.getElem_append_left (by lia)]
    exact H i (by lia) hi
  · intro i h hi hpar hp
    simp only [List.length_append, List.length_cons, List.length_nil] at h
    lia
/-- the head goes, the last comes to its place -/
theorem pop_down {x last : It} {its : List It} (H : Ord (x :: its ++ [last])) : Down (last :: its) 0 := by
  constructor
  · intro i h hi hne hpar
    have h1 : i < (x :: its ++ [last]).length := by simp only [List.length_append, List.length_cons, List.length_nil] at h ⊢; lia
    have := H i h1 hi
    obtain ⟨j, rfl⟩ : ∃ j, i = j + 1 := ⟨i - 1, by lia⟩
    obtain ⟨k, hk⟩ : ∃ k, (j + 1 - 1) / 2 = k + 1 := ⟨(j + 1 - 1) / 2 - 1, by lia⟩
    simp only [hk] at this ⊢
    simp only [List.length_cons] at h
    simp only [List.cons_append, List.getElem_cons_succ] at this ⊢
    rw [List.getElem_append_left (by lia), List.getElem_append_left (by lia)] at this
    exact this
  · intro i h hi hpar hp
    lia
theorem ord_head {l : List It} (h : Ord l) : ∀ (n i : Nat) (hi : i < l.length), i ≤ n → (l[0]'(by lia)).p ≤ (l[i]).p := by
  intro n
  induction n with
  | zero => intro i hi hn; have : i = 0 := by lia
            subst this; exact Int.le_refl _
  | succ n ih =>
    intro i hi hn
    by_cases h0 : i = 0
    · subst h0; exact Int.le_refl _
    · have h1 := ih ((i - 1) / 2) (by lia) (by lia)
      have h2 := h i hi (by lia)
      lia
/-! NC -/
/-! ### contexts in which nothing on the stack holds a bytearray's memory -/
noncomputable def badIds : List String := Builtin.Bytes.decodersThatHold ++ ["bytearray.__contains__", "bytearray.__mod__", "bytearray.__rmod__", "_struct.pack_into.held", "bytearray.find.held"]
noncomputable def okC : Code → Bool
  | .builtin id _ => !badIds.contains id
  | _ => true
noncomputable def CleanB (l : List (Code × Pos)) : Prop := ∀ x ∈ l, okC x.1 = true
noncomputable def wpC {α : Type} (w : World) (A : Around) (t : Sem α) (Q : α → Shared → Prop) (s : Shared) : Prop :=
  ∀ (Γ : Ctx) p, Γ.In A → okC Γ.code = true → CleanB Γ.below → Sem.wp (model PR w) Γ t (fun a _ s' => Q a s') (fun _ _ _ => False) p s
noncomputable def codeC (w : World) (A : Around) (c : Code) (R : Result → Shared → Prop) (s : Shared) : Prop :=
  ∀ (Γ : Ctx) p, Γ.code = c → Γ.Below A → CleanB Γ.below → wpCode (model PR w) Γ R p s

section
variable {α β : Type} {w : World} {A : Around} {s : Shared} {env : Env}
theorem c_any {t : Sem α} {Q : α → Shared → Prop} (h : wpAny (model PR w) A t Q FF s) : wpC w A t Q s := fun Γ p hΓ _ _ => h Γ p hΓ
theorem c_mono {t : Sem α} {Q Q' : α → Shared → Prop} (h : wpC w A t Q s) (hQ : ∀ a s, Q a s → Q' a s) : wpC w A t Q' s :=
  fun Γ p hΓ h1 h2 => Sem.wp_mono _ Γ t (fun a _ s => hQ a s) (fun _ _ _ x => x) p s (h Γ p hΓ h1 h2)
theorem c_bind {m : Sem α} {f : α → Sem β} {Q : β → Shared → Prop} (h : wpC w A m (fun a s' => wpC w A (f a) Q s') s) : wpC w A (m >>= f) Q s := fun Γ p hΓ h1 h2 => by
  rw [Sem.wp_bind']
  exact Sem.wp_mono _ Γ m (fun a p' s' h' => h' Γ p' hΓ h1 h2) (fun _ _ _ h' => h') p s (h Γ p hΓ h1 h2)
theorem c_bindA {m : Sem α} {f : α → Sem β} {Q : β → Shared → Prop} (h : wpAny (model PR w) A m (fun a s' => wpC w A (f a) Q s') FF s) : wpC w A (m >>= f) Q s := c_bind (c_any h)
theorem c_holding {vs : List Value} {m : Sem α} {Q : α → Shared → Prop} (h : wpC w A m Q s) : wpC w A (holding vs m) Q s := fun Γ p hΓ h1 h2 => by
  rw [Sem.wp_holding]; exact h Γ p hΓ h1 h2
theorem c_keep {vs : List Value} {m : Sem α} {Q : α → Shared → Prop} (h : wpC w A m Q s) : wpC w A (m.keep vs) Q s := fun Γ p hΓ h1 h2 => by
  rw [Sem.wp_keep]; exact h Γ p hΓ h1 h2
theorem c_onRaise {m : Sem α} {k : Value → Sem Unit} {Q : α → Shared → Prop} (h : wpC w A m Q s) : wpC w A (m.onRaise k) Q s := fun Γ p hΓ h1 h2 => by
  rw [Sem.wp_onRaise]
  exact Sem.wp_mono _ Γ m (fun _ _ _ h' => h') (fun _ _ _ h' => h'.elim) p s (h Γ p hΓ h1 h2)
theorem CleanB.cons {Γ : Ctx} {p : Pos} (h1 : okC Γ.code = true) (h2 : CleanB Γ.below) : CleanB ((Γ.code, p) :: Γ.below) := fun x hx => by
  rcases List.mem_cons.mp hx with rfl | hx
  · exact h1
  · exact h2 x hx
theorem c_run {c : Code} {Q : Flow → Shared → Prop} (h : codeC w A c (fun r s' => ∃ f, r = .ok f ∧ Q f s') s) : wpC w A (run c) Q s := fun Γ p hΓ h1 h2 => by
  rw [Sem.wp_run]
  refine wpCode_mono (fun r s' hr => ?_) (h (Γ.enter c none p) p rfl (hΓ.enter c none p (by intro x; cases x)) (CleanB.cons h1 h2))
  obtain ⟨f, rfl, hq⟩ := hr
  exact hq
theorem c_call {f : Value} {pos : List Value} {kw : List (Str × Value)} {Q : Value → Shared → Prop} (h : codeC w A (.call f ⟨pos, kw⟩) (fun r s' => ∃ v, r = .ok (.ret v) ∧ Q v s') s) : wpC w A (call f pos kw) Q s := fun Γ p hΓ h1 h2 => by
  show Sem.wp _ Γ (runValue (.call f ⟨pos, kw⟩)) _ _ p s
  rw [Sem.wp_runValue]
  refine wpCode_mono (fun r s' hr => ?_) (h (Γ.enter _ none p) p rfl (hΓ.enter _ none p (by intro x; cases x)) (CleanB.cons h1 h2))
  obtain ⟨v, rfl, hq⟩ := hr
  exact hq
theorem codeC_of_tree {c : Code} {R : Result → Shared → Prop} (hok : okC c = true)
    (h : wpC w (A.under c) ((model PR w).den c) (fun fin s' => match fin with | .done f => R (.ok f) s' | .again c' => c'.quiet = true ∧ codeC w A c' R s') s) : codeC w A c R s := fun Γ p hc hΓ hb => by
  rw [wpCode_iff_wp, hc]
  refine Sem.wp_mono _ Γ _ (fun fin p' s' h' => ?_) (fun _ _ _ h' => h'.elim) p s (h Γ p (hc ▸ hΓ.in) (hc ▸ hok) hb)
  cases fin with
  | done f => exact h'
  | again c' => exact ⟨h'.1, h'.2 (Γ.goto c') p' rfl (hΓ.goto c') hb⟩
theorem codeC_loop {c : Code} {R : Result → Shared → Prop} (hok : okC c = true) (hq : c.quiet = true) (I : Nat → Shared → Prop)
    (turn : ∀ n s, I n s → wpC w (A.under c) ((model PR w).den c) (fun fin s' => match fin with | .done f => R (.ok f) s' | .again c' => (c' = c ∧ ∃ m, m < n ∧ I m s') ∨ (c'.quiet = true ∧ codeC w A c' R s')) s)
    (n : Nat) (h : I n s) : codeC w A c R s := by
  induction n using Nat.strongRecOn generalizing s with
  | ind n ih =>
    refine codeC_of_tree hok (c_mono (turn n s h) fun fin s' hf => ?_)
    cases fin with
    | done f => exact hf
    | again c' =>
      rcases hf with ⟨rfl, m, hm, hI⟩ | hf
      · exact ⟨hq, ih m hm hI⟩
      · exact hf
theorem codeC_any {c : Code} {R : Result → Shared → Prop} (h : codeAny (model PR w) A c R s) : codeC w A c R s := fun Γ p hc hΓ _ => h Γ p hc hΓ

/-! statements -/
noncomputable def KseqC (w : World) (A : Around) (rest : List Stmt) (env : Env) (Q : Flow → Shared → Prop) : Flow → Shared → Prop := fun f s => match f with
  | .next => wpC w A (execs rest env) Q s
  | f => Q f s
theorem kseqC_next {rest : List Stmt} {Q : Flow → Shared → Prop} (h : wpC w A (execs rest env) Q s) : KseqC w A rest env Q .next s := h
theorem kseqC_ret {rest : List Stmt} {Q : Flow → Shared → Prop} {v : Value} (h : Q (.ret v) s) : KseqC w A rest env Q (.ret v) s := h
theorem c_cons {st : Stmt} {rest : List Stmt} {Q : Flow → Shared → Prop} (h : wpC w A (exec st env) (KseqC w A rest env Q) s) : wpC w A (execs (st :: rest) env) Q s := by
  rw [execs_cons]
  refine c_bind (c_mono h fun f s' h' => ?_)
  cases f with
  | next => exact h'
  | _ => exact c_any (wpAny_pure h')
theorem c_consA {st : Stmt} {rest : List Stmt} {Q : Flow → Shared → Prop} (h : wpAny (model PR w) A (exec st env) (KseqC w A rest env Q) FF s) : wpC w A (execs (st :: rest) env) Q s := c_cons (c_any h)
theorem c_assign {x : Str} {pos' pos : Pos} {value : Expr} {Q : Flow → Shared → Prop}
    (h : wpC w A (eval value env) (fun v s₁ => wpAny (model PR w) A (storeName env x v) (fun _ => Q .next) FF s₁) s)
    (hs : swapsWith value (some (.Name x pos')) pos.line env = pure false := by kernel_rfl) :
    wpC w A (exec (.Assign [.Name x pos'] value pos) env) Q s := fun Γ p hΓ h1 h2 => by
  simp only [exec_Assign_Name env x pos' value pos hs, Sem.wp_bind', Sem.wp_cmd_standAt, Sem.wp_bindName, Sem.wp_pure']
  exact Sem.wp_mono _ Γ _ (fun v _ s₁ h₁ => h₁ Γ _ hΓ) (fun _ _ _ h' => h') _ _ (h Γ _ hΓ h1 h2)
theorem c_assignT {elts : List Expr} {k : Nat} {tpos pos : Pos} {value : Expr} {Q : Flow → Shared → Prop}
    (h : wpC w A (eval value env) (fun v s₁ => wpAny (model PR w) A (assign (.Tuple elts k tpos) env v) (fun _ => Q .next) FF s₁) s)
    (hs : swapsWithSole [.Tuple elts k tpos] value pos.line env = pure false := by kernel_rfl)
    (hw : swappedStores [.Tuple elts k tpos] value env = pure none := by kernel_rfl) :
    wpC w A (exec (.Assign [.Tuple elts k tpos] value pos) env) Q s := by
  rw [exec_Assign]
  refine c_bindA (wpAny_standAt ?_)
  rw [hs]
  refine c_bindA (wpAny_pure ?_)
  rw [if_neg (by decide)]
  refine c_bind (c_mono h fun v s₁ h₁ => ?_)
  rw [hw]
  refine c_bindA (wpAny_pure (c_any ?_))
  show wpAny _ A (do assignAll v [assign (.Tuple elts k tpos) env]; pure .next) Q FF s₁
  exact wpAny_bind (wpAny_mono h₁ (fun _ _ x => wpAny_pure x) fun _ _ x => x)
theorem c_if {test : Expr} {body orelse : List Stmt} {pos : Pos} {Q : Flow → Shared → Prop}
    (h : wpAny (model PR w) A (isTrue test env (eval test env)) (fun b s₂ => (b = true → wpC w A (execs body env) Q s₂) ∧ (b = false → wpC w A (execs orelse env) Q s₂)) FF s) : wpC w A (exec (.If test body orelse pos) env) Q s := fun Γ p hΓ h1 h2 => by
  simp only [exec_If, Sem.wp_bind', Sem.wp_cmd_standAt]
  refine Sem.wp_mono _ Γ _ (fun b p₂ s₂ h₂ => ?_) (fun _ _ _ h' => h') _ _ (h Γ _ hΓ)
  cases b with
  | true => exact h₂.1 rfl Γ p₂ hΓ h1 h2
  | false => exact h₂.2 rfl Γ p₂ hΓ h1 h2
theorem c_runOwn {c : Code} {Q : Flow → Shared → Prop} (h : codeC w A c (fun r s' => ∃ f, r = .ok f ∧ Q f s') s) : wpC w A (runOwn c env) Q s := c_onRaise (c_run h)
theorem c_while {test : Expr} {body : List Stmt} {pos : Pos} {Q : Flow → Shared → Prop} (I : Nat → Shared → Prop) (n : Nat) (h : I n s)
    (turn : ∀ n s, I n s → wpAny (model PR w) A (isTrue test env (eval test env)) (fun b s₂ => (b = true → wpC w A (execs body env) (Kloop I n Q) s₂) ∧ (b = false → Q .next s₂)) FF s) :
    wpC w A (exec (.While test body [] pos) env) Q s := by
  rw [exec_While]
  refine c_bindA (wpAny_standAt (c_runOwn (codeC_loop rfl rfl I (fun n s hI => ?_) n h)))
  show wpC w A ((whileTurn test body [] env).onRaise _) _ s
  refine c_onRaise ?_
  simp only [whileTurn]
  refine c_bindA (wpAny_mono (turn n s hI) (fun b s₂ h₂ => ?_) fun _ _ x => x)
  cases b with
  | false =>
    simp only [Bool.false_eq_true, if_false]
    exact c_bindA (wpAny_execs_nil (c_any (wpAny_pure ⟨_, rfl, h₂.2 rfl⟩)))
  | true =>
    simp only [if_true]
    refine c_bind (c_mono (h₂.1 rfl) fun f s₃ h₃ => c_any ?_)
    cases f with
    | next => exact wpAny_pure (.inl ⟨rfl, h₃⟩)
    | cont => exact wpAny_pure (.inl ⟨rfl, h₃⟩)
    | brk => exact wpAny_pure ⟨_, rfl, h₃⟩
    | ret v => exact wpAny_pure ⟨_, rfl, h₃⟩
noncomputable def KturnC (w : World) (A : Around) (env : Env) (x : Str) (body : List Stmt) (I : Nat → Shared → Prop) (n : Nat) (Q : Flow → Shared → Prop) : Option Value → Shared → Prop := fun r s' => match r with
  | none => Q .next s'
  | some v => wpAny (model PR w) A (storeName env x v) (fun _ s₂ => wpC w A (execs body env) (Kloop I n Q) s₂) FF s'
noncomputable def LoopAtC (w : World) (A : Around) (env : Env) (x : Str) (body : List Stmt) (Q : Flow → Shared → Prop) (it : Value) (s₂ : Shared) : Prop :=
  ∃ (I : Nat → Shared → Prop) (n : Nat), I n s₂ ∧ ∀ n s, I n s → wpAny (model PR w) A (pyNext it) (KturnC w A env x body I n Q) FF s
theorem c_for {x : Str} {px pos : Pos} {iter : Expr} {body : List Stmt} {Q : Flow → Shared → Prop}
    (h : wpAny (model PR w) A (eval iter env) (fun xv s₁ => wpAny (model PR w) A (pyIter xv) (LoopAtC w A env x body Q) FF s₁) FF s)
    (hs : ∀ x, foldedSetIterable iter env x = pure x := by intro _; kernel_rfl) :
    wpC w A (exec (.For (.Name x px) iter body [] pos) env) Q s := by
  rw [exec_For]
  refine c_bindA (wpAny_standAt (c_bindA (wpAny_mono h (fun xv s₁ h₁ => c_bindA (wpAny_of_eq (hs xv) (c_bindA (wpAny_standAt (c_bindA (wpAny_holding (wpAny_mono h₁ (fun it s₂ h₂ => ?_) fun _ _ x => x))))))) fun _ _ x => x)))
  obtain ⟨I, n, h0, turn⟩ := h₂
  refine c_runOwn (codeC_loop rfl rfl I (fun n s hI => ?_) n h0)
  show wpC w A ((forTurn (.Name x px) it body [] env).onRaise _) _ s
  refine c_onRaise ?_
  simp only [forTurn]
  refine c_bindA (wpAny_standAt (c_bind (c_onRaise (c_any (wpAny_mono (turn n s hI) (fun r s₁ h₁ => ?_) fun _ _ x => x)))))
  cases r with
  | none => exact c_any (wpAny_pure (.inr ⟨rfl, codeC_any (codeAny_block (wpAny_execs_nil ⟨_, rfl, h₁⟩))⟩))
  | some v =>
    refine c_bindA (wpAny_of_eq (by rfl) ?_)
    refine c_bindA (wpAny_assign_Name (wpAny_mono h₁ (fun _ s₂ h₂ => c_bind (c_mono h₂ fun f s₃ h₃ => c_any ?_)) fun _ _ x => x))
    cases f with
    | next => exact wpAny_pure (.inl ⟨rfl, h₃⟩)
    | cont => exact wpAny_pure (.inl ⟨rfl, h₃⟩)
    | brk => exact wpAny_pure ⟨_, rfl, h₃⟩
    | ret v => exact wpAny_pure ⟨_, rfl, h₃⟩
end
/-! NCb -/
section
variable {w : World} {A : Around} {s : Shared} {env : Env}
/-! calls -/
theorem c_callName {id : Str} {p pos : Pos} {args : List Expr} {Q : Value → Shared → Prop}
    (h : wpAny (model PR w) A (eval (.Name id p) env) (fun f s₁ => wpC w A (callWith pos f [] (backTo pos (starEach args env)) (backToKw pos (keywordEach [] env))) Q s₁) FF s) :
    wpC w A (eval (.Call (.Name id p) args [] pos) env) Q s := by
  rw [arm_eval_Call_Name']
  exact c_bindA h
theorem c_cwf {pos : Pos} {a : Addr} {o : Obj} {fd : FuncData} {first : List Value} {args : List (Bool × Sem Value)} {Q : Value → Shared → Prop} (hplain : args.any (·.1) = false)
    (h : wpAny (model PR w) A (evalArgs (.ref a) true args []) (fun x s₁ => (s₁.heap.get? a = some o ∧ o.data = .func fd) ∧ wpC w A (call (.ref a) (first ++ x.pos) x.kw) Q s₁) FF s) :
    wpC w A (callWith pos (.ref a) first args []) Q s := by
  unfold callWith
  refine c_bindA (wpAny_holding (wpAny_mono h (fun x s₁ h₁ => c_bindA (wpAny_standAt ?_)) fun _ _ x => x))
  have tail : ∀ {t : Sem Value}, wpC w A t Q s₁ → wpC w A (t >>= fun r => holding [r] point >>= fun _ => pure r) Q s₁ :=
    fun ht => c_bind (c_mono ht fun r s₂ hr => c_any (wpAny_bind (wpAny_holding (wpAny_point (wpAny_pure hr)))))
  simp only [hplain, List.any_nil, Bool.or_false]
  refine c_bindA (m := keeperOf (.ref a)) ?_
  unfold keeperOf
  refine wpAny_bind (wpAny_load h₁.1.1 ?_)
  rw [h₁.1.2]
  refine wpAny_pure ?_
  dsimp only
  split
  · exact tail h₁.2
  · exact tail (by unfold callMarked; exact c_keep h₁.2)
theorem c_cwt {pos : Pos} {T : String} {first : List Value} {args : List (Bool × Sem Value)} {Q : Value → Shared → Prop} (hplain : args.any (·.1) = false)
    (h : wpAny (model PR w) A (evalArgs (.type T) true args []) (fun x s₁ => wpC w A (call (.type T) (first ++ x.pos) x.kw) Q s₁) FF s) :
    wpC w A (callWith pos (.type T) first args []) Q s := by
  unfold callWith
  refine c_bindA (wpAny_holding (wpAny_mono h (fun x s₁ h₁ => c_bindA (wpAny_standAt ?_)) fun _ _ x => x))
  simp only [hplain, List.any_nil, Bool.or_false]
  refine c_bindA (wpAny_pure ?_)
  exact c_bind (c_mono h₁ fun r s₂ hr => c_any (wpAny_bind (wpAny_holding (wpAny_point (wpAny_pure hr)))))
/-- one argument that is on the path -/
theorem c_arg1 {pos : Pos} {f : Value} {first : List Value} {x : Sem Value} {Q : Value → Shared → Prop}
    (h : wpC w A x (fun v s' => wpC w A (callWith pos f first [(false, pure v)] []) Q s') s) : wpC w A (callWith pos f first [(false, x)] []) Q s := fun Γ p hΓ h1 h2 => by
  have h0 := h Γ p hΓ h1 h2
  unfold callWith evalArgs spliced
  simp only [Sem.wp_bind', Sem.wp_holding]
  refine Sem.wp_mono _ Γ x (fun v p' s' h' => ?_) (fun _ _ _ h' => h') p s h0
  have h3 := h' Γ p' hΓ h1 h2
  unfold callWith evalArgs spliced at h3
  simp only [Sem.wp_bind', Sem.wp_holding, Sem.wp_pure'] at h3 ⊢
  exact h3
/-- a method of a constant, its arguments on the path -/
theorem c_attr1 {o : Expr} {name : Str} {apos pos : Pos} {args : List Expr} {Q : Value → Shared → Prop}
    (h : wpAny (model PR w) A (eval o env) (fun ov s₁ => wpC w A (methodCall o name apos pos env ov (args.length + ([] : List Keyword).length) (backTo pos (starEach args env)) (backToKw pos (keywordEach [] env))) Q s₁) FF s)
    (hb : attributeBase o name env (eval o env) = eval o env := by kernel_rfl) : wpC w A (eval (.Call (.Attribute o name apos) args [] pos) env) Q s := by
  rw [arm_eval_Call, hb]
  exact c_bindA (wpAny_mono h (fun ov s₁ h₁ => c_bindA (wpAny_standAt h₁)) fun _ _ x => x)
theorem c_bm {T id : String} {ov : Value} {o : Expr} {name : Str} {apos pos : Pos} {n : Nat} {args : List (Bool × Sem Value)} {kws : List (Option Str × Sem Value)} {Q : Value → Shared → Prop}
    (pa : PlainAttrs T) (slot : Slot T name id) (hty : typeOf (.builtin id) = pure (.type "method_descriptor")) (hr : RecvOk T ov s)
    (h : wpC w A (callWith pos (.builtin id) [ov] args kws) Q s)
    (hform : methodCallForm n args kws = true := by kernel_rfl) (hline : (apos.endLine == pos.line) = true := by kernel_rfl) :
    wpC w A (methodCall o name apos pos env ov n args kws) Q s := by
  unfold methodCall calleeOf
  rw [hform]
  exact c_bindA (wpAny_holding (getMethod_builtin hr.1 pa slot hty hr.2 (c_bindA (wpAny_of_eq (m_pos hline) h))))
/-- a comprehension whose source is on the path -/
theorem c_comp {elt iter : Expr} {x : Str} {px : Pos} {scope : Scope} {pos : Pos} {Q : Value → Shared → Prop}
    (h : wpC w A (eval iter env) (fun v s' => wpAny (model PR w) A (comprehension (.ListComp elt [⟨.Name x px, iter, [], 0⟩] scope pos) scope env (firstIterPos [⟨.Name x px, iter, [], 0⟩] pos) (newList []) false (pure v)) Q FF s') s) :
    wpC w A (eval (.ListComp elt [⟨.Name x px, iter, [], 0⟩] scope pos) env) Q s := by
  rw [eval_ListComp]
  have e : comprehension (.ListComp elt [⟨.Name x px, iter, [], 0⟩] scope pos) scope env (firstIterPos [⟨.Name x px, iter, [], 0⟩] pos) (newList []) (firstAsync [⟨.Name x px, iter, [], 0⟩]) (firstIter [⟨.Name x px, iter, [], 0⟩] env) = eval iter env >>= fun v => comprehension (.ListComp elt [⟨.Name x px, iter, [], 0⟩] scope pos) scope env (firstIterPos [⟨.Name x px, iter, [], 0⟩] pos) (newList []) false (pure v) := rfl
  rw [e]
  exact c_bind (c_mono h fun v s' h' => c_any h')

/-! the text's own defs -/
theorem codeC_func {body : List Stmt} {Q : Value → Shared → Prop} (h : wpC w (A.deeper env) (execs body env) (Kret Q) s) : codeC w A (.func body env) (fun r s' => ∃ v, r = .ok (.ret v) ∧ Q v s') s := by
  refine codeC_of_tree rfl ?_
  show wpC w (A.deeper env) (do point; match ← (execs body env).onRaise (leaving env) with | .ret v => ret v | _ => ret .none) _ s
  refine c_bindA (wpAny_point (c_bind (c_onRaise (c_mono h fun f s' h' => c_any ?_))))
  cases f <;> exact wpAny_pure ⟨_, rfl, h'⟩
theorem codeC_function {a : Addr} {args : Args} {o : Obj} {fd : FuncData} {body : List Stmt} {R : Result → Shared → Prop} (hroom : A.depth < recursionLimit)
    (ho : s.heap.get? a = some o) (hd' : o.data = .func fd) (hco : fd.scope.isCoroutine = false) (hgen : fd.scope.isGenerator = false) (hbody : fd.body = .stmts body) (hcd : s.heap.CodeRec fd.code fd.qualname)
    (h : wpAny (model PR w) A.in1 (bindArgs fd args) (fun binds s₁ =>
      wpAny (model PR w) A.in1 (newFunctionEnv fd.scope fd.globals fd.closure binds (fd.qualname ++ ".<locals>.") (some a) fd.code none fd.builtins)
        (fun env s₂ => s₂.heap.NoLimit ∧ codeC w A (.func body env) R s₂) FF s₁) FF s) :
    codeC w A (.call (.ref a) args) R s := by
  refine codeC_of_tree rfl (c_any ?_)
  show wpAny _ A.in1 (callAny (.ref a) args) _ _ s
  simp only [callAny]
  refine wpAny_bind (wpAny_load ho ?_)
  obtain ⟨c, oc, vs, tq, hc, hoc, hdc, hq⟩ := hcd
  simp only [hd', callFunction, hco, hgen, hbody, hc]
  rw [hc] at h
  refine wpAny_bind (m := field (.ref c) 1) (wpAny_field hoc hdc hq (wpAny_bind (wpAny_pure ?_)))
  exact wpAny_bind (wpAny_mono h (fun binds s₁ h₁ => wpAny_bind (wpAny_mono h₁ (fun env s₂ h₂ => wpAny_bind (wpAny_enterFrame h₂.1 hroom
    (wpAny_pure (And.intro rfl h₂.2)))) fun _ _ h' => h')) fun _ _ h' => h')
end
section
variable {w : World} {s₁ s : Shared} {F : List Addr} {led led' : Led} {A : Around}
theorem enterP (B : Base w s₁) (S : St w s₁ F led s) {f : Addr} {oc : Value} {od : Option Addr} {osl : Array (Option Value)} {nm qn : Str} {ps : Arguments} {body : List Stmt} {sc : Scope} {dV kV doc pm : Value} {an : Option Addr} {cdv ct : Value}
    {pos : List Value} {kw : List (Str × Value)} (m : List (Str × Value)) {Q : Value → Shared → Prop}
    (hf : (hd.heap_1 w.params).lookup f = some ⟨oc, od, .func ⟨nm, qn, ps, .stmts body, sc, mainGlobals, [], dV, kV, doc, pm, an, cdv, ct, builtinsNs⟩, osl⟩)
    (hroom : A.depth < recursionLimit)
    (hbind : BindsTo s ⟨nm, qn, ps, .stmts body, sc, mainGlobals, [], dV, kV, doc, pm, an, cdv, ct, builtinsNs⟩ ⟨pos, kw⟩ m.reverse)
    (h : ∀ L s', s₁.heap.objs.size ≤ L → St w s₁ (L :: F) ((L, Cell.ns m) :: led) s' →
      wpC w (A.deeper ⟨sc, L, mainGlobals, [], qn ++ ".<locals>.", some f, cdv, some L, builtinsNs⟩) (execs body ⟨sc, L, mainGlobals, [], qn ++ ".<locals>.", some f, cdv, some L, builtinsNs⟩) (Kret Q) s')
    (hcd : codeIn (hd.heap_1 w.params) cdv qn = true) (hok : fnOk sc m.reverse = true) :
    wpC w A (call (.ref f) pos kw) Q s := by
  simp only [fnOk, Bool.and_eq_true, Bool.not_eq_true'] at hok
  obtain ⟨⟨⟨⟨⟨h1, h2⟩, h3⟩, h4⟩, h5⟩, h6⟩ := hok
  have hk : sc.kind = .function := by cases q : sc.kind <;> rw [q] at h5 <;> first | rfl | cases h5
  have hcell : ∀ x ∈ sc.names, x.2 ≠ .cell := fun x hx e => by
    have := List.all_eq_true.mp h1 x hx
    rw [e] at this; cases this
  have hloc : ∀ x ∈ m.reverse, sc.names.lookup x.1 = some .local := fun x hx => of_decide_eq_true (List.all_eq_true.mp h2 x hx)
  have hnd : (Keys m).Nodup := by have := nodup_of h6; rw [List.reverse_reverse] at this; exact this
  have K := S.K B
  refine c_call (codeC_function hroom (K _ _ hf) rfl h3 h4 rfl (codeRec_of K hcd) (hbind _ _ _ _ ?_))
  refine wpAny_newFunctionEnv hcell hloc (fun h₀ hn hsb => ⟨(S.lim B).fresh _ hsb, codeC_func ?_⟩) hk
  have hkeep : ∀ b o, s.heap.get? b = some o → h₀.get? b = some o := fun b o e => hsb.extBut b o (Nat.ne_of_lt (Heap.lt_size e)) (Heap.get?_push_of_some _ e)
  obtain ⟨ob, e, hc, hdd⟩ := Cell.ns_ok (P := w.params) (m := m) hn (fun p hp => by rw [List.reverse_reverse]; exact lookup_of_mem hnd hp) hnd
  have hsz : s.heap.objs.size < h₀.objs.size := Heap.lt_size e
  have S' : St w s₁ F led { s with heap := h₀, toks := s.toks + m.reverse.length } := S.ext (s' := { s with heap := h₀, toks := s.toks + m.reverse.length }) hkeep (Nat.le_of_lt hsz) S.gens rfl
  have S'' := S'.push e hc S.size (fun p hp => by obtain ⟨o', e', _⟩ := S.at_ p hp; exact Nat.ne_of_lt (Heap.lt_size e')) (fun _ => rfl)
  have S3 : St w s₁ (s.heap.objs.size :: F) ((s.heap.objs.size, Cell.ns m) :: led) { s with heap := h₀, toks := s.toks + m.reverse.length } :=
    ⟨S''.old, S''.tab, S''.os, S''.gens, S''.size, S''.at_, S''.nd, S''.lo, fun f hf => by
      rcases List.mem_cons.mp hf with rfl | hf
      · exact ⟨S.size, ob, e, hdd⟩
      · exact S''.frs f hf, fun p hp hf => by
      rcases List.mem_cons.mp hp with rfl | hp
      · rfl
      · rcases List.mem_cons.mp hf with e' | hf
        · obtain ⟨o', e'', _⟩ := S.at_ p hp
          exact absurd e' (Nat.ne_of_lt (Heap.lt_size e''))
        · exact S.fns p hp hf⟩
  exact h _ _ S.size S3
end
/-! NB -/
theorem ba_init : Slot "bytearray" "__init__" "bytearray.__init__" :=
  .of (owner := "bytearray") (n := "__init__") (by rw [typeLookup_type, builtinLookup_eq_fast]; kernel_rfl) (by decide +kernel) (by decide +kernel) (by decide +kernel)
    (by first | exact .inl (by decide +kernel) | exact .inr (by decide +kernel)) (by rw [isSubtype_type]; kernel_rfl)
theorem ba_init_entry : entryFor table "bytearray.__init__" = some Builtin.«bytearray.__init__» := by first | exact entryFor_of_fast (by kernel_rfl) | exact entryFor_of_tree (by kernel_rfl)
theorem ba_init_args (a b : Value) : argsOk "bytearray.__init__" ⟨[a, b], []⟩ := by unfold argsOk; kernel_rfl
theorem ba_new_entry : entryFor table "bytearray.__new__" = some Builtin.«list.__new__» := entryFor_alias (id' := "list.__new__") (by rw [fastTable_eq_tree]; kernel_rfl) (by decide +kernel) (by decide +kernel) (by rw [fastTable_eq_tree]; kernel_rfl)
theorem ba_new_look : typeLookup (.type "bytearray") "__new__" = pure (some (.builtin "bytearray.__new__")) := by rw [typeLookup_type, builtinLookup_eq_fast]; kernel_rfl
theorem ba_mro : mroOf (.type "bytearray") = pure [.type "bytearray", .type "object"] := by rw [mroOf_type]; kernel_rfl
theorem ba_new_plain : plainId "bytearray.__new__" = true := by decide +kernel
theorem ba_sub : isSubtype (.type "bytearray") (.type "bytearray") = pure true := by rw [isSubtype_type]; kernel_rfl
theorem ba_called : TypeCalled "bytearray" "bytearray.__new__" "bytearray.__init__" :=
  ⟨by decide +kernel, by decide +kernel, ⟨_, _, ba_mro⟩, madeBy_type ba_mro ba_new_look (by decide +kernel), by decide +kernel, ba_sub, ba_init⟩
theorem ba_typeCall (a : Value) : checkTypeCall "bytearray" ⟨[a], []⟩ = pure () := by kernel_rfl
theorem ba_newCall (a : Value) : checkBuiltinCall "bytearray.__new__" ⟨[.type "bytearray", a], []⟩ = pure () := by kernel_rfl
theorem ba_owner : ("bytearray.__new__".splitOn ".__new__").headD "" = "bytearray" := by simp +decide [String.splitOn, String.splitOnAux]
theorem ba_rel : typeLookup (.type "bytearray") "__release_buffer__" = pure (some (.builtin "bytearray.__release_buffer__")) := by rw [typeLookup_type, builtinLookup_eq_fast]; kernel_rfl

section
variable {w : World} {A : Around} {s : Shared}
theorem ba_new (v : Value) {Q₁ : Value → Shared → Prop} {E : Value → Shared → Prop}
    (h : Q₁ (.ref s.heap.objs.size) { s with heap := s.heap.push { cls := .type "bytearray", data := .bytearray #[] } }) :
    codeAny (model PR w) A (.call (.builtin "bytearray.__new__") ⟨[.type "bytearray", v], []⟩) (wants Q₁ E) s := by
  refine codeAny_of_tree ?_
  show wpAny _ A.in1 (do checkBuiltinCall "bytearray.__new__" ⟨[.type "bytearray", v], []⟩; again (.builtin "bytearray.__new__" ⟨[.type "bytearray", v], []⟩)) _ _ s
  refine wpAny_bind (wpAny_of_eq (ba_newCall v) (wpAny_pure ⟨plainId_quiet ba_new_plain _, codeAny_builtin_stack ba_new_entry rfl fun p st => ?_⟩))
  rw [Around.under_plainId ba_new_plain _]
  have hsub := ba_sub
  have hown := ba_owner
  obtain ⟨hp, g, d, tk, os⟩ := s
  simp only [hown]
  wp_walk
  exact h
end
/-! NBb -/
section
variable {w : World} {A : Around} {s : Shared}
theorem ok_bad {id : String} {args : Args} (h : okC (.builtin id args) = true) (hb : badIds.contains id = true) : False := by
  have h : (!badIds.contains id) = true := h
  rw [hb] at h
  cases h
theorem c_exported {self : Value} {Q : Bool → Shared → Prop} (h : Q false s) : wpC w A (Builtin.Bytes.exported self) Q s := fun Γ p hΓ h1 h2 => by
  unfold Builtin.Bytes.exported
  rw [Sem.wp_bind']
  unfold stack
  rw [Sem.wp_stack]
  show Q (List.any ((Γ.code, p) :: Γ.below) _) s
  rw [List.any_eq_false.mpr]
  · exact h
  · intro x hx
    have hok := CleanB.cons (p := p) h1 h2 x hx
    obtain ⟨c, q⟩ := x
    rw [Bool.not_eq_true]
    cases c with
    | builtin id args =>
      obtain ⟨pos, kw⟩ := args
      have n1 : ¬ id = "bytearray.__contains__" := fun e => ok_bad hok (by rw [e]; decide +kernel)
      have n2 : ¬ id = "bytearray.__mod__" := fun e => ok_bad hok (by rw [e]; decide +kernel)
      have n3 : ¬ id = "bytearray.__rmod__" := fun e => ok_bad hok (by rw [e]; decide +kernel)
      have n4 : ¬ id = "_struct.pack_into.held" := fun e => ok_bad hok (by rw [e]; decide +kernel)
      have n5 : ¬ id = "bytearray.find.held" := fun e => ok_bad hok (by rw [e]; decide +kernel)
      delta Builtin.Bytes.exported.match_1
      refine (dif_neg n1).trans ((dif_neg n2).trans ((dif_neg n3).trans ((dif_neg n4).trans ((dif_neg n5).trans ?_))))
      cases pos with
      | nil => rfl
      | cons v r =>
        have hc : Builtin.Bytes.decodersThatHold.contains id = false := by
          cases hc : Builtin.Bytes.decodersThatHold.contains id with
          | false => rfl
          | true =>
            refine (ok_bad hok ?_).elim
            unfold badIds
            rw [List.contains_iff_mem] at hc ⊢
            exact List.mem_append_left _ hc
        show (Builtin.Bytes.sameRef v self && Builtin.Bytes.decodersThatHold.contains id) = false
        rw [hc, Bool.and_false]
    | _ => rfl
theorem c_if_false {α : Type} {c : Bool} {a b : Sem α} {Q : α → Shared → Prop} (hc : c = false) (h : wpC w A b Q s) : wpC w A (if c = true then a else b) Q s := by subst hc; exact h
theorem c_if_true {α : Type} {c : Bool} {a b : Sem α} {Q : α → Shared → Prop} (hc : c = true) (h : wpC w A a Q s) : wpC w A (if c = true then a else b) Q s := by subst hc; exact h
theorem ba_rel_own {M : Model} {E : Value → Shared → Prop} {a : Addr} {Q : Bool → Shared → Prop} (hT : s.TypeIs (.ref a) "bytearray") (h : Q false s) : wpAny M A (Builtin.Bytes.ownRelease (.ref a)) Q E s := by
  unfold Builtin.Bytes.ownRelease Builtin.Bytes.slotIsOwn
  refine wpAny_bind (wpAny_bind (wpAny_specialOf hT ba_rel ?_))
  refine bm_if_false (by decide +kernel) ?_
  have e : (Value.type (String.dropRight "bytearray.__release_buffer__" ("__release_buffer__".length + 1))) = Value.type "bytearray" := by decide +kernel
  rw [e]
  exact wpAny_isInstance hT ba_sub (wpAny_pure h)
theorem ba_bind (v : Value) : Builtin.Bytes.bindOptional "bytearray.__init__" "bytearray" ["source", "encoding", "errors"] [v] [] = pure [some v, none, none] := by kernel_rfl
theorem asStr_int (n : Int) (t : Tok) : asStr? (.int n t) = pure none := rfl
theorem ba_initC {a : Addr} {t : Tok} {Q : Value → Shared → Prop} (ho : s.heap.get? a = some { cls := .type "bytearray", data := .bytearray #[] })
    (h : Q .none { s with heap := (s.heap.update a (Obj.mapBytearray fun _ => #[])).update a (Obj.mapBytearray fun _ => Array.replicate 6 0) }) :
    wpC w A (Builtin.«bytearray.__init__» ⟨[.ref a, .int 6 t], []⟩) (fun fin s' => ∃ v, fin = .done (.ret v) ∧ Q v s') s := by
  have hT : s.TypeIs (.ref a) "bytearray" := ⟨_, ho, rfl⟩
  unfold Builtin.«bytearray.__init__»
  refine c_bindA (ba_rel_own hT ?_)
  refine c_if_false rfl ?_
  refine c_bindA (wpAny_of_eq (ba_bind _) ?_)
  refine c_bindA (wpAny_of_eq (a := ()) rfl ?_)
  refine c_bindA (wpAny_of_eq (a := ()) rfl ?_)
  refine c_bind ?_
  unfold orM
  refine c_bind (c_exported ?_)
  show wpC w A (do let x ← Builtin.Bytes.exportsOf (.ref a); pure (decide (x > 0))) _ s
  unfold Builtin.Bytes.exportsOf
  refine c_any (wpAny_bind (wpAny_bind (wpAny_load ho (wpAny_pure (wpAny_pure ?_)))))
  refine c_if_false rfl ?_
  have ho1 : (s.heap.update a (Obj.mapBytearray fun _ => #[])).get? a = some { cls := .type "bytearray", data := .bytearray #[] } := Heap.get?_update_self (Obj.mapBytearray fun _ => #[]) ho rfl
  refine c_bindA (m := Builtin.Bytes.write (.ref a) fun _ => #[]) ?_
  · show wpAny _ _ (updateBytearray a fun _ => #[]) _ _ _
    unfold updateBytearray
    refine wpAny_bind (wpAny_load ho ?_)
    show wpAny _ _ (update a (Obj.mapBytearray fun _ => #[]) >>= fun _ => lookBehind a) _ _ _
    refine wpAny_bind (wpAny_update ho ?_)
    refine wpAny_lookBehind ho1 rfl ?_
    dsimp only
    refine c_any ?_
    with_reducible refine wpAny_bind ?_
    with_reducible refine wpAny_of_eq (asStr_int 6 t) ?_
    with_reducible refine bm_if_false Option.isSome_none ?_
    with_reducible refine wpAny_bind ?_
    with_reducible refine bm_if_false Option.isSome_none ?_
    with_reducible refine bm_if_false Option.isSome_none ?_
    with_reducible refine wpAny_pure ?_
    with_reducible refine wpAny_bind ?_
    with_reducible refine wpAny_specialOf (T := "int") (typeIs_int _ _ _) PySem.F.slot_int_index.lookup ?_
    with_reducible refine bm_if_true Option.isSome_some ?_
    with_reducible refine wpAny_bind ?_
    with_reducible refine wpAny_attempt ?_
    with_reducible refine wpAny_of_eq (rfl : asIndex (.int 6 t) = pure (6 : Int)) ?_
    dsimp only
    rw [if_neg (by decide +kernel), if_neg (by decide +kernel), if_neg (by decide +kernel), if_neg (by decide +kernel)]
    with_reducible refine wpAny_bind ?_
    with_reducible refine wpAny_rule ?_
    rw [if_pos (by decide)]
    with_reducible refine wpAny_bind ?_
    show wpAny _ _ (updateBytearray a fun _ => Array.replicate 6 0) _ _ _
    unfold updateBytearray
    refine wpAny_bind (wpAny_load ho1 ?_)
    show wpAny _ _ (update a (Obj.mapBytearray fun _ => Array.replicate 6 0) >>= fun _ => lookBehind a) _ _ _
    refine wpAny_bind (wpAny_update ho1 ?_)
    exact wpAny_lookBehind (Heap.get?_update_self (Obj.mapBytearray fun _ => Array.replicate 6 0) ho1 rfl) rfl (wpAny_pure ⟨_, rfl, h⟩)
theorem ok_id {id : String} (args : Args) (h : badIds.contains id = false) : okC (.builtin id args) = true := by
  show (!badIds.contains id) = true
  rw [h]; rfl
theorem c_builtin {id : String} {args : Args} {b : Builtin} {R : Result → Shared → Prop} (hok : okC (.builtin id args) = true) (hb : entryFor table id = some b)
    (h : wpC w (A.under (.builtin id args)) (b args) (fun fin s' => match fin with | .done f => R (.ok f) s' | .again c' => c'.quiet = true ∧ codeC w A c' R s') s) : codeC w A (.builtin id args) R s := by
  refine codeC_of_tree hok ?_
  show wpC w _ (match entryFor table id with | some b => b args | none => unsupported ((withoutEnding? id "#data").getD id)) _ s
  rw [hb]; exact h
theorem ba_call {a : Addr} {t : Tok} {Q : Value → Shared → Prop} (ho : s.heap.get? a = some { cls := .type "bytearray", data := .bytearray #[] })
    (h : Q .none { s with heap := (s.heap.update a (Obj.mapBytearray fun _ => #[])).update a (Obj.mapBytearray fun _ => Array.replicate 6 0) }) :
    wpC w A (call (.builtin "bytearray.__init__") [.ref a, .int 6 t]) Q s := by
  have hT : s.TypeIs (.ref a) "bytearray" := ⟨_, ho, rfl⟩
  refine c_call (codeC_of_tree rfl ?_)
  show wpC w A.in1 (do checkBuiltinCall "bytearray.__init__" ⟨[.ref a, .int 6 t], []⟩; again (.builtin "bytearray.__init__" ⟨[.ref a, .int 6 t], []⟩)) _ s
  refine c_bindA (ba_init.check _ _ _ _ _ _ _ _ hT (ba_init_args _ _) (c_any (wpAny_pure ⟨plainId_quiet ba_init.plain _, c_builtin (ok_id _ (by decide +kernel)) ba_init_entry ?_⟩)))
  refine c_mono (ba_initC ho h) fun fin s' hf => ?_
  obtain ⟨v, rfl, hq⟩ := hf
  exact ⟨v, rfl, hq⟩
theorem ba_makeC {t : Tok} {Q : Value → Shared → Prop}
    (h : ∀ s', s' = { s with heap := ((s.heap.push { cls := .type "bytearray", data := .bytearray #[] }).update s.heap.objs.size (Obj.mapBytearray fun _ => #[])).update s.heap.objs.size (Obj.mapBytearray fun _ => Array.replicate 6 0) } → Q (.ref s.heap.objs.size) s') :
    wpC w A (call (.type "bytearray") [.int 6 t]) Q s := by
  refine c_call (codeC_of_tree rfl ?_)
  show wpC w _ (callAny (.type "bytearray") _) _ _
  refine c_any (wpAny_pure ⟨Code.quiet_builtin _ (by decide +kernel), c_builtin (ok_id _ (by decide +kernel)) PySem.F.entry_type_call ?_⟩)
  rw [Around.under_plain (weight_type_call_type "bytearray" [.int 6 t] []) rfl]
  unfold Builtin.«type.__call__»
  dsimp only
  refine c_if_false (by decide +kernel) ?_
  with_reducible refine c_if_false ba_called.canCreate ?_
  with_reducible refine c_bindA ?_
  with_reducible refine wpAny_of_eq (ba_typeCall _) ?_
  with_reducible refine c_bindA ?_
  with_reducible refine wpAny_of_eq ba_mro ?_
  with_reducible refine c_if_false (List.isEmpty_cons) ?_
  with_reducible refine c_bindA ?_
  with_reducible refine wpAny_of_eq ba_called.made ?_
  dsimp only
  with_reducible refine c_bindA ?_
  with_reducible refine wpAny_pure ?_
  with_reducible refine c_bindA ?_
  with_reducible refine wpAny_holding ?_
  refine wpAny_call (codeAny_mono (ba_new (E := FF) (Q₁ := fun v s' => v = .ref s.heap.objs.size ∧ s' = { s with heap := s.heap.push { cls := .type "bytearray", data := .bytearray #[] } }) _ ⟨rfl, rfl⟩) fun r s' hr => ?_)
  cases r with
  | error e => exact hr
  | ok fl =>
    cases fl with
    | ret obj =>
      obtain ⟨rfl, rfl⟩ := hr
      have ho : (s.heap.push { cls := .type "bytearray", data := .bytearray #[] }).get? s.heap.objs.size = some { cls := .type "bytearray", data := .bytearray #[] } := Heap.get?_push_size _ rfl
      have hT : ({ s with heap := s.heap.push { cls := .type "bytearray", data := .bytearray #[] } } : Shared).TypeIs (.ref s.heap.objs.size) "bytearray" := ⟨_, ho, rfl⟩
      show wpC _ _ _ _ _
      with_reducible refine c_bindA ?_
      with_reducible refine wpAny_isInstance hT ba_sub ?_
      with_reducible refine c_if_false Bool.not_true ?_
      with_reducible refine c_bind ?_
      with_reducible refine c_holding ?_
      simp only [callSpecial?]
      with_reducible refine c_bindA ?_
      with_reducible refine wpAny_specialOf hT ba_init.lookup ?_
      simp only [ba_init.bind]
      with_reducible refine c_holding ?_
      with_reducible refine c_bindA ?_
      with_reducible refine wpAny_pure ?_
      with_reducible refine c_bind ?_
      refine ba_call ho ?_
      refine c_any (wpAny_pure (c_any ?_))
      dsimp only
      refine bm_if_false (by rfl) (wpAny_pure ⟨_, rfl, h _ rfl⟩)
    | _ => exact hr.elim
end
/-! NBc -/
theorem ba_set_slot : Slot "bytearray" "__setitem__" "bytearray.__setitem__" :=
  .of (owner := "bytearray") (n := "__setitem__") (by rw [typeLookup_type, builtinLookup_eq_fast]; kernel_rfl) (by decide +kernel) (by decide +kernel) (by decide +kernel)
    (by first | exact .inl (by decide +kernel) | exact .inr (by decide +kernel)) (by rw [isSubtype_type]; kernel_rfl)
theorem ba_set_entry : entryFor table "bytearray.__setitem__" = some Builtin.«bytearray.__setitem__» := entryFor_of_tree (by kernel_rfl)
theorem ba_set_args (a b c : Value) : argsOk "bytearray.__setitem__" ⟨[a, b, c], []⟩ := by unfold argsOk; kernel_rfl
theorem ba_no_bytes : typeLookup (.type "bytearray") "__bytes__" = pure none := by rw [typeLookup_type, builtinLookup_eq_fast]; kernel_rfl
theorem ba_no_index : typeLookup (.type "bytearray") "__index__" = pure none := by rw [typeLookup_type, builtinLookup_eq_fast]; kernel_rfl
theorem ba_buffer : typeLookup (.type "bytearray") "__buffer__" = pure (some (.builtin "bytearray.__buffer__")) := by rw [typeLookup_type, builtinLookup_eq_fast]; kernel_rfl
theorem nn_nil : (!([] : List (Str × Value)).isEmpty) = false := rfl
theorem sub_int {M : Model} {A : Around} {E : Value → Shared → Prop} {s : Shared} {k : Int} {t : Tok} {Q : Option Int → Shared → Prop} (h0 : 0 ≤ k) (hk : k < 1000) (h : Q (some k) s) : wpAny M A (Builtin.Bytes.subscript? (.int k t)) Q E s := by
  unfold Builtin.Bytes.subscript?
  refine wpAny_bind (wpAny_specialOf (T := "int") (typeIs_int _ _ _) PySem.F.slot_int_index.lookup ?_)
  refine bm_if_false rfl ?_
  refine wpAny_bind (wpAny_of_eq (rfl : asIndex (.int k t) = pure k) ?_)
  refine bm_if_false ?_ (wpAny_pure h)
  simp only [Builtin.Bytes.fitsIndex, Bool.not_eq_false', Bool.and_eq_true, decide_eq_true_eq]
  lia
theorem byte_int {M : Model} {A : Around} {E : Value → Shared → Prop} {s : Shared} {x : Int} {t : Tok} {Q : UInt8 → Shared → Prop} (h0 : 0 ≤ x) (hk : x < 256) (h : Q x.toNat.toUInt8 s) : wpAny M A (Builtin.Bytes.byteValue (.int x t)) Q E s := by
  unfold Builtin.Bytes.byteValue
  refine wpAny_bind (wpAny_of_eq (rfl : asIndex (.int x t) = pure x) ?_)
  refine bm_if_false ?_ (wpAny_pure h)
  simp only [Bool.or_eq_false_iff, decide_eq_false_iff_not]
  lia
section
variable {w : World} {s₁ s : Shared} {F : List Addr} {led led' : Led} {A : Around} {E : Value → Shared → Prop}
theorem ba_make (B : Base w s₁) (S : St w s₁ F led s) {t : Tok} {Q : Value → Shared → Prop} (h : ∀ a s', St w s₁ F ((a, Cell.barr (Array.replicate 6 0)) :: led) s' → Q (.ref a) s') :
    wpC w A (call (.type "bytearray") [.int 6 t]) Q s := by
  refine ba_makeC fun s' e => h _ _ ?_
  subst e
  have S1 := S.alloc (o := { cls := .type "bytearray", data := .bytearray #[] }) (c := Cell.barr #[]) rfl
  have ho : (s.heap.push { cls := .type "bytearray", data := .bytearray #[] }).get? s.heap.objs.size = some { cls := .type "bytearray", data := .bytearray #[] } := Heap.get?_push_size _ rfl
  have ho1 := Heap.get?_update_self (Obj.mapBytearray fun _ => #[]) ho rfl
  have S2 := S1.same B (c' := Cell.barr #[]) .here (Heap.SameBut.update _ _ (Obj.mapBytearray fun _ => #[])) ho1 rfl (fun o e hd => by rw [ho] at e; cases e; cases hd) s.toks
  have ho2 := Heap.get?_update_self (Obj.mapBytearray fun _ => Array.replicate 6 0) ho1 rfl
  exact S2.same B (c' := Cell.barr (Array.replicate 6 0)) .here (Heap.SameBut.update _ _ (Obj.mapBytearray fun _ => Array.replicate 6 0)) ho2 rfl (fun o e hd => by
    have e : some _ = some o := ho1.symm.trans e
    cases e; cases hd) s.toks
theorem ba_set (B : Base w s₁) (S : St w s₁ F led s) {a : Addr} {b : Array UInt8} {k x : Int} {t u : Tok} {Q : Unit → Shared → Prop} (hm : Upd led a (Cell.barr b) (Cell.barr (b.setIfInBounds k.toNat x.toNat.toUInt8)) led')
    (h0 : 0 ≤ k) (hk : k < b.size) (hb : b.size ≤ 1000) (hx : 0 ≤ x) (hx2 : x < 256) (h : ∀ s', St w s₁ F led' s' → Q () s') :
    wpAny (model PR w) A (setItem (.ref a) (.int k t) (.int x u)) Q E s := by
  obtain ⟨o, ho, rfl⟩ := S.at_ _ hm.mem
  have hT : s.TypeIs (.ref a) "bytearray" := ⟨_, ho, rfl⟩
  have hz : (1000 : Nat) ≤ sizeLine := by decide
  unfold setItem
  try with_reducible refine wpAny_holding ?_
  first | refine wpAny_bind (wpAny_pure ?_) | skip
  refine wpAny_bind (wpAny_sequenceKey hT (by decide) ?_)
  refine wpAny_bind (wpAny_callSpecial?_slot (name := Str.ofString "__setitem__") hT ba_set_slot
    (wpAny_call_entry ba_set_slot hT ba_set_entry ?_ (ba_set_args _ _ _)))
  unfold Builtin.«bytearray.__setitem__»
  dsimp only
  with_reducible refine bm_if_false nn_nil ?_
  with_reducible refine wpAny_bind ?_
  refine sub_int h0 (by lia) ?_
  dsimp only
  with_reducible refine wpAny_bind ?_
  refine byte_int hx hx2 ?_
  with_reducible refine wpAny_bind ?_
  unfold Builtin.Bytes.payload Builtin.Bytes.payload?
  refine wpAny_bind (wpAny_bind (wpAny_load ho ?_))
  refine wpAny_pure (wpAny_pure ?_)
  have hs : seqIndex? k b.size = some k.toNat := by
    unfold seqIndex?
    simp [h0, hk, Int.not_lt.mpr h0]
  rw [hs]
  dsimp only
  with_reducible refine wpAny_bind ?_
  show wpAny _ _ (updateBytearray a fun y => y.setIfInBounds k.toNat x.toNat.toUInt8) _ _ _
  unfold updateBytearray
  refine wpAny_bind (wpAny_load ho ?_)
  show wpAny _ _ (update a (Obj.mapBytearray fun y => y.setIfInBounds k.toNat x.toNat.toUInt8) >>= fun _ => lookBehind a) _ _ _
  refine wpAny_bind (wpAny_update ho ?_)
  have ho1 := Heap.get?_update_self (Obj.mapBytearray fun y => y.setIfInBounds k.toNat x.toNat.toUInt8) ho rfl
  refine wpAny_lookBehind ho1 ?_ (wpAny_pure ⟨_, rfl, wpAny_pure (h _ ?_)⟩)
  · show (if (b.setIfInBounds k.toNat x.toNat.toUInt8).size > sizeLine then some "bytearray:memory" else none) = none
    rw [if_neg]
    rw [Array.size_setIfInBounds]
    lia
  · exact S.same B hm (Heap.SameBut.update _ _ _) ho1 rfl (fun o e hd => by
      have e : some _ = some o := ho.symm.trans e
      cases e; cases hd) s.toks
theorem ba_buf_own {M : Model} {a : Addr} {Q : Bool → Shared → Prop} (hT : s.TypeIs (.ref a) "bytearray") (h : Q true s) : wpAny M A (Builtin.Bytes.slotIsOwn (.ref a) "__buffer__") Q E s := by
  unfold Builtin.Bytes.slotIsOwn
  refine wpAny_bind (wpAny_specialOf hT ba_buffer ?_)
  refine bm_if_false (by decide +kernel) ?_
  have e : (Value.type (String.dropRight "bytearray.__buffer__" ("__buffer__".length + 1))) = Value.type "bytearray" := by decide +kernel
  rw [e]
  exact wpAny_isInstance hT ba_sub h
theorem ba_bytes (B : Base w s₁) (S : St w s₁ F led s) {a : Addr} {b : Array UInt8} {Q : Value → Shared → Prop} (hm : (a, Cell.barr b) ∈ led) (hb : b.size ≤ 1000) (h : ∀ t s', St w s₁ F led s' → Q (.bytes b t) s') :
    wpAny (model PR w) A (call (.type "bytes") [.ref a]) Q E s := by
  obtain ⟨o, ho, rfl⟩ := S.at_ _ hm
  have hT : s.TypeIs (.ref a) "bytearray" := ⟨_, ho, rfl⟩
  have hz : (1000 : Nat) ≤ sizeLine := by decide
  refine callType_codes (Q₁ := fun obj s' => ∃ t k, obj = .bytes b t ∧ s' = { s with toks := k }) PySem.F.bm_called (PySem.F.bm_typeCall _) PySem.F.entry_object_init ?_ fun obj s₂ h₂ => ?_
  · refine codeAny_of_tree ?_
    show wpAny _ A.in1.in1 (do checkBuiltinCall "bytes.__new__" ⟨[.type "bytes", .ref a], []⟩; again (.builtin "bytes.__new__" ⟨[.type "bytes", .ref a], []⟩)) _ _ s
    refine wpAny_bind (wpAny_of_eq (PySem.F.bm_newCall _) (wpAny_pure ⟨plainId_quiet PySem.F.bm_plain _, codeAny_builtin PySem.F.bm_entry ?_⟩))
    rw [Around.under_plainId PySem.F.bm_plain _]
    unfold Builtin.«bytes.__new__»
    refine wpAny_bind (wpAny_of_eq (a := true) rfl ?_)
    refine bm_if_false rfl ?_
    refine wpAny_bind (wpAny_of_eq PySem.F.bm_sub ?_)
    refine bm_if_false rfl ?_
    refine wpAny_bind (wpAny_of_eq (PySem.F.bm_bind _) ?_)
    refine wpAny_bind (wpAny_of_eq (a := ()) rfl ?_)
    refine wpAny_bind (wpAny_of_eq (a := ()) rfl ?_)
    refine bm_if_false rfl ?_
    refine wpAny_bind (wpAny_specialOf hT ba_no_bytes ?_)
    dsimp only
    with_reducible refine wpAny_bind ?_
    with_reducible refine wpAny_bind ?_
    show wpAny _ _ (load a >>= _) _ _ _
    refine wpAny_bind (wpAny_load ho ?_)
    refine wpAny_pure (wpAny_pure ?_)
    refine bm_if_false rfl ?_
    refine wpAny_bind (wpAny_specialOf hT ba_no_index ?_)
    refine bm_if_true rfl ?_
    first
      | show wpAny _ _ (Builtin.Bytes.buffer? "bytes.__new__" (.ref a) true >>= _) _ _ _
      | (refine wpAny_bind ?_; show wpAny _ _ (Builtin.Bytes.buffer? "bytes.__new__" (.ref a) true >>= _) _ _ _)
    refine wpAny_bind ?_
    unfold Builtin.Bytes.buffer?
    refine wpAny_bind (wpAny_specialOf hT ba_buffer ?_)
    dsimp only
    with_reducible refine wpAny_bind ?_
    refine ba_buf_own hT ?_
    refine bm_if_false rfl ?_
    refine wpAny_bind (wpAny_specialOf hT ba_buffer ?_)
    show wpAny _ _ (Builtin.Bytes.ownRelease (.ref a) >>= _) _ _ _
    with_reducible refine wpAny_bind ?_
    refine ba_rel_own hT ?_
    refine bm_if_false rfl ?_
    with_reducible refine wpAny_bind ?_
    unfold Builtin.Bytes.payload Builtin.Bytes.payload?
    refine wpAny_bind (wpAny_bind (wpAny_load ho ?_))
    refine wpAny_pure (wpAny_pure (wpAny_pure ?_))
    with_reducible refine wpAny_bind ?_
    with_reducible refine wpAny_rule ?_
    with_reducible refine wpAny_bind ?_
    refine wpAny_mkBytes ?_ (by lia)
    show wpAny _ _ (if (Value.type "bytes" == Value.type "bytes") = true then _ else _) _ _ _
    refine bm_if_true (by decide) ?_
    first
      | exact wpAny_pure ⟨_, _, rfl, rfl⟩
      | exact wpAny_bind (wpAny_pure (wpAny_pure ⟨_, _, rfl, rfl⟩))
  · obtain ⟨t, k, rfl, rfl⟩ := h₂
    exact ⟨PySem.W.typeIs_bytes _ _ _, PySem.F.args_object_init_2 _ _, object_init_meets PySem.F.bm_called.init.lookup PySem.F.bm_called.made (by decide) PR w A.in1 _ _ ⟨PySem.W.typeIs_bytes _ _ _, rfl, h _ _ (S.toks _)⟩⟩
/-! bytes -/
theorem by_len (S : St w s₁ F led s) {b : Array UInt8} {t : Tok} {Q : Value → Shared → Prop} (hb : b.size ≤ 1000) (h : ∀ t s', St w s₁ F led s' → Q (.int (b.size : Nat) t) s') : wpAny (model PR w) A (call (.builtin "len") [.bytes b t]) Q E s :=
  len_bytes (by lia) (h _ _ (S.toks _))
theorem by_item (S : St w s₁ F led s) {value slice : Expr} {b : Array UInt8} {t u : Tok} {i : Int} {c : UInt8} {Q : Value → Shared → Prop} (h0 : 0 ≤ i) (hc : b[i.toNat]? = some c) (hb : b.size ≤ 1000) (h : ∀ t s', St w s₁ F led s' → Q (.int (c.toNat : Int) t) s')
    (hs : subscripted slice false (.bytes b t) (.int i u) = operate [.bytes b t, .int i u] (getItem (.bytes b t) (.int i u)) := by kernel_rfl)
    (ht : ∀ r, letTemporaryGo value (.bytes b t) r = pure () := by intro _; kernel_rfl) : wpAny (model PR w) A (subscriptTail value slice (.bytes b t) (.int i u)) Q E s := by
  have hlt := (Array.getElem?_eq_some_iff.mp hc).1
  refine KBw.item_K rfl (by rw [KBw.ints_length]; lia) h0 (by rw [KBw.ints_length]; lia) (fun t' k _ _ => ?_) hs ht
  have e : (KBw.bInts b).getD i.toNat 0 = (c.toNat : Int) := by
    have := KBw.ints_get hc
    rw [List.getD_eq_getElem?_getD, this]; rfl
  rw [e]
  exact h _ _ (S.toks k)
/-! ranges -/
theorem rg1 (S : St w s₁ F led s) {n : Int} {t : Tok} {Q : Value → Shared → Prop} (h : ∀ r t0 t1 t2 s', St w s₁ F ((r, rgC 0 n 1 t0 t1 t2) :: led) s' → Q (.ref r) s') : wpAny (model PR w) A (call (.type "range") [.int n t]) Q E s :=
  call_range_1 (h _ _ _ _ _ ((S.toks (s.toks + 1 + 1)).alloc (c := rgC 0 n 1 s.toks t (s.toks + 1)) rfl))
theorem rg3 (S : St w s₁ F led s) {a b c : Int} {t u v : Tok} {Q : Value → Shared → Prop} (hc : c ≠ 0) (hp : Builtin.divisionGoesByPylong (b - a) c = false) (h : ∀ r t0 t1 t2 s', St w s₁ F ((r, rgC a b c t0 t1 t2) :: led) s' → Q (.ref r) s') : wpAny (model PR w) A (call (.type "range") [.int a t, .int b u, .int c v]) Q E s :=
  call_range_3 hc (h _ _ _ _ _ (S.alloc (c := rgC a b c t u v) rfl)) (.inl hp)
end
/-! NBd -/
noncomputable def ob (l : List Nat) : List UInt8 := l.map Nat.toUInt8
noncomputable def wdN : Fin 3 → Nat
  | 0 => 2
  | 1 => 3
  | 2 => 6
noncomputable def wdB : Fin 3 → Nat
  | 0 => 3
  | 1 => 2
  | 2 => 1
theorem wd_mul (k : Fin 3) : wdB k * wdN k = 6 := by match k with | 0 => rfl | 1 => rfl | 2 => rfl
theorem wd_pos (k : Fin 3) : 1 ≤ wdN k ∧ wdN k ≤ 6 := by match k with | 0 => decide | 1 => decide | 2 => decide
theorem wd_rs (k : Fin 3) : Builtin.Range.rangeSize 0 6 (wdN k) = (wdB k : Nat) := by match k with | 0 => decide +kernel | 1 => decide +kernel | 2 => decide +kernel
theorem wd_small (k : Fin 3) : Builtin.Range.small 0 6 (wdN k) = true := by match k with | 0 => decide +kernel | 1 => decide +kernel | 2 => decide +kernel
theorem wd_rs1 (k : Fin 3) : Builtin.Range.rangeSize 0 (wdN k) 1 = (wdN k : Nat) := by match k with | 0 => decide +kernel | 1 => decide +kernel | 2 => decide +kernel
theorem wd_small1 (k : Fin 3) : Builtin.Range.small 0 (wdN k) 1 = true := by match k with | 0 => decide +kernel | 1 => decide +kernel | 2 => decide +kernel
/-- the octets set by one block's turns, and by the blocks -/
noncomputable def inn (d : List UInt8) (wd i j : Nat) (acc : List UInt8) : List UInt8 := (List.range j).foldl (fun acc j => acc.set (i + wd - 1 - j) (d.getD (i + j) 0)) acc
noncomputable def out (d : List UInt8) (wd n : Nat) : List UInt8 := (List.range n).foldl (fun acc q => inn d wd (q * wd) wd acc) [0, 0, 0, 0, 0, 0]
theorem inn_succ (d : List UInt8) (wd i j : Nat) (acc : List UInt8) : inn d wd i (j + 1) acc = (inn d wd i j acc).set (i + wd - 1 - j) (d.getD (i + j) 0) := by simp [inn, List.range_succ]
theorem out_succ (d : List UInt8) (wd n : Nat) : out d wd (n + 1) = inn d wd (n * wd) wd (out d wd n) := by simp [out, List.range_succ]
theorem inn_len (d : List UInt8) (wd i j : Nat) (acc : List UInt8) : (inn d wd i j acc).length = acc.length := by
  induction j with
  | zero => rfl
  | succ j ih => rw [inn_succ, List.length_set, ih]
theorem out_len (d : List UInt8) (wd n : Nat) : (out d wd n).length = 6 := by
  induction n with
  | zero => rfl
  | succ n ih => rw [out_succ, inn_len, ih]
theorem out_tn (k : Fin 3) {l : List Nat} (h : l.length = 6) : out (ob l) (wdN k) (wdB k) = ob (tn k l) := by
  obtain ⟨a, b, c, d, e, f, rfl⟩ := six h
  match k with | 0 => rfl | 1 => rfl | 2 => rfl
theorem u8_back (c : UInt8) : ((c.toNat : Int).toNat.toUInt8) = c := by
  rw [Int.toNat_natCast]
  exact UInt8.ofNat_toNat
section
variable {w : World} {s₁ s : Shared} {F : List Addr} {led led' : Led} {A : Around} {E : Value → Shared → Prop}
theorem cwt3 {env : Env} {pos : Pos} {T : String} {e1 e2 e3 : Expr} {Q : Value → Shared → Prop}
    (h : wpAny (model PR w) A (eval e1 env) (fun v1 s11 => wpAny (model PR w) A (eval e2 env) (fun v2 s12 => wpAny (model PR w) A (eval e3 env) (fun v3 s13 => wpAny (model PR w) A (call (.type T) [v1, v2, v3]) Q E s13) E s12) E s11) E s)
    (ha : backTo pos (starEach [e1, e2, e3] env) = [(false, eval e1 env), (false, eval e2 env), (false, eval e3 env)] := by kernel_rfl) : wpAny (model PR w) A (callWith pos (.type T) [] (backTo pos (starEach [e1, e2, e3] env)) (backToKw pos (keywordEach [] env))) Q E s := by
  rw [ha]
  exact PySem.callWith_type rfl (evalArgs_plain (Calls.spliced_cons (wpAny_mono h (fun v1 s11 h1 => Calls.spliced_cons (wpAny_mono h1 (fun v2 s12 h2 => Calls.spliced_cons (wpAny_mono h2 (fun v3 s13 h3 => Calls.spliced_nil h3) fun _ _ x => x)) fun _ _ x => x)) fun _ _ x => x)))
theorem c_cwt1 {env : Env} {pos : Pos} {T : String} {e1 : Expr} {Q : Value → Shared → Prop}
    (h : wpAny (model PR w) A (eval e1 env) (fun v1 s11 => wpC w A (call (.type T) [v1]) Q s11) FF s)
    (ha : backTo pos (starEach [e1] env) = [(false, eval e1 env)] := by kernel_rfl) : wpC w A (callWith pos (.type T) [] (backTo pos (starEach [e1] env)) (backToKw pos (keywordEach [] env))) Q s := by
  rw [ha]
  exact c_cwt rfl (evalArgs_plain (Calls.spliced_cons (wpAny_mono h (fun v1 s11 h1 => Calls.spliced_nil h1) fun _ _ x => x)))
end

theorem byteswap_spec {w : World} {s₁ s : Shared} {F : List Addr} {R : Led} {A : Around} {fs : List Env} {Q : Value → Shared → Prop} {l : List Nat} {k : Fin 3} {i : Int} {t0 t1 : Tok}
    (B : Base w s₁) (hA : Ar A fs 4) (S : St w s₁ F R s) (hl : l.length = 6) (hi : i = (wdN k : Nat)) (h : ∀ t s', St w s₁ F R s' → Q (.bytes (ob (tn k l)).toArray t) s') :
    wpC w A (call (.ref 51) [.bytes (ob l).toArray t0, .int i t1]) Q s := by
  revert w s₁ s F R A fs Q l k i t0 t1
  refine @wall13 _ _ _ _ _ _ _ _ _ _ _ _ _ _ (by walk_at "ne") ?_
  generalize k0 _ = w, k1 _ = s₁, k2 _ = s, k3 _ = F, k4 _ = R, k5 _ = A, k6 _ = fs, k7 _ = Q, k8 _ = l, k9 _ = k, k10 _ = i, k11 _ = t0, k12 _ = t1
  intro B hA S hl hi h
  subst hi
  have hol : (ob l).length = 6 := by simp [ob, hl]
  with_reducible refine enterP (m := [("width", .int (wdN k : Nat) t1), ("data", .bytes (ob l).toArray t0)]) B S (by k_is) (hA.room) (bindsK B S (by kernel_rfl)) ?_ (by kernel_rfl) (by kernel_rfl)
  clear S
  refine @wallN _ ?_
  generalize wN _ = L
  intro s hL S
  have hA' := hA.deeper
  have hLF : L ∈ L :: F := List.mem_cons_self
  with_reducible refine c_cons ?_
  with_reducible refine c_assign ?_ (by kernel_rfl)
  with_reducible refine c_callName ?_
  walk_at "go"
  with_reducible refine c_cwt1 ?_
  repeat walk_at "go"
  with_reducible refine cwb1 ?_
  repeat walk_at "go"
  with_reducible refine by_len S (by simp [hol]) ?_
  clear S; intro t s S
  have e6 : (((ob l).toArray.size : Nat) : Int) = 6 := by simp [hol]
  rw [e6]
  with_reducible refine ba_make B S ?_
  clear S; intro ba s S
  revert ba s
  refine @wall2 _ _ _ (by walk_at "ne") ?_
  generalize k0 _ = ba, k1 _ = s
  set_option tactic.hygienic false in intros
  rename St _ _ _ _ s => S
  walk_at "go"
  with_reducible refine kseqC_next ?_
  with_reducible refine c_any ?_
  with_reducible refine x_cons ?_
  with_reducible refine x_for ?_
  repeat walk_at "go"
  with_reducible refine cwt3 ?_
  repeat walk_at "go"
  with_reducible refine cwb1 ?_
  repeat walk_at "go"
  with_reducible refine by_len S (by simp [hol]) ?_
  clear S; intro t s S
  rw [e6]
  repeat walk_at "go"
  have hw := wd_pos k
  with_reducible refine rg3 S (by lia) (PyProof.noPylong_small (by lia)) ?_
  clear S; intro r r0 r1 r2 s S
  with_reducible refine rg_iter S (by walk_at "mem") (wd_small k) ?_
  clear S; intro it s S
  rw [wd_rs] at S
  replace S := S.drop (a := r) (by walk_at "pull")
  have hb0 : (Array.replicate 6 0 : Array UInt8) = (out (ob l) (wdN k) 0).toArray := by rfl
  rw [hb0] at S
  refine ⟨fun n s => ∃ q : Nat, q + n = wdB k ∧ St w s₁ (L :: F) ((it, riC ((q * wdN k : Nat) : Int) (n : Nat) (wdN k : Nat)) :: (ba, Cell.barr (out (ob l) (wdN k) q).toArray) ::
      (L, Cell.ns [("swapped_data", .ref ba), ("width", .int (wdN k : Nat) t1), ("data", .bytes (ob l).toArray t0)]) :: R) s, wdB k, ⟨0, Nat.zero_add _, by simpa using S⟩, ?_⟩
  clear S
  repeat clear S
  rintro n s ⟨q, hq, S⟩
  revert r r0 r1 r2 it n s q
  refine @wall8 _ _ _ _ _ _ _ _ _ (by walk_at "ne") ?_
  generalize k0 _ = r, k1 _ = r0, k2 _ = r1, k3 _ = r2, k4 _ = it, k5 _ = n, k6 _ = s, k7 _ = q
  set_option tactic.hygienic false in intros
  rename St _ _ _ _ s => S
  by_cases hn : n = 0
  · subst hn
    with_reducible refine ri_end B (hA' _).hnd S (by walk_at "pull") hLF (by lia) ?_
    clear S; intro s S
    with_reducible refine kturn_none ?_
    repeat walk_at "go"
    with_reducible refine cwt1 ?_
    repeat walk_at "go"
    with_reducible refine ba_bytes B S (by walk_at "mem") (by simp [out_len]) ?_
    clear S; intro t s S
    repeat walk_at "go"
    have hq : q = wdB k := by lia
    rw [hq, out_tn k hl]
    replace S := S.drop (a := ba) (by walk_at "pull")
    exact h _ _ (S.unframe (by walk_at "pull"))
  · have hqm : (q + 1) * wdN k ≤ 6 := by
      rw [← wd_mul k]
      exact Nat.mul_le_mul_right _ (by lia)
    rw [Nat.succ_mul] at hqm
    with_reducible refine ri_item B S (by walk_at "upd") (by lia) ?_
    clear S; intro ti s S
    revert ti s
    refine @wall2 _ _ _ (by walk_at "ne") ?_
    generalize k0 _ = ti, k1 _ = s
    set_option tactic.hygienic false in intros
    rename St _ _ _ _ s => S
    with_reducible refine kturn_some ?_
    repeat walk_at "go"
    with_reducible refine x_for ?_
    repeat walk_at "go"
    with_reducible refine cwt1 ?_
    repeat walk_at "go"
    with_reducible refine rg1 S ?_
    clear S; intro r r0 r1 r2 s S
    with_reducible refine rg_iter S (by walk_at "mem") (wd_small1 k) ?_
    clear S; intro jt s S
    rw [wd_rs1] at S
    replace S := S.drop (a := r) (by walk_at "pull")
    refine ⟨fun m s => ∃ j : Nat, j + m = wdN k ∧ St w s₁ (L :: F) ((jt, riC (j : Nat) (m : Nat) 1) :: (it, riC (((q * wdN k : Nat) : Int) + (wdN k : Nat)) (((n : Nat) : Int) - 1) (wdN k : Nat)) :: (ba, Cell.barr (inn (ob l) (wdN k) (q * wdN k) j (out (ob l) (wdN k) q)).toArray) ::
      (L, Cell.ns [("i", .int ((q * wdN k : Nat) : Int) ti), ("swapped_data", .ref ba), ("width", .int (wdN k : Nat) t1), ("data", .bytes (ob l).toArray t0)]) :: R) s, wdN k, ⟨0, Nat.zero_add _, S⟩, ?_⟩
    clear S
    repeat clear S
    rintro m s ⟨j, hj, S⟩
    revert r r0 r1 r2 jt m s j
    refine @wall8 _ _ _ _ _ _ _ _ _ (by walk_at "ne") ?_
    generalize k0 _ = r, k1 _ = r0, k2 _ = r1, k3 _ = r2, k4 _ = jt, k5 _ = m, k6 _ = s, k7 _ = j
    set_option tactic.hygienic false in intros
    rename St _ _ _ _ s => S
    by_cases hm : m = 0
    · subst hm
      with_reducible refine ri_end B (hA' _).hnd S (by walk_at "pull") hLF (by lia) ?_
      clear S; intro s S
      with_reducible refine kturn_none ?_
      repeat walk_at "go"
      have hj : j = wdN k := by lia
      rw [hj, ← out_succ] at S
      have e1 : (((q * wdN k : Nat) : Int) + (wdN k : Nat)) = (((q + 1) * wdN k : Nat) : Int) := by rw [Nat.succ_mul]; lia
      have e2 : (((n : Nat) : Int) - 1) = ((n - 1 : Nat) : Int) := by lia
      rw [e1, e2] at S
      with_reducible refine kloop_next ⟨n - 1, by lia, q + 1, by lia, S.names (by walk_at "upd") (by walk_at "sub") (nodup_of (by kernel_rfl))⟩
    · with_reducible refine ri_item B S (by walk_at "upd") (by lia) ?_
      clear S; intro tj s S
      revert tj s
      refine @wall2 _ _ _ (by walk_at "ne") ?_
      generalize k0 _ = tj, k1 _ = s
      set_option tactic.hygienic false in intros
      rename St _ _ _ _ s => S
      with_reducible refine kturn_some ?_
      repeat walk_at "go"
      have hget : (ob l).toArray[(((q * wdN k : Nat) : Int) + (j : Nat)).toNat]? = some ((ob l).getD (q * wdN k + j) 0) := by
        have e : (((q * wdN k : Nat) : Int) + (j : Nat)).toNat = q * wdN k + j := by lia
        rw [e, List.getElem?_toArray, List.getD_eq_getElem?_getD, List.getElem?_eq_getElem (by lia)]
        rfl
      with_reducible refine by_item S (by lia) hget (by simp [hol]) ?_
      clear S; intro t s S
      repeat walk_at "go"
      have hix : (((q * wdN k : Nat) : Int) + ((wdN k : Nat) : Int) - 1 - (j : Nat)) = ((q * wdN k + wdN k - 1 - j : Nat) : Int) := by lia
      rw [hix]
      have hset : ((inn (ob l) (wdN k) (q * wdN k) j (out (ob l) (wdN k) q)).toArray.setIfInBounds (((q * wdN k + wdN k - 1 - j : Nat) : Int)).toNat ((((ob l).getD (q * wdN k + j) 0).toNat : Int).toNat.toUInt8)) = (inn (ob l) (wdN k) (q * wdN k) (j + 1) (out (ob l) (wdN k) q)).toArray := by
        rw [u8_back, Int.toNat_natCast, inn_succ]
        simp
      with_reducible refine ba_set B S (by walk_at "upd") (by lia) (by simp [inn_len, out_len]; lia) (by simp [inn_len, out_len]) (by lia) (by have := ((ob l).getD (q * wdN k + j) 0).toNat_lt; lia) ?_
      rw [hset]
      clear S; intro s S
      repeat walk_at "go"
      have e2 : (((m : Nat) : Int) - 1) = ((m - 1 : Nat) : Int) := by lia
      have e3 : ((j : Nat) : Int) + 1 = ((j + 1 : Nat) : Int) := by lia
      rw [e2, e3] at S
      with_reducible refine kloop_next ⟨m - 1, by lia, j + 1, by lia, S.names (by walk_at "upd") (by walk_at "sub") (nodup_of (by kernel_rfl))⟩
/-! NT -/

section
variable {w : World} {s₁ s : Shared} {F : List Addr} {led led' : Led} {A : Around} {E : Value → Shared → Prop}
theorem sp_nil {M : Model} {env : Env} {pos : Pos} {Q : List Value → Shared → Prop} (h : Q [] s) : wpAny M A (spliced (backTo pos (starEach [] env))) Q E s := wpAny_pure h
theorem sp_cons {M : Model} {env : Env} {pos : Pos} {e : Expr} {rest : List Expr} {Q : List Value → Shared → Prop}
    (h : wpAny M A (eval e env) (fun v s' => wpAny M A (spliced (backTo pos (starEach rest env))) (fun vs s'' => Q (v :: vs) s'') E s') E s)
    (he : backTo pos (starEach (e :: rest) env) = (false, eval e env) :: backTo pos (starEach rest env) := by kernel_rfl) : wpAny M A (spliced (backTo pos (starEach (e :: rest) env))) Q E s := by
  rw [he]; exact Calls.spliced_cons h
theorem n_list {M : Model} {vs : List Value} {Q : Value → Shared → Prop} (S : St w s₁ F led s) (hz : vs.length ≤ 1000) (h : ∀ a s', St w s₁ F ((a, Cell.list vs) :: led) s' → Q (.ref a) s') : wpAny M A (newList vs) Q E s := by
  have : (1000 : Nat) ≤ sizeLine := by decide
  exact wpAny_newObj_type (h _ _ (S.alloc ⟨0, rfl⟩)) (by show vs.toArray.size ≤ sizeLine; rw [List.size_toArray]; lia)
theorem l_getK {l : Addr} {vs : List Value} {k : Int} {t : Tok} {v : Value} {value slice : Expr} {Q : Value → Shared → Prop} (S : St w s₁ F led s) (hm : (l, Cell.list vs) ∈ led) (h0 : 0 ≤ k) (hfit : k < 2 ^ 63) (hx : vs[k.toNat]? = some v) (h : Q v s)
    (hs : subscripted slice false (.ref l) (.int k t) = operate [.ref l, .int k t] (getItem (.ref l) (.int k t)) := by kernel_rfl) :
    wpAny (model PR w) A (subscriptTail value slice (.ref l) (.int k t)) Q E s := l_get S hm h0 hfit hx h hs
theorem l_getK' {l : Addr} {vs : List Value} {k : Int} {t : Tok} {P : Addr → Prop} {value slice : Expr} {Q : Value → Shared → Prop} (S : St w s₁ F led s) (hm : (l, Cell.list vs) ∈ led) (h0 : 0 ≤ k) (hfit : k < 2 ^ 63) (hx : ∃ oa, vs[k.toNat]? = some (.ref oa) ∧ P oa) (h : ∀ oa, P oa → Q (.ref oa) s)
    (hs : ∀ l k t, subscripted slice false (.ref l) (.int k t) = operate [.ref l, .int k t] (getItem (.ref l) (.int k t)) := by intro _ _ _; kernel_rfl) :
    wpAny (model PR w) A (subscriptTail value slice (.ref l) (.int k t)) Q E s := by
  obtain ⟨oa, e, p⟩ := hx
  exact l_get S hm h0 hfit e (h oa p) (hs _ _ _)
theorem s_join0 (S : St w s₁ F led s) {D : Addr} {all : List (Str × Tok)} {t : Tok} {cs : List Nat} {Q : Value → Shared → Prop} (hm : (D, Cell.list (wv all)) ∈ led) (ha : all.map (·.1) = cs.map fun c => (⟨#[c]⟩ : Str)) (hz : cs.length = 6) (h : ∀ t s', St w s₁ F led s' → Q (.str (mk cs) t) s') :
    wpAny (model PR w) A (call (.builtin "str.join") [.str (Str.ofString "") t, .ref D]) Q E s := by
  obtain ⟨c1, c2, c3, c4, c5, c6, rfl⟩ := six hz
  refine SC.join (l := all) (texts := [c1, c2, c3, c4, c5, c6].map fun c => (⟨#[c]⟩ : Str)) (isList_at S hm) ha ?_ fun t' k => ?_
  · kernel_rfl
  · have e : Txt.join (Str.ofString "") ([c1, c2, c3, c4, c5, c6].map fun c => (⟨#[c]⟩ : Str)) = mk [c1, c2, c3, c4, c5, c6] := by kernel_rfl
    rw [e]
    exact h _ _ (S.toks k)
theorem li_self {it l : Addr} {i : Nat} {Q : Value → Shared → Prop} (S : St w s₁ F led s) (hm : (it, liC l i) ∈ led) (h : Q (.ref it) s) : wpAny (model PR w) A (pyIter (.ref it)) Q E s := by
  obtain ⟨o, e, hc, hd⟩ := S.at_ _ hm
  exact wpAny_pyIter_listiter ⟨o, e, hc, hd⟩ h
theorem str_item {value slice : Expr} {x : Str} {t u : Tok} {i : Int} {c : Nat} {Q : Value → Shared → Prop} (S : St w s₁ F led s) (h0 : 0 ≤ i) (h1 : i < 2 ^ 60) (hc : x.cps[i.toNat]? = some c) (h : ∀ t s', St w s₁ F led s' → Q (.str ⟨#[c]⟩ t) s')
    (hs : subscripted slice false (.str x t) (.int i u) = operate [.str x t, .int i u] (getItem (.str x t) (.int i u)) := by kernel_rfl) :
    wpAny (model PR w) A (subscriptTail value slice (.str x t) (.int i u)) Q E s := by
  have hi : i.toNat < x.cps.size := (Array.getElem?_eq_some_iff.mp hc).1
  refine tail_any (T := "str") rfl PySem.F.slot_str_getitem.lookup (P.getItem_str (c := c) ?_ ?_ (h _ _ (S.toks _))) hs
  · have h2 : ¬ i < -(2 ^ 63 : Int) := by lia
    have h3 : ¬ i ≥ 2 ^ 63 := by lia
    rw [decide_eq_false h2, decide_eq_false h3]; rfl
  · have : seqIndex? i x.length = some i.toNat := by
      unfold seqIndex?
      have hx : i < (x.length : Nat) := by show i < ((x.cps.size : Nat) : Int); lia
      simp [h0, hx, Int.not_lt.mpr h0]
    rw [this]; exact hc
end
set_option hygiene false in
local macro_rules | `(tactic| walk_at "gol") => `(tactic| first
  | walk_at "gox"
  | with_reducible refine PyProof.Rows.List_ ?_
  | with_reducible refine sp_cons ?_
  | with_reducible refine sp_nil ?_
  | (with_reducible refine n_list S (Nat.le_of_ble_eq_true (by kernel_rfl)) ?_; clear S; intro a s S))

theorem kcomp_some {w : World} {A : Around} {cenv : Env} {x : Str} {elt : Expr} {D : Addr} {I : Nat → Shared → Prop} {n : Nat} {Z : Shared → Prop} {v : Value} {s : Shared} (h : wpAny (model PR w) A (storeName cenv x v) (fun _ s₂ => wpAny (model PR w) A (eval elt cenv) (fun y s₃ => wpAny (model PR w) A (call (.builtin "list.append") [.ref D, y]) (fun _ s₄ => ∃ m, m < n ∧ I m s₄) FF s₃) FF s₂) FF s) : Kcomp w A cenv x elt D I n Z (some v) s := h
theorem g3_0 {a b c : Value} : [a, b, c][(0 : Int).toNat]? = some a := rfl
theorem g3_1 {a b c : Value} : [a, b, c][(1 : Int).toNat]? = some b := rfl
theorem g3_2 {a b c : Value} : [a, b, c][(2 : Int).toNat]? = some c := rfl
theorem pick6 {P : Nat → Prop} (h0 : P 0) (h1 : P 1) (h2 : P 2) (h3 : P 3) (h4 : P 4) (h5 : P 5) : ∀ j, j < 6 → P j := by
  intro j hj
  match j, hj with
  | 0, _ => exact h0
  | 1, _ => exact h1
  | 2, _ => exact h2
  | 3, _ => exact h3
  | 4, _ => exact h4
  | 5, _ => exact h5
noncomputable def PickAt (vs : List Value) (l m : List Nat) (j : Nat) : Prop := ∃ i tt x, vs[j]? = some (.int i tt) ∧ 0 ≤ i ∧ i < 2 ^ 60 ∧ (mk l).cps[i.toNat]? = some x ∧ m[j]? = some x
theorem ord0 {t1 t2 t3 t4 t5 t6 : Tok} {l : List Nat} (h : l.length = 6) : (∀ j, j < 6 → PickAt [.int 1 t1, .int 0 t2, .int 3 t3, .int 2 t4, .int 5 t5, .int 4 t6] l (tn 0 l) j) ∧ ([.int 1 t1, .int 0 t2, .int 3 t3, .int 2 t4, .int 5 t5, .int 4 t6] : List Value)[6]? = none := by
  obtain ⟨a, b, c, d, e, f, rfl⟩ := six h
  exact ⟨pick6 ⟨_, _, _, rfl, by decide, by decide, rfl, rfl⟩ ⟨_, _, _, rfl, by decide, by decide, rfl, rfl⟩ ⟨_, _, _, rfl, by decide, by decide, rfl, rfl⟩ ⟨_, _, _, rfl, by decide, by decide, rfl, rfl⟩ ⟨_, _, _, rfl, by decide, by decide, rfl, rfl⟩ ⟨_, _, _, rfl, by decide, by decide, rfl, rfl⟩, rfl⟩
theorem ord1 {t1 t2 t3 t4 t5 t6 : Tok} {l : List Nat} (h : l.length = 6) : (∀ j, j < 6 → PickAt [.int 2 t1, .int 1 t2, .int 0 t3, .int 5 t4, .int 4 t5, .int 3 t6] l (tn 1 l) j) ∧ ([.int 2 t1, .int 1 t2, .int 0 t3, .int 5 t4, .int 4 t5, .int 3 t6] : List Value)[6]? = none := by
  obtain ⟨a, b, c, d, e, f, rfl⟩ := six h
  exact ⟨pick6 ⟨_, _, _, rfl, by decide, by decide, rfl, rfl⟩ ⟨_, _, _, rfl, by decide, by decide, rfl, rfl⟩ ⟨_, _, _, rfl, by decide, by decide, rfl, rfl⟩ ⟨_, _, _, rfl, by decide, by decide, rfl, rfl⟩ ⟨_, _, _, rfl, by decide, by decide, rfl, rfl⟩ ⟨_, _, _, rfl, by decide, by decide, rfl, rfl⟩, rfl⟩
theorem ord2 {t1 t2 t3 t4 t5 t6 : Tok} {l : List Nat} (h : l.length = 6) : (∀ j, j < 6 → PickAt [.int 5 t1, .int 4 t2, .int 3 t3, .int 2 t4, .int 1 t5, .int 0 t6] l (tn 2 l) j) ∧ ([.int 5 t1, .int 4 t2, .int 3 t3, .int 2 t4, .int 1 t5, .int 0 t6] : List Value)[6]? = none := by
  obtain ⟨a, b, c, d, e, f, rfl⟩ := six h
  exact ⟨pick6 ⟨_, _, _, rfl, by decide, by decide, rfl, rfl⟩ ⟨_, _, _, rfl, by decide, by decide, rfl, rfl⟩ ⟨_, _, _, rfl, by decide, by decide, rfl, rfl⟩ ⟨_, _, _, rfl, by decide, by decide, rfl, rfl⟩ ⟨_, _, _, rfl, by decide, by decide, rfl, rfl⟩ ⟨_, _, _, rfl, by decide, by decide, rfl, rfl⟩, rfl⟩
theorem turned_pick {w : World} {s₁ s : Shared} {F : List Addr} {led : Led} (_ : St w s₁ F led s) {l : List Nat} {o0 o1 o2 : Addr} {v0 v1 v2 : List Value} (_ : (o0, Cell.list v0) ∈ led) (_ : (o1, Cell.list v1) ∈ led) (_ : (o2, Cell.list v2) ∈ led)
    (p0 : (∀ j, j < 6 → PickAt v0 l (tn 0 l) j) ∧ v0[6]? = none) (p1 : (∀ j, j < 6 → PickAt v1 l (tn 1 l) j) ∧ v1[6]? = none) (p2 : (∀ j, j < 6 → PickAt v2 l (tn 2 l) j) ∧ v2[6]? = none) (k : Fin 3) {i : Int} (hi : i = (k.val : Int)) :
    ∃ oa, ([Value.ref o0, .ref o1, .ref o2] : List Value)[i.toNat]? = some (.ref oa) ∧ ∃ vs, (∀ led : Led, (o0, Cell.list v0) ∈ led → (o1, Cell.list v1) ∈ led → (o2, Cell.list v2) ∈ led → (oa, Cell.list vs) ∈ led) ∧ ((∀ j, j < 6 → PickAt vs l (tn k l) j) ∧ vs[6]? = none) := by
  subst hi
  match k with
  | 0 => exact ⟨o0, rfl, v0, fun _ h0 h1 h2 => h0, p0⟩
  | 1 => exact ⟨o1, rfl, v1, fun _ h0 h1 h2 => h1, p1⟩
  | 2 => exact ⟨o2, rfl, v2, fun _ h0 h1 h2 => h2, p2⟩
noncomputable abbrev Pks (v : List Value) (l : List Nat) (k : Fin 3) : Prop := (∀ j, j < 6 → PickAt v l (tn k l) j) ∧ v[6]? = none
theorem lists3 {w : World} {s₁ s : Shared} {F : List Addr} {R : Led} {la a0 a1 a2 : Addr} {v0 v1 v2 : List Value} {l : List Nat} {P : Addr → Shared → Prop}
    (S : St w s₁ F ((la, Cell.list [.ref a0, .ref a1, .ref a2]) :: (a2, Cell.list v2) :: (a1, Cell.list v1) :: (a0, Cell.list v0) :: R) s) (p0 : Pks v0 l 0) (p1 : Pks v1 l 1) (p2 : Pks v2 l 2)
    (h : ∀ (la a0 a1 a2 : Addr) (v0 v1 v2 : List Value) (s : Shared), Pks v0 l 0 → Pks v1 l 1 → Pks v2 l 2 → St w s₁ F ((la, Cell.list [.ref a0, .ref a1, .ref a2]) :: (a2, Cell.list v2) :: (a1, Cell.list v1) :: (a0, Cell.list v0) :: R) s → P la s) : P la s :=
  h _ _ _ _ _ _ _ _ p0 p1 p2 S
/-- the signs of a row -/
theorem turned_spec {w : World} {s₁ s : Shared} {F : List Addr} {R : Led} {A : Around} {fs : List Env} {E : Value → Shared → Prop} {Q : Value → Shared → Prop} {l : List Nat} {k : Fin 3} {i : Int} {t0 t1 : Tok}
    (B : Base w s₁) (hA : Ar A fs 4) (S : St w s₁ F R s) (hl : l.length = 6) (hi : i = (k.val : Int)) (h : ∀ t s', St w s₁ F R s' → Q (.str (mk (tn k l)) t) s') :
    wpAny (model PR w) A (call (.ref 804) [.str (mk l) t0, .int i t1]) Q E s := by
  revert w s₁ s F R A fs E Q l k i t0 t1
  refine @pad _ ?_
  refine @pad _ ?_
  refine @wall16 _ _ _ _ _ _ _ _ _ _ _ _ _ _ _ _ _ (by walk_at "ne") ?_
  generalize k2 _ = w, k3 _ = s₁, k4 _ = s, k5 _ = F, k6 _ = R, k7 _ = A, k8 _ = fs, k9 _ = E, k10 _ = Q, k11 _ = l, k12 _ = k, k13 _ = i, k14 _ = t0, k15 _ = t1
  intro B hA S hl hi h
  with_reducible refine enterCell (m := [("k", .int i t1)]) (y := "text") (cv := some (.str (mk l) t0)) B S (by k_is) (hA.room) (binds := [("text", .str (mk l) t0), ("k", .int i t1)]) ?b ?c ?d ?e ?f ?g ?_ (by kernel_rfl) (by kernel_rfl) (by kernel_rfl) (by kernel_rfl)
  case b => kernel_rfl
  case c => intro n; kernel_rfl
  case d => intro x hx; simp only [List.mem_cons, List.not_mem_nil, or_false] at hx; rcases hx with rfl | rfl; exact .inr ⟨by kernel_rfl, rfl⟩; exact .inl (by kernel_rfl)
  case e => intro p hp; rw [List.mem_singleton] at hp; subst hp; kernel_rfl
  case f => exact nodup_of (by kernel_rfl)
  case g => kernel_rfl
  clear S
  refine @wall2 _ _ _ (by walk_at "ne") ?_
  generalize k0 _ = L, k1 _ = C
  intro s hL S
  have hA' := hA.deeper
  have hLF : L ∈ L :: F := List.mem_cons_self
  repeat walk_at "gol"
  have hk3 := k.isLt
  refine lists3 (P := fun a s => wpAny (model PR w) _ (subscriptTail _ _ (.ref a) _) _ _ s) S (ord0 hl) (ord1 hl) (ord2 hl) ?_
  clear S
  intro la o0 o1 o2 v0 v1 v2 s p0 p1 p2 S
  revert la o0 o1 o2 v0 v1 v2 s
  refine @wall8 _ _ _ _ _ _ _ _ _ (by walk_at "ne") ?_
  generalize k0 _ = la, k1 _ = o0, k2 _ = o1, k3 _ = o2, k4 _ = v0, k5 _ = v1, k6 _ = v2, k7 _ = s
  set_option tactic.hygienic false in intros
  rename St _ _ _ _ s => S
  with_reducible refine l_getK' S (by walk_at "mem") (by omega) (by omega) (turned_pick S (by walk_at "mem") (by walk_at "mem") (by walk_at "mem") p0 p1 p2 k hi) ?_
  rintro oa ⟨vs, hm, hpk⟩
  replace S := S
  revert s oa vs
  refine @wall3 _ _ _ _ (by walk_at "ne") ?_
  generalize k0 _ = s, k1 _ = oa, k2 _ = vs
  set_option tactic.hygienic false in intros
  rename St _ _ _ _ s => S
  repeat walk_at "gol"
  with_reducible refine m_bm PySem.F.plainAttrs_str PySem.F.slot_str_join PySem.F.type_str_join recv_str ?_
  replace S := S
  revert t s
  refine @wall2 _ _ _ (by walk_at "ne") ?_
  generalize k0 _ = t, k1 _ = s
  set_option tactic.hygienic false in intros
  rename St _ _ _ _ s => S
  with_reducible refine cwbm1 ?_
  with_reducible refine x_compF B (cl := [("text", C)]) (by kernel_rfl) (by decide +kernel) (by kernel_rfl) (by decide +kernel) ?_
  repeat walk_at "gol"
  with_reducible refine l_iter S (hm _ (by walk_at "mem") (by walk_at "mem") (by walk_at "mem")) ?_
  clear S; intro it s S
  refine ⟨_, _, S, ⟨L, hLF⟩, ?_⟩
  clear S; intro D Cn s S
  refine ⟨?_, ?_⟩
  · rintro s' Q' E' rfl hq
    exact li_self S (by walk_at "mem") hq
  · replace S := S.pull (a := it) (by walk_at "pull")
    refine ⟨fun n s => ∃ (j : Nat) (all : List (Str × Tok)), j + n = 6 ∧ all.map (·.1) = ((tn k l).take j).map (fun c => (⟨#[c]⟩ : Str)) ∧ St w s₁ (L :: F) ((it, liC _ j) :: (Cn, Cell.ns []) :: (D, Cell.list (wv all)) :: _) s, 6, ⟨0, [], rfl, rfl, S⟩, ?_⟩
    clear S
    repeat clear S
    rintro n s ⟨j, all, hj, hall, S⟩
    revert it D Cn n s j all
    refine @pad _ ?_
    refine @wall8 _ _ _ _ _ _ _ _ _ (by walk_at "ne") ?_
    generalize k1 _ = it, k2 _ = D, k3 _ = Cn, k4 _ = n, k5 _ = s, k6 _ = j, k7 _ = all
    set_option tactic.hygienic false in intros
    rename St _ _ _ _ s => S
    have htl : (tn k l).length = 6 := by rw [tn_len, hl]
    by_cases hn : n = 0
    · subst hn
      have hj : j = 6 := by lia
      subst hj
      with_reducible refine li_end B (hA' _).hnd S (by walk_at "pull") (hm _ (by walk_at "mem") (by walk_at "mem") (by walk_at "mem")) hLF hpk.2 ?_
      clear S; intro s S
      refine ⟨_, _, S, ?_⟩
      clear S; intro s S
      rw [List.take_of_length_le (by lia)] at hall
      with_reducible refine s_join0 S (by walk_at "mem") hall htl ?_
      clear S; intro t s S
      repeat walk_at "gol"
      replace S := S.unframe (L := L) (by walk_at "pull")
      repeat (replace S := S.tail)
      exact h _ _ S
    · obtain ⟨i, tt, x, hv, h0, h6, hc, ht⟩ := hpk.1 j (by lia)
      with_reducible refine li_item B S (by walk_at "upd") (hm _ (by walk_at "mem") (by walk_at "mem") (by walk_at "mem")) hv ?_
      clear S; intro s S
      with_reducible refine kcomp_some ?_
      dsimp only [compEnvC, relabel]
      repeat walk_at "gol"
      with_reducible refine ldc S (C := C) (v := .str (mk l) t0) (by walk_at "mem") ?_
      repeat walk_at "gol"
      with_reducible refine str_item S h0 h6 hc ?_
      clear S; intro tc s S
      have ew : wv (all ++ [(⟨#[x]⟩, tc)]) = wv all ++ [.str ⟨#[x]⟩ tc] := by simp [wv]
      with_reducible refine l_append B S (by walk_at "upd") (by have := congrArg List.length hall; simp [wv] at this ⊢; rw [sizeLine_eq]; lia) ?_
      rw [← ew]
      clear S; intro s S
      refine ⟨n - 1, by lia, j + 1, all ++ [(⟨#[x]⟩, tc)], by lia, ?_, S.names (by walk_at "upd") (by walk_at "sub") (nodup_of (by kernel_rfl))⟩
      rw [List.take_add_one, ht]
      simp [hall]
/-! PA -/
/-! ### dicts of texts -/
theorem stored_perm {l l' : List (Str × Value)} (h : l'.Perm l) (k : Str) (v : Value) : (stored l' k v).Perm (stored l k v) := by
  unfold stored
  have e : l'.any (fun kv => decide (kv.1 = k)) = l.any (fun kv => decide (kv.1 = k)) := h.any_eq
  rw [e]
  split
  · exact h.map _
  · exact h.append_right _
theorem stored_keys_old {l : List (Str × Value)} {k : Str} {v : Value} (h : k ∈ Keys l) : Keys (stored l k v) = Keys l := by
  obtain ⟨p, hp, rfl⟩ := List.mem_map.mp h
  unfold stored
  rw [if_pos (List.any_eq_true.mpr ⟨p, hp, by simp⟩)]
  unfold Keys
  rw [List.map_map]
  refine List.map_congr_left fun q _ => ?_
  simp only [Function.comp]
  split <;> rfl
theorem stored_new {l : List (Str × Value)} {k : Str} {v : Value} (h : k ∉ Keys l) : stored l k v = l ++ [(k, v)] := by
  unfold stored
  rw [if_neg]
  intro q
  obtain ⟨p, hp, e⟩ := List.any_eq_true.mp q
  exact h (List.mem_map.mpr ⟨p, hp, of_decide_eq_true e⟩)
theorem stored_nodup {l : List (Str × Value)} {k : Str} {v : Value} (h : (Keys l).Nodup) : (Keys (stored l k v)).Nodup := by
  by_cases hk : k ∈ Keys l
  · rw [stored_keys_old hk]; exact h
  · rw [stored_new hk]
    unfold Keys
    rw [List.map_append]
    refine List.nodup_append.mpr ⟨h, by simp, ?_⟩
    rintro a ha b hb rfl
    simp only [List.map_cons, List.map_nil, List.mem_singleton] at hb
    exact hk (hb ▸ ha)
theorem stored_len {l : List (Str × Value)} {k : Str} {v : Value} : (stored l k v).length ≤ l.length + 1 := by
  unfold stored
  split
  · rw [List.length_map]; lia
  · rw [List.length_append]; simp
theorem valueAt_mem {l : List (Str × Value)} {k : Str} {v : Value} (hn : (Keys l).Nodup) (h : (k, v) ∈ l) : valueAt l k = some v := by
  induction l with
  | nil => cases h
  | cons p r ih =>
    obtain ⟨y, u⟩ := p
    rw [Keys, List.map_cons, List.nodup_cons] at hn
    unfold valueAt
    rw [List.find?_cons]
    rcases List.mem_cons.mp h with e | h'
    · cases e; simp
    · have : ¬ y = k := by rintro rfl; exact hn.1 (List.mem_map.mpr ⟨_, h', rfl⟩)
      simp only [this, decide_false]
      exact ih hn.2 h'
theorem valueAt_none {l : List (Str × Value)} {k : Str} (h : k ∉ Keys l) : valueAt l k = none := by
  unfold valueAt
  rw [Option.map_eq_none_iff, List.find?_eq_none]
  intro p hp q
  exact h (List.mem_map.mpr ⟨p, hp, of_decide_eq_true q⟩)
section
variable {w : World} {s₁ s : Shared} {F : List Addr} {led led' : Led} {A : Around} {E : Value → Shared → Prop}
noncomputable abbrev SK (w : World) : KeyKind PR w Str := PySem.strKind PR w
theorem dk_pairs {es : List DictEntry} {l : List (Str × Value)} (h : EntriesOk w.params es l) : Pairs (SK w) es l := by
  induction h with
  | nil => exact .nil
  | cons h _ ih =>
    obtain ⟨⟨t, h1⟩, h2, h3⟩ := h
    refine .cons ?_ h3 ih
    rw [h1]
    exact strKind_is ..
theorem dk_keys {es : List DictEntry} {l : List (Str × Value)} (h : EntriesOk w.params es l) : ∀ e ∈ es, ∃ k, (SK w).is k e.key = true ∧ e.hash = (SK w).hash k := by
  induction h with
  | nil => intro x hx; cases hx
  | @cons e p es l h _ ih =>
    intro x hx
    rcases List.mem_cons.mp hx with rfl | hx
    · obtain ⟨⟨t, h1⟩, h2, h3⟩ := h
      exact ⟨p.1, by rw [h1]; exact strKind_is .., h2⟩
    · exact ih x hx
theorem dk_of (S : St w s₁ F led s) {d : Addr} {l : List (Str × Value)} (hm : (d, Cell.sd l) ∈ led) : ∃ l', s.heap.DictOf (SK w) d l' ∧ l'.Perm l ∧ (Keys l).Nodup ∧ l.length ≤ 1000 := by
  obtain ⟨es, ep, l', e, h1, h2, h3, h4⟩ := sd_at S hm
  refine ⟨l', ⟨_, es.toArray, ep, e, ⟨rfl, rfl, rfl⟩, rfl, fun x hx => dk_keys h1 x (by simpa using hx), dk_pairs h1, ?_⟩, h2, h3, h4⟩
  exact ((Keys.perm h2).nodup_iff).mpr h3
theorem dk_entries {es : List DictEntry} {l : List (Str × Value)} (h : Pairs (SK w) es l) (hk : ∀ e ∈ es, ∃ k, (SK w).is k e.key = true ∧ e.hash = (SK w).hash k) : EntriesOk w.params es l := by
  induction h with
  | nil => exact .nil
  | @cons e kv es kvs h1 h2 _ ih =>
    refine .cons ⟨Value.isStrOf_shape h1, ?_, h2⟩ (ih fun x hx => hk x (.tail _ hx))
    obtain ⟨k, hk1, hk2⟩ := hk e (.head _)
    rw [hk2, (SK w).inj _ _ _ hk1 h1]
    rfl
theorem dk_back {h : Heap} {d : Addr} {l l' : List (Str × Value)} (D : h.DictOf (SK w) d l') (hp : l'.Perm l) (hn : (Keys l).Nodup) (hz : l.length ≤ 1000) : ∃ o, h.get? d = some o ∧ Cell.ok w.params (.sd l) o ∧ isDictData o.data = true := by
  obtain ⟨⟨c, dd, data, sl⟩, es, ep, e, ⟨h1, h2, h3⟩, hd, hk, hpr, _⟩ := D
  dsimp only at h1 h2 h3 hd
  subst h1 h2 h3 hd
  refine ⟨_, e, ⟨es.toList, ep, l', rfl, dk_entries hpr fun x hx => hk x (by simpa using hx), hp, hn, hz⟩, rfl⟩
theorem not_modules (B : Base w s₁) (S : St w s₁ F led s) {p : Addr × Cell} (hm : p ∈ led) : (p.1 == sysModules) = false := by
  have h1 := S.lo p hm
  have h2 := modules_low B.lim
  rw [beq_eq_false_iff_ne]
  exact Nat.ne_of_gt (Nat.lt_of_lt_of_le h2 h1)
theorem mem_keys {l : List (Str × Value)} {x : Str} (h : x ∈ Keys l) : ∃ v, (x, v) ∈ l := by
  obtain ⟨p, hp, rfl⟩ := List.mem_map.mp h
  exact ⟨p.2, hp⟩
theorem look_perm {l l' : List (Str × Value)} {x : Str} {v : Value} (hp : l'.Perm l) (hn : (Keys l).Nodup) (h : (x, v) ∈ l) : valueAt l' x = some v :=
  valueAt_mem (((Keys.perm hp).nodup_iff).mpr hn) (hp.mem_iff.mpr h)
theorem look_none {l l' : List (Str × Value)} {x : Str} (hp : l'.Perm l) (h : x ∉ Keys l) : valueAt l' x = none :=
  valueAt_none fun q => h ((Keys.perm hp).mem_iff.mp q)
theorem d_notin (B : Base w s₁) (S : St w s₁ F led s) {d : Addr} {l : List (Str × Value)} {x : Str} {t : Tok} {Q : Value → Shared → Prop} (hm : (d, Cell.sd l) ∈ led)
    (h1 : x ∈ Keys l → ∀ s', St w s₁ F led s' → Q (.bool false) s') (h2 : x ∉ Keys l → ∀ s', St w s₁ F led s' → Q (.bool true) s') : wpAny (model PR w) A (compareOp .NotIn (.str x t) (.ref d)) Q E s := by
  obtain ⟨l', D, hp, hn, _⟩ := dk_of S hm
  refine wpAny_notIn_of (knd := SK w) (strKind_is _ _ x t) (not_modules B S hm) D.mapOf ?_
  by_cases hx : x ∈ Keys l
  · obtain ⟨v, hv⟩ := mem_keys hx
    rw [look_perm hp hn hv]
    exact h1 hx _ (S.toks _)
  · rw [look_none hp hx]
    exact h2 hx _ (S.toks _)
theorem d_get2 (B : Base w s₁) (S : St w s₁ F led s) {d : Addr} {l : List (Str × Value)} {x : Str} {t : Tok} {dflt : Value} {Q : Value → Shared → Prop} (hm : (d, Cell.sd l) ∈ led)
    (h1 : ∀ v, (x, v) ∈ l → ∀ s', St w s₁ F led s' → Q v s') (h2 : x ∉ Keys l → ∀ s', St w s₁ F led s' → Q dflt s') : wpAny (model PR w) A (call (.builtin "dict.get") [.ref d, .str x t, dflt]) Q E s := by
  obtain ⟨l', D, hp, hn, _⟩ := dk_of S hm
  refine call_meetsIn PySem.F.slot_dict_get D.typeIs PySem.F.entry_dict_get (PySem.F.args_dict_get_3 _ _ _) (meets_dict_get_default (SK w) d (strKind_is _ _ x t) (not_modules B S hm) dflt) ⟨_, D.mapOf, ?_⟩
  by_cases hx : x ∈ Keys l
  · obtain ⟨v, hv⟩ := mem_keys hx
    rw [look_perm hp hn hv]
    exact h1 v hv _ (S.toks _)
  · rw [look_none hp hx]
    exact h2 hx _ (S.toks _)
theorem d_set (B : Base w s₁) (S : St w s₁ F led s) {d : Addr} {l l₂ : List (Str × Value)} {x : Str} {t : Tok} {v : Value} {Q : Unit → Shared → Prop} (u : Upd led d (Cell.sd l) (Cell.sd l₂) led') (hl : l₂.Perm (stored l x v)) (hz : l.length < 1000)
    (h : ∀ s', St w s₁ F led' s' → Q () s') : wpAny (model PR w) A (setItem (.ref d) (.str x t) v) Q E s := by
  obtain ⟨l', D, hp, hn, _⟩ := dk_of S u.mem
  have hsz : (1000 : Nat) ≤ sizeLine := by decide
  refine wpAny_setItem_pairs (knd := SK w) (strKind_is _ _ x t) D (fun h' D' hs => ?_) (by rw [hp.length_eq]; lia)
  obtain ⟨o, e, hc, hd⟩ := dk_back (l := l₂) D' ((stored_perm hp x v).trans hl.symm) (((Keys.perm hl).nodup_iff).mpr (stored_nodup hn)) (by rw [hl.length_eq]; have := stored_len (l := l) (k := x) (v := v); lia)
  exact h _ (S.same B u hs e hc (fun _ _ _ => hd) _)
theorem d_new (S : St w s₁ F led s) {M : Model} {env : Env} {pos : Pos} {Q : Value → Shared → Prop} (h : ∀ a s', St w s₁ F ((a, Cell.sd []) :: led) s' → Q (.ref a) s') : wpAny M A (eval (.Dict [] [] pos) env) Q E s :=
  wpAny_Dict_empty (h _ _ (S.alloc ⟨[], 0, [], rfl, .nil, .refl _, .nil, Nat.zero_le _⟩))
/-- two dicts with the same ints -/
theorem d_eq2 (B : Base w s₁) (S : St w s₁ F led s) (hA : A.units < cLine) {a b : Addr} {la lb : List (Str × Value)} {Q : Value → Shared → Prop} (ha : (a, Cell.sd la) ∈ led) (hb : (b, Cell.sd lb) ∈ led)
    (hlen : la.length = lb.length) (hall : ∀ x v, (x, v) ∈ la → ∃ i t u, v = .int i t ∧ (x, Value.int i u) ∈ lb) (h : Q (.bool true) s) : wpAny (model PR w) A (compareOp .Eq (.ref a) (.ref b)) Q E s := by
  obtain ⟨la', Da, hpa, hna, _⟩ := dk_of S ha
  obtain ⟨lb', Db, hpb, hnb, _⟩ := dk_of S hb
  have hits : KeqHits A.in1 s lb' la' true := by
    have : ∀ r : List (Str × Value), (∀ p ∈ r, p ∈ la) → KeqHits A.in1 s lb' r true := by
      intro r
      induction r with
      | nil => intro _; exact .nil
      | cons p r ih =>
        intro hr
        obtain ⟨x, v⟩ := p
        obtain ⟨i, t, u, rfl, hm⟩ := hall x v (hr _ (.head _))
        have he : SeqAt.EqAt A.in1 s (.int i t) (.int i u) true := by
          have := SeqAt.EqAt.int_int (A := A.in1) (s := s) i t i u
          simpa using this
        have hq := KeqHits.hit (look_perm hpb hnb hm) he (ih fun q hq => hr q (.tail _ hq))
        simpa using hq
    exact this _ fun p hp => hpa.mem_iff.mp hp
  refine keq_eq (knd := SK w) (not_modules B S ha) (not_modules B S hb) Da Db hA (fun _ => hits) ?_
  rw [hpa.length_eq, hpb.length_eq, hlen]
  simpa using h
end
/-! PB -/
section
variable {w : World} {s₁ s : Shared} {F : List Addr} {led led' : Led} {A : Around} {E : Value → Shared → Prop}
/-! ### tuples taken apart -/
theorem isTuple_at (S : St w s₁ F led s) {a : Addr} {l : List Value} (hm : (a, Cell.tup l) ∈ led) : s.heap.IsTuple a l.toArray :=
  let ⟨n, e⟩ := tup_at S hm; ⟨_, e, rfl, n, rfl⟩
/-- what is new at the heap's end is of no account -/
theorem St.past (S : St w s₁ F led s) (B : Base w s₁) {L : Addr} (hL : L ∈ F) {h' : Heap} (k : Heap.ExtBut s.heap.objs.size s.heap h') : St w s₁ F led { s with heap := h' } := by
  refine S.but B S.size (fun p hp e => ?_) (fun hF => ?_) hL (fun b o hb e => k b o hb e) S.gens rfl
  · obtain ⟨o, e', _⟩ := S.at_ p hp
    exact absurd (Heap.lt_size e') (by rw [e]; exact Nat.lt_irrefl _)
  · obtain ⟨_, o, e', _⟩ := S.frs _ hF
    exact absurd (Heap.lt_size e') (Nat.lt_irrefl _)
theorem u_tup3 (B : Base w s₁) (S : St w s₁ F led s) {L a : Addr} (hh : A.handled = none) (hL : L ∈ F) {v1 v2 v3 : Value} {env : Env} {x y z : Str} {p1 p2 p3 pos : Pos} {k : Nat} {Q : Unit → Shared → Prop} (hm : (a, Cell.tup [v1, v2, v3]) ∈ led)
    (h : ∀ s', St w s₁ F led s' → wpAny (model PR w) A (storeName env x v1) (fun _ s2 => wpAny (model PR w) A (storeName env y v2) (fun _ s3 => wpAny (model PR w) A (storeName env z v3) Q E s3) E s2) E s') :
    wpAny (model PR w) A (assign (.Tuple [.Name x p1, .Name y p2, .Name z p3] k pos) env (.ref a)) Q E s := by
  refine wpAny_assign_Tuple hh (isTuple_at S hm) rfl rfl fun h' hs => ?_
  show wpAny _ _ (do holding [v2, v3] (assign (.Name x p1) env v1); (do holding [v3] (assign (.Name y p2) env v2); (do holding [] (assign (.Name z p3) env v3); pure ()))) Q E _
  refine wpAny_bind (wpAny_holding (wpAny_assign_Name (wpAny_mono (h _ (S.past B hL hs)) (fun _ s2 h2 => wpAny_bind (wpAny_holding (wpAny_assign_Name (wpAny_mono h2 (fun _ s3 h3 => wpAny_bind (wpAny_holding (wpAny_assign_Name (wpAny_mono h3 (fun _ s4 h4 => wpAny_pure h4) fun _ _ x => x)))) fun _ _ x => x)))) fun _ _ x => x)))
theorem u_tup2 (B : Base w s₁) (S : St w s₁ F led s) {L a : Addr} (hh : A.handled = none) (hL : L ∈ F) {v1 v2 : Value} {env : Env} {x y : Str} {p1 p2 pos : Pos} {k : Nat} {Q : Unit → Shared → Prop} (hm : (a, Cell.tup [v1, v2]) ∈ led)
    (h : ∀ s', St w s₁ F led s' → wpAny (model PR w) A (storeName env x v1) (fun _ s2 => wpAny (model PR w) A (storeName env y v2) Q E s2) E s') :
    wpAny (model PR w) A (assign (.Tuple [.Name x p1, .Name y p2] k pos) env (.ref a)) Q E s := by
  refine wpAny_assign_Tuple hh (isTuple_at S hm) rfl rfl fun h' hs => ?_
  show wpAny _ _ (do holding [v2] (assign (.Name x p1) env v1); (do holding [] (assign (.Name y p2) env v2); pure ())) Q E _
  refine wpAny_bind (wpAny_holding (wpAny_assign_Name (wpAny_mono (h _ (S.past B hL hs)) (fun _ s2 h2 => wpAny_bind (wpAny_holding (wpAny_assign_Name (wpAny_mono h2 (fun _ s3 h3 => wpAny_pure h3) fun _ _ x => x)))) fun _ _ x => x)))
theorem x_tup3 {M : Model} {env : Env} {e1 e2 e3 : Expr} {k : Nat} {p : Pos} {Q : Value → Shared → Prop}
    (h : wpAny M A (eval e1 env) (fun v1 s11 => wpAny M A (eval e2 env) (fun v2 s12 => wpAny M A (eval e3 env) (fun v3 s13 => ∃ F led, St w s₁ F led s13 ∧ ∀ a s', St w s₁ F ((a, Cell.tup [v1, v2, v3]) :: led) s' → Q (.ref a) s') E s12) E s11) E s)
    (ha : backTo p (starEach [e1, e2, e3] env) = [(false, eval e1 env), (false, eval e2 env), (false, eval e3 env)] := by kernel_rfl) : wpAny M A (eval (.Tuple [e1, e2, e3] k p) env) Q E s := by
  refine Tuple_ ?_
  rw [ha]
  refine Calls.spliced_cons (wpAny_mono h (fun v1 s₁' h1 => Calls.spliced_cons (wpAny_mono h1 (fun v2 s₂ h2 => Calls.spliced_cons (wpAny_mono h2 (fun v3 s₃ h3 => Calls.spliced_nil ?_) fun _ _ x => x)) fun _ _ x => x)) fun _ _ x => x)
  obtain ⟨F, led, S, hq⟩ := h3
  exact wpAny_newObj_type (hq _ _ (S.alloc ⟨0, rfl⟩)) (by show 3 ≤ sizeLine; decide)
/-! ### iterators of texts and of bytes -/
noncomputable def siT (x : Str) : String := if x.cps.all (· < 128) then "str_ascii_iterator" else "str_iterator"
noncomputable def siC (x : Str) (t : Tok) (i : Nat) : Cell := .itr (siT x) #[.str x t, .int i 0]
theorem s_iter (S : St w s₁ F led s) {x : Str} {t : Tok} {Q : Value → Shared → Prop} (h : ∀ it s', St w s₁ F ((it, siC x t 0) :: led) s' → Q (.ref it) s') : wpAny (model PR w) A (pyIter (.str x t)) Q E s := by
  cases ha : x.cps.all (· < 128) with
  | true => exact wpAny_pyIter_ascii ha (h _ _ (S.alloc ⟨by unfold siT; rw [ha]; rfl, rfl⟩))
  | false => exact wpAny_pyIter_wide ha (h _ _ (S.alloc ⟨by unfold siT; rw [ha]; rfl, rfl⟩))
theorem si_self (S : St w s₁ F led s) {it : Addr} {x : Str} {t : Tok} {i : Nat} {Q : Value → Shared → Prop} (hm : (it, siC x t i) ∈ led) (h : Q (.ref it) s) : wpAny (model PR w) A (pyIter (.ref it)) Q E s := by
  obtain ⟨o, e, hc, hd⟩ := S.at_ _ hm
  cases ha : x.cps.all (· < 128) with
  | true => exact wpAny_pyIter_striter_ascii ⟨o, e, by rw [hc]; unfold siT; rw [ha]; rfl, hd⟩ h
  | false => exact wpAny_pyIter_striter_wide ⟨o, e, by rw [hc]; unfold siT; rw [ha]; rfl, hd⟩ h
theorem si_item (B : Base w s₁) (S : St w s₁ F led s) {it : Addr} {x : Str} {t : Tok} {i c : Nat} {Q : Option Value → Shared → Prop} (hm : Upd led it (siC x t i) (siC x t (i + 1)) led') (hv : x.cps[i]? = some c) (h : ∀ t s', St w s₁ F led' s' → Q (some (.str ⟨#[c]⟩ t)) s') :
    wpAny (model PR w) A (pyNext (.ref it)) Q E s := by
  obtain ⟨o, e, hc, hd⟩ := S.at_ _ hm.mem
  have hno : ∀ o2, s.heap.get? it = some o2 → isDictData o2.data = true → False := fun o2 e2 hd2 => by
    rw [e] at e2; cases e2; rw [hd] at hd2; cases hd2
  cases ha : x.cps.all (· < 128) with
  | true =>
    refine wpAny_pyNext_ascii_item ⟨o, e, by rw [hc]; unfold siT; rw [ha]; rfl, hd⟩ hv fun h' hit hs => ?_
    obtain ⟨o', e', hc', hd'⟩ := hit
    exact h _ _ (S.same B hm hs e' ⟨by rw [hc']; unfold siT; rw [ha]; rfl, hd'⟩ (fun o2 e2 hd2 => (hno o2 e2 hd2).elim) _)
  | false =>
    refine wpAny_pyNext_wide_item ⟨o, e, by rw [hc]; unfold siT; rw [ha]; rfl, hd⟩ hv fun h' hit hs => ?_
    obtain ⟨o', e', hc', hd'⟩ := hit
    exact h _ _ (S.same B hm hs e' ⟨by rw [hc']; unfold siT; rw [ha]; rfl, hd'⟩ (fun o2 e2 hd2 => (hno o2 e2 hd2).elim) _)
theorem si_end (B : Base w s₁) (S : St w s₁ F led s) {it L : Addr} {x : Str} {t : Tok} {i : Nat} {Q : Option Value → Shared → Prop} (hh : A.handled = none) (hm : Pull led it (siC x t i) led') (hL : L ∈ F) (hv : x.cps[i]? = none) (h : ∀ s', St w s₁ F led' s' → Q none s') :
    wpAny (model PR w) A (pyNext (.ref it)) Q E s := by
  obtain ⟨o, e, hc, hd⟩ := (S.pull hm).at_ _ List.mem_cons_self
  cases ha : x.cps.all (· < 128) with
  | true => exact wpAny_pyNext_ascii_end hh ⟨o, e, by rw [hc]; unfold siT; rw [ha]; rfl, hd⟩ hv fun h' hx => h _ (S.lose B hm rfl hL hx s.toks)
  | false => exact wpAny_pyNext_wide_end hh ⟨o, e, by rw [hc]; unfold siT; rw [ha]; rfl, hd⟩ hv fun h' hx => h _ (S.lose B hm rfl hL hx s.toks)
noncomputable def biC (b : Array UInt8) (t : Tok) (i : Nat) : Cell := .itr "bytes_iterator" #[.bytes b t, .int i 0]
theorem b_iter (S : St w s₁ F led s) {b : Array UInt8} {t : Tok} {Q : Value → Shared → Prop} (h : ∀ it s', St w s₁ F ((it, biC b t 0) :: led) s' → Q (.ref it) s') : wpAny (model PR w) A (pyIter (.bytes b t)) Q E s :=
  KBw.pyIter_bytes (h _ _ (S.alloc ⟨rfl, rfl⟩))
theorem bi_self (S : St w s₁ F led s) {it : Addr} {b : Array UInt8} {t : Tok} {i : Nat} {Q : Value → Shared → Prop} (hm : (it, biC b t i) ∈ led) (h : Q (.ref it) s) : wpAny (model PR w) A (pyIter (.ref it)) Q E s := by
  obtain ⟨o, e, hc, hd⟩ := S.at_ _ hm
  exact KBw.pyIter_self ⟨o, e, hc, hd⟩ h
theorem bi_item (B : Base w s₁) (S : St w s₁ F led s) {it : Addr} {b : Array UInt8} {t : Tok} {i : Nat} {c : UInt8} {Q : Option Value → Shared → Prop} (hm : Upd led it (biC b t i) (biC b t (i + 1)) led') (hv : b[i]? = some c) (h : ∀ t s', St w s₁ F led' s' → Q (some (.int (c.toNat : Int) t)) s') :
    wpAny (model PR w) A (pyNext (.ref it)) Q E s := by
  obtain ⟨o, e, hc, hd⟩ := S.at_ _ hm.mem
  refine KBw.next_item ⟨o, e, hc, hd⟩ hv fun h' hit hs => ?_
  obtain ⟨o', e', hc', hd'⟩ := hit
  exact h _ _ (S.same B hm hs e' ⟨hc', hd'⟩ (fun o2 e2 hd2 => by rw [e] at e2; cases e2; rw [hd] at hd2; cases hd2) _)
theorem bi_end (B : Base w s₁) (S : St w s₁ F led s) {it L : Addr} {b : Array UInt8} {t : Tok} {i : Nat} {Q : Option Value → Shared → Prop} (hh : A.handled = none) (hm : Pull led it (biC b t i) led') (hL : L ∈ F) (hv : b[i]? = none) (h : ∀ s', St w s₁ F led' s' → Q none s') :
    wpAny (model PR w) A (pyNext (.ref it)) Q E s := by
  obtain ⟨o, e, hc, hd⟩ := (S.pull hm).at_ _ List.mem_cons_self
  exact KBw.next_end hh ⟨o, e, hc, hd⟩ hv fun h' hx => h _ (S.lose B hm rfl hL hx s.toks)
/-! ### built-in functions -/
theorem c_ord (S : St w s₁ F led s) {c : Nat} {t : Tok} {Q : Value → Shared → Prop} (h : ∀ t s', St w s₁ F led s' → Q (.int (c : Nat) t) s') : wpAny (model PR w) A (call (.builtin "ord") [.str ⟨#[c]⟩ t]) Q E s :=
  P.ord_of_char (h _ _ (S.toks _))
theorem c_chr (S : St w s₁ F led s) {i : Int} {t : Tok} {Q : Value → Shared → Prop} (h0 : 0 ≤ i) (h1 : i < 256) (h : ∀ t s', St w s₁ F led s' → Q (.str ⟨#[i.toNat]⟩ t) s') : wpAny (model PR w) A (call (.builtin "chr") [.int i t]) Q E s :=
  chr_of_range h0 (by lia) (h _ _ (S.toks _))
theorem c_min (S : St w s₁ F led s) {a b : Int} {t u : Tok} {Q : Value → Shared → Prop} (hh : A.handled = none) {L : Addr} (hL : L ∈ F) (h : ∀ t s', St w s₁ F led s' → Q (.int (min a b) t) s') : wpAny (model PR w) A (call (.builtin "min") [.int a t, .int b u]) Q E s := by
  refine min_two_ints hh fun h' tk hk => ?_
  obtain ⟨hlo, ob, e, _⟩ := S.frs L hL
  have hsz : s.heap.objs.size ≤ h'.objs.size ∨ h'.objs.size < s.heap.objs.size := by lia
  have S' : St w s₁ F led { s with heap := h', toks := tk } :=
    ⟨fun b o hb e => hk _ _ (S.old b o hb e), let ⟨ps, a, b⟩ := S.tab; ⟨ps, isCode_keeps a fun b _ o e => hk b o e, tableAt_keeps b fun b _ o e => hk b o e⟩, S.os, S.gens,
      Nat.le_trans hlo (Nat.le_of_lt (Heap.lt_size (hk _ _ e))), fun p hp => let ⟨o, e, r⟩ := S.at_ p hp; ⟨o, hk _ _ e, r⟩, S.nd, S.lo, fun f hf => let ⟨a, o, e, r⟩ := S.frs f hf; ⟨a, o, hk _ _ e, r⟩, S.fns⟩
  by_cases hba : b < a
  · rw [if_pos hba]
    have e : min a b = b := by lia
    rw [e] at h; exact h _ _ S'
  · rw [if_neg hba]
    have e : min a b = a := by lia
    rw [e] at h; exact h _ _ S'
noncomputable def il (ns : List (Int × Tok)) : List Value := ns.map fun p => .int p.1 p.2
theorem il_are : ∀ ns : List (Int × Tok), IntsAre (il ns) (ns.map (·.1))
  | [] => .nil
  | p :: r => .cons p.1 p.2 (il_are r)
theorem c_bytes (S : St w s₁ F led s) {a : Addr} {ns : List (Int × Tok)} {Q : Value → Shared → Prop} (hm : (a, Cell.list (il ns)) ∈ led) (hh : A.handled = none) {L : Addr} (hL : L ∈ F) (hr : ∀ n ∈ ns, 0 ≤ n.1 ∧ n.1 < 256) (hz : ns.length ≤ 1000)
    (h : ∀ t s', St w s₁ F led s' → Q (.bytes (byteArr (ns.map (·.1))) t) s') : wpAny (model PR w) A (call (.type "bytes") [.ref a]) Q E s := by
  have hsz : (1000 : Nat) ≤ sizeLine := by decide
  refine call_bytes_ints (isList_at S hm) (il_are ns) (fun n hn => ?_) (by rw [il, List.length_map]; lia) hh fun h' t k hk => ?_
  · obtain ⟨p, hp, rfl⟩ := List.mem_map.mp hn
    exact hr p hp
  · obtain ⟨hlo, ob, e, _⟩ := S.frs L hL
    exact h _ _ ⟨fun b o hb e => hk _ _ (S.old b o hb e), let ⟨ps, a, b⟩ := S.tab; ⟨ps, isCode_keeps a fun b _ o e => hk b o e, tableAt_keeps b fun b _ o e => hk b o e⟩, S.os, S.gens,
      Nat.le_trans hlo (Nat.le_of_lt (Heap.lt_size (hk _ _ e))), fun p hp => let ⟨o, e, r⟩ := S.at_ p hp; ⟨o, hk _ _ e, r⟩, S.nd, S.lo, fun f hf => let ⟨a, o, e, r⟩ := S.frs f hf; ⟨a, o, hk _ _ e, r⟩, S.fns⟩
/-! ### lists -/
theorem l_add (S : St w s₁ F led s) {a b : Addr} {va vb : List Value} {Q : Value → Shared → Prop} (ha : (a, Cell.list va) ∈ led) (hb : (b, Cell.list vb) ∈ led) (hz : va.length + vb.length ≤ 1000)
    (h : ∀ c s', St w s₁ F ((c, Cell.list (va ++ vb)) :: led) s' → Q (.ref c) s') : wpAny (model PR w) A (binaryOp .Add (.ref a) (.ref b)) Q E s := by
  have hsz : (1000 : Nat) ≤ sizeLine := by decide
  obtain ⟨n, e⟩ := list_at S ha
  obtain ⟨n2, e2⟩ := list_at S hb
  have ee : va.toArray ++ vb.toArray = (va ++ vb).toArray := by simp
  refine concat_meets ⟨_, e, rfl⟩ ⟨_, e2, rfl⟩ noFill_list_add seq_list_add PySem.F.slot_list_add PySem.F.entry_list_add (PySem.F.args_list_add_2 _ _) (list_addW a b va.toArray vb.toArray n n2 none none #[] #[] (by simpa using Nat.le_trans hz hsz)) ⟨e, e2, ?_⟩
  rw [ee]
  exact h _ _ (S.alloc (c := Cell.list (va ++ vb)) ⟨0, rfl⟩)
theorem sts_are (ws : List (Str × Tok)) : StrsAre (wv ws) (ws.map (·.1)) := by
  induction ws with
  | nil => exact .nil
  | cons p r ih => exact .cons p.1 p.2 ih
theorem l_notin (S : St w s₁ F led s) {a : Addr} {ws : List (Str × Tok)} {x : Str} {t : Tok} {Q : Value → Shared → Prop} (hm : (a, Cell.list (wv ws)) ∈ led) (hx : x ∈ ws.map (·.1)) (h : Q (.bool false) s) : wpAny (model PR w) A (compareOp .NotIn (.str x t) (.ref a)) Q E s := by
  refine notin_list_strs (isList_at S hm) (sts_are ws) ?_
  have e : (ws.map (·.1)).any (· == x) = true := List.any_eq_true.mpr ⟨x, hx, by simp⟩
  rw [e]; exact h
theorem l_index (S : St w s₁ F led s) {a : Addr} {ws : List (Str × Tok)} {x : Str} {t : Tok} {j : Nat} {Q : Value → Shared → Prop} (hm : (a, Cell.list (wv ws)) ∈ led) (hz : ws.length ≤ 1000) (hj : (ws.map (·.1))[j]? = some x) (hne : ∀ m, m < j → (ws.map (·.1))[m]? ≠ some x)
    (h : ∀ t s', St w s₁ F led s' → Q (.int (j : Nat) t) s') : wpAny (model PR w) A (call (.builtin "list.index") [.ref a, .str x t]) Q E s := by
  obtain ⟨n, e⟩ := list_at S hm
  have hlen : (wv ws).length = ws.length := by simp [wv]
  obtain ⟨hjl, hjx⟩ := List.getElem?_eq_some_iff.mp hj
  rw [List.length_map] at hjl
  refine call_meets PySem.F.slot_list_index ⟨_, e, rfl⟩ PySem.F.entry_list_index (PySem.F.args_list_index_2 _ _)
    (SeqAt.list_indexAt a (wv ws).toArray n none #[] (.str x t) (isStrOf x) j (by simpa [hlen] using hjl) (by lia) ?_ ?_) ⟨e, fun y hy => (eq_isStrOf x t (sts_are ws) y (by simpa using hy)).at _ _, h _ _ (S.toks _)⟩
  · rw [List.getElem_map] at hjx
    show isStrOf x (wv ws)[j] = true
    simp only [wv, List.getElem_map, isStrOf, beq_iff_eq]
    exact hjx
  · intro m hm' hlt
    have h1 := hne m hlt
    have hml : m < ws.length := by lia
    show isStrOf x (wv ws)[m] = false
    simp only [wv, List.getElem_map, isStrOf, beq_eq_false_iff_ne]
    intro q
    exact h1 (by rw [List.getElem?_eq_getElem (by simpa using hml), List.getElem_map, q])
end
/-! LW -/
/-- the names of the orders: none, one sign, one sign twice -/
noncomputable def nmk (a b : Nat) : Fin 3 → List Nat
  | 0 => []
  | 1 => [a]
  | 2 => [b, b]
theorem mk_inj {l m : List Nat} (h : mk l = mk m) : l = m := by
  have : (mk l).cps.toList = (mk m).cps.toList := by rw [h]
  simpa [mk] using this
theorem nmk_len (a b : Nat) (k : Fin 3) : (nmk a b k).length = k.val := by match k with | 0 => rfl | 1 => rfl | 2 => rfl
theorem nmk_inj {a b : Nat} {j k : Fin 3} (h : nmk a b j = nmk a b k) : j = k := by
  have := congrArg List.length h
  rw [nmk_len, nmk_len] at this
  exact Fin.ext this
noncomputable def nms (a b : Nat) (t0 t1 t2 : Tok) : List (Str × Tok) := [(mk (nmk a b 0), t0), (mk (nmk a b 1), t1), (mk (nmk a b 2), t2)]
theorem nms_at (a b : Nat) (t0 t1 t2 : Tok) (k : Fin 3) : ((nms a b t0 t1 t2).map (·.1))[k.val]? = some (mk (nmk a b k)) := by match k with | 0 => rfl | 1 => rfl | 2 => rfl
theorem nms_small (a b : Nat) (t0 t1 t2 : Tok) : (nms a b t0 t1 t2).length ≤ 1000 := by show 3 ≤ 1000; decide
theorem nms_mem (a b : Nat) (t0 t1 t2 : Tok) (k : Fin 3) : mk (nmk a b k) ∈ (nms a b t0 t1 t2).map (·.1) := List.mem_of_getElem? (nms_at ..)
theorem nms_ne (a b : Nat) (t0 t1 t2 : Tok) (k : Fin 3) : ∀ m, m < k.val → ((nms a b t0 t1 t2).map (·.1))[m]? ≠ some (mk (nmk a b k)) := by
  intro m hm q
  have hk := k.isLt
  have h3 : m < 3 := by lia
  have := nms_at a b t0 t1 t2 ⟨m, h3⟩
  rw [this] at q
  have := congrArg Fin.val (nmk_inj (mk_inj (Option.some.inj q)))
  dsimp only at this
  lia
noncomputable def prs (pr : Fin 3 → Int) (u0 u1 u2 : Tok) : List Value := [.int (pr 0) u0, .int (pr 1) u1, .int (pr 2) u2]
theorem prs_at (pr : Fin 3 → Int) (u0 u1 u2 : Tok) (k : Fin 3) : ∃ u, (prs pr u0 u1 u2)[((k.val : Nat) : Int).toNat]? = some (.int (pr k) u) := by match k with | 0 => exact ⟨_, rfl⟩ | 1 => exact ⟨_, rfl⟩ | 2 => exact ⟨_, rfl⟩
theorem if_then {c : Bool} {P Q : Prop} (hc : c = true) (h : P) : if c = true then P else Q := by rw [if_pos hc]; exact h
theorem k_lt (k : Fin 3) : (0 : Int) ≤ ((k.val : Nat) : Int) ∧ ((k.val : Nat) : Int) < 2 ^ 63 := by have := k.isLt; lia
theorem way_spec {w : World} {s₁ s : Shared} {F : List Addr} {R : Led} {A : Around} {fs : List Env} {E : Value → Shared → Prop} {Q : Value → Shared → Prop} {a b : Nat} {pr : Fin 3 → Int} {t0 t1 t2 u0 u1 u2 v0 v1 v2 : Tok}
    {start text : List Nat} {price : Int} {ks : List (Fin 3)} {ws : List (Str × Tok)} {nl pl wl : Addr}
    (B : Base w s₁) (hA : Ar A fs 6) (S : St w s₁ F R s) (hl : start.length = 6) (hn : (nl, Cell.list (wv (nms a b t0 t1 t2))) ∈ R) (hp : (pl, Cell.list (prs pr u0 u1 u2)) ∈ R) (hw : (wl, Cell.list (wv ws)) ∈ R)
    (hws : ws.map (·.1) = ks.map fun k => mk (nmk a b k)) (ht : text = act tn ks start) (hc : price = cost pr ks) (h : ∀ s', St w s₁ F R s' → Q (.bool true) s') :
    wpAny (model PR w) A (call (.ref 818) [.str (mk start) v0, .ref nl, .ref pl, .int price v1, .ref wl, .str (mk text) v2]) Q E s := by
  revert w s₁ s F R A fs E Q a b pr t0 t1 t2 u0 u1 u2 v0 v1 v2 start text price ks ws nl pl wl
  refine @wall22 _ _ _ _ _ _ _ _ _ _ _ _ _ _ _ _ _ _ _ _ _ _ _ (by walk_at "ne") ?_
  generalize k0 _ = w, k1 _ = s₁, k2 _ = s, k3 _ = F, k4 _ = R, k5 _ = A, k6 _ = fs, k7 _ = E, k8 _ = Q, k9 _ = a, k10 _ = b, k11 _ = pr, k12 _ = t0, k13 _ = t1, k14 _ = t2, k15 _ = u0, k16 _ = u1, k17 _ = u2, k18 _ = v0, k19 _ = v1, k20 _ = v2, k21 _ = start
  refine @pad _ ?_
  refine @wall8 _ _ _ _ _ _ _ _ _ (by walk_at "ne") ?_
  generalize k1 _ = text, k2 _ = price, k3 _ = ks, k4 _ = ws, k5 _ = nl, k6 _ = pl, k7 _ = wl
  intro B hA S hl hn hp hw hws ht hc h
  subst ht hc
  with_reducible refine enter (m := [("text", .str (mk (act tn ks start)) v2), ("words", .ref wl), ("price", .int (cost pr ks) v1), ("prices", .ref pl), ("names", .ref nl), ("start", .str (mk start) v0)]) B S (by k_is) (hA.room) (bindsK B S (by kernel_rfl)) ?_ (by kernel_rfl) (by kernel_rfl)
  clear S
  refine @wallN _ ?_
  generalize wN _ = L
  intro s hL S
  have hA' := hA.deeper
  have hLF : L ∈ L :: F := List.mem_cons_self
  repeat walk_at "gol"
  with_reducible refine x_for ?_
  repeat walk_at "gol"
  with_reducible refine l_iter S (by walk_at "mema") ?_
  clear S; intro it s S
  have hwl : ws.length = ks.length := by simpa using congrArg List.length hws
  have hlen : ∀ i : Nat, (act tn (ks.take i) start).length = 6 := fun i => by rw [act_len, hl]
  have S0 := S.names (m' := [("paid", .int 0 t), ("made", .str (mk start) v0), ("text", .str (mk (act tn ks start)) v2), ("price", .int (cost pr ks) v1), ("prices", .ref pl), ("names", .ref nl)]) (by walk_at "upd") (by walk_at "sub") (nodup_of (by kernel_rfl))
  refine ⟨fun n s => ∃ (i : Nat) (ta tb : Tok), i + n = ks.length ∧ St w s₁ (L :: F) ((it, liC wl i) :: (L, Cell.ns [("paid", .int (cost pr (ks.take i)) ta), ("made", .str (mk (act tn (ks.take i) start)) tb), ("text", .str (mk (act tn ks start)) v2), ("price", .int (cost pr ks) v1), ("prices", .ref pl), ("names", .ref nl)]) :: R) s,
    ks.length, ⟨0, t, v0, Nat.zero_add _, S0⟩, ?_⟩
  clear S S0
  repeat clear S
  rintro n s ⟨i, ta, tb, hi, S⟩
  revert it n s i ta tb
  refine @wall6 _ _ _ _ _ _ _ (by walk_at "ne") ?_
  generalize k0 _ = it, k1 _ = n, k2 _ = s, k3 _ = i, k4 _ = ta, k5 _ = tb
  set_option tactic.hygienic false in intros
  rename St _ _ _ _ s => S
  by_cases hn0 : n = 0
  · subst hn0
    have hi : i = ks.length := by lia
    subst hi
    rw [List.take_length] at S
    with_reducible refine li_end B (hA' _).hnd S (by walk_at "pull") (by walk_at "mema") hLF (List.getElem?_eq_none (by simp [wv, hwl])) ?_
    clear S; intro s S
    with_reducible refine kturn_none ?_
    repeat walk_at "gol"
    with_reducible refine BoolOp_and ?_
    with_reducible refine wpAny_Compare1 ?_ (by kernel_rfl)
    repeat walk_at "gol"
    with_reducible refine s_eq true (beq_self_eq_true _) ?_
    with_reducible refine wpAny_truthy_bool ?_
    with_reducible refine if_then rfl ?_
    with_reducible refine BoolOp_one ?_
    with_reducible refine wpAny_Compare1 ?_ (by kernel_rfl)
    repeat walk_at "gol"
    rw [beq_self_eq_true]
    exact h _ (S.unframe (by walk_at "pull"))
  · have hlt : i < ks.length := by lia
    obtain ⟨tw, hwi⟩ : ∃ tw, (wv ws)[i]? = some (.str (mk (nmk a b ks[i])) tw) := by
      have h1 : (ws.map (·.1))[i]? = some (mk (nmk a b ks[i])) := by rw [hws, List.getElem?_map, List.getElem?_eq_getElem hlt]; rfl
      rw [List.getElem?_map] at h1
      obtain ⟨p, hp1, hp2⟩ := Option.map_eq_some_iff.mp h1
      exact ⟨p.2, by unfold wv; rw [List.getElem?_map, hp1, ← hp2]; rfl⟩
    have hk := k_lt ks[i]
    with_reducible refine li_item B S (by walk_at "upd") (by walk_at "mema") hwi ?_
    clear S; intro s S
    with_reducible refine kturn_some ?_
    repeat walk_at "gol"
    with_reducible refine l_notin S (by walk_at "mema") (nms_mem ..) ?_
    repeat walk_at "gol"
    with_reducible refine cwf2 B (by k_is) rfl ?_
    repeat walk_at "gol"
    with_reducible refine m_bm PySem.F.plainAttrs_list PySem.F.slot_list_index PySem.F.type_list_index (recv_list S (by walk_at "mema")) ?_
    with_reducible refine cwbm1 ?_
    repeat walk_at "gol"
    with_reducible refine l_index S (by walk_at "mema") (nms_small ..) (nms_at a b t0 t1 t2 ks[i]) (nms_ne a b t0 t1 t2 ks[i]) ?_
    clear S; intro tj s S
    revert tj s
    refine @wall2 _ _ _ (by walk_at "ne") ?_
    generalize k0 _ = tj, k1 _ = s
    set_option tactic.hygienic false in intros
    rename St _ _ _ _ s => S
    refine ⟨.of S, ?_⟩
    with_reducible refine turned_spec B ((hA' _).le (by decide)) S (hlen i) rfl ?_
    clear S; intro tb s S
    repeat walk_at "gol"
    with_reducible refine m_bm PySem.F.plainAttrs_list PySem.F.slot_list_index PySem.F.type_list_index (recv_list S (by walk_at "mema")) ?_
    with_reducible refine cwbm1 ?_
    repeat walk_at "gol"
    with_reducible refine l_index S (by walk_at "mema") (nms_small ..) (nms_at a b t0 t1 t2 ks[i]) (nms_ne a b t0 t1 t2 ks[i]) ?_
    clear S; intro tj s S
    obtain ⟨up, hup⟩ := prs_at pr u0 u1 u2 ks[i]
    with_reducible refine l_getK S (by walk_at "mema") hk.1 hk.2 hup ?_
    repeat walk_at "gol"
    have e1 : tn ks[i] (act tn (ks.take i) start) = act tn (ks.take (i + 1)) start := by rw [List.take_succ_eq_append_getElem hlt, act_snoc]
    have e2 : cost pr (ks.take i) + pr ks[i] = cost pr (ks.take (i + 1)) := by rw [List.take_succ_eq_append_getElem hlt, cost_snoc]
    rw [e1, e2] at S
    with_reducible refine kloop_next ⟨n - 1, by lia, i + 1, _, _, by lia, S.names (by walk_at "upd") (by walk_at "sub") (nodup_of (by kernel_rfl))⟩
/-! LE -/
/-! a dict from rows to prices -/
noncomputable abbrev Q3 := List Nat × Int × Tok
noncomputable def dv (q : List Q3) : List (Str × Value) := q.map fun e => (mk e.1, .int e.2.1 e.2.2)
noncomputable def pm (q : List Q3) : List (List Nat × Int) := q.map fun e => (e.1, e.2.1)
theorem dv_keys {q : List Q3} {x : List Nat} : mk x ∈ Keys (dv q) ↔ x ∈ (pm q).map (·.1) := by
  unfold Keys dv pm
  simp only [List.map_map, List.mem_map, Function.comp]
  constructor
  · rintro ⟨e, he, h⟩; exact ⟨e, he, mk_inj h⟩
  · rintro ⟨e, he, rfl⟩; exact ⟨e, he, rfl⟩
theorem dv_mem {q : List Q3} {x : List Nat} {v : Value} (h : (mk x, v) ∈ dv q) : ∃ p t, v = .int p t ∧ (x, p, t) ∈ q := by
  obtain ⟨⟨y, p, t⟩, he, h⟩ := List.mem_map.mp h
  obtain ⟨h1, h2⟩ := Prod.mk.inj h
  have := mk_inj h1
  subst this
  exact ⟨p, t, h2.symm, he⟩
theorem upd_new3 {q : List Q3} {x : List Nat} (p : Int) (t : Tok) (h : x ∉ (pm q).map (·.1)) : stored (dv q) (mk x) (.int p t) = dv (q ++ [(x, p, t)]) ∧ pm (q ++ [(x, p, t)]) = upd (pm q) x p := by
  refine ⟨?_, ?_⟩
  · rw [stored_new (fun hk => h (dv_keys.mp hk))]
    simp [dv]
  · unfold upd
    rw [if_neg h]
    simp [pm]
noncomputable def put3 (q : List Q3) (x : List Nat) (p : Int) (t : Tok) : List Q3 := q.map fun e => if e.1 = x then (x, p, t) else e
theorem upd_old3 {q : List Q3} {x : List Nat} {v : Int} {t0 : Tok} (p : Int) (t : Tok) (nd : ((pm q).map (·.1)).Nodup) (h : (x, v, t0) ∈ q) : stored (dv q) (mk x) (.int (min p v) t) = dv (put3 q x (min p v) t) ∧ pm (put3 q x (min p v) t) = upd (pm q) x p := by
  have hk : x ∈ (pm q).map (·.1) := List.mem_map.mpr ⟨(x, v), List.mem_map.mpr ⟨_, h, rfl⟩, rfl⟩
  refine ⟨?_, ?_⟩
  · unfold stored
    rw [if_pos]
    · unfold dv put3
      rw [List.map_map, List.map_map]
      refine List.map_congr_left fun e _ => ?_
      simp only [Function.comp]
      by_cases he : e.1 = x
      · rw [if_pos (by rw [he]), if_pos he, he]
      · rw [if_neg (fun q => he (mk_inj q)), if_neg he]
    · refine List.any_eq_true.mpr ⟨(mk x, .int v t0), List.mem_map.mpr ⟨_, h, rfl⟩, by simp⟩
  · unfold upd put3
    rw [if_pos hk]
    unfold pm
    rw [List.map_map, List.map_map]
    refine List.map_congr_left fun e he => ?_
    simp only [Function.comp]
    by_cases hx : e.1 = x
    · rw [if_pos hx, if_pos hx]
      have h1 : (e.1, e.2.1) ∈ pm q := List.mem_map.mpr ⟨e, he, rfl⟩
      have h2 : (x, v) ∈ pm q := List.mem_map.mpr ⟨_, h, rfl⟩
      have := uniq nd h1 h2 hx
      rw [(Prod.mk.inj this).2]
    · rw [if_neg hx, if_neg hx]
/-! the words of at most seven orders -/
noncomputable def kk (f s : Nat) : Fin 3 := if (f + s) % 2 = 0 then 0 else 1
theorem kk_val (f s : Nat) : ((f : Int) + (s : Int)).fmod 2 = (((kk f s).val : Nat) : Int) := by
  unfold kk
  rw [Int.fmod_eq_emod_of_nonneg _ (by decide)]
  split
  · rename_i h; show _ = (0 : Int); lia
  · rename_i h; show _ = (1 : Int); lia
theorem special_succ (w f s : Nat) : special w f (s + 1) = special w f s ++ [kk f s] := by
  unfold special alt kk
  rw [List.range_succ, List.map_append, List.append_assoc]
  rfl
theorem sp_len : specials.length = 28 := by decide +kernel
theorem sp_get : ∀ w, w < 2 → ∀ f, f < 2 → ∀ s, s < 7 → specials[(2 * w + f) * 7 + s]? = some (special w f s) := by decide +kernel
theorem sp_take (w f s : Nat) (hw : w < 2) (hf : f < 2) (hs : s < 7) : specials.take ((2 * w + f) * 7 + s + 1) = specials.take ((2 * w + f) * 7 + s) ++ [special w f s] := by
  have := sp_get w hw f hf s hs
  obtain ⟨h1, h2⟩ := List.getElem?_eq_some_iff.mp this
  rw [List.take_succ_eq_append_getElem h1, h2]
/-! LEb -/
section
variable {w : World} {s₁ s : Shared} {F : List Addr} {led led' : Led} {A : Around} {E : Value → Shared → Prop}
theorem i_mod (S : St w s₁ F led s) {a b : Int} {t u : Tok} {Q : Value → Shared → Prop} (hb : b ≠ 0) (h : ∀ t s', St w s₁ F led s' → Q (.int (a.fmod b) t) s') : wpAny (model PR w) A (binaryOp .Mod (.int a t) (.int b u)) Q E s := mod_int' hb (h _ _ (S.toks _))
theorem if_join {M : Model} {x y : Sem Value} {c : Bool} {Q : Value → Shared → Prop} (J : Value → Shared → Prop) (h1 : c = true → wpAny M A x J E s) (h2 : c = false → wpAny M A y J E s) (hj : ∀ v s', J v s' → Q v s') : if c = true then wpAny M A x Q E s else wpAny M A y Q E s := by
  cases c with
  | true => exact wpAny_mono (h1 rfl) hj fun _ _ x => x
  | false => exact wpAny_mono (h2 rfl) hj fun _ _ x => x
theorem b_bool {P1 P2 : Prop} {b : Bool} (h1 : b = true → P1) (h2 : b = false → P2) : (if b = true then P1 else P2) := by cases b with | true => exact h1 rfl | false => exact h2 rfl
end
theorem d_getJ {w : World} {s₁ s : Shared} {F : List Addr} {led : Led} {A : Around} {E : Value → Shared → Prop} (B : Base w s₁) (S : St w s₁ F led s) {d : Addr} {l : List (Str × Value)} {x : Str} {t : Tok} {dflt : Value} {Q : Value → Shared → Prop} (hm : (d, Cell.sd l) ∈ led)
    (h : ∀ v s', ((x, v) ∈ l ∨ (x ∉ Keys l ∧ v = dflt)) → St w s₁ F led s' → Q v s') : wpAny (model PR w) A (call (.builtin "dict.get") [.ref d, .str x t, dflt]) Q E s :=
  d_get2 B S hm (fun v hv s' S' => h v s' (.inl hv) S') (fun hx s' S' => h _ s' (.inr ⟨hx, rfl⟩) S')
theorem least_len {start : List Nat} {pr : Fin 3 → Int} {done : List (List (Fin 3))} {m : List (List Nat × Int)} (hl : start.length = 6) (H : Least tn pr start done m) : m.length ≤ 12 := by
  have h := nodup_len (m.map (·.1)) (twelve.map fun x => x.map fun i => start.getD i 0) H.nd fun x hx => by
    obtain ⟨q, hq, rfl⟩ := List.mem_map.mp hx
    obtain ⟨ks, e, _⟩ := H.from_ q hq
    rw [← e, act_base 0 hl]
    exact List.mem_map.mpr ⟨_, in_twelve ks, rfl⟩
  simpa [twelve_len] using h
theorem put_any {q : List Q3} {x : List Nat} {p : Int} {v : Value} {tp : Tok} (nd : ((pm q).map (·.1)).Nodup) (h : (mk x, v) ∈ dv q ∨ (mk x ∉ Keys (dv q) ∧ v = .int p tp)) :
    ∃ v0 t0, v = .int v0 t0 ∧ ∀ t, ∃ q', (dv q').Perm (stored (dv q) (mk x) (.int (min p v0) t)) ∧ pm q' = upd (pm q) x p := by
  rcases h with h | ⟨h, rfl⟩
  · obtain ⟨v0, t0, rfl, hm⟩ := dv_mem h
    refine ⟨v0, t0, rfl, fun t => ?_⟩
    obtain ⟨h1, h2⟩ := upd_old3 p t nd hm
    exact ⟨_, by rw [h1], h2⟩
  · refine ⟨p, tp, rfl, fun t => ?_⟩
    have e : min p p = p := by lia
    rw [e]
    obtain ⟨h1, h2⟩ := upd_new3 p t fun hk => h (dv_keys.mpr hk)
    exact ⟨_, by rw [h1], h2⟩
theorem cost_sp0 (pr : Fin 3 → Int) {i f : Nat} (hi : i < 2) : pr 2 * (i : Int) = cost pr (special i f 0) := by
  match i, hi with
  | 0, _ => simp [special, alt, cost]
  | 1, _ => simp [special, alt, cost]
theorem mul_ok {a : Int} {i : Nat} (hi : i < 2) : IntMulOk a (i : Int) := by
  match i, hi with
  | 0, _ => exact IntMulOk.of_right (by decide +kernel)
  | 1, _ => exact IntMulOk.of_right (by decide +kernel)
noncomputable def leC (d : Addr) (q : List Q3) : Addr × Cell := (d, Cell.sd (dv q))
noncomputable def leI1 (w : World) (s₁ : Shared) (F : List Addr) (R : Led) (pr : Fin 3 → Int) (start : List Nat) (it d L pl : Addr) (v0 : Tok) (n : Nat) (s : Shared) : Prop :=
  ∃ (i : Nat) (q : List Q3), i + n = 2 ∧ Least tn pr start (specials.take ((2 * i) * 7)) (pm q) ∧
    St w s₁ (L :: F) ((it, riC ((i : Nat) : Int) ((n : Nat) : Int) 1) :: (d, Cell.sd (dv q)) :: (L, Cell.ns [("least", .ref d), ("prices", .ref pl), ("start", .str (mk start) v0)]) :: R) s
noncomputable def leI2 (w : World) (s₁ : Shared) (F : List Addr) (R : Led) (pr : Fin 3 → Int) (start : List Nat) (i : Nat) (ti : Tok) (it it1 d L pl : Addr) (c1 : Cell) (v0 : Tok) (n : Nat) (s : Shared) : Prop :=
  ∃ (f : Nat) (q : List Q3), f + n = 2 ∧ Least tn pr start (specials.take ((2 * i + f) * 7)) (pm q) ∧
    St w s₁ (L :: F) ((it, riC ((f : Nat) : Int) ((n : Nat) : Int) 1) :: (it1, c1) :: (d, Cell.sd (dv q)) :: (L, Cell.ns [("whole", .int ((i : Nat) : Int) ti), ("least", .ref d), ("prices", .ref pl), ("start", .str (mk start) v0)]) :: R) s
noncomputable def leI3 (w : World) (s₁ : Shared) (F : List Addr) (R : Led) (pr : Fin 3 → Int) (start : List Nat) (i f : Nat) (ti tf : Tok) (it it1 it2 d L pl : Addr) (c1 c2 : Cell) (v0 : Tok) (n : Nat) (s : Shared) : Prop :=
  ∃ (j : Nat) (q : List Q3) (ta tb : Tok), j + n = 7 ∧ Least tn pr start (specials.take ((2 * i + f) * 7 + j)) (pm q) ∧
    St w s₁ (L :: F) ((it, riC ((j : Nat) : Int) ((n : Nat) : Int) 1) :: (it2, c2) :: (it1, c1) :: (d, Cell.sd (dv q)) ::
      (L, Cell.ns [("price", .int (cost pr (special i f j)) ta), ("text", .str (mk (act tn (special i f j) start)) tb), ("first", .int ((f : Nat) : Int) tf), ("whole", .int ((i : Nat) : Int) ti), ("least", .ref d), ("prices", .ref pl), ("start", .str (mk start) v0)]) :: R) s
theorem least_spec {w : World} {s₁ s : Shared} {F : List Addr} {R : Led} {A : Around} {fs : List Env} {E : Value → Shared → Prop} {Q : Value → Shared → Prop} {pr : Fin 3 → Int} {u0 u1 u2 v0 : Tok} {start : List Nat} {pl : Addr}
    (B : Base w s₁) (hA : Ar A fs 6) (S : St w s₁ F R s) (hl : start.length = 6) (hp : (pl, Cell.list (prs pr u0 u1 u2)) ∈ R)
    (h : ∀ d q s', Least tn pr start specials (pm q) → St w s₁ F ((d, Cell.sd (dv q)) :: R) s' → Q (.ref d) s') :
    wpAny (model PR w) A (call (.ref 811) [.str (mk start) v0, .ref pl]) Q E s := by
  revert w s₁ s F R A fs E Q pr u0 u1 u2 v0 start pl
  refine @wall16 _ _ _ _ _ _ _ _ _ _ _ _ _ _ _ _ _ (by walk_at "ne") ?_
  generalize k0 _ = w, k1 _ = s₁, k2 _ = s, k3 _ = F, k4 _ = R, k5 _ = A, k6 _ = fs, k7 _ = E, k8 _ = Q, k9 _ = pr, k10 _ = u0, k11 _ = u1, k12 _ = u2, k13 _ = v0, k14 _ = start, k15 _ = pl
  intro B hA S hl hp h
  with_reducible refine enter (m := [("prices", .ref pl), ("start", .str (mk start) v0)]) B S (by k_is) (hA.room) (bindsK B S (by kernel_rfl)) ?_ (by kernel_rfl) (by kernel_rfl)
  clear S
  refine @wallN _ ?_
  generalize wN _ = L
  intro s hL S
  have hA' := hA.deeper
  have hLF : L ∈ L :: F := List.mem_cons_self
  repeat walk_at "gol"
  with_reducible refine d_new S ?_
  clear S; intro d s S
  repeat walk_at "gol"
  with_reducible refine x_for ?_
  repeat walk_at "gol"
  with_reducible refine cwt1 ?_
  repeat walk_at "gol"
  with_reducible refine rg1 S ?_
  clear S; intro r r0 r1 r2 s S
  with_reducible refine rg_iter S (by walk_at "mem") (by decide +kernel) ?_
  clear S; intro it1 s S
  replace S := S.drop (a := r) (by walk_at "pull")
  refine ⟨leI1 w s₁ F R pr start it1 d L pl v0, 2, ⟨0, [], rfl, Least.nil, S⟩, ?_⟩
  clear S
  repeat clear S
  rintro n s ⟨i, q, hi, H, S⟩
  revert d it1 n s i q
  refine @wall6 _ _ _ _ _ _ _ (by walk_at "ne") ?_
  generalize k0 _ = d, k1 _ = it1, k2 _ = n, k3 _ = s, k4 _ = i, k5 _ = q
  set_option tactic.hygienic false in intros
  rename St _ _ _ _ s => S
  by_cases hn : n = 0
  · subst hn
    have hi : i = 2 := by lia
    subst hi
    have hH : Least tn pr start specials (pm q) := by
      have e : specials.take (2 * 2 * 7) = specials := List.take_of_length_le (by rw [sp_len]; decide)
      rw [e] at H; exact H
    with_reducible refine ri_end B (hA' _).hnd S (by walk_at "pull") hLF (by decide) ?_
    clear S; intro s S
    with_reducible refine kturn_none ?_
    repeat walk_at "gol"
    exact h _ _ _ hH (S.unframe (by walk_at "pull"))
  · have hi2 : i < 2 := by lia
    with_reducible refine ri_item B S (by walk_at "upd") (by lia) ?_
    clear S; intro ti s S
    with_reducible refine kturn_some ?_
    repeat walk_at "gol"
    with_reducible refine x_for ?_
    repeat walk_at "gol"
    with_reducible refine cwt1 ?_
    repeat walk_at "gol"
    with_reducible refine rg1 S ?_
    clear S; intro r r0 r1 r2 s S
    with_reducible refine rg_iter S (by walk_at "mem") (by decide +kernel) ?_
    clear S; intro it2 s S
    replace S := S.drop (a := r) (by walk_at "pull")
    have S0 := S.names (m' := [("whole", .int ((i : Nat) : Int) ti), ("least", .ref d), ("prices", .ref pl), ("start", .str (mk start) v0)]) (by walk_at "upd") (by walk_at "sub") (nodup_of (by kernel_rfl))
    refine ⟨leI2 w s₁ F R pr start i ti it2 it1 d L pl (riC (((i : Nat) : Int) + 1) (((n : Nat) : Int) - 1) 1) v0, 2, ⟨0, q, rfl, H, S0⟩, ?_⟩
    clear S S0 H
    repeat clear S
    rintro m s ⟨f, q, hf, H, S⟩
    revert ti it2 m s f q
    refine @wall6 _ _ _ _ _ _ _ (by walk_at "ne") ?_
    generalize k0 _ = ti, k1 _ = it2, k2 _ = m, k3 _ = s, k4 _ = f, k5 _ = q
    set_option tactic.hygienic false in intros
    rename St _ _ _ _ s => S
    by_cases hm : m = 0
    · subst hm
      have hf : f = 2 := by lia
      subst hf
      with_reducible refine ri_end B (hA' _).hnd S (by walk_at "pull") hLF (by decide) ?_
      clear S; intro s S
      with_reducible refine kturn_none ?_
      repeat walk_at "gol"
      have e1 : ((i : Nat) : Int) + 1 = ((i + 1 : Nat) : Int) := by lia
      have e2 : ((n : Nat) : Int) - 1 = ((n - 1 : Nat) : Int) := by lia
      rw [e1, e2] at S
      refine kloop_next ⟨n - 1, by lia, i + 1, q, by lia, ?_, S.names (by walk_at "upd") (by walk_at "sub") (nodup_of (by kernel_rfl))⟩
      have e3 : 2 * (i + 1) * 7 = (2 * i + 2) * 7 := by lia
      rw [e3]; exact H
    · have hf2 : f < 2 := by lia
      with_reducible refine ri_item B S (by walk_at "upd") (by lia) ?_
      clear S; intro tf s S
      revert tf s
      refine @wall2 _ _ _ (by walk_at "ne") ?_
      generalize k0 _ = tf, k1 _ = s
      set_option tactic.hygienic false in intros
      rename St _ _ _ _ s => S
      with_reducible refine kturn_some ?_
      repeat walk_at "gol"
      with_reducible refine PyProof.Rows.IfExp_ ?_
      repeat walk_at "gol"
      with_reducible refine if_join (fun v s' => ∃ tb, v = .str (mk (act tn (special i f 0) start)) tb ∧ St w s₁ (L :: F) ((it2, riC (((f : Nat) : Int) + 1) (((m : Nat) : Int) - 1) 1) :: (it1, riC (((i : Nat) : Int) + 1) (((n : Nat) : Int) - 1) 1) :: (d, Cell.sd (dv q)) ::
          (L, Cell.ns [("first", .int ((f : Nat) : Int) tf), ("whole", .int ((i : Nat) : Int) ti), ("least", .ref d), ("prices", .ref pl), ("start", .str (mk start) v0)]) :: R) s') ?_ ?_ ?_
      · intro hc
        have hi1 : i = 1 := by have := beq_iff_eq.mp hc; lia
        subst hi1
        with_reducible refine wpAny_Call_Name_kw ?_
        repeat walk_at "gol"
        with_reducible refine cwf2 B (by k_is) rfl ?_
        repeat walk_at "gol"
        refine ⟨.of S, ?_⟩
        with_reducible refine turned_spec (k := 2) B ((hA' _).le (by decide)) S hl rfl ?_
        clear S; intro tb s S
        exact ⟨tb, rfl, S⟩
      · intro hc
        have hi0 : i = 0 := by have := beq_eq_false_iff_ne.mp hc; lia
        subst hi0
        repeat walk_at "gol"
        exact ⟨v0, rfl, S⟩
      · clear S
        repeat clear S
        rintro v s ⟨tb, rfl, S⟩
        revert s tb
        refine @wall2 _ _ _ (by walk_at "ne") ?_
        generalize k0 _ = s, k1 _ = tb
        set_option tactic.hygienic false in intros
        rename St _ _ _ _ s => S
        repeat walk_at "gol"
        with_reducible refine l_getK S (by walk_at "mema") (by decide) (by decide) rfl ?_
        repeat walk_at "gol"
        with_reducible refine i_mul S ?_ (mul_ok hi2)
        rw [cost_sp0 (f := f) pr hi2]
        clear S; intro tp s S
        repeat walk_at "gol"
        with_reducible refine x_for ?_
        repeat walk_at "gol"
        with_reducible refine cwt1 ?_
        repeat walk_at "gol"
        with_reducible refine rg1 S ?_
        clear S; intro r r0 r1 r2 s S
        with_reducible refine rg_iter S (by walk_at "mem") (by decide +kernel) ?_
        clear S; intro it3 s S
        replace S := S.drop (a := r) (by walk_at "pull")
        refine ⟨leI3 w s₁ F R pr start i f ti tf it3 it1 it2 d L pl (riC (((i : Nat) : Int) + 1) (((n : Nat) : Int) - 1) 1) (riC (((f : Nat) : Int) + 1) (((m : Nat) : Int) - 1) 1) v0, 7, ⟨0, q, tp, tb, rfl, H, S⟩, ?_⟩
        clear S H
        repeat clear S
        rintro k s ⟨j, q, ta, tb, hj, H, S⟩
        revert tp it3 k s j q ta tb
        refine @wall8 _ _ _ _ _ _ _ _ _ (by walk_at "ne") ?_
        generalize k0 _ = tp, k1 _ = it3, k2 _ = k, k3 _ = s, k4 _ = j, k5 _ = q, k6 _ = ta, k7 _ = tb
        set_option tactic.hygienic false in intros
        rename St _ _ _ _ s => S
        by_cases hk : k = 0
        · subst hk
          have hj : j = 7 := by lia
          subst hj
          with_reducible refine ri_end B (hA' _).hnd S (by walk_at "pull") hLF (by decide) ?_
          clear S; intro s S
          with_reducible refine kturn_none ?_
          repeat walk_at "gol"
          have e1 : ((f : Nat) : Int) + 1 = ((f + 1 : Nat) : Int) := by lia
          have e2 : ((m : Nat) : Int) - 1 = ((m - 1 : Nat) : Int) := by lia
          rw [e1, e2] at S
          refine kloop_next ⟨m - 1, by lia, f + 1, q, by lia, ?_, S.names (by walk_at "upd") (by walk_at "sub") (nodup_of (by kernel_rfl))⟩
          have e3 : (2 * i + (f + 1)) * 7 = (2 * i + f) * 7 + 7 := by lia
          rw [e3]; exact H
        · have hj7 : j < 7 := by lia
          with_reducible refine ri_item B S (by walk_at "upd") (by lia) ?_
          clear S; intro tj s S
          revert tj s
          refine @wall2 _ _ _ (by walk_at "ne") ?_
          generalize k0 _ = tj, k1 _ = s
          set_option tactic.hygienic false in intros
          rename St _ _ _ _ s => S
          with_reducible refine kturn_some ?_
          repeat walk_at "gol"
          with_reducible refine cwb2 ?_
          repeat walk_at "gol"
          with_reducible refine m_bm PySem.F.plainAttrs_dict PySem.F.slot_dict_get PySem.F.type_dict_get (recv_dict S (by walk_at "mem")) ?_
          with_reducible refine cwbm2 ?_
          repeat walk_at "gol"
          with_reducible refine d_getJ B S (by walk_at "mem") ?_
          clear S; intro v s hv S
          obtain ⟨v0', t0', rfl, hput⟩ := put_any H.nd hv
          with_reducible refine c_min S (hA' _).hnd hLF ?_
          clear S; intro tm s S
          obtain ⟨q', hq1, hq2⟩ := hput tm
          repeat walk_at "gol"
          have hz : (dv q).length < 1000 := by have := least_len hl H; simp only [pm, dv, List.length_map] at this ⊢; lia
          with_reducible refine d_set B S (by walk_at "upd") hq1 hz ?_
          clear S; intro s S
          repeat walk_at "gol"
          with_reducible refine i_mod S (by decide) ?_
          rw [kk_val]
          clear S; intro tk s S
          repeat walk_at "gol"
          with_reducible refine cwf2 B (by k_is) rfl ?_
          repeat walk_at "gol"
          refine ⟨.of S, ?_⟩
          with_reducible refine turned_spec B ((hA' _).le (by decide)) S (by rw [act_len, hl]) rfl ?_
          rw [← act_snoc tn, ← special_succ]
          clear S; intro tb s S
          repeat walk_at "gol"
          obtain ⟨up, hup⟩ := prs_at pr u0 u1 u2 (kk f j)
          with_reducible refine l_getK S (by walk_at "mema") (k_lt _).1 (k_lt _).2 hup ?_
          repeat walk_at "gol"
          have e1 : ((j : Nat) : Int) + 1 = ((j + 1 : Nat) : Int) := by lia
          have e2 : ((k : Nat) : Int) - 1 = ((k - 1 : Nat) : Int) := by lia
          rw [e1, e2, ← cost_snoc pr, ← special_succ] at S
          have H' := H.upd (special i f j)
          rw [← sp_take i f j hi2 hf2 hj7, ← hq2] at H'
          refine kloop_next ⟨k - 1, by lia, j + 1, q', _, _, by lia, H', S.names (by walk_at "upd") (by walk_at "sub") (nodup_of (by kernel_rfl))⟩
/-! SP -/
theorem perm_inv {α β : Type} {f : α → β} {l' l0 : List β} (h : l'.Perm l0) : ∀ l : List α, l0 = l.map f → ∃ m : List α, m.map f = l' ∧ m.Perm l := by
  induction h with
  | nil => intro l e; exact ⟨[], rfl, by rw [List.map_eq_nil_iff.mp e.symm]⟩
  | @cons x l1 l2 _ ih =>
    intro l e
    cases l with
    | nil => cases e
    | cons a r =>
      obtain ⟨h1, h2⟩ := List.cons.inj e
      obtain ⟨m, h3, h4⟩ := ih r h2
      exact ⟨a :: m, by rw [List.map_cons, h3, h1], h4.cons a⟩
  | @swap x y r0 =>
    intro l e
    cases l with
    | nil => cases e
    | cons a r =>
      cases r with
      | nil => cases (List.cons.inj e).2
      | cons b r =>
        obtain ⟨h1, h2⟩ := List.cons.inj e
        obtain ⟨h3, h4⟩ := List.cons.inj h2
        exact ⟨b :: a :: r, by rw [List.map_cons, List.map_cons, h1, h3, h4], .swap ..⟩
  | trans _ _ ih1 ih2 =>
    intro l e
    obtain ⟨m, h1, h2⟩ := ih2 l e
    obtain ⟨m', h3, h4⟩ := ih1 m h1.symm
    exact ⟨m', h3, h4.trans h2⟩
theorem tn_mem {α : Type} (k : Fin 3) (l : List α) : ∀ x, x ∈ tn k l → x ∈ l := by
  unfold tn
  split
  · intro x hx
    match k with
    | 0 => simp only [List.mem_cons, List.not_mem_nil, or_false] at hx ⊢; rcases hx with h | h | h | h | h | h <;> simp [h]
    | 1 => simp only [List.mem_cons, List.not_mem_nil, or_false] at hx ⊢; rcases hx with h | h | h | h | h | h <;> simp [h]
    | 2 => simp only [List.mem_cons, List.not_mem_nil, or_false] at hx ⊢; rcases hx with h | h | h | h | h | h <;> simp [h]
  · exact fun _ h => h
theorem act_mem {α : Type} : ∀ (ks : List (Fin 3)) (l : List α) (x : α), x ∈ act tn ks l → x ∈ l
  | [], _, _, h => h
  | k :: r, l, x, h => tn_mem k l x (act_mem r (tn k l) x h)
/-! the items of the heap and what they stand for -/
noncomputable abbrev HP := It × Hi (List Nat)
noncomputable def rep (a b : Nat) (p : HP) : Prop := p.1.p = p.2.1 ∧ p.1.l = lineOf (p.2.2.1.map (nmk a b)) ∧ p.1.x = mk p.2.2.2
structure Sr (a b : Nat) (pr : Fin 3 → Int) (start : List Nat) (ps : List HP) (q : List Q3) : Prop where
  ord : Ord (ps.map (·.1))
  rep : ∀ p ∈ ps, rep a b p
  inv : Inv tn pr start (pm q) (ps.map (·.2))
  len : ps.length ≤ 1 + 3 * q.length
theorem pm_len (q : List Q3) : (pm q).length = q.length := by simp [pm]
theorem Sr.q12 {a b : Nat} {pr : Fin 3 → Int} {start : List Nat} {ps : List HP} {q : List Q3} (H : Sr a b pr start ps q) (hl : start.length = 6) : q.length ≤ 12 := by
  have := found_len hl H.inv
  rwa [pm_len] at this
/-- what has been pushed at an inner turn -/
structure Mid (a b : Nat) (pr : Fin 3 → Int) (h : Hi (List Nat)) (rest : List (Hi (List Nat))) (q : List Q3) (j : Nat) (ps : List HP) : Prop where
  ord : Ord (ps.map (·.1))
  rep : ∀ p ∈ ps, Mine.rep a b p
  hit : ∀ g ∈ ps.map (·.2), g ∈ rest ∨ ∃ k, g = (h.1 + pr k, h.2.1 ++ [k], tn k h.2.2)
  hre : ∀ g ∈ rest, g ∈ ps.map (·.2)
  hpu : ∀ k : Fin 3, k.val < j → tn k h.2.2 ∈ (pm q).map (·.1) ∨ (h.1 + pr k, h.2.1 ++ [k], tn k h.2.2) ∈ ps.map (·.2)
  len : ps.length ≤ rest.length + j
section
variable {a b : Nat} {pr : Fin 3 → Int} {start : List Nat} {q : List Q3} {h : Hi (List Nat)} {rest : List (Hi (List Nat))} {j : Nat} {ps ps' : List HP} {k : Fin 3}
theorem Mid.skip (M : Mid a b pr h rest q j ps) (hk : k.val = j) (hin : tn k h.2.2 ∈ (pm q).map (·.1)) : Mid a b pr h rest q (j + 1) ps := by
  refine ⟨M.ord, M.rep, M.hit, M.hre, fun i hi => ?_, Nat.le_succ_of_le M.len⟩
  by_cases e : i.val < j
  · exact M.hpu i e
  · have : i = k := Fin.ext (by lia)
    subst this
    exact .inl hin
theorem Mid.push (M : Mid a b pr h rest q j ps) (hk : k.val = j) {new : It} (hr : Mine.rep a b (new, (h.1 + pr k, h.2.1 ++ [k], tn k h.2.2))) {its : List It} (hp : its.Perm (ps.map (·.1) ++ [new])) (ho : Ord its) :
    ∃ ps' : List HP, ps'.map (·.1) = its ∧ (∀ p ∈ ps', p.1 = new ∨ p ∈ ps) ∧ Mid a b pr h rest q (j + 1) ps' := by
  obtain ⟨ps', h1, h2⟩ := perm_inv hp (ps ++ [(new, (h.1 + pr k, h.2.1 ++ [k], tn k h.2.2))]) (by rw [List.map_append]; rfl)
  have hmem : ∀ p, p ∈ ps' ↔ p ∈ ps ∨ p = (new, (h.1 + pr k, h.2.1 ++ [k], tn k h.2.2)) := fun p => by rw [h2.mem_iff, List.mem_append, List.mem_singleton]
  have hm2 : ∀ g, g ∈ ps'.map (·.2) ↔ g ∈ ps.map (·.2) ∨ g = (h.1 + pr k, h.2.1 ++ [k], tn k h.2.2) := fun g => by
    rw [(h2.map (·.2)).mem_iff, List.map_append, List.mem_append, List.map_singleton, List.mem_singleton]
  refine ⟨ps', h1, fun p hp => ?_, by rw [h1]; exact ho, fun p hp => ?_, fun g hg => ?_, fun g hg => (hm2 g).mpr (.inl (M.hre g hg)), fun i hi => ?_, ?_⟩
  · rcases (hmem p).mp hp with hp | rfl
    · exact .inr hp
    · exact .inl rfl
  · rcases (hmem p).mp hp with hp | rfl
    · exact M.rep p hp
    · exact hr
  · rcases (hm2 g).mp hg with hg | rfl
    · exact M.hit g hg
    · exact .inr ⟨k, rfl⟩
  · by_cases e : i.val < j
    · rcases M.hpu i e with h | h
      · exact .inl h
      · exact .inr ((hm2 _).mpr (.inl h))
    · have : i = k := Fin.ext (by lia)
      subst this
      exact .inr ((hm2 _).mpr (.inr rfl))
  · rw [h2.length_eq, List.length_append, List.length_singleton]
    exact Nat.succ_le_succ M.len
/-- the item at the top is taken off; its row was drawn -/
theorem Sr.skip {x : HP} {ps0 : List HP} (H : Sr a b pr start (x :: ps0) q) (hp : ps.Perm ps0) (ho : Ord (ps.map (·.1))) (hin : x.2.2.2 ∈ (pm q).map (·.1)) : Sr a b pr start ps q := by
  refine ⟨ho, fun p h => H.rep p (.tail _ (hp.mem_iff.mp h)), ?_, ?_⟩
  · refine Inv.skip (h := x.2) H.inv (fun g => ?_) hin
    rw [List.map_cons, List.mem_cons, (hp.map (·.2)).mem_iff]
  · have := H.len
    rw [List.length_cons] at this
    rw [hp.length_eq]; lia
/-- its row was not drawn -/
theorem Sr.begin {x : HP} {ps0 : List HP} (H : Sr a b pr start (x :: ps0) q) (hp : ps.Perm ps0) (ho : Ord (ps.map (·.1))) {q' : List Q3} : Mid a b pr x.2 (ps0.map (·.2)) q' 0 ps := by
  refine ⟨ho, fun p h => H.rep p (.tail _ (hp.mem_iff.mp h)), fun g hg => .inl ((hp.map (·.2)).mem_iff.mp hg), fun g hg => (hp.map (·.2)).mem_iff.mpr hg, fun i hi => absurd hi (Nat.not_lt_zero _), ?_⟩
  rw [hp.length_eq, List.length_map]; exact Nat.le_refl _
theorem Sr.min {x : HP} {ps0 : List HP} (H : Sr a b pr start (x :: ps0) q) : ∀ g ∈ (x :: ps0).map (·.2), x.2.1 ≤ g.1 := by
  intro g hg
  obtain ⟨p, hp, rfl⟩ := List.mem_map.mp hg
  obtain ⟨i, hi, e⟩ := List.getElem_of_mem hp
  have ho := ord_head H.ord i i (by simpa using hi) (Nat.le_refl _)
  have ei : (List.map (fun p : HP => p.1) (x :: ps0))[i]'(by simpa using hi) = p.1 := by rw [List.getElem_map, e]
  rw [ei] at ho
  have h1 := (H.rep p hp).1
  have h0 := (H.rep x (.head _)).1
  rw [← h0, ← h1]
  exact ho
theorem Sr.take {x : HP} {ps0 : List HP} (hpos : ∀ k, 0 ≤ pr k) (H : Sr a b pr start (x :: ps0) q) (hnot : x.2.2.2 ∉ (pm q).map (·.1)) {t : Tok} (M : Mid a b pr x.2 (ps0.map (·.2)) (q ++ [(x.2.2.2, x.2.1, t)]) 3 ps) : Sr a b pr start ps (q ++ [(x.2.2.2, x.2.1, t)]) := by
  refine ⟨M.ord, M.rep, ?_, ?_⟩
  · refine Inv.take (h := x.2) (rest := ps0.map (·.2)) H.inv hpos (fun g => by rw [List.map_cons, List.mem_cons]) H.min hnot ?_ M.hit M.hre fun k => M.hpu k k.isLt
    rw [show pm (q ++ [(x.2.2.2, x.2.1, t)]) = pm q ++ [(x.2.2.2, x.2.1)] by simp [pm]]
    exact List.perm_append_singleton _ _
  · have h1 := M.len
    have h2 := H.len
    rw [List.length_cons] at h2
    rw [List.length_map] at h1
    rw [List.length_append, List.length_singleton]
    lia
end
/-! SR -/
section
variable {w : World} {s₁ s : Shared} {F : List Addr} {led led' : Led} {A : Around} {E : Value → Shared → Prop}
/-- a comprehension with captured names -/
theorem x_compG {cl : List (Str × Addr)} {elt iter : Expr} {x : Str} {px : Pos} {scope : Scope} {pos : Pos} {env : Env} {first : Sem Value} {p0 : Pos} {Q : Value → Shared → Prop} (B : Base w s₁)
    (hclos : closureFor scope env = pure cl) (hcell : ∀ y ∈ scope.names, y.2 ≠ .cell) (hkind : scope.kind = .function) (hnames : ∀ y ∈ scope.names, y.2 = .local → scope.names.lookup y.1 = some .local)
    (h : wpAny (model PR w) A first (fun xv s₁' => wpAny (model PR w) A (pyIter xv) (fun it s₂ => ∃ F led, St w s₁ F led s₂ ∧ (∃ L, L ∈ F) ∧ ∀ D C s₃, St w s₁ F ((C, Cell.ns []) :: (D, Cell.list []) :: led) s₃ →
      (∀ s' (Q' : Value → Shared → Prop) (E' : Value → Shared → Prop), s' = s₃ → Q' it s' → wpAny (model PR w) A (pyIter it) Q' E' s') ∧
      ∃ (I : Nat → Shared → Prop) (n : Nat), I n s₃ ∧ ∀ n s, I n s → wpAny (model PR w) A (pyNext it) (Kcomp w A (compEnvC scope cl C env) x elt D I n (fun s' => ∃ m led', St w s₁ F ((C, Cell.ns m) :: led') s' ∧ ∀ s'', St w s₁ F led' s'' → Q (.ref D) s'')) FF s) FF s₁') FF s)
    (hs : ∀ x, foldedSetIterable iter env x = pure x := by intro _; kernel_rfl) :
    wpAny (model PR w) A (comprehension (.ListComp elt [⟨.Name x px, iter, [], 0⟩] scope pos) scope env p0 (newList []) false first) Q E s := by
  refine wpAny_comprehension_free (use := none) rfl hs hclos hkind hnames (wpAny_mono h (fun xv s₁' h₁ => wpAny_mono h₁ (fun it s₂ h₂ => ?_) fun _ _ z => z.elim) fun _ _ z => z.elim)
  obtain ⟨F, led, S, ⟨L, hL⟩, h₂⟩ := h₂
  have S1 := S.alloc (o := { cls := .type "list", data := .seq #[] }) (c := Cell.list []) ⟨0, rfl⟩
  refine wpAny_newObj_type ?_
  refine wpAny_newFunctionEnv hcell (by intro y hy; cases hy) (fun h₀ hn hsb => ?_) hkind
  dsimp only at hn hsb ⊢
  have e0 : (s₂.heap.push { cls := .type "list", dict := none, data := .seq ([] : List Value).toArray }).objs.size = s₂.heap.objs.size + 1 := Heap.size_push ..
  generalize hD : s₂.heap.objs.size = D at S1 e0 hn hsb ⊢
  generalize hH : s₂.heap.push { cls := .type "list", dict := none, data := .seq ([] : List Value).toArray } = H at hn hsb e0 ⊢
  have S1' : St w s₁ F ((D, Cell.list []) :: led) { s₂ with heap := H } := by rw [← hH]; exact S1
  have hCF : H.objs.size ∉ F := fun hm => by
    obtain ⟨_, o, e, _⟩ := S1'.frs _ hm
    exact absurd (Heap.lt_size e) (Nat.lt_irrefl _)
  have hk : ∀ b o, H.get? b = some o → h₀.get? b = some o := fun b o e => hsb.extBut b o (Nat.ne_of_lt (Heap.lt_size e)) (Heap.get?_push_of_some _ e)
  obtain ⟨ob, e, hc, hdd⟩ := Cell.ns_ok (P := w.params) (m := []) hn (fun p hp => by cases hp) List.nodup_nil
  have S2 : St w s₁ F ((D, Cell.list []) :: led) { s₂ with heap := h₀, toks := s₂.toks + ([] : List (Str × Value)).length } := S1'.ext (s' := { s₂ with heap := h₀, toks := s₂.toks + ([] : List (Str × Value)).length }) hk (Nat.le_of_lt (Heap.lt_size e)) S1'.gens rfl
  have S3 := S2.push e hc S1'.size (fun p hp => by obtain ⟨o', e', _⟩ := S1'.at_ p hp; exact Nat.ne_of_lt (Heap.lt_size e')) (fun q => absurd q hCF)
  obtain ⟨hself, I, n, h0, turn⟩ := h₂ D H.objs.size _ S3
  generalize H.objs.size = C at *
  generalize { s₂ with heap := h₀, toks := s₂.toks + ([] : List (Str × Value)).length } = s₃ at *
  have loop : codeAny (model PR w) A (.compLoop (.ListComp elt [⟨.Name x px, iter, [], 0⟩] scope pos) 0 it (.ref D) (compEnvC scope cl C env))
      (compPost (model PR w) A E none Q (.ref D) C) s₃ := by
    refine codeAny_compLoop_list I (fun n s hI => wpAny_mono (turn n s hI) (fun r s₁' h₁ => ?_) fun _ _ z => z.elim) n h0
    cases r with
    | none =>
      obtain ⟨m, led', S', hq⟩ := h₁
      obtain ⟨f, hf, _, _⟩ := Cell.ns_at S' List.mem_cons_self
      refine ⟨f, hf, fun h' hs' => hq _ ?_⟩
      have hnd := S'.nd
      rw [List.map_cons, List.nodup_cons] at hnd
      exact S'.tail.but B (S'.lo _ List.mem_cons_self) (fun p hp e => hnd.1 (List.mem_map.mpr ⟨p, hp, e⟩)) hCF hL (fun b o hb e => hs'.extBut b o hb e) S'.gens rfl
    | some v =>
      exact wpAny_assign_Name (wpAny_mono h₁ (fun _ s₂ h₂ => wpAny_mono h₂ (fun y s₃ h₃ => wpAny_mono h₃ (fun _ s₄ h₄ => h₄) fun _ _ z => z.elim) fun _ _ z => z.elim) fun _ _ z => z.elim)
  exact codeAny_compStart_list loop (hself _ _ _ rfl loop)

theorem c_cwf2 (B : Base w s₁) {env : Env} {pos : Pos} {f : Addr} {o : Obj} {fd : FuncData} {e1 e2 : Expr} {Q : Value → Shared → Prop} (hf : (hd.heap_1 w.params).lookup f = some o) (hfd : o.data = .func fd)
    (h : wpAny (model PR w) A (eval e1 env) (fun v1 s11 => wpAny (model PR w) A (eval e2 env) (fun v2 s12 => SomeSt w s₁ s12 ∧ wpC w A (call (.ref f) [v1, v2]) Q s12) FF s11) FF s)
    (ha : backTo pos (starEach [e1, e2] env) = [(false, eval e1 env), (false, eval e2 env)] := by kernel_rfl) : wpC w A (callWith pos (.ref f) [] (backTo pos (starEach [e1, e2] env)) (backToKw pos (keywordEach [] env))) Q s := by
  rw [ha]
  exact c_cwf rfl (evalArgs_plain (Calls.spliced_cons (wpAny_mono h (fun v1 s11 h1 => Calls.spliced_cons (wpAny_mono h1 (fun v2 s12 h2 => Calls.spliced_nil ⟨fnAt B h2.1 hf hfd, h2.2⟩) fun _ _ x => x)) fun _ _ x => x)))
theorem c_cwf3 (B : Base w s₁) {env : Env} {pos : Pos} {f : Addr} {o : Obj} {fd : FuncData} {e1 e2 e3 : Expr} {Q : Value → Shared → Prop} (hf : (hd.heap_1 w.params).lookup f = some o) (hfd : o.data = .func fd)
    (h : wpAny (model PR w) A (eval e1 env) (fun v1 s11 => wpAny (model PR w) A (eval e2 env) (fun v2 s12 => wpAny (model PR w) A (eval e3 env) (fun v3 s13 => SomeSt w s₁ s13 ∧ wpC w A (call (.ref f) [v1, v2, v3]) Q s13) FF s12) FF s11) FF s)
    (ha : backTo pos (starEach [e1, e2, e3] env) = [(false, eval e1 env), (false, eval e2 env), (false, eval e3 env)] := by kernel_rfl) : wpC w A (callWith pos (.ref f) [] (backTo pos (starEach [e1, e2, e3] env)) (backToKw pos (keywordEach [] env))) Q s := by
  rw [ha]
  exact c_cwf rfl (evalArgs_plain (Calls.spliced_cons (wpAny_mono h (fun v1 s11 h1 => Calls.spliced_cons (wpAny_mono h1 (fun v2 s12 h2 => Calls.spliced_cons (wpAny_mono h2 (fun v3 s13 h3 => Calls.spliced_nil ⟨fnAt B h3.1 hf hfd, h3.2⟩) fun _ _ x => x)) fun _ _ x => x)) fun _ _ x => x)))
theorem cwbv {pos : Pos} {id : String} {r v : Value} {Q : Value → Shared → Prop} (h : wpAny (model PR w) A (call (.builtin id) [r, v]) Q E s) : wpAny (model PR w) A (callWith pos (.builtin id) [r] [(false, pure v)] []) Q E s :=
  callWith_builtin rfl (evalArgs_plain (Calls.spliced_cons (wpAny_pure (Calls.spliced_nil h))))
end
theorem heappop_any {w : World} {s₁ s : Shared} {F : List Addr} {R : Led} {A : Around} {fs : List Env} {E : Value → Shared → Prop} {Q : Value → Shared → Prop} {hp : Addr} {x : It} {rest : List It}
    (B : Base w s₁) (hA : Ar A fs 7) (S : St w s₁ F ((hp, Cell.list ((x :: rest).map It.v)) :: R) s) (hR : ∀ i ∈ x :: rest, i.e ∈ R) (hlen : rest.length < 1000) (H : Ord (x :: rest))
    (h : ∀ its s', its.Perm rest → Ord its → St w s₁ F ((hp, Cell.list (its.map It.v)) :: R) s' → Q (.ref x.a) s') :
    wpAny (model PR w) A (call (.ref 780) [.ref hp]) Q E s := by
  rcases List.eq_nil_or_concat rest with rfl | ⟨mid, last, rfl⟩
  · exact heappop_one B hA S fun s' S' => h [] s' (.refl _) (fun i hi => absurd hi (Nat.not_lt_zero _)) S'
  · have e : x :: mid.concat last = x :: mid ++ [last] := by simp
    rw [e] at S hR H
    rw [List.concat_eq_append] at h hlen
    rw [List.length_append] at hlen
    obtain ⟨h1, h2⟩ := su_spec (its := last :: mid) (new := last) (Nat.succ_pos _) (pop_down H)
    exact heappop_more B hA S hR (Nat.lt_of_le_of_lt (Nat.le_add_right _ _) (Nat.lt_trans hlen (by decide))) fun s' S' => h _ s' (h1.trans (List.perm_append_singleton last mid).symm) h2 S'
theorem heappush_any {w : World} {s₁ s : Shared} {F : List Addr} {R : Led} {A : Around} {fs : List Env} {E : Value → Shared → Prop} {Q : Value → Shared → Prop} {hp : Addr} {its : List It} {new : It}
    (B : Base w s₁) (hA : Ar A fs 5) (S : St w s₁ F ((hp, Cell.list (its.map It.v)) :: R) s) (hR : ∀ i ∈ its, i.e ∈ R) (hnew : new.e ∈ R) (hlen : its.length < 1000) (H : Ord its)
    (h : ∀ its' s', its'.Perm (its ++ [new]) → Ord its' → St w s₁ F ((hp, Cell.list (its'.map It.v)) :: R) s' → Q .none s') :
    wpAny (model PR w) A (call (.ref 773) [.ref hp, .ref new.a]) Q E s :=
  heappush_spec B hA S hR hnew (Nat.lt_trans hlen (by decide)) fun s' S' => h _ s' (push_spec H).1 (push_spec H).2 S'
/-! SW -/
/-- a way: (price, words, text), the words of orders that make the text for the price -/
noncomputable def WayOk (a b : Nat) (pr : Fin 3 → Int) (start : List Nat) (G : Led) (v : Value) : Prop :=
  ∃ (ad wl : Addr) (p : Int) (t : Tok) (x : List Nat) (t' : Tok) (ws : List (Str × Tok)) (ks : List (Fin 3)), v = .ref ad ∧ (ad, Cell.tup [.int p t, .ref wl, .str (mk x) t']) ∈ G ∧ (wl, Cell.list (wv ws)) ∈ G ∧
    ws.map (·.1) = ks.map (fun k => mk (nmk a b k)) ∧ x = act tn ks start ∧ p = cost pr ks
theorem WayOk.mono {a b : Nat} {pr : Fin 3 → Int} {start : List Nat} {G G' : Led} {v : Value} (h : WayOk a b pr start G v) (k : ∀ p ∈ G, p ∈ G') : WayOk a b pr start G' v :=
  let ⟨ad, wl, p, t, x, t', ws, ks, h1, h2, h3, r⟩ := h; ⟨ad, wl, p, t, x, t', ws, ks, h1, k _ h2, k _ h3, r⟩
noncomputable def srN (L : Addr) (nl pl hp d wy : Addr) (start : List Nat) (v0 : Tok) : Addr × Cell := (L, Cell.ns [("ways", .ref wy), ("found", .ref d), ("heap", .ref hp), ("prices", .ref pl), ("names", .ref nl), ("start", .str (mk start) v0)])
/-- between the turns -/
noncomputable def srI (w : World) (s₁ : Shared) (F : List Addr) (R : Led) (pr : Fin 3 → Int) (start : List Nat) (a b : Nat) (hp d wy L nl pl : Addr) (v0 : Tok) (n : Nat) (s : Shared) : Prop :=
  ∃ (ps : List HP) (q : List Q3) (wys : List Value) (G : Led), Sr a b pr start ps q ∧ n = ps.length + 4 * (12 - q.length) ∧ (∀ p ∈ ps, p.1.e ∈ G) ∧ (∀ v ∈ wys, WayOk a b pr start G v) ∧ wys.length = q.length ∧
    St w s₁ (L :: F) ((hp, Cell.list ((ps.map (·.1)).map It.v)) :: (d, Cell.sd (dv q)) :: (wy, Cell.list wys) :: (L, Cell.ns [("ways", .ref wy), ("found", .ref d), ("heap", .ref hp), ("prices", .ref pl), ("names", .ref nl), ("start", .str (mk start) v0)]) :: (G ++ R)) s
/-- the octets of a row, between the turns -/
noncomputable def srO (w : World) (s₁ : Shared) (F : List Addr) (row : List Nat) (tt : Tok) (it Cn D : Addr) (rest : Led) (n : Nat) (s : Shared) : Prop :=
  ∃ (j : Nat) (ns : List (Int × Tok)), j + n = 6 ∧ ns.map (·.1) = (row.take j).map (fun c : Nat => (c : Int)) ∧ St w s₁ F ((it, siC (mk row) tt j) :: (Cn, Cell.ns []) :: (D, Cell.list (il ns)) :: rest) s
theorem byteArr_ob (row : List Nat) : byteArr (row.map fun c : Nat => (c : Int)) = (ob row).toArray := by
  unfold byteArr ob
  simp [Function.comp_def]
/-- between the inner turns -/
noncomputable def srJ (w : World) (s₁ : Shared) (F : List Addr) (R : Led) (pr : Fin 3 → Int) (start : List Nat) (ca cb : Nat) (x : HP) (rest : List (Hi (List Nat))) (q : List Q3) (wys : List Value) (G : Led) (it hp d wy wl L nl pl : Addr) (v0 to : Tok) (n : Nat) (s : Shared) : Prop :=
  ∃ (j : Nat) (ps : List HP) (G' : Led), j + n = 3 ∧ Mid ca cb pr x.2 rest q j ps ∧ (∀ p ∈ ps, p.1.e ∈ G') ∧ (∀ p ∈ G, p ∈ G') ∧
    St w s₁ (L :: F) ((it, riC ((j : Nat) : Int) ((n : Nat) : Int) 1) :: (hp, Cell.list ((ps.map (·.1)).map It.v)) :: (d, Cell.sd (dv q)) :: (wy, Cell.list wys) ::
      (L, Cell.ns [("octets", .bytes (ob x.2.2.2).toArray to), ("words", .ref wl), ("price", .int x.2.1 x.1.t1), ("ways", .ref wy), ("found", .ref d), ("heap", .ref hp), ("prices", .ref pl), ("names", .ref nl), ("start", .str (mk start) v0)]) :: (G' ++ R)) s
theorem c_argE {w : World} {A : Around} {env : Env} {pos : Pos} {f : Value} {first : List Value} {e1 : Expr} {Q : Value → Shared → Prop} {s : Shared}
    (h : wpC w A (eval e1 env) (fun v s' => wpC w A (callWith pos f first [(false, pure v)] []) Q s') s)
    (ha : backTo pos (starEach [e1] env) = [(false, eval e1 env)] := by kernel_rfl) : wpC w A (callWith pos f first (backTo pos (starEach [e1] env)) (backToKw pos (keywordEach [] env))) Q s := by
  rw [ha]
  exact c_arg1 h
theorem kturnC_none {w : World} {A : Around} {env : Env} {x : Str} {body : List Stmt} {I : Nat → Shared → Prop} {n : Nat} {Q : Flow → Shared → Prop} {s : Shared} (h : Q .next s) : KturnC w A env x body I n Q none s := h
theorem kturnC_some {w : World} {A : Around} {env : Env} {x : Str} {body : List Stmt} {I : Nat → Shared → Prop} {n : Nat} {Q : Flow → Shared → Prop} {v : Value} {s : Shared} (h : wpAny (model PR w) A (storeName env x v) (fun _ s₂ => wpC w A (execs body env) (Kloop I n Q) s₂) FF s) : KturnC w A env x body I n Q (some v) s := h
noncomputable def tk3 (k : Fin 3) (a b c : Tok) : Tok := match k with | 0 => a | 1 => b | 2 => c
theorem wd_at (k : Fin 3) {a b c : Tok} : ([.int 2 a, .int 3 b, .int 6 c] : List Value)[((k.val : Nat) : Int).toNat]? = some (.int (wdN k : Nat) (tk3 k a b c)) := by match k with | 0 => rfl | 1 => rfl | 2 => rfl
theorem nmv_at (ca cb : Nat) (t0 t1 t2 : Tok) (k : Fin 3) : (wv (nms ca cb t0 t1 t2))[((k.val : Nat) : Int).toNat]? = some (.str (mk (nmk ca cb k)) (tk3 k t0 t1 t2)) := by match k with | 0 => rfl | 1 => rfl | 2 => rfl
theorem prs_at3 (pr : Fin 3 → Int) (u0 u1 u2 : Tok) (k : Fin 3) : (prs pr u0 u1 u2)[((k.val : Nat) : Int).toNat]? = some (.int (pr k) (tk3 k u0 u1 u2)) := by match k with | 0 => rfl | 1 => rfl | 2 => rfl
/-- the signs of a turned row, between the turns -/
noncomputable def srB (w : World) (s₁ : Shared) (F : List Addr) (row : List Nat) (tb : Tok) (it Cn D : Addr) (rest : Led) (n : Nat) (s : Shared) : Prop :=
  ∃ (j : Nat) (all : List (Str × Tok)), j + n = 6 ∧ all.map (·.1) = (row.take j).map (fun c => (⟨#[c]⟩ : Str)) ∧ St w s₁ F ((it, biC (ob row).toArray tb j) :: (Cn, Cell.ns []) :: (D, Cell.list (wv all)) :: rest) s
theorem line_small {ns : List (List Nat)} (h : ∀ n ∈ ns, Nm n) (hz : ns.length ≤ 12) : (lineOf ns).length < 2 ^ 20 := by
  have h1 := lineL_len ns h
  have h2 : (lineOf ns).length = (lineL ns).length := by rw [← lineOf_list]; simp [Str.length]
  rw [h2]; lia
theorem nmk_nm {ca cb : Nat} (ha : ca ∈ sg) (hb : cb ∈ sg) (k : Fin 3) : Nm (nmk ca cb k) := by
  match k with
  | 0 => exact .inl rfl
  | 1 => exact .inr ⟨ca, ha, .inl rfl⟩
  | 2 => exact .inr ⟨cb, hb, .inr rfl⟩
theorem nmk_all {ca cb : Nat} (ha : ca ∈ sg) (hb : cb ∈ sg) (ks : List (Fin 3)) : ∀ n ∈ ks.map (nmk ca cb), Nm n := fun n hn => by
  obtain ⟨k, _, rfl⟩ := List.mem_map.mp hn
  exact nmk_nm ha hb k
theorem Sr.q11 {a b : Nat} {pr : Fin 3 → Int} {start : List Nat} {q : List Q3} {x : HP} {ps0 : List HP} (H : Sr a b pr start (x :: ps0) q) (hl : start.length = 6) (hnot : x.2.2.2 ∉ (pm q).map (·.1)) : q.length + 1 ≤ 12 := by
  have h := nodup_len (x.2.2.2 :: (pm q).map (·.1)) (twelve.map fun x => x.map fun i => start.getD i 0) (List.nodup_cons.mpr ⟨hnot, H.inv.nd⟩) fun y hy => by
    rcases List.mem_cons.mp hy with rfl | hy
    · rw [(H.inv.it x.2 List.mem_cons_self).2.1, act_base 0 hl]
      exact List.mem_map.mpr ⟨_, in_twelve _, rfl⟩
    · obtain ⟨e, he, rfl⟩ := List.mem_map.mp hy
      obtain ⟨ks, e', _⟩ := (H.inv.best e he).1
      rw [← e', act_base 0 hl]
      exact List.mem_map.mpr ⟨_, in_twelve ks, rfl⟩
  rw [List.length_cons, List.length_map, pm_len, List.length_map, twelve_len] at h
  exact h
theorem ord_one (x : It) : Ord [x] := fun i hi h0 => absurd hi (by simp only [List.length_cons, List.length_nil]; lia)
theorem begin_ok (ca cb : Nat) (pr : Fin 3 → Int) (start : List Nat) (i0 : Addr) (tz tl v0 : Tok) : Sr ca cb pr start [(⟨i0, 0, tz, "", tl, mk start, v0⟩, (0, [], start))] [] :=
  ⟨ord_one _, (fun p hp => by rw [List.mem_singleton] at hp; subst hp; exact ⟨rfl, by kernel_rfl, rfl⟩), Inv.begin, Nat.le_refl _⟩
theorem ord_nil : Ord [] := fun i hi _ => absurd hi (Nat.not_lt_zero i)
theorem search_spec {w : World} {s₁ s : Shared} {F : List Addr} {R : Led} {A : Around} {fs : List Env} {Q : Value → Shared → Prop} {ca cb : Nat} {pr : Fin 3 → Int} {t0 t1 t2 u0 u1 u2 v0 : Tok} {start : List Nat} {nl pl : Addr}
    (B : Base w s₁) (hH : Hole s₁) (hA : Ar A fs 17) (hF : Frs fs F) (S : St w s₁ F R s) (hl : start.length = 6) (hs : ∀ c ∈ start, c < 256) (ha : ca ∈ sg) (hb : cb ∈ sg) (hpos : ∀ k, 0 ≤ pr k)
    (hn : (nl, Cell.list (wv (nms ca cb t0 t1 t2))) ∈ R) (hpl : (pl, Cell.list (prs pr u0 u1 u2)) ∈ R)
    (h : ∀ rt d wy q wys G s', Inv tn pr start (pm q) [] → (∀ v ∈ wys, WayOk ca cb pr start G v) → wys.length ≤ 12 → q.length ≤ 12 → St w s₁ F ((rt, Cell.tup [.ref d, .ref wy]) :: (d, Cell.sd (dv q)) :: (wy, Cell.list wys) :: (G ++ R)) s' → Q (.ref rt) s') :
    wpC w A (call (.ref 799) [.str (mk start) v0, .ref nl, .ref pl]) Q s := by
  revert w s₁ s F R A fs Q ca cb pr t0 t1 t2 u0 u1 u2 v0 start nl pl
  refine @pad _ ?_
  refine @wall22 _ _ _ _ _ _ _ _ _ _ _ _ _ _ _ _ _ _ _ _ _ _ _ (by walk_at "ne") ?_
  generalize k1 _ = w, k2 _ = s₁, k3 _ = s, k4 _ = F, k5 _ = R, k6 _ = A, k7 _ = fs, k8 _ = Q, k9 _ = ca, k10 _ = cb, k11 _ = pr, k12 _ = t0, k13 _ = t1, k14 _ = t2, k15 _ = u0, k16 _ = u1, k17 _ = u2, k18 _ = v0, k19 _ = start, k20 _ = nl, k21 _ = pl
  intro B hH hA hF S hl hs ha hb hpos hn hpl h
  with_reducible refine enterP (m := [("prices", .ref pl), ("names", .ref nl), ("start", .str (mk start) v0)]) B S (by k_is) (hA.room) (bindsK B S (by kernel_rfl)) ?_ (by kernel_rfl) (by kernel_rfl)
  clear S
  refine @wallN _ ?_
  generalize wN _ = L
  intro s hL S
  have hA' := hA.deeper
  have hLF : L ∈ L :: F := List.mem_cons_self
  with_reducible refine c_consA ?_
  repeat walk_at "gol"
  with_reducible refine kseqC_next ?_
  with_reducible refine c_consA ?_
  repeat walk_at "gol"
  with_reducible refine cwf2 B (by k_is) rfl ?_
  repeat walk_at "gol"
  with_reducible refine x_tup3 (w := w) (s₁ := s₁) ?_
  repeat walk_at "gol"
  refine ⟨_, _, S, ?_⟩
  clear S; intro i0 s S
  refine ⟨.of S, ?_⟩
  rename_i tz _ tl _
  replace S := S.pull (a := a) (by walk_at "pull")
  have e0 : (a, Cell.list []) = (a, Cell.list (([] : List It).map It.v)) := rfl
  rw [e0] at S
  with_reducible refine heappush_any (new := ⟨i0, 0, _, "", _, mk start, v0⟩) B ((hA' _).le (by decide)) S (fun i hi => absurd hi List.not_mem_nil) List.mem_cons_self (by decide) ord_nil ?_
  clear S; intro its s hperm hord S
  repeat walk_at "gol"
  with_reducible refine kseqC_next ?_
  with_reducible refine c_consA ?_
  repeat walk_at "gol"
  with_reducible refine d_new S ?_
  clear S; intro d s S
  repeat walk_at "gol"
  with_reducible refine kseqC_next ?_
  with_reducible refine c_consA ?_
  clear e0
  generalize a = hp at S
  repeat walk_at "gol"
  with_reducible refine kseqC_next ?_
  with_reducible refine c_cons ?_
  have hits := List.perm_singleton.mp hperm
  subst hits
  have S0 := (((S.pull (a := L) (by walk_at "pull")).pull (a := a) (by walk_at "pull")).pull (a := d) (by walk_at "pull")).pull (a := hp) (by walk_at "pull")
  have h0 : srI w s₁ F R pr start ca cb hp d a L nl pl v0 49 s := ⟨_, [], [], [_], begin_ok ca cb pr start i0 _ _ v0, rfl, (fun p hp => by rw [List.mem_singleton] at hp; subst hp; exact List.mem_cons_self), (fun v hv => absurd hv List.not_mem_nil), rfl, S0⟩
  with_reducible refine c_while (srI w s₁ F R pr start ca cb hp d a L nl pl v0) 49 h0 ?_
  clear h0 S S0 hord
  generalize a = wy
  repeat clear S
  rintro n s ⟨ps, q, wys, G, H, hn0, hG, hW, hwl, S⟩
  revert d hp wy n s ps q wys G
  refine @pad _ ?_
  refine @wall10 _ _ _ _ _ _ _ _ _ _ _ (by walk_at "ne") ?_
  generalize k1 _ = d, k2 _ = hp, k3 _ = wy, k4 _ = n, k5 _ = s, k6 _ = ps, k7 _ = q, k8 _ = wys, k9 _ = G
  set_option tactic.hygienic false in intros
  rename St _ _ _ _ s => S
  have hq12 := H.q12 hl
  repeat walk_at "gol"
  have hz : ((ps.map (·.1)).map It.v).length < 2 ^ 60 := by have := H.len; rw [List.length_map, List.length_map]; lia
  with_reducible refine l_true S (by walk_at "mem") hz ?_
  clear S; intro s S
  cases ps with
  | nil =>
    refine ⟨(fun hc => by cases hc), fun _ => ?_⟩
    with_reducible refine kseqC_next ?_
    with_reducible refine c_consA ?_
    repeat walk_at "gol"
    refine ⟨_, _, S, ?_⟩
    clear S; intro rt s S
    repeat walk_at "gol"
    with_reducible refine kseqC_ret ?_
    repeat walk_at "gol"
    replace S := S.drop (a := hp) (by walk_at "pull")
    replace S := S.unframe (L := L) (by walk_at "pull")
    exact h _ _ _ _ _ _ _ H.inv hW (by rw [hwl]; exact hq12) hq12 S
  | cons x ps0 =>
    revert s x ps0
    refine @wall3 _ _ _ _ (by walk_at "ne") ?_
    generalize k0 _ = s, k1 _ = x, k2 _ = ps0
    set_option tactic.hygienic false in intros
    rename St _ _ _ _ s => S
    refine ⟨fun _ => ?_, (fun hc => by cases hc)⟩
    have hlen := H.len
    rw [List.length_cons] at hlen
    have hn' : (nl, Cell.list (wv (nms ca cb t0 t1 t2))) ∈ G ++ R := List.mem_append_right _ hn
    have hpl' : (pl, Cell.list (prs pr u0 u1 u2)) ∈ G ++ R := List.mem_append_right _ hpl
    obtain ⟨hx1, hx2, hx3⟩ := H.rep x List.mem_cons_self
    have hxe : (x.1.a, Cell.tup [.int x.2.1 x.1.t1, .str (lineOf (x.2.2.1.map (nmk ca cb))) x.1.t2, .str (mk x.2.2.2) x.1.t3]) ∈ G ++ R := by
      rw [← hx1, ← hx2, ← hx3]
      exact List.mem_append_left _ (hG x List.mem_cons_self)
    obtain ⟨hg1, hg2, hg3⟩ := H.inv.it x.2 List.mem_cons_self
    have hord0 := H.ord
    rw [List.map_cons] at S hord0
    with_reducible refine c_consA ?_
    with_reducible refine PyProof.Rows.Assign_Tuple ?_ (by kernel_rfl) (by kernel_rfl)
    repeat walk_at "gol"
    with_reducible refine cwf1 B (by k_is) rfl ?_
    repeat walk_at "gol"
    refine ⟨.of S, ?_⟩
    with_reducible refine heappop_any (x := x.1) (rest := ps0.map (·.1)) B ((hA' _).le (by decide)) S (fun i hi => ?_) ?_ hord0 ?_
    · obtain ⟨p, hp, rfl⟩ := List.mem_map.mp (show i ∈ (x :: ps0).map (·.1) from hi)
      exact .tail _ (.tail _ (.tail _ (List.mem_append_left _ (hG p hp))))
    · rw [List.length_map]; lia
    clear S; intro its s hperm hord S
    obtain ⟨ps, rfl, hps⟩ := perm_inv hperm ps0 rfl
    revert s ps
    refine @wall2 _ _ _ (by walk_at "ne") ?_
    generalize k0 _ = s, k1 _ = ps
    set_option tactic.hygienic false in intros
    rename St _ _ _ _ s => S
    with_reducible refine u_tup3 B S (hA' _).hnd hLF (by walk_at "mema") ?_
    clear S; intro s S
    repeat walk_at "gol"
    with_reducible refine kseqC_next ?_
    with_reducible refine c_cons ?_
    with_reducible refine c_if ?_
    repeat walk_at "gol"
    have hpsl : ps.length = ps0.length := hps.length_eq
    have hGps : ∀ p ∈ ps, p.1.e ∈ G := fun p hp => hG p (.tail _ (hps.mem_iff.mp hp))
    with_reducible refine d_notin B S (by walk_at "mem") ?_ ?_
    · clear S; intro hin s S
      repeat walk_at "gol"
      with_reducible refine c_any ?_
      repeat walk_at "gol"
      with_reducible refine kseqC_next ?_
      with_reducible refine c_any ?_
      repeat walk_at "gol"
      with_reducible refine kloop_next ⟨n - 1, ?_, ?_⟩
      · rw [hn0, List.length_cons]; lia
      exact ⟨ps, q, wys, G, H.skip hps hord (dv_keys.mp hin), by rw [hn0, List.length_cons, hpsl]; lia, hGps, hW, hwl, S.names (by walk_at "upd") (by walk_at "sub") (nodup_of (by kernel_rfl))⟩
    clear S; intro hin s S
    have hnot : x.2.2.2 ∉ (pm q).map (·.1) := fun hk => hin (dv_keys.mpr hk)
    have hrow : x.2.2.2.length = 6 := by rw [hg2, act_len, hl]
    have hq11 := H.q11 hl hnot
    repeat walk_at "gol"
    with_reducible refine c_consA ?_
    repeat walk_at "gol"
    have hu := upd_new3 x.2.1 x.1.t1 hnot
    with_reducible refine d_set B S (by walk_at "upd") (l₂ := dv (q ++ [(x.2.2.2, x.2.1, x.1.t1)])) (by rw [hu.1]) (by rw [dv, List.length_map]; lia) ?_
    clear S; intro s S
    repeat walk_at "gol"
    with_reducible refine kseqC_next ?_
    with_reducible refine c_consA ?_
    repeat walk_at "gol"
    with_reducible refine cwf1 B (by k_is) rfl ?_
    repeat walk_at "gol"
    refine ⟨.of S, ?_⟩
    have hnl := nmk_all ha hb x.2.2.1
    rw [pm_len] at hg3
    with_reducible refine split_spec B ((hA' _).le (by decide)) (hF.cons (fun hk => by cases hk) rfl) S (lex_lineOf hnl) (by rw [List.length_map]; lia) (line_small hnl (by rw [List.length_map]; lia)) ?_
    clear S; intro wl ws s hws S
    revert wl ws s
    refine @wall3 _ _ _ _ (by walk_at "ne") ?_
    generalize k0 _ = wl, k1 _ = ws, k2 _ = s
    set_option tactic.hygienic false in intros
    rename St _ _ _ _ s => S
    repeat walk_at "gol"
    with_reducible refine kseqC_next ?_
    with_reducible refine c_consA ?_
    repeat walk_at "gol"
    with_reducible refine m_bm PySem.F.plainAttrs_list PySem.F.slot_list_append PySem.F.type_list_append (recv_list S (by walk_at "mem")) ?_
    with_reducible refine cwbm1 ?_
    repeat walk_at "gol"
    with_reducible refine x_tup3 (w := w) (s₁ := s₁) ?_
    repeat walk_at "gol"
    refine ⟨_, _, S, ?_⟩
    clear S; intro wt s S
    revert wt s
    refine @wall2 _ _ _ (by walk_at "ne") ?_
    generalize k0 _ = wt, k1 _ = s
    set_option tactic.hygienic false in intros
    rename St _ _ _ _ s => S
    with_reducible refine l_append B S (by walk_at "upd") (by rw [hwl, sizeLine_eq]; lia) ?_
    clear S; intro s S
    repeat walk_at "gol"
    with_reducible refine kseqC_next ?_
    with_reducible refine c_consA ?_
    repeat walk_at "gol"
    with_reducible refine cwt1 ?_
    with_reducible refine x_comp B (by decide +kernel) (by decide +kernel) (by kernel_rfl) (by decide +kernel) ?_
    repeat walk_at "gol"
    with_reducible refine s_iter S ?_
    clear S; intro it s S
    refine ⟨_, _, S, ⟨L, hLF⟩, ?_⟩
    clear S; intro D Cn s S
    refine ⟨?_, ?_⟩
    · rintro s' Q' E' rfl hq
      exact si_self S (by walk_at "mem") hq
    replace S := S.pull (a := it) (by walk_at "pull")
    refine ⟨srO w s₁ (L :: F) x.2.2.2 x.1.t3 it Cn D _, 6, ⟨0, [], rfl, rfl, S⟩, ?_⟩
    clear S
    repeat clear S
    rintro m s ⟨j, ns, hj, hns, S⟩
    revert it D Cn m s j ns
    refine @pad _ ?_
    refine @wall8 _ _ _ _ _ _ _ _ _ (by walk_at "ne") ?_
    generalize k1 _ = it, k2 _ = D, k3 _ = Cn, k4 _ = m, k5 _ = s, k6 _ = j, k7 _ = ns
    set_option tactic.hygienic false in intros
    rename St _ _ _ _ s => S
    by_cases hm : m = 0
    · subst hm
      have hj : j = 6 := by lia
      subst hj
      rw [List.take_of_length_le (by lia)] at hns
      with_reducible refine si_end B S (hA' _).hnd (by walk_at "pull") hLF (by simp [mk, hrow]) ?_
      clear S; intro s S
      refine ⟨_, _, S, ?_⟩
      clear S; intro s S
      with_reducible refine c_bytes S (by walk_at "mem") (hA' _).hnd hLF ?_ ?_ ?_
      · intro e he
        have he := List.mem_map_of_mem (f := fun e : Int × Tok => e.1) he
        rw [hns] at he
        obtain ⟨c, hc, e'⟩ := List.mem_map.mp he
        have hc2 := hs c (act_mem x.2.2.1 start c (by rw [← hg2]; exact hc))
        lia
      · have := congrArg List.length hns
        simp only [List.length_map] at this
        lia
      rw [hns, byteArr_ob]
      clear S; intro to s S
      revert to s
      refine @wall2 _ _ _ (by walk_at "ne") ?_
      generalize k0 _ = to, k1 _ = s
      set_option tactic.hygienic false in intros
      rename St _ _ _ _ s => S
      repeat walk_at "gol"
      replace S := S.drop (a := D) (by walk_at "pull")
      replace S := (((S.pull (a := L) (by walk_at "pull")).pull (a := wy) (by walk_at "pull")).pull (a := d) (by walk_at "pull")).pull (a := hp) (by walk_at "pull")
      replace S := S.names (m' := [("octets", .bytes (ob x.2.2.2).toArray to), ("words", .ref wl), ("price", .int x.2.1 x.1.t1), ("ways", .ref wy), ("found", .ref d), ("heap", .ref hp), ("prices", .ref pl), ("names", .ref nl), ("start", .str (mk start) v0)]) (by walk_at "upd") (by walk_at "sub") (nodup_of (by kernel_rfl))
      obtain ⟨G2, hG2⟩ : ∃ G2 : Led, G2 = (wt, Cell.tup [.int x.2.1 x.1.t1, .ref wl, .str (mk x.2.2.2) x.1.t3]) :: (wl, Cell.list (wv ws)) :: G := ⟨_, rfl⟩
      have eG : (wt, Cell.tup [.int x.2.1 x.1.t1, .ref wl, .str (mk x.2.2.2) x.1.t3]) :: (wl, Cell.list (wv ws)) :: (G ++ R) = G2 ++ R := by rw [hG2]; rfl
      rw [eG] at S
      have hwl2 : (wl, Cell.list (wv ws)) ∈ G2 := by rw [hG2]; exact .tail _ (.head _)
      have hwt2 : (wt, Cell.tup [.int x.2.1 x.1.t1, .ref wl, .str (mk x.2.2.2) x.1.t3]) ∈ G2 := by rw [hG2]; exact .head _
      have hGG : ∀ p ∈ G, p ∈ G2 := fun p hp => by rw [hG2]; exact .tail _ (.tail _ hp)
      clear eG hG2
      replace S := S
      revert s G2
      refine @wall2 _ _ _ (by walk_at "ne") ?_
      generalize k0 _ = s, k1 _ = G2
      set_option tactic.hygienic false in intros
      rename St _ _ _ _ s => S
      with_reducible refine kseqC_next ?_
      with_reducible refine c_cons ?_
      with_reducible refine c_for ?_
      repeat walk_at "gol"
      with_reducible refine cwt1 ?_
      repeat walk_at "gol"
      with_reducible refine rg1 S ?_
      clear S; intro r r0 r1 r2 s S
      with_reducible refine rg_iter S (by walk_at "mem") (by decide +kernel) ?_
      clear S; intro it3 s S
      replace S := S.drop (a := r) (by walk_at "pull")
      refine ⟨srJ w s₁ F R pr start ca cb x (ps0.map (·.2)) (q ++ [(x.2.2.2, x.2.1, x.1.t1)]) (wys ++ [Value.ref wt]) G2 it3 hp d wy wl L nl pl v0 to, 3, ⟨0, ps, G2, rfl, H.begin hps hord, fun p hp => hGG _ (hGps p hp), fun p hp => hp, S⟩, ?_⟩
      clear S
      repeat clear S
      rintro k s ⟨j, ps, G', hj, M, hG', hGG', S⟩
      revert r r0 r1 r2 it3 k s j ps G'
      refine @wall10 _ _ _ _ _ _ _ _ _ _ _ (by walk_at "ne") ?_
      generalize k0 _ = r, k1 _ = r0, k2 _ = r1, k3 _ = r2, k4 _ = it3, k5 _ = k, k6 _ = s, k7 _ = j, k8 _ = ps, k9 _ = G'
      set_option tactic.hygienic false in intros
      rename St _ _ _ _ s => S
      by_cases hk : k = 0
      · subst hk
        have hj : j = 3 := by lia
        subst hj
        with_reducible refine ri_end B (hA' _).hnd S (by walk_at "pull") hLF (by decide) ?_
        clear S; intro s S
        with_reducible refine kturnC_none ?_
        with_reducible refine kseqC_next ?_
        with_reducible refine c_any ?_
        repeat walk_at "gol"
        with_reducible refine kseqC_next ?_
        with_reducible refine c_any ?_
        repeat walk_at "gol"
        have H' := H.take hpos hnot M
        have hM := M.len
        rw [List.length_map] at hM
        with_reducible refine kloop_next ⟨ps.length + 4 * (12 - (q ++ [(x.2.2.2, x.2.1, x.1.t1)]).length), ?_, ?_⟩
        · rw [hn0, List.length_cons, List.length_append, List.length_singleton]; lia
        refine ⟨ps, _, wys ++ [Value.ref wt], G', H', rfl, hG', fun v hv => ?_, by rw [List.length_append, List.length_append, hwl]; rfl, S.names (by walk_at "upd") (by walk_at "sub") (nodup_of (by kernel_rfl))⟩
        rcases List.mem_append.mp hv with hv | hv
        · exact (hW v hv).mono fun p hp => hGG' _ (hGG _ hp)
        · rw [List.mem_singleton] at hv
          subst hv
          exact ⟨wt, wl, _, _, _, _, ws, x.2.2.1, rfl, hGG' _ hwt2, hGG' _ hwl2, by rw [hws, List.map_map]; rfl, hg2, hg1⟩
      · obtain ⟨kf, hkf⟩ : ∃ kf : Fin 3, kf.val = j := ⟨⟨j, by lia⟩, rfl⟩
        subst hkf
        with_reducible refine ri_item B S (by walk_at "upd") (by lia) ?_
        clear S; intro tk s S
        with_reducible refine kturnC_some ?_
        repeat walk_at "gol"
        with_reducible refine c_cons ?_
        with_reducible refine c_assign ?_ (by kernel_rfl)
        with_reducible refine c_attr1 ?_ (by kernel_rfl)
        repeat walk_at "gol"
        with_reducible refine c_bm PySem.F.plainAttrs_str PySem.F.slot_str_join PySem.F.type_str_join recv_str ?_
        replace S := S
        revert t s
        refine @wall2 _ _ _ (by walk_at "ne") ?_
        generalize k0 _ = uj, k1 _ = s
        set_option tactic.hygienic false in intros
        rename St _ _ _ _ s => S
        with_reducible refine c_argE ?_
        with_reducible refine c_comp ?_
        with_reducible refine c_callName ?_
        repeat walk_at "gol"
        with_reducible refine c_cwf2 B (by k_is) rfl ?_
        repeat walk_at "gol"
        with_reducible refine l_getK S (by walk_at "mem") (k_lt _).1 (k_lt _).2 (wd_at kf) ?_
        refine ⟨.of S, ?_⟩
        with_reducible refine byteswap_spec (k := kf) B ((hA' _).le (by decide)) S hrow rfl ?_
        clear S; intro tb s S
        replace S := S.drop (a := a) (by walk_at "pull")
        with_reducible refine x_compG B (cl := []) (by kernel_rfl) (by decide +kernel) (by kernel_rfl) (by decide +kernel) ?_
        with_reducible refine wpAny_pure ?_
        with_reducible refine b_iter S ?_
        clear S; intro it s S
        refine ⟨_, _, S, ⟨L, hLF⟩, ?_⟩
        clear S; intro D Cn s S
        refine ⟨?_, ?_⟩
        · rintro s' Q' E' rfl hq
          exact bi_self S (by walk_at "mem") hq
        replace S := S.pull (a := it) (by walk_at "pull")
        have hrow' : (tn kf x.2.2.2).length = 6 := by rw [tn_len, hrow]
        refine ⟨srB w s₁ (L :: F) (tn kf x.2.2.2) tb it Cn D _, 6, ⟨0, [], rfl, rfl, S⟩, ?_⟩
        clear S
        repeat clear S
        rintro m s ⟨i, all, hi, hall, S⟩
        revert it D Cn m s i all
        refine @pad _ ?_
        refine @wall8 _ _ _ _ _ _ _ _ _ (by walk_at "ne") ?_
        generalize k1 _ = it, k2 _ = D, k3 _ = Cn, k4 _ = m, k5 _ = s, k6 _ = i, k7 _ = all
        set_option tactic.hygienic false in intros
        rename St _ _ _ _ s => S
        by_cases hm : m = 0
        · subst hm
          have hi : i = 6 := by lia
          subst hi
          rw [List.take_of_length_le (by lia)] at hall
          with_reducible refine bi_end B S (hA' _).hnd (by walk_at "pull") hLF (by simp [ob, hrow']) ?_
          clear S; intro s S
          refine ⟨_, _, S, ?_⟩
          clear S; intro s S
          with_reducible refine c_any ?_
          with_reducible refine cwbv ?_
          with_reducible refine s_join0 S (by walk_at "mem") hall hrow' ?_
          clear S; intro tt s S
          replace S := S.drop (a := D) (by walk_at "pull")
          repeat walk_at "gol"
          with_reducible refine kseqC_next ?_
          with_reducible refine c_cons ?_
          with_reducible refine c_if ?_
          repeat walk_at "gol"
          have e1 : ((kf.val : Nat) : Int) + 1 = ((kf.val + 1 : Nat) : Int) := by lia
          have e2 : ((k : Nat) : Int) - 1 = ((k - 1 : Nat) : Int) := by lia
          rw [e1, e2] at S
          have hk1 : kf.val + 1 + (k - 1) = 3 := by lia
          have hkk : k - 1 < k := by lia
          with_reducible refine d_notin B S (by walk_at "mem") ?_ ?_
          · clear S; intro hin2 s S
            repeat walk_at "gol"
            with_reducible refine c_any ?_
            repeat walk_at "gol"
            with_reducible refine kseqC_next ?_
            with_reducible refine c_any ?_
            repeat walk_at "gol"
            with_reducible refine kloop_next ⟨k - 1, hkk, ?_⟩
            exact ⟨kf.val + 1, ps, G', hk1, M.skip rfl (dv_keys.mp hin2), hG', hGG', S.names (by walk_at "upd") (by walk_at "sub") (nodup_of (by kernel_rfl))⟩
          · clear S; intro hin2 s S
            repeat walk_at "gol"
            with_reducible refine c_consA ?_
            repeat walk_at "gol"
            with_reducible refine cwf2 B (by k_is) rfl ?_
            repeat walk_at "gol"
            with_reducible refine x_tup3 (w := w) (s₁ := s₁) ?_
            repeat walk_at "gol"
            have hn2 : (nl, Cell.list (wv (nms ca cb t0 t1 t2))) ∈ G' ++ R := List.mem_append_right _ hn
            have hpl2 : (pl, Cell.list (prs pr u0 u1 u2)) ∈ G' ++ R := List.mem_append_right _ hpl
            have hwl3 : (wl, Cell.list (wv ws)) ∈ G' ++ R := List.mem_append_left _ (hGG' _ hwl2)
            with_reducible refine l_getK S (by walk_at "mema") (k_lt _).1 (k_lt _).2 (prs_at3 pr u0 u1 u2 kf) ?_
            repeat walk_at "gol"
            with_reducible refine cwf1 B (by k_is) rfl ?_
            repeat walk_at "gol"
            with_reducible refine l_getK S (by walk_at "mema") (k_lt _).1 (k_lt _).2 (nmv_at ca cb t0 t1 t2 kf) ?_
            repeat walk_at "gol"
            have hwsl : ws.length = x.2.2.1.length := by simpa using congrArg List.length hws
            with_reducible refine l_add S (by walk_at "mema") (by walk_at "mem") (by simp only [wv, List.length_map, List.length_cons, List.length_nil]; lia) ?_
            clear S; intro wl2 s S
            have ew : wv ws ++ [Value.str (mk (nmk ca cb kf)) (tk3 kf t0 t1 t2)] = wv (ws ++ [(mk (nmk ca cb kf), tk3 kf t0 t1 t2)]) := by simp [wv]
            rw [ew] at S
            refine ⟨.of S, ?_⟩
            have hws2 : (ws ++ [(mk (nmk ca cb kf), tk3 kf t0 t1 t2)]).map (·.1) = ((x.2.2.1 ++ [kf]).map (nmk ca cb)).map mk := by rw [List.map_append, hws, List.map_append, List.map_append]; rfl
            with_reducible refine join_spec B hH ((hA' _).le (by decide)) S List.mem_cons_self hws2 (nmk_all ha hb _) (by rw [List.length_map, List.length_append, List.length_singleton]; lia) ?_
            clear S; intro tl s S
            repeat walk_at "gol"
            refine ⟨_, _, S, ?_⟩
            clear S; intro nt s S
            refine ⟨.of S, ?_⟩
            replace S := S.pull (a := hp) (by walk_at "pull")
            have hpsn : ps.length < 1000 := by have := M.len; rw [List.length_map] at this; have := kf.isLt; lia
            with_reducible refine heappush_any (new := ⟨nt, x.2.1 + pr kf, _, lineOf ((x.2.2.1 ++ [kf]).map (nmk ca cb)), tl, mk (tn kf x.2.2.2), tt⟩) B ((hA' _).le (by decide)) S ?_ List.mem_cons_self (by rw [List.length_map]; exact hpsn) M.ord ?_
            · intro i hi
              obtain ⟨p, hp, rfl⟩ := List.mem_map.mp hi
              have := List.mem_append_left R (hG' p hp)
              walk_at "mema"
            clear S; intro its s hperm2 hord2 S
            repeat walk_at "gol"
            with_reducible refine kseqC_next ?_
            with_reducible refine c_any ?_
            repeat walk_at "gol"
            with_reducible refine kseqC_next ?_
            with_reducible refine c_any ?_
            repeat walk_at "gol"
            replace S := S.drop (a := wl2) (by walk_at "pull")
            replace S := S.drop (a := a) (by walk_at "pull")
            replace S := ((((S.pull (a := L) (by walk_at "pull")).pull (a := wy) (by walk_at "pull")).pull (a := d) (by walk_at "pull")).pull (a := hp) (by walk_at "pull")).pull (a := it3) (by walk_at "pull")
            obtain ⟨ps2, rfl, hps2, M2⟩ := M.push rfl (new := ⟨nt, x.2.1 + pr kf, _, lineOf ((x.2.2.1 ++ [kf]).map (nmk ca cb)), tl, mk (tn kf x.2.2.2), tt⟩) ⟨rfl, rfl, rfl⟩ hperm2 hord2
            with_reducible refine kloop_next ⟨k - 1, hkk, ?_⟩
            replace S := S.names (m' := [("octets", .bytes (ob x.2.2.2).toArray to), ("words", .ref wl), ("price", .int x.2.1 x.1.t1), ("ways", .ref wy), ("found", .ref d), ("heap", .ref hp), ("prices", .ref pl), ("names", .ref nl), ("start", .str (mk start) v0)]) (by walk_at "upd") (by walk_at "sub") (nodup_of (by kernel_rfl))
            refine ⟨kf.val + 1, ps2, (nt, _) :: G', hk1, M2, fun p hp => ?_, fun p hp => .tail _ (hGG' p hp), S⟩
            rcases hps2 p hp with h1 | h1
            · rw [h1]; exact .head _
            · exact .tail _ (hG' p h1)
        · have hil : i < (tn kf x.2.2.2).length := by lia
          have hc256 : (tn kf x.2.2.2)[i] < 256 := hs _ (act_mem x.2.2.1 start _ (by rw [← hg2]; exact tn_mem kf _ _ (List.getElem_mem hil)))
          have hit : (ob (tn kf x.2.2.2)).toArray[i]? = some (Nat.toUInt8 (tn kf x.2.2.2)[i]) := by simp [ob, hil]
          have hback : ((Nat.toUInt8 (tn kf x.2.2.2)[i]).toNat : Int).toNat = (tn kf x.2.2.2)[i] := by
            rw [Int.toNat_natCast]; simp [Nat.toUInt8, Nat.mod_eq_of_lt hc256]
          have hlt : (Nat.toUInt8 (tn kf x.2.2.2)[i]).toNat < 256 := (Nat.toUInt8 (tn kf x.2.2.2)[i]).toNat_lt
          with_reducible refine bi_item B S (by walk_at "upd") hit ?_
          clear S; intro ti s S
          with_reducible refine kcomp_some ?_
          dsimp only [compEnvC, relabel]
          repeat walk_at "gol"
          with_reducible refine cwb1 ?_
          repeat walk_at "gol"
          with_reducible refine c_chr S (by lia) (by lia) ?_
          rw [hback]
          clear S; intro tc s S
          have ew : wv all ++ [Value.str ⟨#[(tn kf x.2.2.2)[i]]⟩ tc] = wv (all ++ [(⟨#[(tn kf x.2.2.2)[i]]⟩, tc)]) := by simp [wv]
          with_reducible refine l_append B S (by walk_at "upd") (by have := congrArg List.length hall; simp [wv] at this ⊢; rw [sizeLine_eq]; lia) ?_
          rw [ew]
          clear S; intro s S
          refine ⟨m - 1, by lia, i + 1, all ++ [(⟨#[(tn kf x.2.2.2)[i]]⟩, tc)], by lia, ?_, S.names (by walk_at "upd") (by walk_at "sub") (nodup_of (by kernel_rfl))⟩
          rw [List.map_append, hall, List.take_succ_eq_append_getElem hil, List.map_append]
          rfl
    · have hjl : j < x.2.2.2.length := by lia
      have hit : (mk x.2.2.2).cps[j]? = some x.2.2.2[j] := by simp [mk, hjl]
      with_reducible refine si_item B S (by walk_at "upd") hit ?_
      clear S; intro tc s S
      with_reducible refine kcomp_some ?_
      dsimp only [compEnv0]
      repeat walk_at "gol"
      with_reducible refine cwb1 ?_
      repeat walk_at "gol"
      with_reducible refine c_ord S ?_
      clear S; intro ti s S
      have ew : il ns ++ [Value.int ((x.2.2.2[j] : Nat) : Int) ti] = il (ns ++ [(((x.2.2.2[j] : Nat) : Int), ti)]) := by simp [il]
      with_reducible refine l_append B S (by walk_at "upd") (by have := congrArg List.length hns; simp [il] at this ⊢; rw [sizeLine_eq]; lia) ?_
      rw [ew]
      clear S; intro s S
      refine ⟨m - 1, by lia, j + 1, ns ++ [(((x.2.2.2[j] : Nat) : Int), ti)], by lia, ?_, S.names (by walk_at "upd") (by walk_at "sub") (nodup_of (by kernel_rfl))⟩
      rw [List.map_append, hns, List.take_succ_eq_append_getElem hjl, List.map_append]
      rfl
/-! LR -/
section
variable {w : World} {s₁ s : Shared} {F : List Addr} {led led' : Led} {A : Around} {E : Value → Shared → Prop}
/-- calls of defs with one captured name, on the path -/
theorem enterPC (B : Base w s₁) (S : St w s₁ F led s) {f : Addr} {oc : Value} {od : Option Addr} {osl : Array (Option Value)} {nm qn : Str} {ps : Arguments} {body : List Stmt} {sc : Scope} {dV kV doc pm : Value} {an : Option Addr} {cdv ct : Value}
    {pos : List Value} (m : List (Str × Value)) (y : Str) (cv : Option Value) {binds : List (Str × Value)} {Q : Value → Shared → Prop}
    (hf : (hd.heap_1 w.params).lookup f = some ⟨oc, od, .func ⟨nm, qn, ps, .stmts body, sc, mainGlobals, [], dV, kV, doc, pm, an, cdv, ct, builtinsNs⟩, osl⟩)
    (hroom : A.depth < recursionLimit)
    (hbind : bindArgs ⟨nm, qn, ps, .stmts body, sc, mainGlobals, [], dV, kV, doc, pm, an, cdv, ct, builtinsNs⟩ ⟨pos, []⟩ = pure binds)
    (hcs : ∀ n, cellsFrom n sc.names [] = [(y, n)])
    (hkind : ∀ x ∈ binds, sc.names.lookup x.1 = some .local ∨ (sc.names.lookup x.1 = some .cell ∧ x.1 = y))
    (hm : ∀ p ∈ m, bindL (fun n => sc.names.lookup n) binds (fun _ => none) p.1 = some p.2) (hnd : (Keys m).Nodup) (hcv : bindC (fun n => sc.names.lookup n) binds (fun _ => none) y = cv)
    (h : ∀ L C s', s₁.heap.objs.size ≤ L → St w s₁ (L :: F) ((L, Cell.ns m) :: (C, Cell.cel cv) :: led) s' →
      wpC w (A.deeper ⟨sc, L, mainGlobals, [(y, C)], qn ++ ".<locals>.", some f, cdv, some L, builtinsNs⟩) (execs body ⟨sc, L, mainGlobals, [(y, C)], qn ++ ".<locals>.", some f, cdv, some L, builtinsNs⟩) (Kret Q) s')
    (hcd : codeIn (hd.heap_1 w.params) cdv qn = true) (hco : sc.isCoroutine = false) (hgen : sc.isGenerator = false) (hk : sc.kind = .function) :
    wpC w A (call (.ref f) pos) Q s := by
  have K := S.K B
  refine c_call (codeC_function hroom (K _ _ hf) rfl hco hgen rfl (codeRec_of K hcd) ?_)
  rw [hbind]
  refine wpAny_pure (wpAny_newFunctionEnv_cells hk (fun x hx => ?_) fun env he s' x => ?_)
  · rcases hkind x hx with h1 | ⟨h1, h2⟩
    · exact .inl h1
    · refine .inr ⟨h1, ?_⟩
      rw [hcs, h2]; simp
  · rw [hcs] at he
    subst he
    have hlim := (S.lim B).keeps x.toInCall.keep
    refine ⟨hlim, codeC_func ?_⟩
    obtain ⟨⟨⟨h', tk, hs'⟩, hns, hkeep, _⟩, hcell, _, _⟩ := x
    obtain ⟨oC, eC, dC⟩ := hcell y (s.heap.objs.size + 1) (by show List.lookup y [(y, s.heap.objs.size + 1)] = _; rw [List.lookup_cons, beq_self_eq_true])
    obtain ⟨ob, e, hc, hdd⟩ := Cell.ns_ok (P := w.params) (m := m) hns hm hnd
    subst hs'
    have S1 : St w s₁ F led { s with heap := h', toks := tk } := S.ext (s' := { s with heap := h', toks := tk }) hkeep (Nat.le_of_lt (Heap.lt_size e)) S.gens rfl
    have nF : ∀ b, s.heap.objs.size ≤ b → b ∉ F := fun b hb hm => by
      obtain ⟨_, o, e', _⟩ := S.frs _ hm
      exact absurd (Heap.lt_size e') (Nat.not_lt.mpr hb)
    have nl : ∀ b, s.heap.objs.size ≤ b → ∀ p ∈ led, p.1 ≠ b := fun b hb p hp e' => by
      obtain ⟨o', e'', _⟩ := S.at_ p hp
      exact absurd (Heap.lt_size e'') (Nat.not_lt.mpr (e' ▸ hb))
    have S2 := S1.push (c := Cell.cel cv) eC (by rw [← hcv]; exact dC) (Nat.le_succ_of_le S.size) (nl _ (Nat.le_succ _)) (fun q => absurd q (nF _ (Nat.le_succ _)))
    have S3 := S2.push e hc S.size (fun p hp => by
      rcases List.mem_cons.mp hp with rfl | hp
      · exact Nat.succ_ne_self _
      · exact nl _ (Nat.le_refl _) p hp) (fun _ => rfl)
    refine h _ _ _ S.size ⟨S3.old, S3.tab, S3.os, S3.gens, S3.size, S3.at_, S3.nd, S3.lo, fun g hg => ?_, fun p hp hg => ?_⟩
    · rcases List.mem_cons.mp hg with rfl | hg
      · exact ⟨S.size, ob, e, hdd⟩
      · exact S3.frs g hg
    · rcases List.mem_cons.mp hg with e' | hg
      · rcases List.mem_cons.mp hp with rfl | hp
        · rfl
        · rcases List.mem_cons.mp hp with rfl | hp
          · exact absurd e' (Nat.succ_ne_self _)
          · exact absurd e' (nl _ (Nat.le_refl _) p hp)
      · exact S3.fns p hp hg
/-- a captured name stored -/
theorem stc (B : Base w s₁) (S : St w s₁ F led s) {M : Model} {sc : Scope} {L g : Addr} {cs : List (Str × Addr)} {q : Str} {fn : Option Addr} {cd : Value} {fr : Option Addr} {b C : Addr} {x : Str} {v : Value} {v0 : Option Value} {Q : Unit → Shared → Prop}
    (hm : Upd led C (Cell.cel v0) (Cell.cel (some v)) led') (h : ∀ s', St w s₁ F led' s' → Q () s')
    (hk : sc.kind = .function := by rfl) (hl : Env.kindOf ⟨sc, L, g, cs, q, fn, cd, fr, b⟩ x = some .cell := by kernel_rfl) (hc : cs.lookup x = some C := by kernel_rfl) :
    wpAny M A (storeName ⟨sc, L, g, cs, q, fn, cd, fr, b⟩ x v) Q E s := by
  obtain ⟨o, e, r⟩ := S.at_ _ hm.mem
  refine wpAny_storeName_cell hk hl hc ⟨o, e, r⟩ fun h' hc' hs => ?_
  obtain ⟨o', e', r'⟩ := hc'
  exact h _ (S.same B hm hs e' r' (fun o2 e2 hd2 => by
    rw [e] at e2; cases e2
    rw [show o.data = .cell v0 from r] at hd2; cases hd2) s.toks)
/-- for a, b, c in a list of triples -/
theorem x_forT {elts : List Expr} {k : Nat} {tp pos : Pos} {iter : Expr} {body : List Stmt} {env : Env} {Q : Flow → Shared → Prop}
    (h : wpAny (model PR w) A (eval iter env) (fun xv s₁ => wpAny (model PR w) A (pyIter xv) (fun it s₂ => ∃ (I0 l : Addr) (I : Nat → Shared → Prop) (n : Nat), it = .ref I0 ∧ I n s₂ ∧
      ∀ n s, I n s → wpAny (model PR w) A (pyNext it) (fun r s' => match r with
        | none => Q .next s'
        | some v => ∃ i T, (v = .ref T ∧ s'.heap.IsListIter I0 l i) ∧ wpAny (model PR w) A (assign (.Tuple elts k tp) env v) (fun _ s₂ => wpAny (model PR w) A (execs body env) (Kloop I n Q) FF s₂) FF s') FF s) FF s₁) FF s)
    (hs : ∀ x, foldedSetIterable iter env x = pure x := by intro _; kernel_rfl) :
    wpAny (model PR w) A (exec (.For (.Tuple elts k tp) iter body [] pos) env) Q E s := by
  refine wpAny_For (wpAny_mono h (fun xv s₁ h₁ => wpAny_mono h₁ (fun it s₂ h₂ => ?_) fun _ _ z => z.elim) fun _ _ z => z.elim) hs
  obtain ⟨I0, l, I, n, rfl, h0, turn⟩ := h₂
  refine codeAny_forLoop_any I (fun n s hI => wpAny_mono (turn n s hI) (fun r s₁ h₁ => ?_) fun _ _ z => z.elim) n h0
  cases r with
  | none => exact wpAny_execs_nil h₁
  | some v =>
    obtain ⟨i, T, ⟨rfl, hit⟩, h₁⟩ := h₁
    refine wpAny_letOwnedTupleGo_listiter hit (wpAny_mono h₁ (fun _ s₂ h₂ => wpAny_mono h₂ (fun f s₃ h₃ => ?_) fun _ _ z => z.elim) fun _ _ z => z.elim)
    cases f <;> exact h₃
/-! slices of lists -/
theorem x_sliceU {M : Model} {env : Env} {up : Expr} {p : Pos} {Q : Value → Shared → Prop}
    (h : wpAny M A (eval up env) (fun u s₂ => ∃ F led, St w s₁ F led s₂ ∧ ∀ a s', St w s₁ F ((a, Cell.fld "slice" #[.none, u, .none]) :: led) s' → Q (.ref a) s') E s) :
    wpAny M A (eval (.Slice none (some up) none p) env) Q E s := by
  refine wpAny_Slice ?_
  rw [evalPart_some, evalPart_none]
  refine wpAny_pure (wpAny_mono h (fun u s₂ h₂ => wpAny_pure ?_) fun _ _ x => x)
  obtain ⟨F, led, S, hq⟩ := h₂
  exact hq _ _ (S.alloc rfl)
theorem l_upto (S : St w s₁ F led s) {value slice : Expr} {l a : Addr} {vs : List Value} {k : Nat} {i : Int} {t : Tok} {Q : Value → Shared → Prop} (hl : s.heap.IsList l vs.toArray) (hz : vs.length ≤ 1000) (hm : (a, Cell.fld "slice" #[.none, .int i t, .none]) ∈ led) (hk : i = (k : Int))
    (h : ∀ c s', St w s₁ F ((c, Cell.list (vs.take k)) :: led) s' → Q (.ref c) s')
    (hs : subscripted slice false (.ref l) (.ref a) = operate [.ref a, .ref l] (getItem (.ref l) (.ref a)) := by kernel_rfl) :
    wpAny (model PR w) A (subscriptTail value slice (.ref l) (.ref a)) Q E s := by
  obtain ⟨o, e, rfl⟩ := S.at_ _ hm
  subst hk
  have hsz : (1000 : Nat) ≤ sizeLine := by decide
  refine tail_any hl.typeIs slot_list_getitem.lookup (wpAny_getItem_list_slice (lo := none) (hi := some (k : Int)) (st := none) hl ⟨_, e, rfl, rfl⟩ .none (.int _ _) .none (by intro q; cases q) ?_ (by rw [List.size_toArray]; lia)) hs
  rw [slicePick_upto']
  exact h _ _ (S.alloc ⟨0, rfl⟩)
theorem l_rep (S : St w s₁ F led s) {l : Addr} {v : Value} {u : Tok} {Q : Value → Shared → Prop} (hm : (l, Cell.list [v]) ∈ led)
    (h : ∀ c s', St w s₁ F ((c, Cell.list (List.replicate 11 v)) :: led) s' → Q (.ref c) s') : wpAny (model PR w) A (binaryOp .Mult (.ref l) (.int 11 u)) Q E s := by
  obtain ⟨n, e⟩ := list_at S hm
  refine wpAny_binaryOp_repeat_ref (T := "list") (U := "int") (by decide) ⟨_, e, rfl⟩ (fun s' => typeIs_int s' 11 u) noFill_list_mul PySem.F.fills_int_mul PySem.F.slot_int_rmul repeat_list PySem.F.slot_int_index.lookup
    (call_meets PySem.F.slot_int_rmul (typeIs_int s 11 u) PySem.F.entry_int_rmul (PySem.F.args_int_rmul_2 _ _) (int___rmul___int_list 11 u l [v].toArray n)
      ⟨e, rfl, ⟨_, e, rfl⟩, call_meets PySem.F.slot_list_mul ⟨_, e, rfl⟩ PySem.F.entry_list_mul (PySem.F.args_list_mul_2 _ _)
        (AutoListH.list___mul___list_int_3 l [v].toArray n 11 u (by simp [Builtin.List.listFitsIndex]) (by show ¬ 1 * 11 > _; decide) (by simp [Builtin.List.listTooLong, sizeLine]))
        ⟨e, ?_⟩⟩)
  exact h _ _ (S.alloc (c := Cell.list (List.replicate 11 v)) ⟨0, rfl⟩)
theorem s_twice (S : St w s₁ F led s) {c : Nat} {t u : Tok} {Q : Value → Shared → Prop} (h : ∀ t s', St w s₁ F led s' → Q (.str (mk [c, c]) t) s') : wpAny (model PR w) A (binaryOp .Mult (.str ⟨#[c]⟩ t) (.int 2 u)) Q E s := by
  show wpAny (model PR w) A (binaryOp .Mult (.str (mk [c]) t) (.int 2 u)) Q E s
  refine SB.mul (x := mk [c]) (n := 2) ?_ fun t' k => ?_
  · exact ⟨by decide, fun _ _ => by show ¬ ((1 : Nat) : Int) > _; decide, fun _ _ => by show Builtin.Str.tooLong (1 * Int.toNat 2) = false; decide +kernel⟩
  · have e : Txt.mul (mk [c]) 2 = mk [c, c] := by kernel_rfl
    rw [e]; exact h _ _ (S.toks k)
end
/-! LX -/
/-! the end: the two dicts say the same -/
theorem eq_dicts {start : List Nat} {pr : Fin 3 → Int} {q q2 : List Q3} (hl : start.length = 6) (hp : ∀ k, 0 ≤ pr k) (I : Inv tn pr start (pm q) []) (H : Least tn pr start specials (pm q2)) :
    (dv q).length = (dv q2).length ∧ ∀ x v, (x, v) ∈ dv q → ∃ i t u, v = .int i t ∧ (x, Value.int i u) ∈ dv q2 := by
  have hm := found_least hl hp I H
  constructor
  · have h1 := nodup_len ((pm q).map (·.1)) ((pm q2).map (·.1)) I.nd fun x hx => by
      obtain ⟨e, he, rfl⟩ := List.mem_map.mp hx
      exact List.mem_map.mpr ⟨e, (hm e).mp he, rfl⟩
    have h2 := nodup_len ((pm q2).map (·.1)) ((pm q).map (·.1)) H.nd fun x hx => by
      obtain ⟨e, he, rfl⟩ := List.mem_map.mp hx
      exact List.mem_map.mpr ⟨e, (hm e).mpr he, rfl⟩
    simp only [pm, dv, List.length_map] at h1 h2 ⊢
    lia
  · intro x v h
    obtain ⟨⟨y, p, t⟩, he, h⟩ := List.mem_map.mp h
    obtain ⟨rfl, rfl⟩ := Prod.mk.inj h
    obtain ⟨⟨y2, p2, t2⟩, he2, h2⟩ := List.mem_map.mp ((hm (y, p)).mp (List.mem_map.mpr ⟨_, he, rfl⟩))
    obtain ⟨h3, h4⟩ := Prod.mk.inj h2
    dsimp only at h3 h4
    subst h3 h4
    exact ⟨_, _, t2, rfl, List.mem_map.mpr ⟨_, he2, rfl⟩⟩
/-! what the script gives -/
theorem il_of {vs : List Value} {ns : List Int} (h : IntsAre vs ns) : ∃ ps, vs = il ps := by
  induction h with
  | nil => exact ⟨[], rfl⟩
  | cons n t _ ih =>
    obtain ⟨ps, rfl⟩ := ih
    exact ⟨(n, t) :: ps, rfl⟩
theorem given_of (ps : List (Int × Tok)) (t : Tok) : ∃ gs : List (Int × Tok), gs.length = 11 ∧ ((il ps).take 11 ++ List.replicate 11 (Value.int 0 t)).take 11 = il gs := by
  refine ⟨((ps.take 11) ++ List.replicate 11 (0, t)).take 11, ?_, ?_⟩
  · rw [List.length_take, List.length_append, List.length_replicate]; lia
  · unfold il
    rw [List.map_take, List.map_append, List.map_take, List.map_replicate]
noncomputable def gv (gs : List (Int × Tok)) (i : Nat) : Int := (gs.getD i (0, 0)).1
noncomputable def gt (gs : List (Int × Tok)) (i : Nat) : Tok := (gs.getD i (0, 0)).2
theorem gv_at {gs : List (Int × Tok)} {i : Nat} (h : i < gs.length) : (il gs)[((i : Nat) : Int).toNat]? = some (.int (gv gs i) (gt gs i)) := by
  rw [Int.toNat_natCast]
  unfold il gv gt
  rw [List.getElem?_map, List.getD_eq_getElem?_getD, List.getElem?_eq_getElem h]
  rfl
theorem gv_atK {gs : List (Int × Tok)} {i : Nat} {k : Int} (hk : k = (i : Int)) (h : i < gs.length) : (il gs)[k.toNat]? = some (.int (gv gs i) (gt gs i)) := by subst hk; exact gv_at h
noncomputable def one6 (i : Nat) : Int := if i = 0 then 1 else 0
noncomputable def tk6 (i : Nat) (a b c d e f : Tok) : Tok := match i with | 0 => a | 1 => b | 2 => c | 3 => d | 4 => e | _ => f
theorem one_at {i : Nat} (h : i < 6) {a b c d e f : Tok} : ([.int 1 a, .int 0 b, .int 0 c, .int 0 d, .int 0 e, .int 0 f] : List Value)[((i : Nat) : Int).toNat]? = some (.int (one6 i) (tk6 i a b c d e f)) := by
  match i, h with
  | 0, _ => rfl
  | 1, _ => rfl
  | 2, _ => rfl
  | 3, _ => rfl
  | 4, _ => rfl
  | 5, _ => rfl
noncomputable def rowOf (gs : List (Int × Tok)) : List Nat := (List.range 6).map fun i => ((gv gs i + one6 i).fmod 256).toNat
theorem row_len (gs : List (Int × Tok)) : (rowOf gs).length = 6 := by simp [rowOf]
theorem fm_pos (a b : Int) (hb : 0 < b) : 0 ≤ a.fmod b ∧ a.fmod b < b := ⟨Int.fmod_nonneg_of_pos a hb, Int.fmod_lt_of_pos a hb⟩
theorem row_256 (gs : List (Int × Tok)) : ∀ c ∈ rowOf gs, c < 256 := by
  intro c hc
  obtain ⟨i, _, rfl⟩ := List.mem_map.mp hc
  have := fm_pos (gv gs i + one6 i) 256 (by decide)
  lia
noncomputable def prOf (gs : List (Int × Tok)) : Fin 3 → Int
  | 0 => 2 + (gv gs 6).fmod 9
  | 1 => 3 + (gv gs 7).fmod 9
  | 2 => 4 + (gv gs 8).fmod 30
theorem prs_of (gs : List (Int × Tok)) (u0 u1 u2 : Tok) : ([.int (2 + (gv gs 6).fmod 9) u0, .int (3 + (gv gs 7).fmod 9) u1, .int (4 + (gv gs 8).fmod 30) u2] : List Value) = prs (prOf gs) u0 u1 u2 := rfl
theorem nms_of (c d : Nat) (t0 t1 t2 : Tok) : ([.str (Str.ofString "") t0, .str ⟨#[c]⟩ t1, .str (mk [d, d]) t2] : List Value) = wv (nms c d t0 t1 t2) := by
  have e : Str.ofString "" = mk [] := by kernel_rfl
  rw [e]
  rfl
theorem pr_pos (gs : List (Int × Tok)) : ∀ k, 0 ≤ prOf gs k := by
  intro k
  match k with
  | 0 => have := fm_pos (gv gs 6) 9 (by decide); show 0 ≤ 2 + (gv gs 6).fmod 9; lia
  | 1 => have := fm_pos (gv gs 7) 9 (by decide); show 0 ≤ 3 + (gv gs 7).fmod 9; lia
  | 2 => have := fm_pos (gv gs 8) 30 (by decide); show 0 ≤ 4 + (gv gs 8).fmod 30; lia
theorem sg_at {i : Int} (h0 : 0 ≤ i) (h1 : i < 8) : ∃ c, (Str.ofString "a' #\\\"$;").cps[i.toNat]? = some c ∧ c ∈ sg := by
  obtain ⟨n, rfl⟩ := Int.eq_ofNat_of_zero_le h0
  rw [Int.toNat_natCast]
  have hn : n < 8 := by lia
  match n, hn with
  | 0, _ => exact ⟨97, by kernel_rfl, by decide⟩
  | 1, _ => exact ⟨39, by kernel_rfl, by decide⟩
  | 2, _ => exact ⟨32, by kernel_rfl, by decide⟩
  | 3, _ => exact ⟨35, by kernel_rfl, by decide⟩
  | 4, _ => exact ⟨92, by kernel_rfl, by decide⟩
  | 5, _ => exact ⟨34, by kernel_rfl, by decide⟩
  | 6, _ => exact ⟨36, by kernel_rfl, by decide⟩
  | 7, _ => exact ⟨59, by kernel_rfl, by decide⟩
section
variable {w : World} {s₁ s : Shared} {F : List Addr} {led led' : Led} {A : Around} {E : Value → Shared → Prop}
theorem ri_self (S : St w s₁ F led s) {it : Addr} {a n c : Int} {Q : Value → Shared → Prop} (hm : (it, riC a n c) ∈ led) (h : Q (.ref it) s) : wpAny (model PR w) A (pyIter (.ref it)) Q E s := by
  obtain ⟨o, e, rfl⟩ := S.at_ _ hm
  exact wpAny_pyIter_rangeiter e h
theorem cwf6 (B : Base w s₁) {env : Env} {pos : Pos} {f : Addr} {o : Obj} {fd : FuncData} {e1 e2 e3 e4 e5 e6 : Expr} {Q : Value → Shared → Prop} (hf : (hd.heap_1 w.params).lookup f = some o) (hfd : o.data = .func fd)
    (h : wpAny (model PR w) A (eval e1 env) (fun v1 s1 => wpAny (model PR w) A (eval e2 env) (fun v2 s2 => wpAny (model PR w) A (eval e3 env) (fun v3 s3 => wpAny (model PR w) A (eval e4 env) (fun v4 s4 => wpAny (model PR w) A (eval e5 env) (fun v5 s5 => wpAny (model PR w) A (eval e6 env) (fun v6 s6 =>
      SomeSt w s₁ s6 ∧ wpAny (model PR w) A (call (.ref f) [v1, v2, v3, v4, v5, v6]) Q E s6) E s5) E s4) E s3) E s2) E s1) E s)
    (ha : backTo pos (starEach [e1, e2, e3, e4, e5, e6] env) = [(false, eval e1 env), (false, eval e2 env), (false, eval e3 env), (false, eval e4 env), (false, eval e5 env), (false, eval e6 env)] := by kernel_rfl) :
    wpAny (model PR w) A (callWith pos (.ref f) [] (backTo pos (starEach [e1, e2, e3, e4, e5, e6] env)) (backToKw pos (keywordEach [] env))) Q E s := by
  rw [ha]
  refine callWith_function (evalArgs_plain (Calls.spliced_cons (wpAny_mono h (fun v1 s1 h1 => Calls.spliced_cons (wpAny_mono h1 (fun v2 s2 h2 => Calls.spliced_cons (wpAny_mono h2 (fun v3 s3 h3 => Calls.spliced_cons (wpAny_mono h3 (fun v4 s4 h4 => Calls.spliced_cons (wpAny_mono h4 (fun v5 s5 h5 =>
    Calls.spliced_cons (wpAny_mono h5 (fun v6 s6 h6 => Calls.spliced_nil ⟨fnAt B h6.1 hf hfd, h6.2⟩) fun _ _ x => x)) fun _ _ x => x)) fun _ _ x => x)) fun _ _ x => x)) fun _ _ x => x)) fun _ _ x => x)))
end
/-! LY -/
/-- the signs of the first row, between the turns -/
noncomputable def lwS (w : World) (s₁ : Shared) (F : List Addr) (gs : List (Int × Tok)) (it Cn D : Addr) (rest : Led) (n : Nat) (s : Shared) : Prop :=
  ∃ (j : Nat) (all : List (Str × Tok)), j + n = 6 ∧ all.map (·.1) = ((rowOf gs).take j).map (fun c => (⟨#[c]⟩ : Str)) ∧ St w s₁ F ((it, riC ((j : Nat) : Int) ((n : Nat) : Int) 1) :: (Cn, Cell.ns []) :: (D, Cell.list (wv all)) :: rest) s
/-- the ways looked at -/
noncomputable def lwI (w : World) (s₁ : Shared) (F : List Addr) (it wy : Addr) (m : Nat) (rest : Led) (n : Nat) (s : Shared) : Prop :=
  ∃ i : Nat, i + n = m ∧ St w s₁ F ((it, liC wy i) :: rest) s
theorem given_st {w : World} {s₁ s : Shared} {F : List Addr} {ps : List (Int × Tok)} {t : Tok} {ga : Addr} {rest : Led} (S : St w s₁ F ((ga, Cell.list (((il ps).take 11 ++ List.replicate 11 (Value.int 0 t)).take 11)) :: rest) s) :
    ∃ gs : List (Int × Tok), gs.length = 11 ∧ St w s₁ F ((ga, Cell.list (il gs)) :: rest) s := by
  obtain ⟨gs, h1, h2⟩ := given_of ps t
  rw [h2] at S
  exact ⟨gs, h1, S⟩
theorem law_spec {w : World} {s₁ s : Shared} {F : List Addr} {R : Led} {A : Around} {fs : List Env} {Q : Value → Shared → Prop} {sl : Addr} {vs : List Value} {ns : List Int}
    (B : Base w s₁) (hH : Hole s₁) (hA : Ar A fs 20) (hF : Frs fs F) (S : St w s₁ F R s) (hsl : s₁.heap.IsList sl vs.toArray) (hs7 : sl ≠ 753) (hi : IntsAre vs ns) (hz : vs.length ≤ 63)
    (h : ∀ led' s', St w s₁ F led' s' → Q (.bool true) s') : wpC w A (call (.ref 823) [.ref sl]) Q s := by
  revert w s₁ s F R A fs Q sl vs ns
  refine @pad _ ?_
  refine @pad _ ?_
  refine @wall13 _ _ _ _ _ _ _ _ _ _ _ _ _ _ (by walk_at "ne") ?_
  generalize k2 _ = w, k3 _ = s₁, k4 _ = s, k5 _ = F, k6 _ = R, k7 _ = A, k8 _ = fs, k9 _ = Q, k10 _ = sl, k11 _ = vs, k12 _ = ns
  intro B hH hA hF S hsl hs7 hi hz h
  with_reducible refine enterPC (m := [("script", .ref sl)]) (y := "given") (cv := none) B S (by k_is) (hA.room) (binds := [("script", .ref sl)]) ?b ?c ?d ?e ?f ?g ?_ (by kernel_rfl) (by kernel_rfl) (by kernel_rfl) (by kernel_rfl)
  case b => kernel_rfl
  case c => intro n; kernel_rfl
  case d => intro x hx; rw [List.mem_singleton] at hx; subst hx; exact .inl (by kernel_rfl)
  case e => intro p hp; rw [List.mem_singleton] at hp; subst hp; kernel_rfl
  case f => exact nodup_of (by kernel_rfl)
  case g => kernel_rfl
  clear S
  refine @wall2 _ _ _ (by walk_at "ne") ?_
  generalize k0 _ = L, k1 _ = C
  intro s hL S
  have hA' := hA.deeper
  have hLF : L ∈ L :: F := List.mem_cons_self
  obtain ⟨ps, rfl⟩ := il_of hi
  replace S := S
  revert s ps
  refine @wall2 _ _ _ (by walk_at "ne") ?_
  generalize k0 _ = s, k1 _ = ps
  set_option tactic.hygienic false in intros
  rename St _ _ _ _ s => S
  with_reducible refine c_consA ?_
  repeat walk_at "gol"
  with_reducible refine x_sliceU (w := w) (s₁ := s₁) ?_
  repeat walk_at "gol"
  refine ⟨_, _, S, ?_⟩
  clear S; intro a1 s S
  have hsl' : s.heap.IsList sl (il ps).toArray := by
    obtain ⟨o, e, r⟩ := hsl
    exact ⟨o, S.old sl o (.inl hs7) e, r⟩
  with_reducible refine l_upto (k := 11) (i := 11) S hsl' (Nat.le_trans hz (by decide)) (by walk_at "mem") rfl ?_
  clear S hsl'; intro a2 s S
  replace S := S.drop (a := a1) (by walk_at "pull")
  repeat walk_at "gol"
  with_reducible refine l_rep S (by walk_at "mem") ?_
  clear S; intro a3 s S
  replace S := S.drop (a := a) (by walk_at "pull")
  with_reducible refine l_add S (by walk_at "mem") (by walk_at "mem") (by rw [List.length_take, List.length_replicate]; lia) ?_
  clear S; intro a4 s S
  replace S := S.drop (a := a3) (by walk_at "pull")
  replace S := S.drop (a := a2) (by walk_at "pull")
  repeat walk_at "gol"
  with_reducible refine x_sliceU (w := w) (s₁ := s₁) ?_
  repeat walk_at "gol"
  refine ⟨_, _, S, ?_⟩
  clear S; intro a5 s S
  with_reducible refine l_upto (k := 11) (i := 11) S (isList_at S (by walk_at "mem")) (by rw [List.length_append, List.length_take, List.length_replicate]; lia) (by walk_at "mem") rfl ?_
  clear S; intro ga s S
  obtain ⟨gs, hgl, S2⟩ := given_st S
  clear S
  have S := S2
  clear S2
  replace S := S.drop (a := a4) (by walk_at "pull")
  replace S := S.drop (a := a5) (by walk_at "pull")
  with_reducible refine stc B S (by walk_at "upd") ?_
  clear S; intro s S
  replace hgl := hgl
  replace S := S
  revert ga gs s
  refine @wall3 _ _ _ _ (by walk_at "ne") ?_
  generalize k0 _ = ga, k1 _ = gs, k2 _ = s
  set_option tactic.hygienic false in intros
  rename St _ _ _ _ s => S
  repeat walk_at "gol"
  with_reducible refine kseqC_next ?_
  with_reducible refine c_consA ?_
  repeat walk_at "gol"
  with_reducible refine m_bm PySem.F.plainAttrs_str PySem.F.slot_str_join PySem.F.type_str_join recv_str ?_
  replace S := S
  revert t s
  refine @wall2 _ _ _ (by walk_at "ne") ?_
  generalize k0 _ = uj, k1 _ = s
  set_option tactic.hygienic false in intros
  rename St _ _ _ _ s => S
  with_reducible refine cwbm1 ?_
  with_reducible refine x_compF B (cl := [("given", C)]) (by kernel_rfl) (by decide +kernel) (by kernel_rfl) (by decide +kernel) ?_
  repeat walk_at "gol"
  with_reducible refine cwt1 ?_
  repeat walk_at "gol"
  with_reducible refine rg1 S ?_
  clear S; intro r r0 r1 r2 s S
  with_reducible refine rg_iter S (by walk_at "mem") (by decide +kernel) ?_
  clear S; intro it s S
  replace S := S.drop (a := r) (by walk_at "pull")
  refine ⟨_, _, S, ⟨L, hLF⟩, ?_⟩
  clear S; intro D Cn s S
  refine ⟨?_, ?_⟩
  · rintro s' Q' E' rfl hq
    exact ri_self S (by walk_at "mem") hq
  replace S := S.pull (a := it) (by walk_at "pull")
  refine ⟨lwS w s₁ (L :: F) gs it Cn D _, 6, ⟨0, [], rfl, rfl, S⟩, ?_⟩
  clear S
  repeat clear S
  rintro m s ⟨j, all, hj, hall, S⟩
  revert r r0 r1 r2 it D Cn m s j all
  refine @pad _ ?_
  refine @pad _ ?_
  refine @wall13 _ _ _ _ _ _ _ _ _ _ _ _ _ _ (by walk_at "ne") ?_
  generalize k2 _ = r, k3 _ = r0, k4 _ = r1, k5 _ = r2, k6 _ = it, k7 _ = D, k8 _ = Cn, k9 _ = m, k10 _ = s, k11 _ = j, k12 _ = all
  set_option tactic.hygienic false in intros
  rename St _ _ _ _ s => S
  by_cases hm : m = 0
  · subst hm
    have hj : j = 6 := by lia
    subst hj
    rw [List.take_of_length_le (by rw [row_len]; decide)] at hall
    with_reducible refine ri_end B (hA' _).hnd S (by walk_at "pull") hLF (by decide) ?_
    clear S; intro s S
    refine ⟨_, _, S, ?_⟩
    clear S; intro s S
    with_reducible refine s_join0 S (by walk_at "mem") hall (row_len gs) ?_
    clear S; intro v0 s S
    revert v0 s
    refine @wall2 _ _ _ (by walk_at "ne") ?_
    generalize k0 _ = v0, k1 _ = s
    set_option tactic.hygienic false in intros
    rename St _ _ _ _ s => S
    replace S := S.drop (a := D) (by walk_at "pull")
    repeat walk_at "gol"
    with_reducible refine kseqC_next ?_
    with_reducible refine c_consA ?_
    repeat walk_at "gol"
    with_reducible refine ldc S (C := C) (v := .ref ga) (by walk_at "mem") ?_
    repeat walk_at "gol"
    with_reducible refine l_getK S (by walk_at "mem") (by decide) (by decide) (gv_atK (i := 6) rfl (by lia)) ?_
    repeat walk_at "gol"
    with_reducible refine i_mod S (by decide) ?_
    clear S; intro tm1 s S
    walk_at "gol"
    replace S := S
    revert t s
    refine @wall2 _ _ _ (by walk_at "ne") ?_
    generalize k0 _ = us1, k1 _ = s
    set_option tactic.hygienic false in intros
    rename St _ _ _ _ s => S
    repeat walk_at "gol"
    with_reducible refine ldc S (C := C) (v := .ref ga) (by walk_at "mem") ?_
    repeat walk_at "gol"
    with_reducible refine l_getK S (by walk_at "mem") (by decide) (by decide) (gv_atK (i := 7) rfl (by lia)) ?_
    repeat walk_at "gol"
    with_reducible refine i_mod S (by decide) ?_
    clear S; intro tm2 s S
    walk_at "gol"
    replace S := S
    revert t s
    refine @wall2 _ _ _ (by walk_at "ne") ?_
    generalize k0 _ = us2, k1 _ = s
    set_option tactic.hygienic false in intros
    rename St _ _ _ _ s => S
    repeat walk_at "gol"
    with_reducible refine ldc S (C := C) (v := .ref ga) (by walk_at "mem") ?_
    repeat walk_at "gol"
    with_reducible refine l_getK S (by walk_at "mem") (by decide) (by decide) (gv_atK (i := 8) rfl (by lia)) ?_
    repeat walk_at "gol"
    with_reducible refine i_mod S (by decide) ?_
    clear S; intro tm3 s S
    walk_at "gol"
    replace S := S
    revert t s
    refine @wall2 _ _ _ (by walk_at "ne") ?_
    generalize k0 _ = us3, k1 _ = s
    set_option tactic.hygienic false in intros
    rename St _ _ _ _ s => S
    repeat walk_at "gol"
    rw [prs_of] at S
    generalize a = pl at S ⊢
    replace S := S
    revert s pl
    refine @wall2 _ _ _ (by walk_at "ne") ?_
    generalize k0 _ = s, k1 _ = pl
    set_option tactic.hygienic false in intros
    rename St _ _ _ _ s => S
    with_reducible refine kseqC_next ?_
    with_reducible refine c_consA ?_
    repeat walk_at "gol"
    replace S := S
    revert t s
    refine @wall2 _ _ _ (by walk_at "ne") ?_
    generalize k0 _ = usg, k1 _ = s
    set_option tactic.hygienic false in intros
    rename St _ _ _ _ s => S
    with_reducible refine kseqC_next ?_
    with_reducible refine c_consA ?_
    repeat walk_at "gol"
    replace S := S
    revert t s
    refine @wall2 _ _ _ (by walk_at "ne") ?_
    generalize k0 _ = un, k1 _ = s
    set_option tactic.hygienic false in intros
    rename St _ _ _ _ s => S
    with_reducible refine ldc S (C := C) (v := .ref ga) (by walk_at "mem") ?_
    repeat walk_at "gol"
    with_reducible refine l_getK S (by walk_at "mem") (by decide) (by decide) (gv_atK (i := 9) rfl (by lia)) ?_
    repeat walk_at "gol"
    with_reducible refine i_mod S (by decide) ?_
    clear S; intro tm s S
    repeat walk_at "gol"
    have hf9 := fm_pos (gv gs 9) 8 (by decide)
    have hf10 := fm_pos (gv gs 10) 8 (by decide)
    obtain ⟨ca, hca, hca2⟩ := sg_at hf9.1 hf9.2
    obtain ⟨cb, hcb, hcb2⟩ := sg_at hf10.1 hf10.2
    replace hca := hca
    replace hca2 := hca2
    replace hcb := hcb
    replace hcb2 := hcb2
    replace S := S
    revert tm s ca cb
    refine @wall4 _ _ _ _ _ (by walk_at "ne") ?_
    generalize k0 _ = tm, k1 _ = s, k2 _ = ca, k3 _ = cb
    set_option tactic.hygienic false in intros
    rename St _ _ _ _ s => S
    with_reducible refine str_item S hf9.1 (by lia) hca ?_
    clear S; intro tca s S
    revert tca s
    refine @wall2 _ _ _ (by walk_at "ne") ?_
    generalize k0 _ = tca, k1 _ = s
    set_option tactic.hygienic false in intros
    rename St _ _ _ _ s => S
    repeat walk_at "gol"
    with_reducible refine ldc S (C := C) (v := .ref ga) (by walk_at "mem") ?_
    repeat walk_at "gol"
    with_reducible refine l_getK S (by walk_at "mem") (by decide) (by decide) (gv_atK (i := 10) rfl (by lia)) ?_
    repeat walk_at "gol"
    with_reducible refine i_mod S (by decide) ?_
    clear S; intro tm s S
    repeat walk_at "gol"
    with_reducible refine str_item S hf10.1 (by lia) hcb ?_
    clear S; intro tcb s S
    repeat walk_at "gol"
    with_reducible refine s_twice S ?_
    clear S; intro tcb s S
    revert tcb s
    refine @wall2 _ _ _ (by walk_at "ne") ?_
    generalize k0 _ = tcb, k1 _ = s
    set_option tactic.hygienic false in intros
    rename St _ _ _ _ s => S
    repeat walk_at "gol"
    rw [nms_of] at S
    generalize a = nl at S ⊢
    replace S := S
    revert s nl
    refine @wall2 _ _ _ (by walk_at "ne") ?_
    generalize k0 _ = s, k1 _ = nl
    set_option tactic.hygienic false in intros
    rename St _ _ _ _ s => S
    with_reducible refine kseqC_next ?_
    with_reducible refine c_cons ?_
    with_reducible refine c_assignT ?_ (by kernel_rfl) (by kernel_rfl)
    with_reducible refine c_callName ?_
    repeat walk_at "gol"
    with_reducible refine c_cwf3 B (by k_is) rfl ?_
    repeat walk_at "gol"
    refine ⟨.of S, ?_⟩
    have hpos := pr_pos gs
    have hrl := row_len gs
    with_reducible refine search_spec B hH ((hA' _).le (by decide)) (hF.cons (fun hk => by cases hk) rfl) S hrl (row_256 gs) hca2 hcb2 hpos (by walk_at "mem") (by walk_at "mem") ?_
    clear S; intro rt d wy q wys G s I hW hwl hql S
    revert rt d wy q wys G s
    refine @pad _ ?_
    refine @wall8 _ _ _ _ _ _ _ _ _ (by walk_at "ne") ?_
    generalize k1 _ = rt, k2 _ = d, k3 _ = wy, k4 _ = q, k5 _ = wys, k6 _ = G, k7 _ = s
    set_option tactic.hygienic false in intros
    rename St _ _ _ _ s => S
    with_reducible refine u_tup2 B S (hA' _).hnd hLF (by walk_at "mem") ?_
    clear S; intro s S
    replace S := S.drop (a := rt) (by walk_at "pull")
    replace S := S.perm (((List.perm_append_comm (l₁ := G)).cons _).cons _)
    simp only [List.cons_append] at S
    repeat walk_at "gol"
    with_reducible refine kseqC_next ?_
    with_reducible refine c_consA ?_
    with_reducible refine x_forT ?_
    repeat walk_at "gol"
    with_reducible refine l_iter S (by walk_at "mem") ?_
    clear S; intro it s S
    replace S := S.names (m' := [("ways", .ref wy), ("found", .ref d), ("names", .ref nl), ("prices", .ref pl), ("start", .str (mk (rowOf gs)) v0)]) (by walk_at "upd") (by walk_at "sub") (nodup_of (by kernel_rfl))
    refine ⟨it, wy, lwI w s₁ (L :: F) it wy wys.length _, wys.length, rfl, ⟨0, Nat.zero_add _, S⟩, ?_⟩
    clear S
    repeat clear S
    rintro n s ⟨i, hi, S⟩
    revert it n s i
    refine @wall4 _ _ _ _ _ (by walk_at "ne") ?_
    generalize k0 _ = it, k1 _ = n, k2 _ = s, k3 _ = i
    set_option tactic.hygienic false in intros
    rename St _ _ _ _ s => S
    by_cases hn0 : n = 0
    · subst hn0
      have hi : i = wys.length := by lia
      subst hi
      with_reducible refine li_end B (hA' _).hnd S (by walk_at "pull") (by walk_at "mem") hLF (List.getElem?_eq_none (Nat.le_refl _)) ?_
      clear S; intro s S
      dsimp only
      with_reducible refine kseqC_next ?_
      with_reducible refine c_consA ?_
      repeat walk_at "gol"
      with_reducible refine wpAny_Compare1 ?_ (by kernel_rfl)
      repeat walk_at "gol"
      with_reducible refine cwf2 B (by k_is) rfl ?_
      repeat walk_at "gol"
      refine ⟨.of S, ?_⟩
      with_reducible refine least_spec B ((hA' _).le (by decide)) S hrl (by walk_at "mem") ?_
      clear S; intro d2 q2 s H2 S
      obtain ⟨he1, he2⟩ := eq_dicts hrl hpos I H2
      with_reducible refine d_eq2 B S (hA' _).un (by walk_at "mem") (by walk_at "mem") he1 he2 ?_
      repeat walk_at "gol"
      with_reducible refine kseqC_ret ?_
      repeat walk_at "gol"
      exact h _ _ (S.unframe (L := L) (by walk_at "pull"))
    · have hil : i < wys.length := by lia
      obtain ⟨ad, wl, p, t, x, t', ws, ks, hv, hw1, hw2, hws, hx, hp⟩ := hW _ (List.getElem_mem hil)
      have hit : wys[i]? = some (.ref ad) := by rw [List.getElem?_eq_getElem hil, hv]
      have hw1' := List.mem_append_right R hw1
      have hw2' := List.mem_append_right R hw2
      with_reducible refine li_item B S (by walk_at "upd") (by walk_at "mem") hit ?_
      clear S; intro s S
      dsimp only
      refine ⟨i + 1, ad, ⟨rfl, ?_⟩, ?_⟩
      · obtain ⟨o, e, hc, hd'⟩ := S.at_ _ List.mem_cons_self
        exact ⟨o, e, hc, hd'⟩
      with_reducible refine u_tup3 B S (hA' _).hnd hLF (by walk_at "mema") ?_
      clear S; intro s S
      repeat walk_at "gol"
      with_reducible refine cwf6 B (by k_is) rfl ?_
      repeat walk_at "gol"
      refine ⟨.of S, ?_⟩
      with_reducible refine way_spec B ((hA' _).le (by decide)) S hrl (by walk_at "mem") (by walk_at "mem") (by walk_at "mema") hws hx hp ?_
      clear S; intro s S
      repeat walk_at "gol"
      refine kloop_next ⟨n - 1, by lia, i + 1, by lia, S.names (by walk_at "upd") (by walk_at "sub") (nodup_of (by kernel_rfl))⟩
  · have hj6 : j < 6 := by lia
    with_reducible refine ri_item B S (by walk_at "upd") (by lia) ?_
    clear S; intro tj s S
    with_reducible refine kcomp_some ?_
    dsimp only [compEnvC, relabel]
    repeat walk_at "gol"
    with_reducible refine cwb1 ?_
    repeat walk_at "gol"
    with_reducible refine ldc S (C := C) (v := .ref ga) (by walk_at "mem") ?_
    repeat walk_at "gol"
    with_reducible refine l_getK S (by walk_at "mem") (by lia) (by lia) (gv_at (by lia)) ?_
    repeat walk_at "gol"
    with_reducible refine l_getK S (by walk_at "mem") (by lia) (by lia) (one_at hj6) ?_
    repeat walk_at "gol"
    with_reducible refine i_mod S (by decide) ?_
    clear S; intro tm s S
    have hf := fm_pos (gv gs j + one6 j) 256 (by decide)
    with_reducible refine c_chr S hf.1 hf.2 ?_
    clear S; intro tc s S
    have ew : wv all ++ [Value.str ⟨#[((gv gs j + one6 j).fmod 256).toNat]⟩ tc] = wv (all ++ [(⟨#[((gv gs j + one6 j).fmod 256).toNat]⟩, tc)]) := by simp [wv]
    have hal : all.length = j := by have := congrArg List.length hall; simpa [row_len, Nat.min_eq_left (Nat.le_of_lt hj6)] using this
    with_reducible refine l_append B S (by walk_at "upd") (by rw [wv, List.length_map, hal, sizeLine_eq]; lia) ?_
    rw [ew]
    clear S; intro s S
    replace S := S.drop (a := a) (by walk_at "pull")
    have e1 : ((j : Nat) : Int) + 1 = ((j + 1 : Nat) : Int) := by lia
    have e2 : ((m : Nat) : Int) - 1 = ((m - 1 : Nat) : Int) := by lia
    rw [e1, e2] at S
    refine ⟨m - 1, by lia, j + 1, all ++ [(⟨#[((gv gs j + one6 j).fmod 256).toNat]⟩, tc)], by lia, ?_, S.names (by walk_at "upd") (by walk_at "sub") (nodup_of (by kernel_rfl))⟩
    have hjr : j < (rowOf gs).length := by rw [row_len]; exact hj6
    rw [List.map_append, hall, List.take_succ_eq_append_getElem hjr, List.map_append]
    simp [rowOf]
/-! GH -/
section
open PySem.Spec
/-! ### the head for a call that is shown at the caller's own context alone -/
noncomputable def cΓ : PySem.Ctx := ⟨.builtin "claim.caller" {}, none, none, [], none⟩
noncomputable def AtC {α : Type} (p : Program) (w : World) (t : Sem α) (Q : α → Shared → Prop) (s : Shared) : Prop :=
  ∀ q : Pos, Sem.wp (model p w) cΓ t (fun a _ s' => Q a s') (fun _ _ _ => False) q s
theorem AtC.of_wpC {α : Type} {w : World} {t : Sem α} {Q : α → Shared → Prop} {s : Shared} (h : wpC w callerA t Q s) : AtC PR w t Q s :=
  fun q => h cΓ q caller_in (by decide +kernel) (fun x hx => by cases hx)
theorem AtC.mono {α : Type} {p : Program} {w : World} {t : Sem α} {Q Q' : α → Shared → Prop} {s : Shared} (h : AtC p w t Q s) (hQ : ∀ a s, Q a s → Q' a s) : AtC p w t Q' s :=
  fun q => Sem.wp_mono _ cΓ t (fun a _ s => hQ a s) (fun _ _ _ x => x) q s (h q)
theorem AtC.bind {α β : Type} {p : Program} {w : World} {m : Sem α} {f : α → Sem β} {Q : β → Shared → Prop} {s : Shared} (h : AtC p w m (fun a s' => AtC p w (f a) Q s') s) : AtC p w (m >>= f) Q s := fun q => by
  rw [Sem.wp_bind']
  exact Sem.wp_mono _ cΓ m (fun a p' s' h' => h' p') (fun _ _ _ h' => h') q s (h q)
theorem AtC.any {α : Type} {p : Program} {w : World} {t : Sem α} {Q : α → Shared → Prop} {s : Shared} (h : wpAny (model p w) callerA t Q (fun _ _ => False) s) : AtC p w t Q s := fun q => h cΓ q caller_in

theorem callFromC {c : ClaimW} {tree : List Value → Sem Fin} {w : World} {s : Shared} {free : Addr → Prop} {gens : Prop} {kept : Heap → Prop} (hz : s.asleep) (hgens : s.gens = #[])
    (hspec : ∀ args, c.pre args = true → WData.layableAll args = true → ∀ ord : List DictEntry → List DictEntry, (∀ l, (ord l).Perm l) →
      ∃ vs s₁, layAllW c.records (classAt s.heap) w.params ord args s = some (vs, s₁) ∧
        AtC c.prog w (tree vs) (fun fin s' => ∃ f, fin = .done f ∧ (c.Ends s args vs s₁ (.ok f) s' ∧ s'.os = s.os ∧ AllBare s'.gens ∧ kept s'.heap)) s₁) :
    c.CallFrom (fun vs => ⟨tree vs, .builtin "claim.caller" {}, default, []⟩) w free gens kept s := by
  intro args hpre hlay ord hord
  obtain ⟨vs, s₁, hlaid, hcode⟩ := hspec args hpre hlay ord hord
  have hal := layAllW_rest _ _ _ hlaid
  have hz₁ : s₁.asleep := Shared.asleep_of_life hal.2.2.2 hz
  have hwp : Sem.wp (model c.prog w) cΓ (tree vs) (Sem.finPost (model c.prog w) cΓ fun r s' => (c.Ends s args vs s₁ r s' ∧ s'.os = s.os ∧ kept s'.heap) ∧ leftWithCleanup s'.gens = false)
      (fun e _ s' => (c.Ends s args vs s₁ (.error e) s' ∧ s'.os = s.os ∧ kept s'.heap) ∧ leftWithCleanup s'.gens = false) default s₁ := by
    refine Sem.wp_mono _ cΓ _ (fun fin q s' x => ?_) (fun _ _ _ x => x.elim) _ _ (hcode default)
    obtain ⟨f, rfl, h1, h2, h3, h4⟩ := x
    exact ⟨⟨h1, h2, h4⟩, leftWithCleanup_false_of_bare h3⟩
  obtain ⟨n, r, s₂, s₃, hsched, hrun, hfo, hcase, hos, hkp⟩ := wp_halts_full (M := model c.prog w) hz₁ hwp
  obtain ⟨eh, _, _, eo, _⟩ := Shared.forget_eq hfo
  have hcase := hcase.congr eh
  rw [← eh] at hkp
  rw [← eo] at hos
  have hlife : s₃.heap.life = s.heap.life := (runN_life _ _ _ hrun).trans hal.2.2.2
  refine ⟨vs, s₁, hlaid, n, _, s₃, hsched, ?_, (fun _ i x hx => by rw [hgens] at hx; simp at hx), hkp, by rw [hlife], Shared.rest_eq hos⟩
  rcases hcase with ⟨v, rfl, d1, d2, d3, d4, d5⟩ | ⟨e, ob, cls, rfl, d1, d2, d3, d4, d5⟩
  · exact .inl ⟨v, rfl, d1, d2, d3, fun b o y _ => d4 b o y, d5⟩
  · exact .inr ⟨e, ob, cls, rfl, d1, d2, d3, d4, fun b o y _ => d5 b o y⟩

/-- what is to be shown of the call -/
noncomputable abbrev WalkC (q : Program) (loose : List Str) (XP : (Str → Option Value) → Heap → Prop) (YP : World → Heap → Prop) (r : RowW) (d : DefRec) (kwd : List (Str × Expr)) : Prop :=
  ∀ (w : World) (s₀ s₁ : Shared) (mg mb : Str → Option Value), Ground q loose r.records XP w s₀ mg mb s₁.heap → YP w s₁.heap → ∀ (a : Addr) (o : Obj) (pm cd doc dV kV : Value), s₁.heap.get? a = some o →
    o.data = .func { docDef d.name d.params d.body d.scope pm cd doc with defaults := dV, kwdefaults := kV } → s₁.heap.CodeRec cd d.name → Dflts mg s₁.heap d.params kwd dV kV → mg d.name = some (.ref a) → s₁.gens = #[] →
    ∀ (args : List WData) (vals : List Value) (as : List Addr), r.claim.pre args = true → WData.layableAll args = true → ReadsAllW r.records (classAt s₀.heap) s₁.heap vals args as → WellAll w.params s₁.heap vals args → (∀ a ∈ as, (a == sysModules) = false) →
      AtC r.prog w (PySem.call (.ref a) vals) (fun v s' => GoodWG r.claim (classAt s₀.heap) (ExcName.means s₀.heap) args s₁ (.ok (.ret v)) s') s₁

theorem PySem.W.holds_open {r : OpenRow} {q : Program} {loose : List Str} {Xt : Shared → Bool} {XP : (Str → Option Value) → Heap → Prop} {α : Type} {Yf : Shared → α} {Ya : World → α} {YP : World → Heap → Prop} {d : DefRec} {kwd : List (Str × Expr)} {N : Nat}
    (left : LeftO r.prog q loose Xt Yf Ya N) (hY : ∀ w s, Yf s = Ya w → YP w s.heap) (hYk : ∀ w h h', YP w h → (∀ b o, h.get? b = some o → h'.get? b = some o) → YP w h')
    (hX : ∀ s, Xt s = true → XP (s.heap.nsMap mainGlobals) s.heap) (hXk : ∀ mg h h', XP mg h → (∀ b o, h.get? b = some o → h'.get? b = some o) → XP mg h')
    (hdef : defOf q r.name = some (d, kwd)) (hp : r.prog.theDef r.name = some (d.params, d.body, d.scope)) (hk : kwWritten? d.params.kwonlyargs d.params.kw_defaults = some kwd) (hRf : ∀ s, Xt s = true → RecFacts r.records s.heap) (hwr : (!r.writes || r.records.isEmpty) = true)
    (k1 : r.wellSaid = true) (ok : (chainsOk q && opensWell r.prog && (frees r.toRowW && r.within.isEmpty)) = true) (hb : r.prog.bare) (hw : r.toRowW.promised)
    (call : WalkC q loose XP YP r.toRowW d kwd) : r.Holds := by
  obtain ⟨ok1, k5⟩ := Bool.and_eq_true_iff.mp ok
  obtain ⟨hch, o1⟩ := Bool.and_eq_true_iff.mp ok1
  obtain ⟨k5, k6⟩ := Bool.and_eq_true_iff.mp k5
  obtain ⟨hsame, hu, ha, hap, hm⟩ := frees_parts k5
  refine ⟨k1, hw, ⟨hb, o1, by show r.toRowW.makers.map _ = []; rw [hm]; rfl⟩, hw.witness, fun w => ⟨(left.behind hX hch w).1, fun s' hs' => ?_⟩⟩
  obtain ⟨s₀, hf, hg0, s, hT, hz, hgens, hg, G00, y⟩ := (left.behind (XP := fun mg h => XP mg h ∧ RecFacts r.records h) (fun s hs => ⟨hX s hs, hRf s hs⟩) hch w).2 s' hs'
  have G0 : Ground q loose [] XP w s (s.heap.nsMap mainGlobals) (s.heap.nsMap builtinsNs) s.heap := ⟨G00.T, G00.B, G00.D, G00.TE, G00.TD, G00.W, G00.X.1, G00.cls, G00.has, G00.apart, G00.once, G00.K⟩
  have RF := G00.X.2
  have hpin : ∀ n, n = r.name → isTheDefsW r.prog s.heap n := by
    rintro n rfl
    exact pinned_of_view hg G0 hdef hp hk
  have hT' := hT
  refine ⟨s₀, hf, hg0, s, hT, fun n hn => hpin n (by split at hn <;> simp_all), RF.1, RF.2.1, ?_⟩
  have hgens : s.gens = #[] := Array.eq_empty_of_size_eq_zero (beq_iff_eq.mp hgens)
  have G : Ground q loose r.records XP w s _ _ s.heap := RF.ground G0
  refine callFromC (c := r.toRowW.claim) hz hgens fun args hpre hlay ord hord => ?_
  obtain ⟨⟨vs, s₁⟩, hlaid⟩ := Option.isSome_iff_exists.mp (layAllW_isSome (P := w.params) (ord := ord) G.has args r.toRowW.args s (pre_splitW hpre).1)
  have keeps := layAllW_keeps _ _ _ hlaid
  have hal := layAllW_rest _ _ _ hlaid
  obtain ⟨as, hrd, hin, hold⟩ := reads_layAllW hord _ _ _ hlaid hlay s₁.heap (fun _ _ e => e)
  have L : Laid r.records w s s₁ args vs as := ⟨⟨ord, hord, hlaid⟩, hrd, hin, hold, keeps, hal.1.trans hgens, hal.2.2.1⟩
  have G₁ := G.keeps hXk keeps
  obtain ⟨a, o, pm, cd, doc, dV, kV, h1, h2, h3, h4, h5⟩ := G₁.fn hdef
  have hi := ident_freeW hu ha hap
  have hwi : r.toRowW.claim.within = [] := List.isEmpty_iff.mp k6
  have hcall := call w s s₁ _ _ G₁ (hYk _ _ _ (hY w s y) keeps) a o pm cd doc dV kV h2 h3 h4 h5 (defOf_name hdef ▸ h1) L.gens args vs as hpre hlay L.reads L.well (L.low G.low)
  refine ⟨vs, s₁, hlaid, ?_⟩
  refine AtC.bind (AtC.any (wpAny_nsGet G₁.T.g ?_))
  rw [h1]
  refine AtC.bind (hcall.mono fun v s' g => AtC.any (wpAny_pure ⟨_, rfl, ?_⟩))
  have z := g.laid (c := r.toRowW.claim) hsame hwi hi L
  exact ⟨z.1, z.2.1, z.2.2, fun q => ⟨namesKept_of hT' hg _ keeps g.2.1.old, noTable hwr q⟩⟩
end
/-! GL -/
theorem glue_args {w : World} {s₀ s₁ : Shared} {args : List WData} {vals : List Value} {as : List Addr} (hpre : PySem.Challenge.rw_oh0077_01.row.toRowW.claim.pre args = true) (hlay : WData.layableAll args = true)
    (hrd : ReadsAllW PySem.Challenge.rw_oh0077_01.row.toRowW.records (classAt s₀.heap) s₁.heap vals args as) (hwl : WellAll w.params s₁.heap vals args) (hlo : ∀ a ∈ as, (a == sysModules) = false) :
    ∃ a vs ns, vals = [.ref a] ∧ s₁.heap.IsList a vs.toArray ∧ IntsAre vs ns ∧ vs.length ≤ 63 ∧ PySem.Challenge.rw_oh0077_01.row.toRowW.claim.post args (.bool true) args = true := by
  wrow_args hpre hlay hrd hwl hlo
  rename_i hI _ _ _
  refine ⟨_, _, _, rfl, by assumption, hI, ?_, ?_⟩
  · have := hI.length
    lia
  · wrow_post
theorem glue_good {s₀ s₁ s' : Shared} {args : List WData} (hpost : PySem.Challenge.rw_oh0077_01.row.toRowW.claim.post args (.bool true) args = true) (hO : OldK s₁.heap s'.heap) (hos : s'.os = s₁.os) (hg : AllBare s'.gens) :
    GoodWG PySem.Challenge.rw_oh0077_01.row.toRowW.claim (classAt s₀.heap) (ExcName.means s₀.heap) args s₁ (.ok (.ret (.bool true))) s' :=
  ⟨.inl ⟨_, _, [], rfl, fun _ => rfl, ReadsW.bool true, hpost, fun _ => ⟨List.nodup_nil, fun _ hm => (nomatch hm)⟩⟩, hO, hos, hg⟩
noncomputable def Frees (s₁ : Shared) : Shared := { s₁ with toks := 1 }
theorem frag_eq {K : Frag} {h : Heap} (X : K.In h) {a : Addr} {o o' : Obj} (e : h.get? a = some o) (k : K.lookup a = some o') : o = o' := by
  have := X _ _ k
  rw [e] at this
  exact Option.some.inj this
theorem glue_base {q : Program} {loose : List Str} {mean : ExcName → Option Value} {w : World} {s₁ : Shared} {mg mb : Str → Option Value} (T : Top q loose mean mg mb s₁.heap) (K : (hd.heap_1 w.params).In s₁.heap)
    (hj : ∃ d ∈ recsOf q, d.name = Str.ofString "join") : Base w (Frees s₁) ∧ s₁.heap.IsCode 757 753 #[] ∧ s₁.heap.TableAt 757 753 #[] := by
  obtain ⟨d, hd', hn⟩ := hj
  obtain ⟨a, o, fd, c, P, h1, h2, h3, h4, h5, h6⟩ := T.tab d hd'
  rw [hn] at h1
  have e1 : mg (Str.ofString "join") = some (.ref 758) := mg_of K T.g (by kernel_rfl)
  rw [e1] at h1
  cases h1
  have e2 := frag_eq K h2 (by k_is)
  subst e2
  cases h3
  cases h4
  obtain ⟨⟨o3, vs3, f1, f2, f3, f4⟩, f5⟩ := id h6
  have e3 := frag_eq K f1 (by k_is)
  subst e3
  cases f3
  cases f4
  obtain ⟨bm, ob, b1, b2, b3, b4, b5, b6⟩ := T.bmain
  exact ⟨⟨K, ⟨mg, T.g⟩, ⟨mb, T.b, T.builtins⟩, T.nolimit, ⟨#[], h5, h6⟩, ⟨mg, bm, ob, T.g, b1, b2, b3, b4, b5, b6⟩⟩, h5, h6⟩
theorem glue_st {w : World} {s₁ : Shared} (B : Base w (Frees s₁)) : St w (Frees s₁) [] [] s₁ :=
  { old := fun _ _ _ e => e
    tab := B.tab
    os := rfl
    gens := ⟨[], (List.append_nil _).symm, (fun _ h => by cases h), fun _ => rfl⟩
    size := Nat.le_refl _
    at_ := fun _ h => by cases h
    nd := List.nodup_nil
    lo := fun _ h => by cases h
    frs := fun _ h => by cases h
    fns := fun _ h => by cases h }
theorem glue_old {w : World} {s₁ s' : Shared} {led : Led} (ht : s₁.heap.TableAt 757 753 #[]) (S : St w (Frees s₁) [] led s') : OldK s₁.heap s'.heap := by
  obtain ⟨ps, _, ht'⟩ := S.tab
  refine ⟨fun b o e => ?_, fun b o e => ?_⟩
  · by_cases hb : b = 753
    · subst hb
      have e0 := ht.2
      rw [e] at e0
      cases e0
      exact .inr (.inl ⟨ht.isCodeTable, rfl, #[], ps, rfl, by rw [ht'.2]; simp⟩)
    · exact .inl (S.old b o (.inl hb) e)
  · by_cases hb : b = 753
    · subst hb; exact ⟨_, ht'.2⟩
    · exact ⟨o, S.old b o (.inl hb) e⟩
theorem glue_gens {w : World} {s₁ s' : Shared} {led : Led} (hg : s₁.gens = #[]) (S : St w (Frees s₁) [] led s') : AllBare s'.gens := by
  obtain ⟨l, h1, h2, _⟩ := S.gens
  have e : (Frees s₁).gens.toList = [] := by show s₁.gens.toList = []; rw [hg]
  rw [e, List.nil_append] at h1
  intro y hy
  exact h2 y (by rw [← h1]; simpa using hy)
theorem callerAr : Ar callerA [] 20 := ⟨by decide +kernel, by decide +kernel, rfl, rfl⟩
theorem glue {q : Program} {loose : List Str} {mean : ExcName → Option Value} {w : World} {s₀ s₁ : Shared} {mg mb : Str → Option Value} (T : Top q loose mean mg mb s₁.heap) (K : (hd.heap_1 w.params).In s₁.heap)
    (hj : ∃ d ∈ recsOf q, d.name = Str.ofString "join") {fa : Addr} (hmg : mg (Str.ofString "law") = some (.ref fa)) (hg : s₁.gens = #[]) {args : List WData} {vals : List Value} {as : List Addr}
    (hpre : PySem.Challenge.rw_oh0077_01.row.toRowW.claim.pre args = true) (hlay : WData.layableAll args = true)
    (hrd : ReadsAllW PySem.Challenge.rw_oh0077_01.row.toRowW.records (classAt s₀.heap) s₁.heap vals args as) (hwl : WellAll w.params s₁.heap vals args) (hlo : ∀ a ∈ as, (a == sysModules) = false) :
    AtC PR w (PySem.call (.ref fa) vals) (fun v s' => GoodWG PySem.Challenge.rw_oh0077_01.row.toRowW.claim (classAt s₀.heap) (ExcName.means s₀.heap) args s₁ (.ok (.ret v)) s') s₁ := by
  obtain ⟨sl, vs, ns, rfl, hl, hi, hz, hpost⟩ := glue_args hpre hlay hrd hwl hlo
  obtain ⟨B, _, ht⟩ := glue_base T K hj
  have e1 : mg (Str.ofString "law") = some (.ref 823) := mg_of K T.g (by kernel_rfl)
  rw [e1] at hmg
  cases hmg
  have hs7 : sl ≠ 753 := by
    rintro rfl
    obtain ⟨o, e, hc, _⟩ := hl
    rw [ht.2] at e
    cases e
    cases hc
  refine AtC.of_wpC (law_spec B (by intro h; cases h) callerAr (fun _ h => by cases h) (glue_st B) hl hs7 hi hz fun led' s' S' => ?_)
  exact glue_good hpost (glue_old ht S') (congrArg Prod.fst S'.os) (glue_gens hg S')
/-! TK -/
theorem join_in {q : Program} (h : (recsOf q).any (fun d => d.name == Str.ofString "join") = true) : ∃ d ∈ recsOf q, d.name = Str.ofString "join" := by
  obtain ⟨d, h1, h2⟩ := List.any_eq_true.mp h
  exact ⟨d, h1, beq_iff_eq.mp h2⟩
theorem head.tw357486453476387696 : True := trivial
theorem head.tw15485988799421978684 : True := trivial
theorem head.tw6850726384951132292 : True := trivial
theorem head.tw13794268993135237040 : True := trivial
theorem head.tw4425420699202667076 : True := trivial
theorem head.tw14125302347835133983 : True := trivial
theorem head.tw6074800462829891694 : True := trivial
theorem head.tw8052762604675153844 : True := trivial
theorem head.tw9349166240623497155 : True := trivial
theorem head.tw2353500884870936952 : True := trivial
theorem head.tw6973584914630602586 : True := trivial
theorem head.tw9909988147480630310 : True := trivial
theorem head.tw12820901002040952943 : True := trivial
theorem head.tw12683715663295903708 : True := trivial
theorem head.tw2074816045253348948 : True := trivial
theorem head.tw15919025892595252471 : True := trivial
theorem head.tw10213982820455145879 : True := trivial
theorem head.tw16597076867968051955 : True := trivial
theorem head.tw2280412012180511131 : True := trivial
theorem head.tw4162075825823739117 : True := trivial
theorem head.tw9114473537983693240 : True := trivial
theorem head.tw11460424709058496336 : True := trivial
theorem head.tw14735301032572234722 : True := trivial
theorem head.tw11904684991359361074 : True := trivial
theorem head.tw4702340293382431092 : True := trivial
theorem head.tw9718778162690014751 : True := trivial
theorem head.tw5442484570284002534 : True := trivial
theorem head.tw12429951682030723673 : True := trivial
theorem head.tw4560781026641586645 : True := trivial
theorem head.tw17774287074784473822 : True := trivial
theorem head.tw16974685034882416825 : True := trivial
theorem head.tw9258293945399652946 : True := trivial
theorem head.tw17156091980717111821 : True := trivial
theorem head.tw15452280279296900796 : True := trivial
theorem head.tw12299445865675373075 : True := trivial
theorem head.tw7447869477702799209 : True := trivial
theorem head.tw15022480046535758418 : True := trivial
theorem head.tw1703907593899377836 : True := trivial
theorem head.tw13587730682835784325 : True := trivial
theorem head.tw3859398291796969178 : True := trivial
theorem head.tw6692803169904595997 : True := trivial
theorem head.tw4543076655600059902 : True := trivial
theorem head.tw12339793173418651155 : True := trivial
theorem head.tw11097941207591946120 : True := trivial
theorem head.tw21988315779104480 : True := trivial
theorem head.tw6216518314043141356 : True := trivial
theorem head.tw4708111749353345164 : True := trivial
theorem head.tw9698977904933032859 : True := trivial
theorem head.tw907359911958329709 : True := trivial
theorem head.tw829941438253678028 : True := trivial
theorem head.tw12908475990344208633 : True := trivial
theorem head.tw9005204637564801583 : True := trivial
theorem head.tw4405734404675932169 : True := trivial
theorem head.tw763314674957123698 : True := trivial
theorem head.tw6846597200999610202 : True := trivial
theorem head.tw12841863872788715202 : True := trivial
theorem head.tw10333954764705244698 : True := trivial
theorem head.tw16472945084836616533 : True := trivial
theorem head.tw7392004362435642628 : True := trivial
theorem head.tw13910694723763315657 : True := trivial
theorem head.tw11052631288978436188 : True := trivial
theorem head.tw5869485362099743711 : True := trivial
theorem head.tw15676425527210111115 : True := trivial
theorem head.tw3794523003379204399 : True := trivial
theorem head.tw2441957057352720082 : True := trivial
theorem head.tw1970811146720035896 : True := trivial
theorem head.tw6327039764776113722 : True := trivial
theorem head.tw1315816938146588887 : True := trivial
theorem head.tw9234455393454914656 : True := trivial
theorem head.tw13227620805987009915 : True := trivial
theorem head.tw14631705268626504575 : True := trivial
theorem head.tw5906241406904858968 : True := trivial
theorem head.tw14667470093908496907 : True := trivial
theorem head.tw15604011560834605598 : True := trivial
theorem head.tw17304152732226823993 : True := trivial
theorem head.tw2800570052845255841 : True := trivial
theorem head.tw3186774066764743411 : True := trivial
theorem head.tw16800043278716471037 : True := trivial
theorem head.tw1966224132733831507 : True := trivial
theorem head.tw3401221922045585347 : True := trivial
theorem head.tw1593561654347908568 : True := trivial
theorem head.tw14959218684248593190 : True := trivial
theorem head.tw16894561301568121468 : True := trivial
theorem head.tw13396372801797540582 : True := trivial
theorem head.tw16441004959143088680 : True := trivial
theorem head.tw2770570992077290226 : True := trivial
theorem head.tw10242447542790323104 : True := trivial
theorem head.tw8127615886362856730 : True := trivial
theorem head.tw3659646283403374670 : True := trivial
theorem head.tw15967466079928408925 : True := trivial
theorem head.tw15894371620910866019 : True := trivial
theorem head.tw8812732774380208333 : True := trivial
theorem head.tw17577399041416155939 : True := trivial
theorem head.tw17039324001796647390 : True := trivial
theorem head.tw6260244149815935644 : True := trivial
theorem head.tw4022657073615663662 : True := trivial
theorem head.tw18433677622606106133 : True := trivial
theorem head.tw10205530081349824492 : True := trivial
theorem head.tw3688799982635324794 : True := trivial
theorem head.tw12773685731770592110 : True := trivial
theorem head.tw4273228799998304602 : True := trivial
theorem head.tw12359489953124434286 : True := trivial
theorem head.tw17014415605687186514 : True := trivial
theorem head.tw37620276538422747 : True := trivial
theorem head.tw14721649852327151169 : True := trivial
theorem head.tw3980653432952411973 : True := trivial
theorem head.tw12727220549172885185 : True := trivial
theorem head.tw14513887754847984766 : True := trivial
theorem head.tw649443455394278489 : True := trivial
theorem head.tw16888070154925205155 : True := trivial
theorem head.tw7396500232308049434 : True := trivial
theorem head.tw17297054508065495485 : True := trivial
theorem head.tw1212124681294104184 : True := trivial
theorem head.tw4381510469713062047 : True := trivial
theorem head.tw12907541655043102265 : True := trivial
theorem head.tw6665365088423693247 : True := trivial
theorem head.tw17674571679781333832 : True := trivial
theorem head.tw11629762434490789354 : True := trivial
theorem head.tw7743085818281968155 : True := trivial
theorem head.tw7802898811600756450 : True := trivial
theorem head.tw8453659626754050520 : True := trivial
theorem head.tw4652900348082922388 : True := trivial
theorem head.tw3212073173673764245 : True := trivial
theorem head.tw14699756766385990792 : True := trivial
theorem head.tw866174269921992937 : True := trivial
theorem head.tw6202622434921078099 : True := trivial
theorem head.tw12870424476946447624 : True := trivial
theorem head.tw1786199778172832133 : True := trivial
theorem head.tw17024340208454683379 : True := trivial
theorem head.tw11770459041652445329 : True := trivial
theorem head.tw549537130375317781 : True := trivial
theorem head.tw15798066900824788120 : True := trivial
theorem head.tw2307047085170396653 : True := trivial
theorem head.tw11692735721529064706 : True := trivial
theorem head.tw3008198553453493119 : True := trivial
theorem head.tw1062123275178591362 : True := trivial
theorem head.tw8047541715743884091 : True := trivial
theorem head.tw15924019268735266097 : True := trivial
theorem head.tw8182465387277545410 : True := trivial
theorem head.tw13478637309914159250 : True := trivial
theorem head.tw13896987355042952010 : True := trivial
theorem head.tw3040085230504974413 : True := trivial
theorem head.tw17819962511494538021 : True := trivial
theorem head.tw5117632248294077693 : True := trivial
theorem head.tw11452831842485331373 : True := trivial
theorem head.tw1768946877615068040 : True := trivial
theorem head.tw10172395084087279453 : True := trivial
theorem head.tw7776034092063851801 : True := trivial
theorem head.tw13243859325854052328 : True := trivial
theorem head.tw3715584954343283195 : True := trivial
theorem head.tw17265401458761052179 : True := trivial
theorem head.tw3244951577380529755 : True := trivial
theorem head.tw14059167943309011982 : True := trivial
theorem head.tw4071276723835451856 : True := trivial
theorem head.tw3615648651819825313 : True := trivial
theorem head.tw18081138779251354973 : True := trivial
theorem head.tw7994106446794305319 : True := trivial
theorem head.tw9464831228461672588 : True := trivial
theorem head.tw11849420070602536199 : True := trivial
theorem head.tw12324890628731678277 : True := trivial
theorem head.tw15794997505209512671 : True := trivial
theorem head.tw11373832636114325086 : True := trivial
theorem head.tw12704426703380559182 : True := trivial
theorem head.tw1914692607248247194 : True := trivial
theorem head.tw9655098249580616457 : True := trivial
theorem head.tw13499107582688000984 : True := trivial
theorem head.tw6721134378175745729 : True := trivial
theorem head.tw7268587803892137274 : True := trivial
theorem head.tw7022350480634057125 : True := trivial
theorem head.tw4009957668330374740 : True := trivial
theorem head.tw13999681649124312864 : True := trivial
theorem head.tw11715283913529211631 : True := trivial
theorem head.tw6298033893332097587 : True := trivial
theorem head.tw12032222614953749359 : True := trivial
theorem head.tw6925956493692337269 : True := trivial
theorem head.tw6568496029643798928 : True := trivial
theorem head.tw2346233315218137286 : True := trivial
theorem head.tw13173419930079284663 : True := trivial
theorem head.tw10266725362097490940 : True := trivial
theorem head.tw4746297304354101679 : True := trivial
theorem head.tw2952394568518751322 : True := trivial
theorem head.tw4307260679431091991 : True := trivial
theorem head.tw5931312163665498127 : True := trivial
theorem head.tw10974755624167950533 : True := trivial
theorem head.tw1113026022037541615 : True := trivial
theorem head.tw17784925447008408576 : True := trivial
theorem head.tw18254194996027185994 : True := trivial
theorem head.tw2413573451304230806 : True := trivial
theorem head.tw7833285031277912329 : True := trivial
theorem head.tw16392136796542896229 : True := trivial
theorem head.tw10010264046613662565 : True := trivial
theorem head.tw12740806245664736207 : True := trivial
theorem head.tw7150722627226208844 : True := trivial
theorem head.tw15142167089309388077 : True := trivial
theorem head.tw851385035628625539 : True := trivial
theorem head.tw4090201507572337743 : True := trivial
theorem head.tw6343081548495622777 : True := trivial
theorem head.tw13709171453431284056 : True := trivial
theorem head.tw10411495711918999321 : True := trivial
theorem head.tw6836605351468522007 : True := trivial
theorem head.tw1214346256449528893 : True := trivial
theorem head.tw7582878936473852414 : True := trivial
theorem head.tw4176204533620912855 : True := trivial
theorem head.tw8234971438303653646 : True := trivial
theorem head.tw4074162786017977361 : True := trivial
theorem head.tw7273171245171862726 : True := trivial
theorem head.tw9885750084120196852 : True := trivial
theorem head.tw3014165967379819670 : True := trivial
theorem head.tw4818460703928763416 : True := trivial
theorem head.tw7094589048997770552 : True := trivial
theorem head.tw12310735299239354703 : True := trivial
theorem head.tw14203740742628978354 : True := trivial
theorem head.tw9545880450340258906 : True := trivial
theorem head.tw18007968972792079559 : True := trivial
theorem head.tw17197444120159719569 : True := trivial
theorem head.tw12242153458792446204 : True := trivial
theorem head.tw14149427978524627653 : True := trivial
theorem head.tw16576625349610184965 : True := trivial
theorem head.tw7309950759910210094 : True := trivial
theorem head.tw497287684792784471 : True := trivial
theorem head.tw2326617092838664518 : True := trivial
theorem head.tw15253147559959296200 : True := trivial
theorem head.tw1351559336864506655 : True := trivial
theorem head.tw5479459121986351116 : True := trivial
theorem head.tw3491922830310591732 : True := trivial
theorem head.tw6694795733361404990 : True := trivial
theorem head.tw15012772271602616124 : True := trivial
theorem head.tw6638625709723660006 : True := trivial
theorem head.tw12084453891678590660 : True := trivial
theorem head.tw12249523057431388528 : True := trivial
theorem head.tw5706719897436871717 : True := trivial
theorem head.tw860298348326699438 : True := trivial
theorem head.tw6326884235501431104 : True := trivial
theorem head.tw4053978428183960486 : True := trivial
theorem head.tw3164961170700492040 : True := trivial
theorem head.tw10371985647062452541 : True := trivial
theorem head.tw693309671712327132 : True := trivial
theorem head.tw10021064610941686981 : True := trivial
theorem head.tw9716329373054682134 : True := trivial
theorem head.tw8535708456716222715 : True := trivial
theorem head.tw17747007371178652897 : True := trivial
theorem head.tw16495435189000846180 : True := trivial
theorem head.tw6174258528820157971 : True := trivial
theorem head.tw2760189568479381244 : True := trivial
theorem head.tw11434997419882176723 : True := trivial
theorem head.tw739537129135343663 : True := trivial
theorem head.tw1061700454162486011 : True := trivial
theorem head.tw13932022402069264104 : True := trivial
theorem head.tw10706776884845955466 : True := trivial
theorem head.tw5870146547769353613 : True := trivial
theorem head.tw15796087645652482245 : True := trivial
theorem head.tw807299193193998342 : True := trivial
theorem head.tw10521553517811329670 : True := trivial
theorem head.tw18177109656662797139 : True := trivial
theorem head.tw8476951943066225111 : True := trivial
theorem head.tw1909714482019496454 : True := trivial
theorem head.tw2437478716016495240 : True := trivial
theorem head.tw16172288393029767808 : True := trivial
theorem head.tw11105056867450500199 : True := trivial
theorem head.tw3657744606055017977 : True := trivial
theorem head.tw1050551135032985961 : True := trivial
theorem head.tw17346037399652195860 : True := trivial
theorem head.tw14744981736328886265 : True := trivial
theorem head.tw13002585709282622103 : True := trivial
theorem head.tw14090159008775844135 : True := trivial
theorem head.tw1992862871153497056 : True := trivial
theorem head.tw2400818531096893172 : True := trivial
theorem head.tw10637405514072869310 : True := trivial
theorem head.tw10079960370226730655 : True := trivial
theorem head.tw3548660455928884018 : True := trivial
theorem head.tw14112020806712329415 : True := trivial
theorem head.tw11998209505049934977 : True := trivial
theorem head.tw13689084217373910675 : True := trivial
theorem head.tw807142644699662319 : True := trivial
theorem head.tw15666658371737129944 : True := trivial
theorem head.tw16579250180923337425 : True := trivial
theorem head.tw12428389735305899900 : True := trivial
theorem head.tw9030979908501067730 : True := trivial
theorem head.tw9644850379433450445 : True := trivial
theorem head.tw18060483585939721653 : True := trivial
theorem head.tw527386997569798941 : True := trivial
theorem head.tw3404819636646143723 : True := trivial
theorem head.tw9802980913210911633 : True := trivial
theorem head.tw1919890906376249811 : True := trivial
theorem head.tw1642545813376747948 : True := trivial
theorem head.tw5487235932777146282 : True := trivial
theorem head.tw7680146299302783591 : True := trivial
theorem head.tw17173245716831642929 : True := trivial
theorem head.tw12865059321931465230 : True := trivial
theorem head.tw13906610036690215845 : True := trivial
theorem head.tw14195316510222423288 : True := trivial
theorem head.tw7816200647515196274 : True := trivial
theorem head.tw11704837465938651953 : True := trivial
theorem head.tw13357441389134331599 : True := trivial
theorem head.tw11685017591894731939 : True := trivial
theorem head.tw4311042196063409733 : True := trivial
theorem head.tw8169693465737517768 : True := trivial
theorem head.tw10589435714200987077 : True := trivial
theorem head.tw5390082478394435474 : True := trivial
theorem head.tw4415685298772064003 : True := trivial
theorem head.tw14139617269561922093 : True := trivial
theorem head.tw7358512011923840914 : True := trivial
theorem head.tw9553506758532729402 : True := trivial
theorem head.tw17993767162375566018 : True := trivial
theorem head.tw12344544660321961925 : True := trivial
theorem head.tw2491421050496283774 : True := trivial
theorem head.tw11194998557105285118 : True := trivial
theorem head.tw1519320592345488741 : True := trivial
theorem head.tw6247268493268985975 : True := trivial
theorem head.tw5061997093462229610 : True := trivial
theorem head.tw12214093580764582487 : True := trivial
theorem head.tw15832300201269216667 : True := trivial
theorem head.tw8314419943907019669 : True := trivial
theorem head.tw17093656651364094606 : True := trivial
theorem head.tw5274623360512300857 : True := trivial
theorem head.tw16291991722392533869 : True := trivial
theorem head.tw13065621461132903086 : True := trivial
theorem head.tw8626486368039343599 : True := trivial
theorem head.tw1718890006036334650 : True := trivial
theorem head.tw5353729903917744248 : True := trivial
theorem head.tw15735840784391694233 : True := trivial
theorem head.tw9646481798937456297 : True := trivial
theorem head.tw9354026244260953042 : True := trivial
theorem head.tw5013180600929471838 : True := trivial
theorem head.tw14344768424176206936 : True := trivial
theorem head.tw6930615606355531631 : True := trivial
theorem head.tw2973143901146584636 : True := trivial
theorem head.tw17698105195316432488 : True := trivial
theorem head.tw6265338273532641288 : True := trivial
theorem head.tw16014373381606645092 : True := trivial
theorem head.tw17015032458148788900 : True := trivial
theorem head.tw12037728316022314418 : True := trivial
theorem head.tw15779500811904541264 : True := trivial
theorem head.tw315434073420411817 : True := trivial
theorem head.tw9987851973559822609 : True := trivial
theorem head.tw10062970787820224252 : True := trivial
theorem head.tw8187629637223713605 : True := trivial
theorem head.tw12398312691204496596 : True := trivial
theorem head.tw16894197260953374720 : True := trivial
theorem head.tw13137911371727378231 : True := trivial
theorem head.tw12095829319087573521 : True := trivial
theorem head.tw16917608666046251313 : True := trivial
theorem head.tw4473611206160876864 : True := trivial
theorem head.tw9171846695823722306 : True := trivial
theorem head.tw8414573866900348196 : True := trivial
theorem head.tw13637325136056909300 : True := trivial
theorem head.tw15253846138512369154 : True := trivial
theorem head.tw2260579728952749127 : True := trivial
theorem head.tw7599496313472250701 : True := trivial
theorem head.tw1929634836878124385 : True := trivial
theorem head.tw15845715064670954444 : True := trivial
theorem head.tw4764554697811233 : True := trivial
theorem head.tw15539854500240908086 : True := trivial
theorem head.tw377444749377882612 : True := trivial
theorem head.tw16128420640991077102 : True := trivial
theorem head.tw466721876749952763 : True := trivial
theorem head.tw6581712109270413358 : True := trivial
theorem head.tw17975491588444890076 : True := trivial
theorem head.tw8476099583838051002 : True := trivial
theorem head.tw5506250874072839755 : True := trivial
theorem head.tw5986637957666399235 : True := trivial
theorem head.tw2879759524354350568 : True := trivial
theorem head.tw955679406967904151 : True := trivial
theorem head.tw13216898753189638151 : True := trivial
theorem head.tw4554283584077286953 : True := trivial
theorem head.tw17238610979035211840 : True := trivial
theorem head.tw8586521899292070991 : True := trivial
theorem head.tw17768545326873755256 : True := trivial
theorem head.tw15181326774706428367 : True := trivial
theorem head.tw3122906425038022637 : True := trivial
theorem head.tw6931653728971238233 : True := trivial
theorem head.tw8264559056461403633 : True := trivial
theorem head.tw1976755195193171425 : True := trivial
theorem head.tw11820730986300896962 : True := trivial
theorem head.tw14983349147647662914 : True := trivial
theorem head.tw1858156416291392539 : True := trivial
theorem head.tw5792407227767346561 : True := trivial
theorem head.tw17287069475806534740 : True := trivial
theorem head.tw4834694072379752904 : True := trivial
theorem head.tw15035418422258542911 : True := trivial
theorem head.tw17348764703882912863 : True := trivial
theorem head.tw45052839361067614 : True := trivial
theorem head.tw467416434755642258 : True := trivial
theorem head.tw1714602735852981970 : True := trivial
theorem head.tw7688317290187622652 : True := trivial
theorem head.tw14139502460874162764 : True := trivial
theorem head.tw827875400781611141 : True := trivial
theorem head.tw15520248196984853422 : True := trivial
theorem head.tw6237802210402583469 : True := trivial
theorem head.tw10457615780465708087 : True := trivial
theorem head.tw16769997242578385675 : True := trivial
theorem head.tw4151447041120621724 : True := trivial
theorem head.tw8299393411229908732 : True := trivial
theorem head.tw10504981510240967646 : True := trivial
theorem head.tw3547811175951651099 : True := trivial
theorem head.tw10730805705081004914 : True := trivial
theorem head.tw3088210815446039105 : True := trivial
theorem head.tw7893992939808209232 : True := trivial
theorem head.tw9380374249521086144 : True := trivial
theorem head.tw14969395210118534408 : True := trivial
theorem head.tw7179252675378151715 : True := trivial
theorem head.tw4017301010375394790 : True := trivial
theorem head.tw14676189674455941282 : True := trivial
theorem head.tw15326552575505426906 : True := trivial
theorem head.tw13295774097974887486 : True := trivial
theorem head.tw12472887615940459650 : True := trivial
theorem head.tw10015159338476511836 : True := trivial
theorem head.tw10872037306656784433 : True := trivial
theorem head.tw1438866918597655640 : True := trivial
theorem head.tw11060938730435951684 : True := trivial
theorem head.tw14168692526580214153 : True := trivial
theorem head.tw18332285231265401824 : True := trivial
theorem head.tw5944575059761466720 : True := trivial
theorem head.tw2232109503444375002 : True := trivial
theorem head.tw10128390137947593754 : True := trivial
theorem head.tw13750642191701924398 : True := trivial
theorem head.tw10746725682022337571 : True := trivial
theorem head.tw9325123708862168440 : True := trivial
theorem head.tw16782820856776367440 : True := trivial
theorem head.tw12799966317143952679 : True := trivial
theorem head.tw14158537116620707164 : True := trivial
theorem head.tw14643959010103036307 : True := trivial
theorem head.tw18277060748420158845 : True := trivial
theorem head.tw15263674166054382079 : True := trivial
theorem head.tw2529948359932261575 : True := trivial
theorem head.tw7161073391023584161 : True := trivial
theorem head.tw17539234302018041193 : True := trivial
theorem head.tw12630350610049390935 : True := trivial
theorem head.tw7616930195647119758 : True := trivial
theorem head.tw7421959067914383049 : True := trivial
theorem head.tw820421773197932041 : True := trivial
theorem head.tw17646911460466567920 : True := trivial
theorem head.tw14385403278947933607 : True := trivial
theorem head.tw4585157591006285545 : True := trivial
theorem head.tw3340124654517525194 : True := trivial
theorem head.tw4692888973056910177 : True := trivial
theorem head.tw2351721285296973921 : True := trivial
theorem head.tw7272792461964422541 : True := trivial
theorem head.tw6229939688011154569 : True := trivial
theorem head.tw2994772191003457714 : True := trivial
theorem head.tw290710125855613696 : True := trivial
theorem head.tw12741294794224977040 : True := trivial
theorem head.tw3127049524044150859 : True := trivial
theorem head.tw6891450509433485068 : True := trivial
theorem head.tw11289835788462762251 : True := trivial
theorem head.tw780477332936465449 : True := trivial
theorem head.tw6100774026682323163 : True := trivial
theorem head.tw11268529262604976462 : True := trivial
theorem head.tw11540487432870637733 : True := trivial
theorem head.tw3171451927456968151 : True := trivial
theorem head.tw13743032657059413451 : True := trivial
theorem head.tw17339705970751849611 : True := trivial
theorem head.tw9197122456581196581 : True := trivial
theorem head.tw16987140817204460263 : True := trivial
theorem head.tw4163069186122357367 : True := trivial
theorem head.tw6910089277995645325 : True := trivial
theorem head.tw6379358179555706155 : True := trivial
theorem head.tw14969385696402013904 : True := trivial
theorem head.tw17522360388414511382 : True := trivial
theorem head.tw4018983750718401802 : True := trivial
theorem head.tw2201313380682377074 : True := trivial
theorem head.tw11402027661713467040 : True := trivial
theorem head.tw9188055836752697145 : True := trivial
theorem head.tw6858743491597560450 : True := trivial
theorem head.tw18331532914195504034 : True := trivial
theorem head.tw13917482298092908234 : True := trivial
theorem head.tw2876011056497122456 : True := trivial
theorem head.tw7156519585557434892 : True := trivial
theorem head.tw11081218982966106116 : True := trivial
theorem head.tw2753283235347674219 : True := trivial
theorem head.tw3500380475922496097 : True := trivial
theorem head.tw14637134836413734856 : True := trivial
theorem head.tw16385634705727604063 : True := trivial
theorem head.tw6518409114910312394 : True := trivial
theorem head.tw12611893724949602041 : True := trivial
theorem head.tw10005452208157733855 : True := trivial
theorem head.tw6846866878297920324 : True := trivial
theorem head.tw1620002657737552111 : True := trivial
theorem head.tw7748693106545578708 : True := trivial
theorem head.tw9103479521544129834 : True := trivial
theorem head.tw10116942457455264815 : True := trivial
theorem head.tw13412022041919118725 : True := trivial
theorem head.tw3792481456662301179 : True := trivial
theorem head.tw4154363929692500862 : True := trivial
theorem head.tw12417293695627231756 : True := trivial
theorem head.tw17783093436913651231 : True := trivial
theorem head.tw12394069701764826827 : True := trivial
theorem head.tw10948677003083999065 : True := trivial
theorem head.tw4419558321834357505 : True := trivial
theorem head.tw12949380547846470161 : True := trivial
theorem head.tw17194126546080390198 : True := trivial
theorem head.tw9107825763807709430 : True := trivial
theorem head.tw14078167904914714981 : True := trivial
theorem head.tw1472379273497163797 : True := trivial
theorem head.tw3863384581746538084 : True := trivial
theorem head.tw16545597347906280737 : True := trivial
theorem head.tw18282902561792777199 : True := trivial
theorem head.tw2705560170217086799 : True := trivial
theorem head.tw4196546014268931301 : True := trivial
theorem head.tw5111174896325423537 : True := trivial
theorem head.tw9449176361245260279 : True := trivial
theorem head.tw7906546307943345882 : True := trivial
theorem head.tw4975070653579243887 : True := trivial
theorem head.tw1693818546310300448 : True := trivial
theorem head.tw7928285938522686346 : True := trivial
theorem head.tw742351954350328859 : True := trivial
theorem head.tw17047625674926534286 : True := trivial
theorem head.tw15468718075485040107 : True := trivial
theorem head.tw5987550445186205895 : True := trivial
theorem head.tw6604829842348296887 : True := trivial
theorem head.tw4976181008148175253 : True := trivial
theorem head.tw2599346099135257874 : True := trivial
theorem head.tw14488727979953464203 : True := trivial
theorem head.tw14235953900361662071 : True := trivial
theorem head.tw4693820183103290663 : True := trivial
theorem head.tw11724780754615379514 : True := trivial
theorem head.tw17188972718952451159 : True := trivial
theorem head.tw13801937863458859944 : True := trivial
theorem head.tw1155926839051525531 : True := trivial
theorem head.tw13631071318896544983 : True := trivial
theorem head.tw7287109101882759415 : True := trivial
theorem head.tw9145527808636388435 : True := trivial
theorem head.tw17508272824862286709 : True := trivial
theorem head.tw12043669396524033845 : True := trivial
theorem head.tw11988142204041823098 : True := trivial
theorem head.tw6600165084710513979 : True := trivial
theorem head.tw13017206433863751270 : True := trivial
theorem head.tw8881269060482585022 : True := trivial
theorem head.tw3160712208675142370 : True := trivial
theorem head.tw18192872963121912645 : True := trivial
theorem head.tw262713603470380999 : True := trivial
theorem head.tw14061139507663348314 : True := trivial
theorem head.tw2343260813663018654 : True := trivial
theorem head.tw9202431907968578930 : True := trivial
theorem head.tw13198292447841614426 : True := trivial
theorem head.tw4063747431996464497 : True := trivial
theorem head.tw5593727005144783397 : True := trivial
theorem head.tw1389810093214676884 : True := trivial
theorem head.tw2096541523181747872 : True := trivial
theorem head.tw11544532188706048022 : True := trivial
theorem head.tw17008234436448823602 : True := trivial
theorem head.tw5380383263664398348 : True := trivial
theorem head.tw3453547403478019728 : True := trivial
theorem head.tw15039987702171664376 : True := trivial
theorem head.tw18165431152234640623 : True := trivial
theorem head.tw13353151263460963528 : True := trivial
theorem head.tw7656372460463219624 : True := trivial
theorem head.tw2203363585012173787 : True := trivial
theorem head.tw14432977821161478157 : True := trivial
theorem head.tw14877080517539528568 : True := trivial
theorem head.tw12682429181067543257 : True := trivial
theorem head.tw2946737518818760889 : True := trivial
theorem head.tw3898573915619166781 : True := trivial
theorem head.tw2764016085172604524 : True := trivial
theorem head.tw13942192884097748152 : True := trivial
theorem head.tw9368406320212774489 : True := trivial
theorem head.tw15656768269340197940 : True := trivial
theorem head.tw4528443807372415038 : True := trivial
theorem head.tw17017319662998615 : True := trivial
theorem head.tw8451290768687142514 : True := trivial
theorem head.tw6763335052953634553 : True := trivial
theorem head.tw6772502638888315869 : True := trivial
theorem head.tw17129914584562691343 : True := trivial
theorem head.tw10748227973586771634 : True := trivial
theorem head.tw15248001044337979736 : True := trivial
theorem head.tw3604701254548876123 : True := trivial
theorem head.tw15204471325056678010 : True := trivial
theorem head.tw7218757217702219634 : True := trivial
theorem head.tw6544681653968885310 : True := trivial
theorem head.tw5788964047882338313 : True := trivial
theorem head.tw3089916443595474862 : True := trivial
theorem head.tw16106133796442146334 : True := trivial
theorem head.tw3749026756887285471 : True := trivial
theorem head.tw3368030927266983236 : True := trivial
theorem head.tw5467695095851852608 : True := trivial
theorem head.tw1939405473400901271 : True := trivial
theorem head.tw9196398404247428943 : True := trivial
theorem head.tw5651425540991249520 : True := trivial
theorem head.tw1919001801439425371 : True := trivial
theorem head.tw12478146576626367362 : True := trivial
theorem head.tw86301839051661876 : True := trivial
theorem head.tw6511893084456135703 : True := trivial
theorem head.tw9388430590476628193 : True := trivial
theorem head.tw8497721794823489343 : True := trivial
theorem head.tw15827502805916655846 : True := trivial
theorem head.tw16175233474957185256 : True := trivial
theorem head.tw7313386461004707312 : True := trivial
theorem head.tw10927441816077202529 : True := trivial
theorem head.tw5271886537152271918 : True := trivial
theorem head.tw10668533816033670360 : True := trivial
theorem head.tw1235056861985050600 : True := trivial
theorem head.tw10865165270600546614 : True := trivial
theorem head.tw1344716296598748285 : True := trivial
theorem head.tw18245757647322506876 : True := trivial
theorem head.tw14699528089545365996 : True := trivial
theorem head.tw15001418939266856263 : True := trivial
theorem head.tw10110233660360586483 : True := trivial
theorem head.tw11808996689058197189 : True := trivial
theorem head.tw8603420104599213669 : True := trivial
theorem head.tw12489392125719316460 : True := trivial
theorem head.tw14189018646254832302 : True := trivial
theorem head.tw16166440364842034014 : True := trivial
theorem head.tw8943219189493157100 : True := trivial
theorem head.tw11274228538900641214 : True := trivial
theorem head.tw12764128322984676335 : True := trivial
theorem head.tw13381936622781507537 : True := trivial
theorem head.tw792300799171563205 : True := trivial
theorem head.tw3746228215898030841 : True := trivial
theorem head.tw17052544337092648970 : True := trivial
theorem head.tw6211381574409162282 : True := trivial
theorem head.tw13605870324054321959 : True := trivial
theorem head.tw174166394780034911 : True := trivial
theorem head.tw2066564036433440168 : True := trivial
theorem head.tw17576780380515613560 : True := trivial
theorem head.tw13653928888864918839 : True := trivial
theorem head.tw7992697801930647134 : True := trivial
theorem head.tw4991397462208424806 : True := trivial
theorem head.tw6215453301258677876 : True := trivial
theorem head.tw15165643980268286292 : True := trivial
theorem head.tw13277643439714857746 : True := trivial
theorem head.tw5889021280877657681 : True := trivial
theorem head.tw17552560543380974038 : True := trivial
theorem head.tw5438144065070405397 : True := trivial
theorem head.tw4607607821588926596 : True := trivial
theorem head.tw8541356943393881859 : True := trivial
theorem head.tw6085824867444503733 : True := trivial
theorem head.tw7512725033676591148 : True := trivial
theorem head.tw5129616035191883695 : True := trivial
theorem head.tw11914187763297459524 : True := trivial
theorem head.tw13337238644230332656 : True := trivial
theorem head.tw11732908120936727654 : True := trivial
theorem head.tw12666380852390969779 : True := trivial
theorem head.tw2525317073905713282 : True := trivial
theorem head.tw6526830475164118762 : True := trivial
theorem head.tw14643560169476415855 : True := trivial
theorem head.tw1756991915124769162 : True := trivial
theorem head.tw13199516396595161752 : True := trivial
theorem head.tw17007033763367706731 : True := trivial
theorem head.tw13295082483830516422 : True := trivial
theorem head.tw14909605222495392915 : True := trivial
theorem head.tw1792277464101229681 : True := trivial
theorem head.tw9082462177598256812 : True := trivial
theorem head.tw1660877005871194693 : True := trivial
theorem head.tw11636873012791513418 : True := trivial
theorem head.tw2123727595537733498 : True := trivial
theorem head.tw5240702290290941181 : True := trivial
theorem head.tw17113217626458354986 : True := trivial
theorem head.tw4972248218790579157 : True := trivial
theorem head.tw18331334602107656470 : True := trivial
theorem head.tw8182079617134344778 : True := trivial
theorem head.tw7960053054240918295 : True := trivial
theorem head.tw12201952087667049370 : True := trivial
theorem head.tw6507506987150044280 : True := trivial
theorem head.tw17573037796337583832 : True := trivial
theorem head.tw17890245599415353634 : True := trivial
theorem head.tw9325057278558614444 : True := trivial
theorem head.tw16582591585412914238 : True := trivial
theorem head.tw4964814941381164201 : True := trivial
theorem head.tw11582096051123008839 : True := trivial
theorem head.tw13708957947011138092 : True := trivial
theorem head.tw14788773977795034992 : True := trivial
theorem head.tw2249667046024356820 : True := trivial
theorem head.tw3254172550106833301 : True := trivial
theorem head.tw17658000642845759554 : True := trivial
theorem head.tw8914193344474463099 : True := trivial
theorem head.tw2355103038987944067 : True := trivial
theorem head.tw7704315382344345624 : True := trivial
theorem head.tw8874674299285249911 : True := trivial
theorem head.tw13301384168344821027 : True := trivial
theorem head.tw6157079530059567975 : True := trivial
theorem head.tw11124748197601291601 : True := trivial
theorem head.tw12074122134279094452 : True := trivial
theorem head.tw12858780395421280599 : True := trivial
theorem head.tw6671239247050548429 : True := trivial
theorem head.tw14512941343882779238 : True := trivial
theorem head.tw3083302935323014018 : True := trivial
theorem head.tw8093062688287402578 : True := trivial
theorem head.tw12573619785200380473 : True := trivial
theorem head.tw10698650227242318774 : True := trivial
theorem head.tw9493678621577581731 : True := trivial
theorem head.tw5015311536963163689 : True := trivial
theorem head.tw14429822130985059091 : True := trivial
theorem head.tw14679116673082234219 : True := trivial
theorem head.tw67086481866811729 : True := trivial
theorem head.tw17553620660974883448 : True := trivial
theorem head.tw10307130028497402462 : True := trivial
theorem head.tw12173065484745272029 : True := trivial
theorem head.tw2646132237282668844 : True := trivial
theorem head.tw3103639331685909893 : True := trivial
theorem head.tw16817119741492734445 : True := trivial
theorem head.tw8101760021730824546 : True := trivial
theorem head.tw9259982139148825551 : True := trivial
theorem head.tw14205479233844494046 : True := trivial
theorem head.tw1689142752476645926 : True := trivial
theorem head.tw8062929857114545703 : True := trivial
theorem head.tw18416563613846182222 : True := trivial
theorem head.tw3185377453876500656 : True := trivial
theorem head.tw16952181060025214987 : True := trivial
theorem head.tw12120646240234225243 : True := trivial
theorem head.tw3223962053107752630 : True := trivial
theorem head.tw3910526619309349007 : True := trivial
theorem head.tw7627683417492964911 : True := trivial
theorem head.tw3690969761935527329 : True := trivial
theorem head.tw48543519692965452 : True := trivial
theorem head.tw9114333099845857663 : True := trivial
theorem head.tw5401097623525119610 : True := trivial
theorem head.tw15305915472762889579 : True := trivial
theorem head.tw4357005996527412928 : True := trivial
theorem head.tw2681166955253090778 : True := trivial
theorem head.tw14234965402570480558 : True := trivial
theorem head.tw7013799640231393816 : True := trivial
theorem head.tw13687475568465949530 : True := trivial
theorem head.tw7789450098604059249 : True := trivial
theorem head.tw17894702793023417833 : True := trivial
theorem head.tw2241628862621589225 : True := trivial
theorem head.tw6566528962581093517 : True := trivial
theorem head.tw15782939476341012554 : True := trivial
theorem head.tw13086575352542018947 : True := trivial
theorem head.tw6402496994288996404 : True := trivial
theorem head.tw13315729282080922261 : True := trivial
theorem head.tw8251012268138292781 : True := trivial
theorem head.tw15149402430504572791 : True := trivial
theorem head.tw5764705848585077094 : True := trivial
theorem head.tw10533634037010066435 : True := trivial
theorem head.tw3333069708870698940 : True := trivial
theorem head.tw13276723143375012678 : True := trivial
theorem head.tw5038994553942263901 : True := trivial
theorem head.tw2428695696106030784 : True := trivial
theorem head.tw10018764681926925449 : True := trivial
theorem head.tw6521490308693473283 : True := trivial
theorem head.tw6737735255597943219 : True := trivial
theorem head.tw3986194592780655508 : True := trivial
theorem head.tw8773370040425892893 : True := trivial
theorem head.tw578259024812056932 : True := trivial
theorem head.tw9984397402777080727 : True := trivial
theorem head.tw12352672977532951062 : True := trivial
theorem head.tw140066278072042493 : True := trivial
theorem head.tw5617373736292572815 : True := trivial
theorem head.tw7876399200375917224 : True := trivial
theorem head.tw18364922244981856966 : True := trivial
theorem head.tw11667079572552394392 : True := trivial
theorem head.tw14527164170590304321 : True := trivial
theorem head.tw12427710115714267126 : True := trivial
theorem head.tw9820158181544301314 : True := trivial
theorem head.tw14768688571040804171 : True := trivial
theorem head.tw5418945672586834282 : True := trivial
theorem head.tw11484797826999851062 : True := trivial
theorem head.tw9089795715530709647 : True := trivial
theorem head.tw14531177953140590962 : True := trivial
theorem head.tw6369041477666114370 : True := trivial
theorem head.tw13504307299585405616 : True := trivial
theorem head.tw10900948863051656163 : True := trivial
theorem head.tw14843749296085226474 : True := trivial
theorem head.tw2554682012703037696 : True := trivial
theorem head.tw4857777746444614323 : True := trivial
theorem head.tw12212823987433534256 : True := trivial
theorem head.tw14597329475937083939 : True := trivial
theorem head.tw9702098958229961203 : True := trivial
theorem head.tw12362083183470981646 : True := trivial
theorem head.tw2825341998796452840 : True := trivial
theorem head.tw11296743742662292762 : True := trivial
theorem head.tw9065935926736091543 : True := trivial
theorem head.tw322437386772585718 : True := trivial
theorem head.tw5996384718915585738 : True := trivial
theorem head.tw2118377178292867602 : True := trivial
theorem head.tw14720509044617813951 : True := trivial
theorem head.tw3880867118405822719 : True := trivial
theorem head.tw7148437315225170067 : True := trivial
theorem head.tw3547240966391284428 : True := trivial
theorem head.tw14956371261235936329 : True := trivial
theorem head.tw13294958713779813728 : True := trivial
theorem head.tw16065720564569863766 : True := trivial
theorem head.tw4239589573987675453 : True := trivial
theorem head.tw9767149119325585590 : True := trivial
theorem head.tw6870361546347238192 : True := trivial
theorem head.tw3364305129493290686 : True := trivial
theorem head.tw1728724042893426364 : True := trivial
theorem head.tw2694075680205673411 : True := trivial
theorem head.tw5915552362696249034 : True := trivial
theorem head.tw10258521583956687137 : True := trivial
theorem head.tw16278871845796110771 : True := trivial
theorem head.tw5407718363533321033 : True := trivial
theorem head.tw12074249297620881909 : True := trivial
theorem head.tw5844781237557850387 : True := trivial
theorem head.tw2340069552987342377 : True := trivial
theorem head.tw6791874446421159577 : True := trivial
theorem head.tw7705420606127192585 : True := trivial
theorem head.tw6079359036626576793 : True := trivial
theorem head.tw17608190574486352970 : True := trivial
theorem head.tw17854890406432584798 : True := trivial
theorem head.tw10987702880554017565 : True := trivial
theorem head.tw16821450928103126590 : True := trivial
theorem head.tw14969872817325187116 : True := trivial
theorem head.tw18176413224385145225 : True := trivial
theorem head.tw7181452741857391679 : True := trivial
theorem head.tw5515381820778694223 : True := trivial
theorem head.tw7732209734871044160 : True := trivial
theorem head.tw5944183977427860380 : True := trivial
theorem head.tw946586880256125082 : True := trivial
theorem head.tw6232644224018631296 : True := trivial
theorem head.tw17988201657351507238 : True := trivial
theorem head.tw13508044439285423174 : True := trivial
theorem head.tw12024539317367501503 : True := trivial
theorem head.tw10317212456122042642 : True := trivial
theorem head.tw17889261914703972767 : True := trivial
theorem head.tw5182153607120983317 : True := trivial
theorem head.tw11427066125472700054 : True := trivial
theorem head.tw15895551434495452948 : True := trivial
theorem head.tw15785421084128741142 : True := trivial
theorem head.tw17275705279478898512 : True := trivial
theorem head.tw9717200733822644074 : True := trivial
theorem head.tw12581593161143036515 : True := trivial
theorem head.tw15841401105113185080 : True := trivial
theorem head.tw9838509708139735780 : True := trivial
theorem head.tw10170068340998493759 : True := trivial
theorem head.tw1062042127530464391 : True := trivial
theorem head.tw11821203517306503961 : True := trivial
theorem head.tw16647155751929229394 : True := trivial
theorem head.tw9746458257258439470 : True := trivial
theorem head.tw2041922666546174627 : True := trivial
theorem head.tw7526775705450560304 : True := trivial
theorem head.tw15171285062763278426 : True := trivial
theorem head.tw1463646239528298992 : True := trivial
theorem head.tw8402214883040486957 : True := trivial
theorem head.tw1291722185910714397 : True := trivial
theorem head.tw16572314662081343053 : True := trivial
theorem head.tw203279951241792120 : True := trivial
theorem head.tw17486074103640542121 : True := trivial
theorem head.tw8159583801465064534 : True := trivial
theorem head.tw11308087075614649832 : True := trivial
theorem head.tw8408249889716310983 : True := trivial
theorem head.tw12775505166333009402 : True := trivial
theorem head.tw8534208459206503383 : True := trivial
theorem head.tw16703865258624009325 : True := trivial
theorem head.tw15127644999133008818 : True := trivial
theorem head.tw16031315777459398524 : True := trivial
theorem head.tw9682625523605357890 : True := trivial
theorem head.tw7523532297153676066 : True := trivial
theorem head.tw10059252607514160932 : True := trivial
theorem head.tw12371566548271132015 : True := trivial
theorem head.tw5080737588221150853 : True := trivial
theorem head.tw5064764789634828332 : True := trivial
theorem head.tw11597336398036118778 : True := trivial
theorem head.tw17262968490309938674 : True := trivial
theorem head.tw2728595385866086531 : True := trivial
theorem head.tw17050696954950088759 : True := trivial
theorem head.tw2518057956044344595 : True := trivial
theorem head.tw5874639182527098836 : True := trivial
theorem head.tw4691952243595246448 : True := trivial
theorem head.tw6207834228037699737 : True := trivial
theorem head.tw708152393587867187 : True := trivial
theorem head.tw2035680199648653684 : True := trivial
theorem head.tw15095179193122606544 : True := trivial
theorem head.tw16078238667976319046 : True := trivial
theorem head.tw17821319399108415887 : True := trivial
theorem head.tw532055438628499158 : True := trivial
theorem head.tw7961726388155042601 : True := trivial
theorem head.tw6562009823351158392 : True := trivial
theorem head.tw1495726902847802894 : True := trivial
theorem head.tw4387028780061031483 : True := trivial
theorem head.tw17850378814381688901 : True := trivial
theorem head.tw4883009796020049963 : True := trivial
theorem head.tw1810985104146032452 : True := trivial
theorem head.tw7142306820589974520 : True := trivial
theorem head.tw10384833122487024591 : True := trivial
theorem head.tw7091752845120838955 : True := trivial
theorem head.tw18116816823565194751 : True := trivial
theorem head.tw6021744097926640749 : True := trivial
theorem head.tw4804938286949461317 : True := trivial
theorem head.tw6304676298305806467 : True := trivial
theorem head.tw15392136045813129965 : True := trivial
theorem head.tw4874392174073282168 : True := trivial
theorem head.tw7090939061502383884 : True := trivial
theorem head.tw18177665153149118353 : True := trivial
theorem head.tw9280153536138602973 : True := trivial
theorem head.tw1489404036187247834 : True := trivial
theorem head.tw6088685845774392931 : True := trivial
theorem head.tw17725469503822016867 : True := trivial
theorem head.tw12157662564070965069 : True := trivial
theorem head.tw8715499118904818895 : True := trivial
theorem head.tw17212568112599259466 : True := trivial
theorem head.tw7658410731251134818 : True := trivial
theorem head.tw9101448428047585222 : True := trivial
theorem head.tw8550467674348477657 : True := trivial
theorem head.tw16966009324859112401 : True := trivial
theorem head.tw15736342250582547807 : True := trivial
theorem head.tw5195771902682577575 : True := trivial
theorem head.tw3514389088698752745 : True := trivial
theorem head.tw3860651933079915558 : True := trivial
theorem head.tw9213911765573242809 : True := trivial
theorem head.tw5764021196749891206 : True := trivial
theorem head.tw16474958459275807246 : True := trivial
theorem head.tw1211024037004892549 : True := trivial
theorem head.tw7253898381062576733 : True := trivial
theorem head.tw533756555076263647 : True := trivial
theorem head.tw12207028300977255130 : True := trivial
theorem head.tw16481179823495478772 : True := trivial
theorem head.tw17525636777796739105 : True := trivial
theorem head.tw970343815744155046 : True := trivial
theorem head.tw6857890620306548900 : True := trivial
theorem head.tw4973224433832344683 : True := trivial
theorem head.tw12264792733140247891 : True := trivial
theorem head.tw3793723283092296701 : True := trivial
theorem head.tw3644226017259064516 : True := trivial
theorem head.tw8047331064198847621 : True := trivial
theorem head.tw12330954535739239725 : True := trivial
theorem head.tw7471096595030375395 : True := trivial
theorem head.tw7835671542029378175 : True := trivial
theorem head.tw1995287165650055613 : True := trivial
theorem head.tw9495540839478616804 : True := trivial
theorem head.tw17905491414393134947 : True := trivial
theorem head.tw16530349751119242087 : True := trivial
theorem head.tw11128210870785958166 : True := trivial
theorem head.tw15506723302920939300 : True := trivial
theorem head.tw12795389718870424448 : True := trivial
theorem head.tw8402328212356670530 : True := trivial
theorem head.tw9867840190021597282 : True := trivial
theorem head.tw380116879960591498 : True := trivial
theorem head.tw5019597260055213698 : True := trivial
theorem head.tw17411354535832351560 : True := trivial
theorem head.tw14746898714274692784 : True := trivial
theorem head.tw17836618258811950860 : True := trivial
theorem head.tw15582730294447300881 : True := trivial
theorem head.tw3973953319845086491 : True := trivial
theorem head.tw9353324838224930552 : True := trivial
theorem head.tw733406405333840765 : True := trivial
theorem head.tw16546490078704341612 : True := trivial
theorem head.tw5725584637647431893 : True := trivial
theorem head.tw9827913525700040407 : True := trivial
theorem head.tw1748456618969930982 : True := trivial
theorem head.tw3027932573228621659 : True := trivial
theorem head.tw17444863063712431705 : True := trivial
theorem head.tw9142320679590124636 : True := trivial
theorem head.tw9997931420998421608 : True := trivial
theorem head.tw2661039320868540944 : True := trivial
theorem head.tw10845400790151957771 : True := trivial
theorem head.tw16272097951300814418 : True := trivial
theorem head.tw1506576300011279404 : True := trivial
theorem head.tw3290047583113660281 : True := trivial
theorem head.tw17332727794074296334 : True := trivial
theorem head.tw2298694737197419510 : True := trivial
theorem head.tw10510622979536455646 : True := trivial
theorem head.tw11290360913936777911 : True := trivial
theorem head.tw7734086686654790897 : True := trivial
theorem head.tw4005429485061764775 : True := trivial
theorem head.tw2797894973233656403 : True := trivial
theorem head.tw13846591363081406657 : True := trivial
theorem head.tw6536181036136497285 : True := trivial
theorem head.tw14427283581363961175 : True := trivial
theorem head.tw18100283295969611417 : True := trivial
theorem head.tw6053997905714604814 : True := trivial
theorem head.tw3581614266968435656 : True := trivial
theorem head.tw9777841548286773677 : True := trivial
theorem head.tw44622916816846810 : True := trivial
theorem head.tw12799616582074740251 : True := trivial
theorem head.tw4389747894416019800 : True := trivial
theorem head.tw10735254221757914791 : True := trivial
theorem head.tw5894247764576360081 : True := trivial
theorem head.tw16894393574925625578 : True := trivial
theorem head.tw11180365069992382532 : True := trivial
theorem head.tw6121141971511671821 : True := trivial
theorem head.tw16871623187472473471 : True := trivial
theorem head.tw2976249973925969801 : True := trivial
theorem head.tw16942090399603786721 : True := trivial
theorem head.tw12875325457547866274 : True := trivial
theorem head.tw14306030232151103276 : True := trivial
theorem head.tw10270352894671993868 : True := trivial
theorem head.tw5141578139466067413 : True := trivial
theorem head.tw11892436614613694032 : True := trivial
theorem head.tw2821592275122389253 : True := trivial
theorem head.tw9743709737119245314 : True := trivial
theorem head.tw14628233357713752721 : True := trivial
theorem head.tw6161856959107265637 : True := trivial
theorem head.tw15215111219801757744 : True := trivial
theorem head.tw17142359554024780413 : True := trivial
theorem head.tw18051680202136193954 : True := trivial
theorem head.tw14943480678444902952 : True := trivial
theorem head.tw12998212659555988865 : True := trivial
theorem head.tw7940748693946456147 : True := trivial
theorem head.tw6847273489543275152 : True := trivial
theorem head.tw3390878434225100092 : True := trivial
theorem head.tw11923155195566972133 : True := trivial
theorem head.tw9601497413559074677 : True := trivial
theorem head.tw8627200689577751383 : True := trivial
theorem head.tw1125430239929706018 : True := trivial
theorem head.tw8172283286065499403 : True := trivial
theorem head.tw7846308304327970078 : True := trivial
theorem head.tw3821945547825155762 : True := trivial
theorem head.tw5111550220656817904 : True := trivial
theorem head.tw3547030090768783262 : True := trivial
theorem head.tw12205659690895024086 : True := trivial
theorem head.tw8549075639274686408 : True := trivial
theorem head.tw14149492867418468938 : True := trivial
theorem head.tw11714945338242495837 : True := trivial
theorem head.tw5737951250597237232 : True := trivial
theorem head.tw3453787792041028874 : True := trivial
theorem head.tw4277651752456152607 : True := trivial
theorem head.tw10128820837102578890 : True := trivial
theorem head.tw4839655697589452165 : True := trivial
theorem head.tw12763952150808568291 : True := trivial
theorem head.tw7096138990903361605 : True := trivial
theorem head.tw15328847239876097677 : True := trivial
theorem head.tw6857060684267632606 : True := trivial
theorem head.tw10988817232074504935 : True := trivial
theorem head.tw8041981036286801607 : True := trivial
theorem head.tw9894326130215728876 : True := trivial
theorem head.tw3928599903575798129 : True := trivial
theorem head.tw14086173767186703872 : True := trivial
theorem head.tw1673358830478937286 : True := trivial
theorem head.tw14083850284487924763 : True := trivial
theorem head.tw3501597964444990463 : True := trivial
theorem head.tw2591067827882107080 : True := trivial
theorem head.tw12596154207471609045 : True := trivial
theorem head.tw6587087628758450585 : True := trivial
theorem head.tw11613311375368785083 : True := trivial
theorem head.tw3021114989795446570 : True := trivial
theorem head.tw8796753266530204203 : True := trivial
theorem head.tw14946772226789246504 : True := trivial
theorem head.tw14759185912286986992 : True := trivial
theorem head.tw9209507122141342423 : True := trivial
theorem head.tw11426403942048686318 : True := trivial
theorem head.tw16072502192527678464 : True := trivial
theorem head.tw16415787539773345739 : True := trivial
theorem head.tw6388477656530123435 : True := trivial
theorem head.tw883913982201973750 : True := trivial
theorem head.tw10736139440505347576 : True := trivial
theorem head.tw7404141018258913797 : True := trivial
theorem head.tw14127983276867164173 : True := trivial
theorem head.tw10066793327743970655 : True := trivial
theorem head.tw3270352941656771521 : True := trivial
theorem head.tw6212921109956642855 : True := trivial
theorem head.tw14999265807660949796 : True := trivial
theorem head.tw13664066127859960707 : True := trivial
theorem head.tw11305582741114486441 : True := trivial
theorem head.tw10356212845559719233 : True := trivial
theorem head.tw6110071263904590700 : True := trivial
theorem head.tw2701338428046395954 : True := trivial
theorem head.tw14524160177008508720 : True := trivial
theorem head.tw7450023128482652576 : True := trivial
theorem head.tw1503407388533364548 : True := trivial
theorem head.tw10467814448475477596 : True := trivial
theorem head.tw14842460003800876886 : True := trivial
theorem head.tw18125128294737035143 : True := trivial
theorem head.tw13249071542605338262 : True := trivial
theorem head.tw4885112425497105109 : True := trivial
theorem head.tw3062044705579621278 : True := trivial
theorem head.tw15064752311394979489 : True := trivial
theorem head.tw1985537357303476512 : True := trivial
theorem head.tw5751227541892866231 : True := trivial
theorem head.tw14241001667801471300 : True := trivial
theorem head.tw3715144110773694964 : True := trivial
theorem head.tw604627371996746742 : True := trivial
theorem head.tw9407594320385231609 : True := trivial
theorem head.tw7661765248129044261 : True := trivial
theorem head.tw6595020158993437323 : True := trivial
theorem head.tw11338825007792423415 : True := trivial
theorem head.tw9074772780463953568 : True := trivial
theorem head.tw5599997604879368025 : True := trivial
theorem head.tw16984083398119652359 : True := trivial
theorem head.tw8595470254474955868 : True := trivial
theorem head.tw9881340216297992761 : True := trivial
theorem head.tw13379202705063549618 : True := trivial
theorem head.tw16845296645482713644 : True := trivial
theorem head.tw8451055240067260542 : True := trivial
theorem head.tw12460202669355646752 : True := trivial
theorem head.tw3496171461512900480 : True := trivial
theorem head.tw2154566216772986472 : True := trivial
theorem head.tw6595276589069765893 : True := trivial
theorem head.tw4407807290196491609 : True := trivial
theorem head.tw14277528927401260903 : True := trivial
theorem head.tw6226413525154113608 : True := trivial
theorem head.tw5096742575497195690 : True := trivial
theorem head.tw17836260108008149386 : True := trivial
theorem head.tw13988103294471073821 : True := trivial
theorem head.tw1766074496371839085 : True := trivial
theorem head.tw7195933706287572923 : True := trivial
theorem head.tw7237916720857940274 : True := trivial
theorem head.tw2172669909848549399 : True := trivial
theorem head.tw10451821566800517634 : True := trivial
theorem head.tw17377423518514600169 : True := trivial
theorem head.tw14796412885826930917 : True := trivial
theorem head.tw999222835498014148 : True := trivial
theorem head.tw9283198456625565208 : True := trivial
theorem head.tw5707341947614518954 : True := trivial
theorem head.tw14393718171448925343 : True := trivial
theorem head.tw17037872496334206203 : True := trivial
theorem head.tw801906712849415907 : True := trivial
theorem head.tw9909477652473797434 : True := trivial
theorem head.tw15873191416987729925 : True := trivial
theorem head.tw1224924573807776437 : True := trivial
theorem head.tw15564447279633807951 : True := trivial
theorem head.tw17190349231170142043 : True := trivial
theorem head.tw5501060405047882677 : True := trivial
theorem head.tw3665506230870052707 : True := trivial
theorem head.tw18080951475816111786 : True := trivial
theorem head.tw6684978435548883818 : True := trivial
theorem head.tw2237326684586592538 : True := trivial
theorem head.tw5392078452651409485 : True := trivial
theorem head.tw2393937325987436248 : True := trivial
theorem head.tw5250025526955580050 : True := trivial
theorem head.tw11255790879490906821 : True := trivial
theorem head.tw7044984988248179734 : True := trivial
theorem head.tw5776309275727910279 : True := trivial
theorem head.tw1499353310998574721 : True := trivial
theorem head.tw14028522991509751376 : True := trivial
theorem head.tw10936905620487946977 : True := trivial
theorem head.tw4947412792043415962 : True := trivial
theorem head.tw11008383303370536362 : True := trivial
theorem head.tw12182850187970735909 : True := trivial
theorem head.tw18014224886719972007 : True := trivial
theorem head.tw5319049981483164881 : True := trivial
theorem head.tw13955511503576765797 : True := trivial
theorem head.tw4405531762615560363 : True := trivial
theorem head.tw14862789650711617903 : True := trivial
theorem head.tw8895791426145780158 : True := trivial
theorem head.tw3696042808614700290 : True := trivial
theorem head.tw6489421142724028100 : True := trivial
theorem head.tw10875119458065257276 : True := trivial
theorem head.tw9162278640276766204 : True := trivial
theorem head.tw10340462753498674063 : True := trivial
theorem head.tw2342417691235652057 : True := trivial
theorem head.tw1608297297296620843 : True := trivial
theorem head.tw4318500180640689126 : True := trivial
theorem head.tw12822298378996975857 : True := trivial
theorem head.tw1172538174109094731 : True := trivial
theorem head.tw3321875119742208626 : True := trivial
theorem head.tw2581250870941146908 : True := trivial
theorem head.tw4565464280358585679 : True := trivial
theorem head.tw8337448324364255386 : True := trivial
theorem head.tw15399148058966210843 : True := trivial
theorem head.tw14492117785962260688 : True := trivial
theorem head.tw1937370526825066196 : True := trivial
theorem head.tw5129340602016612638 : True := trivial
theorem head.tw6053349399257934933 : True := trivial
theorem head.tw10840385229135970747 : True := trivial
theorem head.tw15898109809663626304 : True := trivial
theorem head.tw3512634313551410195 : True := trivial
theorem head.tw17972497016974392416 : True := trivial
theorem head.tw14417885227837004991 : True := trivial
theorem head.tw8671685427711848851 : True := trivial
theorem head.tw8546719886708726068 : True := trivial
theorem head.tw14615432700455777464 : True := trivial
theorem head.tw6585138550035349233 : True := trivial
theorem head.tw12321676766767419452 : True := trivial
theorem head.tw17458890533420659534 : True := trivial
theorem head.tw6871339299614917876 : True := trivial
theorem head.tw8409189969818401543 : True := trivial
theorem head.tw8988664977312594650 : True := trivial
theorem head.tw1060599470133986369 : True := trivial
theorem head.tw3304075619188804072 : True := trivial
theorem head.tw1318689175770300589 : True := trivial
theorem head.tw3616486834168423931 : True := trivial
theorem head.tw2506711637615833298 : True := trivial
theorem head.tw7119846925741900413 : True := trivial
theorem head.tw17844492200522320778 : True := trivial
theorem head.tw9610264321537646536 : True := trivial
theorem head.tw5788372791699333521 : True := trivial
theorem head.tw545888858418189544 : True := trivial
theorem head.tw14068133799693864440 : True := trivial
theorem head.tw4945251732147069371 : True := trivial
theorem head.tw16172356507618199906 : True := trivial
theorem head.tw1319983325249436295 : True := trivial
theorem head.tw300626226527484142 : True := trivial
theorem head.tw4932745802714450591 : True := trivial
theorem head.tw9701577420580846637 : True := trivial
theorem head.tw10261356005730403935 : True := trivial
theorem head.tw15638870477510070732 : True := trivial
theorem head.tw10947310743691471603 : True := trivial
theorem head.tw7575806435727305068 : True := trivial
theorem head.tw16962450398199861240 : True := trivial
theorem head.tw8035625575855466936 : True := trivial
theorem head.tw1906429620130506887 : True := trivial
theorem head.tw6889739017440866108 : True := trivial
theorem head.tw13078646160514809887 : True := trivial
theorem head.tw17826015225549371706 : True := trivial
theorem head.tw14364637388885140079 : True := trivial
theorem head.tw10070411193226618655 : True := trivial
theorem head.tw1588943658860677225 : True := trivial
theorem head.tw9625377726130185387 : True := trivial
theorem head.tw4709128311485490483 : True := trivial
theorem head.tw9186546921256032858 : True := trivial
theorem head.tw1082313596108445148 : True := trivial
theorem head.tw4235852798576303577 : True := trivial
theorem head.tw16470739840699324481 : True := trivial
theorem head.tw15895748673760503845 : True := trivial
theorem head.tw16828514060538661750 : True := trivial
theorem head.tw17541063381433097499 : True := trivial
theorem head.tw17362218986543327160 : True := trivial
theorem head.tw1618804561499322139 : True := trivial
theorem head.tw1272635626206103303 : True := trivial
theorem head.tw6640010369347007910 : True := trivial
theorem head.tw17784522201281872271 : True := trivial
theorem head.tw7277520189549225825 : True := trivial
theorem head.tw4965378191221513410 : True := trivial
theorem head.tw14646466228836335164 : True := trivial
theorem head.tw1643771367246577777 : True := trivial
theorem head.tw14982685227137828758 : True := trivial
theorem head.tw15330342782969278459 : True := trivial
theorem head.tw13135395098459392958 : True := trivial
theorem head.tw5973763720392745831 : True := trivial
theorem head.tw17453365369857097546 : True := trivial
theorem head.tw13800718416732639697 : True := trivial
theorem head.tw8838475285390394957 : True := trivial
theorem head.tw12903917746401883607 : True := trivial
theorem head.tw13213268828098156179 : True := trivial
theorem head.tw3264716943610762504 : True := trivial
theorem head.tw11925700103697007601 : True := trivial
theorem head.tw8518231567759158271 : True := trivial
theorem head.tw18215824643853355119 : True := trivial
theorem head.tw7604411431414283762 : True := trivial
theorem head.tw976808484645153763 : True := trivial
theorem head.tw17788742646020836255 : True := trivial
theorem head.tw1524684057812940815 : True := trivial
theorem head.tw2625984366357065906 : True := trivial
theorem head.tw13673146470031054802 : True := trivial
theorem head.tw15256841493749336786 : True := trivial
theorem head.tw15296082917334920728 : True := trivial
theorem head.tw9950410520057996621 : True := trivial
theorem head.tw9823536610671039419 : True := trivial
theorem head.tw4993741786232285773 : True := trivial
theorem head.tw17243387458012846398 : True := trivial
theorem head.tw5629256929840616583 : True := trivial
theorem head.tw8704771223992077307 : True := trivial
theorem head.tw15317023959539522800 : True := trivial
theorem head.tw1894759731626308040 : True := trivial
theorem head.tw13180129090757240718 : True := trivial
theorem head.tw15112835437128306455 : True := trivial
theorem head.tw8569104457590258164 : True := trivial
theorem head.tw18332689328565389885 : True := trivial
theorem head.tw6968674436765558698 : True := trivial
theorem head.tw10510183946089719056 : True := trivial
theorem head.tw6240353410654795137 : True := trivial
theorem head.tw10898857373019930491 : True := trivial
theorem head.tw7596824489109172434 : True := trivial
theorem head.tw6153569298028143949 : True := trivial
theorem head.tw4673441458371412756 : True := trivial
theorem head.tw16922147877168347812 : True := trivial
theorem head.tw17002534310236347988 : True := trivial
theorem head.tw16903022960794457021 : True := trivial
theorem head.tw16997897962222511 : True := trivial
theorem head.tw7679601964402581596 : True := trivial
theorem head.tw4433315090154635215 : True := trivial
theorem head.tw9592777112578238593 : True := trivial
theorem head.tw2401673296934814795 : True := trivial
theorem head.tw13650549970936915252 : True := trivial
theorem head.tw4023466491090337370 : True := trivial
theorem head.tw8097174177036852075 : True := trivial
theorem head.tw13025741259844407872 : True := trivial
set_option Elab.async true in
theorem head : PySem.Challenge.rw_oh0077_01.Holds := by
  w_on
  o_law
  o_head (kHook hd.heap_1 [2,3,38,40,41,43,44,45,47,48,50,51,55,56,57,59,60,62,63,64,66,67,69,70,71,78,79,80,81,91,93,94,96,97,98,99,100,101,102,103,106,113,114,115,118,125,126,127,130,137,138,140,141,143,144,145,147,148,150,151,152,154,155,157,158,159,161,162,164,165,166,167,169,170,172,173,174,176,177,179,180,181,183,184,186,187,188,190,191,193,194,195,197,198,200,201,202,204,205,207,208,209,211,212,214,215,216,218,219,221,222,223,225,226,228,229,230,232,233,235,236,237,239,240,242,243,244,246,247,249,250,251,253,254,256,257,258,259,261,262,264,265,266,267,269,270,272,273,274,275,277,278,280,281,282,283,285,286,288,289,290,292,293,295,296,297,299,300,302,303,304,305,307,308,310,311,312,313,315,316,318,319,320,322,323,325,326,327,329,330,332,333,334,336,337,339,340,341,343,344,346,347,348,350,351,353,354,355,356,357,360,367,368,370,371,373,374,375,377,378,380,381,382,384,385,387,388,389,391,392,394,395,396,398,399,401,402,403,405,406,408,409,410,411,413,414,416,417,418,419,421,422,424,425,426,427,429,430,432,433,434,435,437,438,440,441,442,443,445,446,448,449,450,452,453,455,456,457,459,460,462,463,464,466,467,469,470,471,473,474,476,477,478,480,481,483,484,485,487,488,490,491,492,494,495,497,498,499,501,502,504,505,506,508,509,511,512,513,515,516,518,519,520,522,523,525,526,527,528,530,531,533,534,535,536,538,539,541,542,543,544,546,547,549,550,551,552,554,555,557,558,559,560,562,563,565,566,567,569,570,572,573,574,576,577,579,580,581,583,584,586,587,588,590,591,593,594,595,597,598,600,601,602,603,604,607,609,610,612,613,614,616,617,619,620,621,623,624,626,627,628,630,631,633,634,635,637,638,640,641,642,644,645,647,648,656,657,659,660,662,663,664,666,667,669,670,671,672,674,675,677,678,679,680,682,683,685,686,687,689,690,692,693,694,696,697,699,700,701,703,704,706,707,708,710,711,713,714,715,716,718,719,721,722,723,725,726,728,729,730,732,733,735,736,737,738,739,740,741,744,745,747,748,750,751,752,754,755,757,758,759,760,762,763,765,766,767,769,770,772,773,774,776,777,779,780,781,783,784,786,787,788,790,791,793,794,795,798,799,800,803,804,805,807,808,810,811,812,814,815,817,818,819,822,823] (fun _ => by kernel_rfl))
  (case hw => w_witness2)
  intro w s₀ s₁ mg mb G Y fa o pm cd doc dV kV ho hod hcd hD hmg hg args vals as hpre hlay hrd hwl hlo
  exact glue G.T (kIn_of Y) (join_in (by decide +kernel)) hmg hg hpre hlay hrd hwl hlo
end Mine
theorem PySem.Challenge.cw_oh0077_01_holds : PySem.Challenge.rw_oh0077_01.Holds :=
  Mine.head
