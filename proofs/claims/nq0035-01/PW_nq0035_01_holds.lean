import PyProof.Rows.All
import Wide.All
import OpenK.AllK
import Wide.FinOn
import KE.BytesMake
import PySem.Challenge.RW_nq0035_01
set_option Elab.async false
set_option linter.all false
section
namespace Mine
open PySem

/-- what is known of an object: a plain list with these items, a cell, or the object itself -/
inductive Ky where
  | list (items : List Value)
  | cell (v : Option Value)
  | obj (o : Obj)
  | pred (P : Obj → Prop)
def Ky.is : Ky → Obj → Prop
  | .list items, o => o.cls = .type "list" ∧ o.dict = none ∧ ∃ n, o.data = .seq items.toArray n
  | .cell v, o => o.data = .cell v
  | .obj o', o => o = o'
  | .pred P, o => P o
/-- the heap holds it there -/
def At (h : Heap) (a : Addr) (k : Ky) : Prop := ∃ o, h.get? a = some o ∧ k.is o
theorem At.keeps {h h' : Heap} {a : Addr} {k : Ky} (x : At h a k) (hk : ∀ o, h.get? a = some o → h'.get? a = some o) : At h' a k := let ⟨o, ho, r⟩ := x; ⟨o, hk o ho, r⟩
theorem At.lt {h : Heap} {a : Addr} {k : Ky} (x : At h a k) : a < h.objs.size := let ⟨_, ho, _⟩ := x; Heap.lt_size ho
theorem At.isList {h : Heap} {a : Addr} {items : List Value} (x : At h a (.list items)) : h.IsList a items.toArray := by
  obtain ⟨o, ho, hc, _, n, hd⟩ := x
  exact ⟨o, ho, hc, n, hd⟩
theorem At.plainL {h : Heap} {a : Addr} {items : List Value} (x : At h a (.list items)) : PlainL h a items.toArray := by
  obtain ⟨o, ho, hc, hn, n, hd⟩ := x
  exact ⟨o, n, ho, hc, hn, hd⟩
theorem At.of_plainL {h : Heap} {a : Addr} {items : Array Value} (x : PlainL h a items) : At h a (.list items.toList) := by
  obtain ⟨o, n, ho, hc, hn, hd⟩ := x
  exact ⟨o, ho, hc, hn, n, by simpa using hd⟩
theorem At.of_plain {h : Heap} {a : Addr} {items : Array Value} (x : h.PlainList a items) : At h a (.list items.toList) := by
  obtain ⟨n, ho⟩ := x
  exact ⟨_, ho, rfl, rfl, n, by simp⟩
theorem At.isCell {h : Heap} {a : Addr} {v : Option Value} (x : At h a (.cell v)) : h.IsCell a v := x
theorem At.get {h : Heap} {a : Addr} {o : Obj} (x : At h a (.obj o)) : h.get? a = some o := by
  obtain ⟨o', ho, e⟩ := x
  exact e ▸ ho
theorem At.of_get {h : Heap} {a : Addr} {o : Obj} (x : h.get? a = some o) : At h a (.obj o) := ⟨o, x, rfl⟩

/-- the objects stay, up to slots (a raise readies the frames) -/
def UpTo (h h' : Heap) : Prop := ∀ b o, h.get? b = some o → ∃ sl, h'.get? b = some { o with slots := sl }
theorem UpTo.refl (h : Heap) : UpTo h h := fun _ o e => ⟨o.slots, e⟩
theorem UpTo.trans {h₁ h₂ h₃ : Heap} (x : UpTo h₁ h₂) (y : UpTo h₂ h₃) : UpTo h₁ h₃ := fun b o e => let ⟨_, e₁⟩ := x b o e; let ⟨sl, e₂⟩ := y b _ e₁; ⟨sl, e₂⟩
theorem UpTo.of_keeps {h h' : Heap} (k : ∀ b o, h.get? b = some o → h'.get? b = some o) : UpTo h h' := fun b o e => ⟨o.slots, k b o e⟩
theorem UpTo.new {h h' : Heap} (x : UpTo h h') {a : Addr} (e : h'.get? a = none) : h.get? a = none := by
  cases q : h.get? a with
  | none => rfl
  | some o => obtain ⟨sl, z⟩ := x a o q; rw [e] at z; cases z
theorem UpTo.ns {h h' : Heap} (x : UpTo h h') {a : Addr} {m : Str → Option Value} (n : h.Ns a m) : h'.Ns a m := by
  obtain ⟨o, es, ep, ho, r⟩ := n
  obtain ⟨sl, e⟩ := x a o ho
  exact ⟨_, es, ep, e, r⟩
theorem UpTo.noLimit {h h' : Heap} (x : UpTo h h') (n : h.NoLimit) : h'.NoLimit := let ⟨mc, a, b⟩ := n; ⟨mc, x.ns a, b⟩
theorem UpTo.codeRec {h h' : Heap} (x : UpTo h h') {cd : Value} {q : Str} (n : h.CodeRec cd q) : h'.CodeRec cd q := by
  obtain ⟨c, o, vs, t, rfl, ho, r⟩ := n
  obtain ⟨sl, e⟩ := x c o ho
  exact ⟨c, _, vs, t, rfl, e, r⟩
theorem UpTo.list {h h' : Heap} (x : UpTo h h') {a : Addr} {items : List Value} (n : At h a (.list items)) : At h' a (.list items) := by
  obtain ⟨o, ho, r⟩ := n
  obtain ⟨sl, e⟩ := x a o ho
  exact ⟨_, e, r⟩
theorem UpTo.isList {h h' : Heap} (x : UpTo h h') {a : Addr} {items : Array Value} (n : h.IsList a items) : h'.IsList a items := by
  obtain ⟨o, ho, r⟩ := n
  obtain ⟨sl, e⟩ := x a o ho
  exact ⟨_, e, r⟩
theorem UpTo.isCell {h h' : Heap} (x : UpTo h h') {a : Addr} {v : Option Value} (n : h.IsCell a v) : h'.IsCell a v := by
  obtain ⟨o, ho, r⟩ := n
  obtain ⟨sl, e⟩ := x a o ho
  exact ⟨_, e, r⟩
theorem UpTo.funFrames {h h' : Heap} (x : UpTo h h') {l : List Env} (n : h.FunFrames {} l) : h'.FunFrames {} l := n.of_keeps fun b o q _ => let ⟨_, e⟩ := x b o q; ⟨_, e, rfl⟩

/-- the state inside a call: what the call has kept, its names, the objects that it has made and still speaks of -/
structure St (fs : List Addr) (s₀ : Shared) (L : Addr) (m : Str → Option Value) (O : List (Addr × Ky)) (s : Shared) : Prop where
  same : ∃ h tk, s = { s₀ with heap := h, toks := tk }
  ns : s.heap.Ns L m
  keep : ∀ b o, s₀.heap.get? b = some o → b ∉ fs → s.heap.get? b = some o
  upto : UpTo s₀.heap s.heap
  led : ∀ p ∈ O, At s.heap p.1 p.2
  fresh : ∀ p ∈ O, s₀.heap.get? p.1 = none ∧ p.1 ≠ L
  apart : (O.map (·.1)).Nodup
  above : s₀.heap.get? L = none
  fsOld : ∀ f ∈ fs, ∃ o, s₀.heap.get? f = some o

namespace St
variable {fs : List Addr} {s₀ : Shared} {L : Addr} {m : Str → Option Value} {O : List (Addr × Ky)} {s : Shared}

theorem tok (S : St fs s₀ L m O s) (t : Nat) : St fs s₀ L m O { s with toks := t } := by
  obtain ⟨⟨h, tk, rfl⟩, a, b, c, d, e, f, g, i⟩ := S
  exact ⟨⟨h, t, rfl⟩, a, b, c, d, e, f, g, i⟩

theorem size_le (S : St fs s₀ L m O s) : L < s.heap.objs.size := by
  obtain ⟨o, es, ep, ho, _⟩ := S.ns
  exact Heap.lt_size ho

theorem new (S : St fs s₀ L m O s) {a : Addr} (h : s.heap.get? a = none) : s₀.heap.get? a = none := by
  cases q : s₀.heap.get? a with
  | none => rfl
  | some o => obtain ⟨sl, x⟩ := S.upto a o q; rw [h] at x; cases x
theorem newSize (S : St fs s₀ L m O s) : s₀.heap.get? s.heap.objs.size = none := S.new (Heap.get?_none_of_le (Nat.le_refl _))

theorem get (S : St fs s₀ L m O s) {a : Addr} {k : Ky} (h : (a, k) ∈ O) : At s.heap a k := S.led _ h

/-- a name of the frame is set -/
theorem store (S : St fs s₀ L m O s) {h' : Heap} {m' : Str → Option Value} {t : Nat} (hn : h'.Ns L m') (hs : Heap.SameBut L s.heap h') : St fs s₀ L m' O { s with heap := h', toks := t } := by
  obtain ⟨⟨h, tk, rfl⟩, a, b, c, d, e, f, g, i⟩ := S
  have old : ∀ b o, s₀.heap.get? b = some o → b ≠ L := fun b o q z => by rw [z, g] at q; cases q
  refine ⟨⟨h', t, rfl⟩, hn, fun b' o q n => (hs.2 b' (old b' o q)).trans (b b' o q n), fun b' o q => ?_, fun p hp => (d p hp).keeps fun o q => (hs.2 p.1 (e p hp).2).trans q, e, f, g, i⟩
  obtain ⟨sl, x⟩ := c b' o q
  exact ⟨sl, (hs.2 b' (old b' o q)).trans x⟩

/-- a new object -/
theorem push (S : St fs s₀ L m O s) {o : Obj} {k : Ky} (hk : k.is o) (hf : o.isFreed = false := by rfl) : St fs s₀ L m ((s.heap.objs.size, k) :: O) { s with heap := s.heap.push o } := by
  have hL := S.size_le
  have hab := S.newSize
  obtain ⟨⟨h, tk, rfl⟩, a, b, c, d, e, f, g, i⟩ := S
  refine ⟨⟨_, tk, rfl⟩, ?_, fun b' o' q n => Heap.get?_push_of_some _ (b b' o' q n), fun b' o' q => ?_, fun p hp => ?_, fun p hp => ?_, ?_, g, i⟩
  · obtain ⟨oL, es, ep, ho, r⟩ := a
    exact ⟨oL, es, ep, Heap.get?_push_of_some _ ho, r⟩
  · obtain ⟨sl, x⟩ := c b' o' q
    exact ⟨sl, Heap.get?_push_of_some _ x⟩
  · rcases List.mem_cons.mp hp with rfl | hp
    · exact ⟨o, Heap.get?_push_size _ hf, hk⟩
    · exact (d p hp).keeps fun o q => Heap.get?_push_of_some _ q
  · rcases List.mem_cons.mp hp with rfl | hp
    · exact ⟨hab, Nat.ne_of_gt hL⟩
    · exact e p hp
  · rw [List.map_cons, List.nodup_cons]
    refine ⟨fun q => ?_, f⟩
    obtain ⟨p, hp, e'⟩ := List.mem_map.mp q
    have := (d p hp).lt
    rw [e'] at this
    exact Nat.lt_irrefl _ this

/-- one object of the ledger is turned -/
theorem upd (S : St fs s₀ L m O s) (k : Nat) {a : Addr} {o o' : Ky} {h' : Heap} {t : Nat} (hk : O[k]? = some (a, o)) (hs : Heap.SameBut a s.heap h') (ho : At h' a o') :
    St fs s₀ L m (O.set k (a, o')) { s with heap := h', toks := t } := by
  have hm : (a, o) ∈ O := List.mem_of_getElem? hk
  have ha := S.fresh _ hm
  obtain ⟨⟨h, tk, rfl⟩, a1, b, c, d, e, f, g, i⟩ := S
  have old : ∀ b o, s₀.heap.get? b = some o → b ≠ a := fun b o q z => by rw [z, ha.1] at q; cases q
  have hk' : k < O.length := (List.getElem?_eq_some_iff.mp hk).1
  have hke : O[k] = (a, o) := (List.getElem?_eq_some_iff.mp hk).2
  have hmap : (O.set k (a, o')).map (·.1) = O.map (·.1) := by
    rw [List.map_set]
    apply List.ext_getElem?
    intro j
    rw [List.getElem?_set]
    split
    · rename_i hj; subst hj
      simp [hk', hke]
    · rfl
  refine ⟨⟨h', t, rfl⟩, a1.sameBut hs (Ne.symm ha.2), fun b' o q n => (hs.2 b' (old b' o q)).trans (b b' o q n), fun b' o q => ?_, fun p hp => ?_, fun p hp => ?_, hmap ▸ f, g, i⟩
  · obtain ⟨sl, x⟩ := c b' o q
    exact ⟨sl, (hs.2 b' (old b' o q)).trans x⟩
  · obtain ⟨j, hj, hje⟩ := List.mem_iff_getElem.mp hp
    rw [List.getElem_set] at hje
    split at hje
    · subst hje; exact ho
    · rename_i hne
      have hj' : j < O.length := by simpa using hj
      have hpO : p ∈ O := hje ▸ List.getElem_mem _
      refine (d p hpO).keeps fun o x => (hs.2 p.1 fun q => hne ?_).trans x
      have pw := List.pairwise_iff_getElem.mp f
      rcases Nat.lt_trichotomy k j with l | l | l
      · refine absurd ?_ (pw k j (by simpa using hk') (by simpa using hj') l)
        simp [hke, hje, q]
      · exact l
      · refine absurd ?_ (pw j k (by simpa using hj') (by simpa using hk') l)
        simp [hke, hje, q]
  · obtain ⟨j, hj, hje⟩ := List.mem_iff_getElem.mp hp
    rw [List.getElem_set] at hje
    split at hje
    · subst hje; exact ha
    · exact e p (hje ▸ List.getElem_mem _)

/-- the first object of the ledger is turned at will, others may have come -/
theorem ext {a : Addr} {k : Ky} (S : St fs s₀ L m ((a, k) :: O) s) {h' : Heap} {t : Nat} (hx : ∀ b o, b ≠ a → s.heap.get? b = some o → h'.get? b = some o) : St fs s₀ L m O { s with heap := h', toks := t } := by
  have ha := S.fresh _ (.head _)
  obtain ⟨⟨h, tk, rfl⟩, a1, b, c, d, e, f, g, i⟩ := S
  have old : ∀ b o, s₀.heap.get? b = some o → b ≠ a := fun b o q z => by rw [z, ha.1] at q; cases q
  rw [List.map_cons, List.nodup_cons] at f
  refine ⟨⟨h', t, rfl⟩, ?_, fun b' o q n => hx _ _ (old b' o q) (b b' o q n), fun b' o q => ?_, fun p hp => ?_, fun p hp => e p (.tail _ hp), f.2, g, i⟩
  · obtain ⟨oL, es, ep, ho, r⟩ := a1
    exact ⟨oL, es, ep, hx _ _ (Ne.symm ha.2) ho, r⟩
  · obtain ⟨sl, x⟩ := c b' o q
    exact ⟨sl, hx _ _ (old b' o q) x⟩
  · exact (d p (.tail _ hp)).keeps fun o q => hx _ _ (fun z => f.1 (List.mem_map.mpr ⟨p, hp, z⟩)) q

/-- fewer objects are spoken of -/
theorem sub (S : St fs s₀ L m O s) {O' : List (Addr × Ky)} (h : O'.Sublist O) : St fs s₀ L m O' s :=
  ⟨S.same, S.ns, S.keep, S.upto, fun p hp => S.led p (h.subset hp), fun p hp => S.fresh p (h.subset hp), S.apart.sublist (h.map _), S.above, S.fsOld⟩

theorem perm (S : St fs s₀ L m O s) {O' : List (Addr × Ky)} (h : O'.Perm O) : St fs s₀ L m O' s :=
  ⟨S.same, S.ns, S.keep, S.upto, fun p hp => S.led p (h.subset hp), fun p hp => S.fresh p (h.subset hp), (h.map _).nodup_iff.mpr S.apart, S.above, S.fsOld⟩

/-- a call that keeps all -/
theorem kept (S : St fs s₀ L m O s) {s' : Shared} (k : Keeps s s') : St fs s₀ L m O s' := by
  obtain ⟨⟨h, tk, rfl⟩, a, b, c, d, e, f, g, i⟩ := S
  obtain ⟨h', tk', rfl, k⟩ := k
  refine ⟨⟨h', tk', rfl⟩, ?_, fun b' o q n => k _ _ (b b' o q n), fun b' o q => ?_, fun p hp => (d p hp).keeps fun o q => k _ _ q, e, f, g, i⟩
  · obtain ⟨oL, es, ep, ho, r⟩ := a
    exact ⟨oL, es, ep, k _ _ ho, r⟩
  · obtain ⟨sl, x⟩ := c b' o q
    exact ⟨sl, k _ _ x⟩

/-- an object that a call has made is spoken of -/
theorem more (S : St fs s₀ L m O s) {a : Addr} {o : Ky} (ho : At s.heap a o) (ha : s₀.heap.get? a = none) (hL : a ≠ L) (hn : ∀ p ∈ O, p.1 ≠ a) : St fs s₀ L m ((a, o) :: O) s := by
  refine ⟨S.same, S.ns, S.keep, S.upto, fun p hp => ?_, fun p hp => ?_, ?_, S.above, S.fsOld⟩
  · rcases List.mem_cons.mp hp with rfl | hp
    · exact ho
    · exact S.led p hp
  · rcases List.mem_cons.mp hp with rfl | hp
    · exact ⟨ha, hL⟩
    · exact S.fresh p hp
  · rw [List.map_cons, List.nodup_cons]
    refine ⟨fun q => ?_, S.apart⟩
    obtain ⟨p, hp, e⟩ := List.mem_map.mp q
    exact hn p hp e

/-- an object made behind the state s₁ -/
theorem moreOf {s₁ : Shared} (S₁ : St fs s₀ L m O s₁) (S : St fs s₀ L m O s) {a : Addr} {o : Ky} (ho : At s.heap a o) (ha : s₁.heap.get? a = none) : St fs s₀ L m ((a, o) :: O) s := by
  refine S.more ho (S₁.new ha) (fun z => ?_) fun p hp z => ?_
  · obtain ⟨oL, _, _, hL, _⟩ := S₁.ns
    rw [← z, ha] at hL; cases hL
  · obtain ⟨o', h', _⟩ := S₁.led p hp
    rw [z, ha] at h'; cases h'

theorem keeps (S : St [] s₀ L m O s) : Keeps s₀ s := by
  obtain ⟨h, tk, rfl⟩ := S.same
  exact ⟨h, tk, rfl, fun b o q => S.keep b o q (by simp)⟩

theorem keepsAll (S : St [] s₀ L m O s) : ∀ b o, s₀.heap.get? b = some o → s.heap.get? b = some o := fun b o q => S.keep b o q (by simp)
end St
end Mine
end

section
namespace Mine
open PySem PyProof.Rows

section
variable (prog : Program) (w : World) (A : Around) (env : Env) (h : Heap)
/-- the expression has this value, and the heap stays -/
def EvV (e : Expr) (v : Value) : Prop :=
  ∀ (s : Shared) (Q E : Value → Shared → Prop), s.heap = h → (∀ tk, Q v { s with toks := tk }) → wpAny (model prog w) A (eval e env) Q E s
def EvI (e : Expr) (i : Int) : Prop :=
  ∀ (s : Shared) (Q E : Value → Shared → Prop), s.heap = h → (∀ t tk, Q (.int i t) { s with toks := tk }) → wpAny (model prog w) A (eval e env) Q E s
def EvT (e : Expr) (b : Bool) : Prop :=
  ∀ (s : Shared) (Q : Bool → Shared → Prop) (E : Value → Shared → Prop), s.heap = h → (∀ tk, Q b { s with toks := tk }) → wpAny (model prog w) A (isTrue e env (eval e env)) Q E s
end

section
variable {prog : Program} {w : World} {A : Around} {env : Env} {h : Heap}

theorem EvV.toI {e : Expr} {i : Int} {t : Tok} (x : EvV prog w A env h e (.int i t)) : EvI prog w A env h e i :=
  fun s Q E hs hQ => x s Q E hs fun tk => hQ t tk
theorem EvI.to {e : Expr} {i j : Int} (x : EvI prog w A env h e i) (q : i = j) : EvI prog w A env h e j := q ▸ x

theorem ev_int {i : Int} {k : Nat} {pos : Pos} : EvI prog w A env h (.Constant (.int i) k pos) i := fun _ _ _ _ hQ => wpAny_Constant_int (hQ _ _)
theorem ev_none {k : Nat} {pos : Pos} : EvV prog w A env h (.Constant .none k pos) .none := fun _ _ _ _ hQ => wpAny_Constant_none (hQ _)
theorem ev_bool {b : Bool} {k : Nat} {pos : Pos} : EvV prog w A env h (.Constant (.bool b) k pos) (.bool b) := fun _ _ _ _ hQ => wpAny_Constant_bool (hQ _)

theorem ev_local {x : Str} {pos : Pos} {m : Str → Option Value} {v : Value} (hn : h.Ns env.locals m) (hv : m x = some v) (hk : env.scope.kind = .function := by rfl) (hl : env.kindOf x = some .local := by rfl)
    (hd : (x == ("__debug__" : Str)) = false := by decide) : EvV prog w A env h (.Name x pos) v :=
  fun s Q E hs hQ => wpAny_Name (wpAny_loadName_local hk hl (hs ▸ hn) hv (hQ s.toks)) hd
theorem ev_cell {x : Str} {pos : Pos} {c : Addr} {v : Value} (hc : env.cells.lookup x = some c) (hv : h.IsCell c (some v)) (hk : env.scope.kind = .function := by rfl) (hl : env.kindOf x = some .cell := by rfl)
    (hd : (x == ("__debug__" : Str)) = false := by decide) : EvV prog w A env h (.Name x pos) v :=
  fun s Q E hs hQ => wpAny_Name (wpAny_loadName_cell hk hl hc (hs ▸ hv) (hQ s.toks)) hd
theorem ev_free {x : Str} {pos : Pos} {c : Addr} {v : Value} (hc : env.cells.lookup x = some c) (hv : h.IsCell c (some v)) (hk : env.scope.kind = .function := by rfl) (hl : env.kindOf x = some .free := by rfl)
    (hd : (x == ("__debug__" : Str)) = false := by decide) (hn : (x == ("__classdict__" : Str)) = false := by decide) : EvV prog w A env h (.Name x pos) v :=
  fun s Q E hs hQ => wpAny_Name (wpAny_loadName_free hk hl hc (hs ▸ hv) (hQ s.toks) hn) hd
theorem ev_global {x : Str} {pos : Pos} {mg : Str → Option Value} {v : Value} (hg : h.Ns env.globals mg) (hv : mg x = some v) (hk : env.scope.kind = .function := by rfl) (hl : env.kindOf x = some .globalImplicit := by rfl)
    (hd : (x == ("__debug__" : Str)) = false := by decide) : EvV prog w A env h (.Name x pos) v :=
  fun s Q E hs hQ => Calls.Name_function_global hk hl (Calls.loadGlobal_global (hs ▸ hg) hv (hQ s.toks)) hd
theorem ev_builtin {x : Str} {pos : Pos} {mg mb : Str → Option Value} {v : Value} (hg : h.Ns env.globals mg) (hm : mg x = none) (hb : h.Ns env.builtins mb) (hv : mb x = some v) (hk : env.scope.kind = .function := by rfl)
    (hl : env.kindOf x = some .globalImplicit := by rfl) (hd : (x == ("__debug__" : Str)) = false := by decide) : EvV prog w A env h (.Name x pos) v :=
  fun s Q E hs hQ => Calls.Name_function_global hk hl (Calls.loadGlobal_builtin (hs ▸ hg) hm (hs ▸ hb) hv (hQ s.toks)) hd

section
variable {a b : Expr} {i j : Int} {pos : Pos}
theorem ev_add (x : EvI prog w A env h a i) (y : EvI prog w A env h b j) : EvI prog w A env h (.BinOp a .Add b pos) (i + j) :=
  fun s Q E hs hQ => wpAny_BinOp (x s _ _ hs fun _ tk => y { s with toks := tk } _ _ hs fun _ _ => P.add_int (hQ _ _))
theorem ev_sub (x : EvI prog w A env h a i) (y : EvI prog w A env h b j) : EvI prog w A env h (.BinOp a .Sub b pos) (i - j) :=
  fun s Q E hs hQ => wpAny_BinOp (x s _ _ hs fun _ tk => y { s with toks := tk } _ _ hs fun _ _ => P.sub_int (hQ _ _))
theorem ev_mul (x : EvI prog w A env h a i) (y : EvI prog w A env h b j) (hm : IntMulOk i j) : EvI prog w A env h (.BinOp a .Mult b pos) (i * j) :=
  fun s Q E hs hQ => wpAny_BinOp (x s _ _ hs fun _ tk => y { s with toks := tk } _ _ hs fun _ _ => P.mul_int (hQ _ _) hm)
theorem ev_fdiv (x : EvI prog w A env h a i) (y : EvI prog w A env h b j) (h0 : j ≠ 0) (hs : j.natAbs < 1073741824) : EvI prog w A env h (.BinOp a .FloorDiv b pos) (i.fdiv j) :=
  fun s Q E hs' hQ => wpAny_BinOp (x s _ _ hs' fun _ tk => y { s with toks := tk } _ _ hs' fun _ _ => floordiv_int h0 (hQ _ _) (.inl (PyProof.noPylong_small hs)))
theorem ev_mod (x : EvI prog w A env h a i) (y : EvI prog w A env h b j) (h0 : j ≠ 0) : EvI prog w A env h (.BinOp a .Mod b pos) (i.fmod j) :=
  fun s Q E hs' hQ => wpAny_BinOp (x s _ _ hs' fun _ tk => y { s with toks := tk } _ _ hs' fun _ _ => mod_int' h0 (hQ _ _))
theorem ev_pow (x : EvI prog w A env h a i) (y : EvI prog w A env h b j) (h0 : 0 ≤ j) (h1 : j ≤ 1000000) (hi : i.natAbs < 2 ^ 64) : EvI prog w A env h (.BinOp a .Pow b pos) (i ^ j.toNat) :=
  fun s Q E hs' hQ => wpAny_BinOp (x s _ _ hs' fun _ tk => y { s with toks := tk } _ _ hs' fun _ _ => pow_int_small h0 h1 hi (hQ _ _))

theorem nm {op : CmpOp} (b : Expr) (h : op ≠ .In) (h' : op ≠ .NotIn) : behindInMarks op b = false := by
  cases op <;> first | exact absurd rfl h | exact absurd rfl h' | (cases b <;> simp [behindInMarks] <;> rfl)
theorem ev_lt (x : EvI prog w A env h a i) (y : EvI prog w A env h b j) : EvV prog w A env h (.Compare a [.Lt] [b] pos) (.bool (decide (i < j))) :=
  fun s Q E hs hQ => wpAny_Compare1 (x s _ _ hs fun _ tk => y { s with toks := tk } _ _ hs fun _ _ => P.lt_int (hQ _)) (nm _ (by simp) (by simp))
theorem ev_gt (x : EvI prog w A env h a i) (y : EvI prog w A env h b j) : EvV prog w A env h (.Compare a [.Gt] [b] pos) (.bool (decide (i > j))) :=
  fun s Q E hs hQ => wpAny_Compare1 (x s _ _ hs fun _ tk => y { s with toks := tk } _ _ hs fun _ _ => P.gt_int (hQ _)) (nm _ (by simp) (by simp))
theorem ev_eq (x : EvI prog w A env h a i) (y : EvI prog w A env h b j) : EvV prog w A env h (.Compare a [.Eq] [b] pos) (.bool (i == j)) :=
  fun s Q E hs hQ => wpAny_Compare1 (x s _ _ hs fun _ tk => y { s with toks := tk } _ _ hs fun _ _ => P.eq_int (hQ _)) (nm _ (by simp) (by simp))
theorem ev_ne (x : EvI prog w A env h a i) (y : EvI prog w A env h b j) : EvV prog w A env h (.Compare a [.NotEq] [b] pos) (.bool (i != j)) :=
  fun s Q E hs hQ => wpAny_Compare1 (x s _ _ hs fun _ tk => y { s with toks := tk } _ _ hs fun _ _ => P.ne_int (hQ _)) (nm _ (by simp) (by simp))
theorem ev_le (x : EvI prog w A env h a i) (y : EvI prog w A env h b j) : EvV prog w A env h (.Compare a [.LtE] [b] pos) (.bool (decide (i ≤ j))) :=
  fun s Q E hs hQ => wpAny_Compare1 (x s _ _ hs fun _ tk => y { s with toks := tk } _ _ hs fun _ _ => P.le_int (hQ _)) (nm _ (by simp) (by simp))

theorem et_lt (x : EvI prog w A env h a i) (y : EvI prog w A env h b j) : EvT prog w A env h (.Compare a [.Lt] [b] pos) (decide (i < j)) :=
  fun s Q E hs hQ => wpAny_isTrue_Compare1 (x s _ _ hs fun _ tk => y { s with toks := tk } _ _ hs fun _ _ => P.lt_int (wpAny_truthy_bool (hQ _))) (nm _ (by simp) (by simp))
theorem et_gt (x : EvI prog w A env h a i) (y : EvI prog w A env h b j) : EvT prog w A env h (.Compare a [.Gt] [b] pos) (decide (i > j)) :=
  fun s Q E hs hQ => wpAny_isTrue_Compare1 (x s _ _ hs fun _ tk => y { s with toks := tk } _ _ hs fun _ _ => P.gt_int (wpAny_truthy_bool (hQ _))) (nm _ (by simp) (by simp))
theorem et_eq (x : EvI prog w A env h a i) (y : EvI prog w A env h b j) : EvT prog w A env h (.Compare a [.Eq] [b] pos) (i == j) :=
  fun s Q E hs hQ => wpAny_isTrue_Compare1 (x s _ _ hs fun _ tk => y { s with toks := tk } _ _ hs fun _ _ => P.eq_int (wpAny_truthy_bool (hQ _))) (nm _ (by simp) (by simp))
theorem et_ne (x : EvI prog w A env h a i) (y : EvI prog w A env h b j) : EvT prog w A env h (.Compare a [.NotEq] [b] pos) (i != j) :=
  fun s Q E hs hQ => wpAny_isTrue_Compare1 (x s _ _ hs fun _ tk => y { s with toks := tk } _ _ hs fun _ _ => P.ne_int (wpAny_truthy_bool (hQ _))) (nm _ (by simp) (by simp))
end

/-- an item of a list -/
theorem ev_item {value slice : Expr} {pos : Pos} {l : Addr} {items : Array Value} {k : Int} {v : Value} (x : EvV prog w A env h value (.ref l)) (y : EvI prog w A env h slice k) (hl : h.IsList l items)
    (h0 : 0 ≤ k) (h1 : k < 2 ^ 63) (hv : items[k.toNat]? = some v) (hs : ∀ o i, subscripted slice false o i = operate [o, i] (getItem o i) := by intro _ _; rfl) : EvV prog w A env h (.Subscript value slice pos) v :=
  by
  intro s Q E hs' hQ
  subst hs'
  exact Subscript_ (x s _ _ rfl fun tk => y { s with toks := tk } _ _ rfl fun _ tk' =>
    tail_any (s := { s with toks := tk' }) hl.typeIs slot_list_getitem.lookup (wpAny_getItem_list hl h0 h1 hv (hQ _)) (hs _ _))
theorem ev_item_neg {value slice : Expr} {pos : Pos} {l : Addr} {items : Array Value} {k : Int} {v : Value} (x : EvV prog w A env h value (.ref l)) (y : EvI prog w A env h slice k) (hl : h.IsList l items)
    (h0 : k < 0) (h1 : -(items.size : Int) ≤ k) (h2 : -(2 ^ 63) ≤ k) (hv : items[(k + items.size).toNat]? = some v) (hs : ∀ o i, subscripted slice false o i = operate [o, i] (getItem o i) := by intro _ _; rfl) : EvV prog w A env h (.Subscript value slice pos) v :=
  by
  intro s Q E hs' hQ
  subst hs'
  exact Subscript_ (x s _ _ rfl fun tk => y { s with toks := tk } _ _ rfl fun _ tk' =>
    tail_any (s := { s with toks := tk' }) hl.typeIs slot_list_getitem.lookup (wpAny_getItem_list_neg hl h0 h1 h2 hv (hQ _)) (hs _ _))
end
end Mine
end

section
namespace Mine
open PySem PyProof.Rows

section
variable {prog : Program} {w : World} {A : Around} {env : Env} {fs : List Addr} {s₀ s : Shared} {m : Str → Option Value} {O : List (Addr × Ky)} {E : Value → Shared → Prop}

theorem st_store {x : Str} {v : Value} {Q : Unit → Shared → Prop} (S : St fs s₀ env.locals m O s)
    (k : ∀ s', St fs s₀ env.locals (fun y => if y = x then some v else m y) O s' → Q () s')
    (hk : env.scope.kind = .function := by rfl) (hl : env.kindOf x = some .local := by rfl) : wpAny (model prog w) A (storeName env x v) Q E s :=
  wpAny_storeName_local hl S.ns (fun h' hn hs => k _ (S.store hn hs)) (by rw [hk]; rfl)

/-- a cell of the call's own is set -/
theorem st_storeC (i : Nat) {x : Str} {c : Addr} {v : Value} {v₀ : Option Value} {Q : Unit → Shared → Prop} (S : St fs s₀ env.locals m O s) (hi : O[i]? = some (c, .cell v₀))
    (k : ∀ s', St fs s₀ env.locals m (O.set i (c, .cell (some v))) s' → Q () s')
    (hc : env.cells.lookup x = some c) (hk : env.scope.kind = .function := by rfl) (hl : env.kindOf x = some .cell := by rfl) : wpAny (model prog w) A (storeName env x v) Q E s :=
  wpAny_storeName_cell hk hl hc (S.get (List.mem_of_getElem? hi)) fun h' hc' hs => k _ (S.upd i (t := s.toks) hi hs hc')

section
variable {Q : Flow → Shared → Prop}
theorem x_assignV {n : Str} {px pos : Pos} {e : Expr} {v : Value} (S : St fs s₀ env.locals m O s) (x : EvV prog w A env s.heap e v)
    (k : ∀ s', St fs s₀ env.locals (fun y => if y = n then some v else m y) O s' → Q .next s')
    (hs : swapsWith e (some (.Name n px)) pos.line env = pure false := by rfl) (hk : env.scope.kind = .function := by rfl) (hl : env.kindOf n = some .local := by rfl) :
    wpAny (model prog w) A (exec (.Assign [.Name n px] e pos) env) Q E s :=
  wpAny_Assign_Name (x s _ _ rfl fun tk => st_store (S.tok tk) (fun s' S' => k s' S') hk hl) hs
theorem x_assignI {n : Str} {px pos : Pos} {e : Expr} {i : Int} (S : St fs s₀ env.locals m O s) (x : EvI prog w A env s.heap e i)
    (k : ∀ t s', St fs s₀ env.locals (fun y => if y = n then some (.int i t) else m y) O s' → Q .next s')
    (hs : swapsWith e (some (.Name n px)) pos.line env = pure false := by rfl) (hk : env.scope.kind = .function := by rfl) (hl : env.kindOf n = some .local := by rfl) :
    wpAny (model prog w) A (exec (.Assign [.Name n px] e pos) env) Q E s :=
  wpAny_Assign_Name (x s _ _ rfl fun t tk => st_store (S.tok tk) (fun s' S' => k t s' S') hk hl) hs
theorem x_retV {e : Expr} {pos : Pos} {v : Value} (S : St fs s₀ env.locals m O s) (x : EvV prog w A env s.heap e v) (k : ∀ s', St fs s₀ env.locals m O s' → Q (.ret v) s') :
    wpAny (model prog w) A (exec (.Return (some e) pos) env) Q E s := wpAny_Return_some (x s _ _ rfl fun tk => k _ (S.tok tk))
theorem x_retI {e : Expr} {pos : Pos} {i : Int} (S : St fs s₀ env.locals m O s) (x : EvI prog w A env s.heap e i) (k : ∀ t s', St fs s₀ env.locals m O s' → Q (.ret (.int i t)) s') :
    wpAny (model prog w) A (exec (.Return (some e) pos) env) Q E s := wpAny_Return_some (x s _ _ rfl fun t tk => k t _ (S.tok tk))
theorem x_if {test : Expr} {body orelse : List Stmt} {pos : Pos} {b : Bool} (S : St fs s₀ env.locals m O s) (x : EvT prog w A env s.heap test b)
    (k : ∀ s', St fs s₀ env.locals m O s' → if b then wpAny (model prog w) A (execs body env) Q E s' else wpAny (model prog w) A (execs orelse env) Q E s') :
    wpAny (model prog w) A (exec (.If test body orelse pos) env) Q E s := wpAny_If (x s _ _ rfl fun tk => k _ (S.tok tk))
end

/-- a list's iterator at its i-th place -/
abbrev itr (l : Addr) (i : Nat) : Ky := .pred fun o => o.cls = .type "list_iterator" ∧ o.data = .fields #[.ref l, .int i 0]

/-- a for over a list by an invariant over the names and the ledger; no way leaves early -/
theorem x_for {Q : Flow → Shared → Prop} {target iter : Expr} {body : List Stmt} {pos : Pos} {l : Addr} {items : List Value} (J : Nat → (Str → Option Value) → List (Addr × Ky) → Prop)
    (hh : A.handled = none) (S : St fs s₀ env.locals m O s) (x : EvV prog w A env s.heap iter (.ref l)) (hl₀ : s.heap.IsList l items.toArray) (h0 : J 0 m O)
    (hl : ∀ (I : Addr) (j k : Nat) m' O' s', St fs s₀ env.locals m' ((I, itr l j) :: O') s' → J k m' O' → s'.heap.IsList l items.toArray)
    (turn : ∀ (I : Addr) (k : Nat) v m' O' s' (E' : Value → Shared → Prop), items[k]? = some v → J k m' O' → St fs s₀ env.locals m' ((I, itr l (k + 1)) :: O') s' →
      wpAny (model prog w) A (assign target env v) (fun _ s₁ => wpAny (model prog w) A (execs body env) (fun f s₂ => f = .next ∧ ∃ m₂ O₂, St fs s₀ env.locals m₂ ((I, itr l (k + 1)) :: O₂) s₂ ∧ J (k + 1) m₂ O₂) E' s₁) E' s')
    (fin : ∀ m' O' s', St fs s₀ env.locals m' O' s' → J items.length m' O' → Q .next s')
    (hf : ∀ x, foldedSetIterable iter env x = pure x := by intro _; rfl) (ht : ∀ it v, letOwnedTupleGo target it v = pure () := by intro _ _; rfl) :
    wpAny (model prog w) A (exec (.For target iter body [] pos) env) Q E s := by
  refine wpAny_For (x s _ _ rfl fun tk => wpAny_pyIter_list (s := { s with toks := tk }) hl₀ ?_) hf
  have S₀ := (S.tok tk).push (o := { cls := .type "list_iterator", data := .fields #[.ref l, .int 0 0] }) (k := itr l 0) ⟨rfl, rfl⟩
  generalize ({ s with toks := tk } : Shared).heap.objs.size = I at S₀
  refine codeAny_forLoop_any (fun n s' => ∃ k m' O', n = items.length - k ∧ k ≤ items.length ∧ St fs s₀ env.locals m' ((I, itr l k) :: O') s' ∧ J k m' O') ?_ (items.length - 0) ⟨0, m, O, rfl, Nat.zero_le _, S₀, h0⟩
  rintro n s' ⟨k, m', O', rfl, hk, S', hJ⟩
  have hl' := hl I k k m' O' s' S' hJ
  have hit : s'.heap.IsListIter I l k := by
    obtain ⟨o, ho, a, b⟩ := S'.led _ (.head _)
    exact ⟨o, ho, a, b⟩
  by_cases hlt : k < items.length
  · refine wpAny_pyNext_list_item hit hl' (x := items[k]) (by simp [hlt]) fun h' hit' hs' => ?_
    have S₁ := S'.upd 0 (t := s'.toks) rfl hs' (o' := itr l (k + 1)) (let ⟨o, ho, a, b⟩ := hit'; ⟨o, ho, a, b⟩)
    refine wpAny_of_eq (ht _ _) ?_
    refine wpAny_mono (turn I k _ m' O' _ _ (by simp [hlt]) hJ S₁) (fun _ s₁ h₁ => wpAny_mono h₁ (fun f s₂ h₂ => ?_) fun _ _ e => e) fun _ _ e => e
    obtain ⟨rfl, m₂, O₂, S₂, J₂⟩ := h₂
    exact ⟨_, by (first | lia | omega), k + 1, m₂, O₂, rfl, hlt, S₂, J₂⟩
  · have e : k = items.length := by (first | lia | omega)
    subst e
    refine wpAny_pyNext_list_end hh hit hl' (by simp) fun h' hx => ?_
    exact wpAny_execs_nil (fin _ _ _ (S'.ext (t := s'.toks) fun b o q z => hx b o q z) hJ)
end
end Mine
end

section
set_option maxRecDepth 100000
namespace Mine
open PySem PyProof.Rows

/-- the k-th statement of the text, and the parts of a def -/
def stm (k : Nat) : Stmt := (PySem.Challenge.pw_nq0035_01.main.body[k]?).getD (.Pass default)
def bodyOf : Stmt → List Stmt
  | .FunctionDef _ _ body .. => body
  | _ => []
def scopeOf : Stmt → Scope
  | .FunctionDef _ _ _ _ _ _ sc _ _ _ => sc
  | _ => default
def parsOf : Stmt → Arguments
  | .FunctionDef _ a .. => a
  | _ => default
def nameOf : Stmt → Str
  | .FunctionDef n .. => n
  | _ => default
def fdOf (st : Stmt) (c pm : Value) : FuncData :=
  { name := nameOf st, qualname := nameOf st, params := parsOf st, body := .stmts (bodyOf st), scope := scopeOf st, globals := 3, closure := [], defaults := .none, kwdefaults := .none, code := c, pyModule := pm, builtins := 0 }
/-- a def of the text stands there -/
def FnAt (h : Heap) (a : Addr) (st : Stmt) (c : Value) : Prop := (∃ o pm, h.get? a = some o ∧ o.data = .func (fdOf st c pm)) ∧ h.CodeRec c (nameOf st)
theorem UpTo.fn {h h' : Heap} (k : UpTo h h') {a : Addr} {st : Stmt} {c : Value} (x : FnAt h a st c) : FnAt h' a st c := by
  obtain ⟨⟨o, pm, ho, hd⟩, hc⟩ := x
  obtain ⟨sl, e⟩ := k a o ho
  exact ⟨⟨_, pm, e, hd⟩, k.codeRec hc⟩
/-- the frame of such a def -/
def envD (st : Stmt) (c : Value) (L a : Addr) : Env :=
  { scope := scopeOf st, locals := L, globals := 3, cells := [], qual := nameOf st ++ ".<locals>.", func := some a, code := c, frame := some L, builtins := 0 }

section
variable {prog : Program} {w : World} {A : Around} {s : Shared} {E : Value → Shared → Prop} {Q : Value → Shared → Prop}
/-- a def without cells is called -/
theorem call_d (fs : List Addr) (hfs : ∀ f ∈ fs, ∃ o, s.heap.get? f = some o) {st : Stmt} {a : Addr} {c : Value} {args : List Value} (binds : List (Str × Value)) (F : FnAt s.heap a st c) (hlim : s.heap.NoLimit) (hroom : A.depth < recursionLimit)
    (k : ∀ s₁, St fs s s.heap.objs.size (fun x => binds.reverse.lookup x) [] s₁ →
      wpAny (model prog w) (A.deeper (envD st c s.heap.objs.size a)) (execs (bodyOf st) (envD st c s.heap.objs.size a)) (fun f s' => Q (match f with | .ret v => v | _ => .none) s') (fun _ _ => False) s₁)
    (hbind : ∀ pm, bindArgs (fdOf st c pm) ⟨args, []⟩ = pure binds) (hcell : ∀ x ∈ (scopeOf st).names, x.2 ≠ .cell) (hloc : ∀ x ∈ binds, (scopeOf st).names.lookup x.1 = some .local)
    (hco : (scopeOf st).isCoroutine = false) (hgen : (scopeOf st).isGenerator = false) (hk : (scopeOf st).kind = .function) : wpAny (model prog w) A (call (.ref a) args) Q E s := by
  obtain ⟨⟨o, pm, ho, hod⟩, hcd⟩ := F
  refine wpAny_call (codeAny_call_def (fd := fdOf st c pm) (body := bodyOf st) (binds := binds) hroom ho hod hlim hcd rfl (.of_eq (hbind pm)) hcell hloc (fun h₀ hns hk' => ?_) hco hgen hk)
  refine wpAny_mono (k { s with heap := h₀, toks := s.toks + binds.length } ⟨⟨_, _, rfl⟩, hns, fun b o q _ => hk' b o q, fun b o q => ⟨o.slots, hk' b o q⟩, fun p hp => (nomatch hp), fun p hp => (nomatch hp), by simp, Heap.get?_none_of_le (Nat.le_refl _), hfs⟩) (fun _ _ q => q) fun _ _ q => q.elim
end

/-- these values are these ints -/
def Ints (vs : List Value) (ns : List Int) : Prop := vs.length = ns.length ∧ ∀ (k : Nat) (n : Int), ns[k]? = some n → ∃ t, vs[k]? = some (Value.int n t)

/-- the machine lies in the heap: its flips, its leads -/
structure MachAt (h : Heap) (fa la : Addr) (fl : List Int) (ld : List (List Int)) : Prop where
  flips : ∃ vs, At h fa (.list vs) ∧ Ints vs fl
  leads : ∃ as : List Addr, At h la (.list (as.map .ref)) ∧ as.length = ld.length ∧ ∀ (k : Nat) a l, as[k]? = some a → ld[k]? = some l → ∃ vs, At h a (.list vs) ∧ Ints vs l
theorem UpTo.mach {h h' : Heap} (k : UpTo h h') {fa la : Addr} {fl : List Int} {ld : List (List Int)} (x : MachAt h fa la fl ld) : MachAt h' fa la fl ld := by
  obtain ⟨⟨vs, a, b⟩, as, c, d, e⟩ := x
  refine ⟨⟨vs, k.list a, b⟩, as, k.list c, d, fun i a' l p q => ?_⟩
  obtain ⟨vs, f, g⟩ := e i a' l p q
  exact ⟨vs, k.list f, g⟩
/-- a machine of three states -/
structure MachOk (fl : List Int) (ld : List (List Int)) : Prop where
  nf : fl.length = 3
  nl : ld.length = 3
  bit : ∀ x ∈ fl, x = 0 ∨ x = 1
  row : ∀ l ∈ ld, l.length = 2 ∧ ∀ x ∈ l, 0 ≤ x ∧ x < 3
def flip (fl : List Int) (q : Int) : Int := fl.getD q.toNat 0
def lead (ld : List (List Int)) (q b : Int) : Int := (ld.getD q.toNat []).getD b.toNat 0
theorem MachOk.lead_lt {fl : List Int} {ld : List (List Int)} (M : MachOk fl ld) {q b : Int} (hq : 0 ≤ q ∧ q < 3) (hb : b = 0 ∨ b = 1) : 0 ≤ lead ld q b ∧ lead ld q b < 3 := by
  have h1 : q.toNat < ld.length := by rw [M.nl]; (first | lia | omega)
  have hr := M.row _ (List.getElem_mem h1)
  have h2 : b.toNat < (ld[q.toNat]).length := by rw [hr.1]; (first | lia | omega)
  have e : lead ld q b = (ld[q.toNat])[b.toNat] := by simp [lead, List.getD, h1, h2]
  rw [e]
  exact hr.2 _ (List.getElem_mem h2)
section
variable {prog : Program} {w : World} {A : Around} {env : Env} {h : Heap} {fa la : Addr} {fl : List Int} {ld : List (List Int)}
theorem ev_flip {value slice : Expr} {pos : Pos} {q : Int} (M : MachAt h fa la fl ld) (K : MachOk fl ld) (hq : 0 ≤ q ∧ q < 3) (x : EvV prog w A env h value (.ref fa)) (y : EvI prog w A env h slice q)
    (hs : ∀ o i, subscripted slice false o i = operate [o, i] (getItem o i) := by intro _ _; rfl) : EvI prog w A env h (.Subscript value slice pos) (flip fl q) := by
  obtain ⟨vs, a, hl, b⟩ := M.flips
  have h1 : q.toNat < fl.length := by rw [K.nf]; (first | lia | omega)
  obtain ⟨t, ht⟩ := b q.toNat (fl[q.toNat]) (by simp [h1])
  have e : flip fl q = fl[q.toNat] := by simp [flip, List.getD, h1]
  rw [e]
  exact (ev_item x y a.isList hq.1 (by (first | lia | omega)) (by simpa using ht) hs).toI
theorem ev_lead {v1 s1 s2 : Expr} {p1 p2 : Pos} {q b : Int} (M : MachAt h fa la fl ld) (K : MachOk fl ld) (hq : 0 ≤ q ∧ q < 3) (hb : b = 0 ∨ b = 1) (x : EvV prog w A env h v1 (.ref la)) (y : EvI prog w A env h s1 q) (z : EvI prog w A env h s2 b)
    (hs : ∀ o i, subscripted s1 false o i = operate [o, i] (getItem o i) := by intro _ _; rfl) (hs' : ∀ o i, subscripted s2 false o i = operate [o, i] (getItem o i) := by intro _ _; rfl) :
    EvI prog w A env h (.Subscript (.Subscript v1 s1 p1) s2 p2) (lead ld q b) := by
  obtain ⟨as, a, hl, c⟩ := M.leads
  have h1 : q.toNat < ld.length := by rw [K.nl]; (first | lia | omega)
  have h1' : q.toNat < as.length := by (first | lia | omega)
  obtain ⟨vs, d, hl2, e⟩ := c q.toNat (as[q.toNat]) (ld[q.toNat]) (by simp [h1']) (by simp [h1])
  have hr := K.row _ (List.getElem_mem h1)
  have h2 : b.toNat < (ld[q.toNat]).length := by rw [hr.1]; (first | lia | omega)
  obtain ⟨t, ht⟩ := e b.toNat ((ld[q.toNat])[b.toNat]) (by simp [h2])
  have e' : lead ld q b = (ld[q.toNat])[b.toNat] := by simp [lead, List.getD, h1, h2]
  rw [e']
  exact (ev_item (ev_item x y a.isList hq.1 (by (first | lia | omega)) (v := .ref as[q.toNat]) (by simp [h1']) hs) z d.isList (by (first | lia | omega)) (by (first | lia | omega)) (by simpa using ht) hs').toI
end

/-- what _law_number reckons -/
def numStep (fl : List Int) (ld : List (List Int)) (p : Int × Int) (b : Int) : Int × Int := (p.1 * 2 + (b + flip fl p.2).fmod 2, lead ld p.2 b)
def numOf (fl : List Int) (ld : List (List Int)) (row : List Int) : Int := (row.foldl (numStep fl ld) (0, 0)).1
def Bits (row : List Int) : Prop := ∀ x ∈ row, x = 0 ∨ x = 1
theorem foldl_state {fl : List Int} {ld : List (List Int)} (M : MachOk fl ld) : ∀ (row : List Int) (p : Int × Int), Bits row → (0 ≤ p.2 ∧ p.2 < 3) → 0 ≤ (row.foldl (numStep fl ld) p).2 ∧ (row.foldl (numStep fl ld) p).2 < 3
  | [], _, _, h => h
  | b :: r, p, hb, h => foldl_state M r _ (fun x hx => hb x (.tail _ hx)) (M.lead_lt h (hb b (.head _)))

theorem number_ok {prog : Program} {w : World} {A : Around} {s : Shared} {E Q : Value → Shared → Prop} {a r fa la : Addr} {c : Value} {vs : List Value} {row fl : List Int} {ld : List (List Int)}
    (F : FnAt s.heap a (stm 18) c) (hlim : s.heap.NoLimit) (hroom : A.depth < recursionLimit) (hh : A.handled = none) (hr : At s.heap r (.list vs)) (hv : Ints vs row) (hb : Bits row)
    (M : MachAt s.heap fa la fl ld) (K : MachOk fl ld) (k : ∀ t s', Keeps s s' → Q (.int (numOf fl ld row) t) s') :
    wpAny (model prog w) A (call (.ref a) [.ref r, .ref fa, .ref la]) Q E s := by
  refine call_d [] (by simp) [("row", .ref r), ("flips", .ref fa), ("leads", .ref la)] F hlim hroom (fun s₁ S => ?_) (fun _ => rfl) (by decide) (locs rfl) rfl rfl rfl
  refine wpAny_execs_cons (x_assignI S ev_int fun t₁ s₂ S => ?_)
  refine wpAny_execs_cons (x_assignI S ev_int fun t₂ s₃ S => ?_)
  refine wpAny_execs_cons (x_for (l := r) (items := vs) (fun k m O => O = [] ∧ (∃ t, m "number" = some (.int ((row.take k).foldl (numStep fl ld) (0, 0)).1 t)) ∧ (∃ t, m "state" = some (.int ((row.take k).foldl (numStep fl ld) (0, 0)).2 t)) ∧ m "flips" = some (.ref fa) ∧ m "leads" = some (.ref la))
    hh S (ev_local S.ns rfl) (S.upto.list hr).isList ⟨rfl, ⟨_, rfl⟩, ⟨_, rfl⟩, rfl, rfl⟩ (fun I j k m O s' S' _ => (S'.upto.list hr).isList) ?_ ?_)
  · rintro I k v m O s' E' hk ⟨rfl, ⟨tn, hn⟩, ⟨ts, hs⟩, hf, hl⟩ S'
    have hkr : k < row.length := by have := (List.getElem?_eq_some_iff.mp hk).1; rw [hv.1] at this; exact this
    obtain ⟨tb, hvb⟩ := hv.2 k row[k] (by simp [hkr])
    rw [hk] at hvb
    cases hvb
    have hbk := hb _ (List.getElem_mem hkr)
    have hq := foldl_state K (row.take k) (0, 0) (fun x hx => hb x (List.mem_of_mem_take hx)) (by decide)
    have hfold : (row.take (k + 1)).foldl (numStep fl ld) (0, 0) = numStep fl ld ((row.take k).foldl (numStep fl ld) (0, 0)) row[k] := by
      rw [List.take_succ_eq_append_getElem hkr, List.foldl_append]; rfl
    generalize (row.take k).foldl (numStep fl ld) (0, 0) = p at hn hs hq hfold
    obtain ⟨pn, ps⟩ := p
    refine wpAny_assign_Name (st_store S' fun s₄ S₄ => ?_)
    refine wpAny_execs_cons (x_assignI S₄ (ev_add (ev_mul (ev_local S₄.ns (by exact hn)).toI ev_int (IntMulOk.of_right (by decide)))
      (ev_mod (ev_add (ev_local S₄.ns rfl).toI (ev_flip (S₄.upto.mach M) K hq (ev_local S₄.ns (by exact hf)) (ev_local S₄.ns (by exact hs)).toI)) ev_int (by decide))) fun t₅ s₅ S₅ => ?_)
    refine wpAny_execs_cons (x_assignI S₅ (ev_lead (S₅.upto.mach M) K hq hbk (ev_local S₅.ns (by exact hl)) (ev_local S₅.ns (by exact hs)).toI (ev_local S₅.ns rfl).toI) fun t₆ s₆ S₆ => ?_)
    refine wpAny_execs_nil ⟨rfl, _, _, S₆, rfl, ⟨t₅, ?_⟩, ⟨t₆, ?_⟩, hf, hl⟩
    · rw [hfold]; rfl
    · rw [hfold]; rfl
  · rintro m O s' S' ⟨rfl, ⟨t, hn⟩, -⟩
    refine wpAny_execs_cons (x_retV S' (ev_local S'.ns (by exact hn)) fun s'' S'' => ?_)
    rw [hv.1, List.take_length]
    exact k _ _ S''.keeps
end Mine
end

section
set_option maxRecDepth 100000
namespace Mine
open PySem PyProof.Rows

/-- an IndexError with this traceback and context; a traceback's entry with this flight -/
abbrev excK (tb ctx : Value) : Ky := .pred fun o => o.cls = .type "IndexError" ∧ ∃ vs, o.data = .fields vs ∧ vs.size = 6 ∧ vs[1]? = some tb ∧ vs[2]? = some ctx
abbrev tbK (fl : Value) : Ky := .pred fun o => ∃ vs, o.data = .fields vs ∧ 4 < vs.size ∧ vs[3]? = some fl

theorem St.slots {fs : List Addr} {s₀ s : Shared} {L : Addr} {m : Str → Option Value} {O : List (Addr × Ky)} (S : St fs s₀ L m O s) {h' : Heap} (hx : Heap.SlotsOnly (L :: fs) s.heap h') : St fs s₀ L m O { s with heap := h' } := by
  obtain ⟨⟨h, tk, rfl⟩, a, b, c, d, e, f, g, i⟩ := S
  have nfs : ∀ x, s₀.heap.get? x = none → x ∉ fs := fun x q z => by obtain ⟨o, r⟩ := i x z; rw [q] at r; cases r
  refine ⟨⟨h', tk, rfl⟩, ?_, fun b' o q n => ?_, fun b' o q => ?_, fun p hp => ?_, e, f, g, i⟩
  · obtain ⟨oL, es, ep, ho, r1, r2⟩ := a
    obtain ⟨sl, y⟩ := hx.2.2 _ _ ho
    exact ⟨_, es, ep, y, r1, r2⟩
  · refine (hx.2.1 b' fun z => ?_).trans (b b' o q n)
    rcases List.mem_cons.mp z with z | z
    · rw [z, g] at q; cases q
    · exact n z
  · obtain ⟨sl, x⟩ := c b' o q
    obtain ⟨sl', y⟩ := hx.2.2 _ _ x
    exact ⟨sl', y⟩
  · refine (d p hp).keeps fun o q => (hx.2.1 p.1 fun z => ?_).trans q
    rcases List.mem_cons.mp z with z | z
    · exact (e p hp).2 z
    · exact nfs _ (e p hp).1 z

theorem funFrames_of {fs : List Addr} {s₀ s : Shared} {env : Env} {m : Str → Option Value} {O : List (Addr × Ky)} {outer : List Env} (S : St fs s₀ env.locals m O s) (hff : s₀.heap.FunFrames {} outer)
    (hf : env.frame = some env.locals) (hk : env.scope.kind = .function) : s.heap.FunFrames {} (env :: outer) := by
  refine ⟨by rw [hk]; decide, ?_, hff.of_keeps fun b o q _ => let ⟨sl, x⟩ := S.upto b o q; ⟨_, x, rfl⟩⟩
  obtain ⟨oL, es, ep, ho, hd, _⟩ := S.ns
  exact ⟨_, oL, hf, rfl, ho, fun vs z => by rw [hd] at z; cases z⟩

section
variable {prog : Program} {w : World} {A : Around} {env : Env} {fs : List Addr} {s₀ s : Shared} {m : Str → Option Value} {O : List (Addr × Ky)} {E : Value → Shared → Prop} {Q : Unit → Shared → Prop} {outer : List Env} {e tb : Addr} {ctx fl : Value}

theorem St.newExc {L : Addr} (S : St fs s₀ L m O s) {h' : Heap} {tk : Nat} (hx : Heap.NewExc s.heap h' e "IndexError") : St fs s₀ L m ((e, excK .none .none) :: O) { s with heap := h', toks := tk } := by
  have S' : St fs s₀ L m O { s with heap := h', toks := tk } := S.kept ⟨h', tk, rfl, hx.keeps⟩
  obtain ⟨ob, t, he, hc, hd⟩ := hx.there
  exact S.moreOf S' ⟨ob, he, hc, _, hd, rfl, rfl, rfl⟩ hx.new

/-- an item that is not there -/
theorem x_raise {l : Addr} {items : Array Value} {k : Int} {t : Tok} {Q : Value → Shared → Prop} (S : St fs s₀ env.locals m O s) (hh : A.handled = none) (hl : s.heap.IsList l items) (h0 : (items.size : Int) ≤ k) (h1 : k < 2 ^ 63)
    (hE : ∀ e s', St fs s₀ env.locals m ((e, excK .none .none) :: O) s' → E (.ref e) s') : wpAny (model prog w) A (getItem (.ref l) (.int k t)) Q E s :=
  wpAny_getItem_list_out hh hl (.inr h0) (by (first | lia | omega)) h1 fun h' tk e hx => hE e _ (S.newExc hx)

theorem x_note (S : St fs s₀ env.locals m ((e, excK .none ctx) :: O) s) (hfr : A.frames = some (env :: outer)) (hff : s₀.heap.FunFrames {} outer) (hfs : fs = outer.filterMap (·.frame))
    (hf : env.frame = some env.locals) (hk : env.scope.kind = .function)
    (k : ∀ tb s', St fs s₀ env.locals m ((tb, tbK (rawInt env.locals)) :: (e, excK (.ref tb) ctx) :: O) s' → Q () s') : wpAny (model prog w) A (noteFrame (.ref e) env) Q E s := by
  obtain ⟨oe, he, hc, vs, hd, hsz, h1, h2⟩ := S.led _ (.head _)
  have hl := funFrames_of S hff hf hk
  unfold noteFrame
  simp only [hf]
  refine wpAny_bind (wpAny_field he hd h1 ?_)
  rw [if_neg (by decide)]
  refine wpAny_bind (wpAny_frameOf_fun hfr hl hf fun h₁ hs₁ => ?_)
  rw [List.filterMap_cons, hf, ← hfs] at hs₁
  have S₁ := S.slots hs₁
  refine wpAny_bind (wpAny_entryPlaceOf fun pl hpl => ?_)
  unfold EntryCells.newEntry newFields
  refine wpAny_bind (wpAny_newObj_type ?_ (hpl.sizeOk5 _ _ _ _ _))
  have S₂ := S₁.push (o := { cls := .type "traceback", dict := none, data := .fields ([Value.none, .ref env.locals, .none, rawInt env.locals, .none] ++ (if pl.isEmpty then List.replicate 6 Value.none else pl)).toArray })
    (k := tbK (rawInt env.locals)) ⟨_, rfl, by simp only [List.size_toArray, List.length_append, List.length_cons, List.length_nil]; split <;> (try simp) <;> (rcases hpl with rfl | ⟨_, _, _, _, _, _, _, rfl⟩ <;> simp_all), rfl⟩
  obtain ⟨oe₂, he₂, hc₂, vs₂, hd₂, hsz₂, h1₂, h2₂⟩ := S₂.led _ (.tail _ (.head _))
  refine wpAny_setField he₂ hd₂ (by (first | lia | omega)) ?_
  refine k _ _ (S₂.upd 1 (t := s.toks) rfl (Heap.SameBut.update ..) ?_)
  have hd₃ := Obj.data_mapFields hd₂ (·.setIfInBounds 1 (Value.ref h₁.objs.size))
  exact ⟨_, Heap.get?_update_self _ he₂ (Obj.isFreed_of_fields hd₃), (Obj.cls_mapFields _ _).trans hc₂, _, hd₃, by simp [hsz₂], by simp [hsz₂], by simpa [Array.getElem?_setIfInBounds] using h2₂⟩

theorem x_noteAgain (S : St fs s₀ env.locals m ((tb, tbK (rawInt env.locals)) :: (e, excK (.ref tb) ctx) :: O) s) (hf : env.frame = some env.locals) (h : Q () s) : wpAny (model prog w) A (noteFrame (.ref e) env) Q E s := by
  obtain ⟨ot, ht, tvs, hdt, _, h3⟩ := S.led _ (.head _)
  obtain ⟨oe, he, hc, vs, hd, hsz, h1, h2⟩ := S.led _ (.tail _ (.head _))
  exact wpAny_noteFrame_inFlight hf he hd h1 ht hdt h3 h

theorem x_flight {fr : Option Addr} (S : St fs s₀ env.locals m ((tb, tbK fl) :: (e, excK (.ref tb) ctx) :: O) s)
    (k : ∀ s', St fs s₀ env.locals m ((tb, tbK (fr.elim .none fun f => rawInt f)) :: (e, excK (.ref tb) ctx) :: O) s' → Q () s') : wpAny (model prog w) A (setFlight (.ref e) fr) Q E s := by
  obtain ⟨ot, ht, tvs, hdt, hz, h3⟩ := S.led _ (.head _)
  obtain ⟨oe, he, hc, vs, hd, hsz, h1, h2⟩ := S.led _ (.tail _ (.head _))
  unfold setFlight
  refine wpAny_bind (wpAny_field he hd h1 ?_)
  rw [if_pos (show (Value.ref tb != Value.none) = true from by simp)]
  refine wpAny_setField ht hdt (by (first | lia | omega)) ?_
  have hd₃ := Obj.data_mapFields hdt (·.setIfInBounds 3 (fr.elim Value.none fun f => rawInt f))
  refine k _ (S.upd 0 (t := s.toks) rfl (Heap.SameBut.update ..) ⟨_, Heap.get?_update_self _ ht (Obj.isFreed_of_fields hd₃), _, hd₃, by simpa using hz, by rw [Array.getElem?_setIfInBounds_self_of_lt (by (first | lia | omega))]⟩)

theorem x_cameBack {env : Env} (S : St fs s₀ env.locals m ((tb, tbK fl) :: (e, excK (.ref tb) ctx) :: O) s) (hf : env.frame = some env.locals)
    (k : ∀ s', St fs s₀ env.locals m ((tb, tbK (rawInt env.locals)) :: (e, excK (.ref tb) ctx) :: O) s' → E (.ref e) s') : cameBackBy (model prog w) A env E (.ref e) s := by
  obtain ⟨oe, he, hc, vs, hd, hsz, h1, h2⟩ := S.led _ (.tail _ (.head _))
  unfold cameBackBy
  refine wpAny_bind (wpAny_field he hd h1 ?_)
  rw [if_neg (show ¬ ((Value.ref tb == Value.none) = true) from by simp), hf]
  first
    | exact x_flight S k
    | exact wpAny_bind (wpAny_pure (x_flight S k))

theorem x_passOn {α : Type} {what : String} {Q : α → Shared → Prop} (S : St fs s₀ env.locals m ((tb, tbK fl) :: (e, excK (.ref tb) ctx) :: O) s) (hf : env.frame = some env.locals)
    (k : ∀ s', St fs s₀ env.locals m ((tb, tbK (rawInt env.locals)) :: (e, excK (.ref tb) ctx) :: O) s' → E (.ref e) s') : wpAny (model prog w) A (PySem.passOn what (.ref e) env : Sem α) Q E s := by
  obtain ⟨oe, he, hc, vs, hd, hsz, h1, h2⟩ := S.led _ (.tail _ (.head _))
  unfold PySem.passOn
  refine wpAny_bind (wpAny_field he hd h1 ?_)
  rw [if_neg (show ¬ ((Value.ref tb == Value.none) = true) from by simp), hf]
  first
    | exact wpAny_bind (x_flight S fun s' S' => wpAny_throw (k s' S'))
    | exact wpAny_bind (wpAny_pure (wpAny_bind (x_flight S fun s' S' => wpAny_throw (k s' S'))))
end
end Mine
end

section
set_option maxRecDepth 100000
namespace Mine
open PySem PyProof.Rows

theorem entry_unchain : entryFor table "proto.unchain" = some Builtin.«proto.unchain» := entryFor_of_tree (by kernel_rfl)
theorem plain_unchain : plainId "proto.unchain" = true := by decide +kernel

section
variable {prog : Program} {w : World} {A : Around} {env : Env} {fs : List Addr} {s₀ s : Shared} {m : Str → Option Value} {O : List (Addr × Ky)} {E : Value → Shared → Prop} {outer : List Env} {e tb : Addr} {ctx fl tv : Value}

/-- a new exception under one that is being handled -/
theorem x_raiseNew2 {α : Type} {Q : α → Shared → Prop} {e' : Addr} (S : St fs s₀ env.locals m ((e', excK .none .none) :: O) s) (he : (e, excK tv .none) ∈ O) (hh : A.handled = some (.ref e))
    (hE : ∀ s', St fs s₀ env.locals m ((e', excK .none (.ref e)) :: O) s' → E (.ref e') s') : wpAny (model prog w) A (raiseNew (.ref e') : Sem α) Q E s := by
  obtain ⟨oe, hoe, hc, vs, hd, hsz, h1, h2⟩ := S.led _ (.tail _ he)
  obtain ⟨on, hon, hcn, vn, hdn, hszn, h1n, h2n⟩ := S.led _ (.head _)
  have hne : e ≠ e' := fun z => by
    have := S.apart
    rw [List.map_cons, List.nodup_cons] at this
    exact this.1 (List.mem_map.mpr ⟨_, he, z⟩)
  unfold raiseNew
  refine wpAny_bind (wpAny_handled ?_)
  rw [hh]
  dsimp only
  rw [if_pos (show (Value.ref e != Value.ref e') = true from by simp [hne])]
  have un : ∀ (Q' : Value → Shared → Prop), Q' .none s → wpAny (model prog w) A (holding [Value.ref e'] (runValue (.builtin "proto.unchain" ⟨[.ref e', .ref e, .ref e, .bool false], []⟩))) Q' E s := fun Q' hq => by
    refine wpAny_holding (wpAny_runValue (codeAny_builtin entry_unchain ?_))
    unfold Builtin.«proto.unchain»
    dsimp only
    refine wpAny_bind (wpAny_field hoe hd h2 ?_)
    rw [if_pos (show (Value.none == Value.none) = true from rfl)]
    exact wpAny_pure hq
  have upd : ∀ (Q' : Unit → Shared → Prop), (∀ s', St fs s₀ env.locals m ((e', excK .none (.ref e)) :: O) s' → Q' () s') → wpAny (model prog w) A (updateField e' 2 (.ref e)) Q' E s := fun Q' hq => by
    have := wpAny_setField (M := model prog w) (A := A) (E := E) (Q := Q') (i := 2) (x := Value.ref e) hon hdn (by (first | lia | omega)) (hq _ (S.upd 0 (t := s.toks) rfl (Heap.SameBut.update ..) (o' := excK .none (.ref e))
      (by
        have hd₃ := Obj.data_mapFields hdn (·.setIfInBounds 2 (Value.ref e))
        exact ⟨_, Heap.get?_update_self _ hon (Obj.isFreed_of_fields hd₃), (Obj.cls_mapFields _ _).trans hcn, _, hd₃, by simp [hszn], by simpa [Array.getElem?_setIfInBounds] using h1n, by rw [Array.getElem?_setIfInBounds_self_of_lt (by (first | lia | omega))]⟩)))
    exact this
  first
    | exact wpAny_bind (un _ (wpAny_bind (upd _ fun s' S' => wpAny_throw (hE s' S'))))
    | exact wpAny_bind (wpAny_bind (un _ (upd _ fun s' S' => wpAny_throw (hE s' S'))))

theorem x_raiseWords2 {α : Type} {Q : α → Shared → Prop} {msg : String} (S : St fs s₀ env.locals m O s) (he : (e, excK tv .none) ∈ O) (hh : A.handled = some (.ref e))
    (hE : ∀ e' s', St fs s₀ env.locals m ((e', excK .none (.ref e)) :: O) s' → E (.ref e') s') : wpAny (model prog w) A (raiseErrorWords "IndexError" msg : Sem α) Q E s := by
  unfold raiseErrorWords
  refine wpAny_bind (wpAny_mkText (wpAny_bind ?_))
  refine wpAny_newExc_plain plainExc_IndexError fun h' e' hx => ?_
  obtain ⟨hk, hn, t, he', _⟩ := hx
  have S₁ := S.tok (s.toks + 1)
  have S₂ : St fs s₀ env.locals m O { s with heap := h', toks := s.toks + 1 } := S₁.kept ⟨h', s.toks + 1, rfl, hk⟩
  exact x_raiseNew2 (S₁.moreOf S₂ (a := e') (o := excK .none .none) ⟨_, he', rfl, _, rfl, rfl, rfl, rfl⟩ hn) he hh fun s' S' => hE e' s' S'

theorem x_raise2 {l : Addr} {items : Array Value} {k : Int} {t : Tok} {Q : Value → Shared → Prop} (S : St fs s₀ env.locals m O s) (he : (e, excK tv .none) ∈ O) (hh : A.handled = some (.ref e)) (hl : s.heap.IsList l items) (h0 : (items.size : Int) ≤ k) (h1 : k < 2 ^ 63)
    (hE : ∀ e' s', St fs s₀ env.locals m ((e', excK .none (.ref e)) :: O) s' → E (.ref e') s') : wpAny (model prog w) A (getItem (.ref l) (.int k t)) Q E s := by
  obtain ⟨o, ho, hc, ne, hd⟩ := id hl
  unfold getItem
  try with_reducible refine wpAny_holding ?_
  first | refine wpAny_bind (wpAny_pure ?_) | skip
  refine wpAny_bind (wpAny_sequenceKey hl.typeIs (by decide) ?_)
  refine wpAny_bind (wpAny_callSpecial?_slot (name := Str.ofString "__getitem__") hl.typeIs slot_list_getitem
    (wpAny_call_entry slot_list_getitem hl.typeIs entry_list_getitem ?_ (args_list_getitem _ _)))
  show wpAny _ _ (Builtin.List.listSubscript? (.int k t) >>= _) _ _ s
  refine wpAny_bind (wpAny_listSubscript_int (fitsIndex_both (by (first | lia | omega)) h1) ?_)
  clear h1
  cases k with
  | ofNat j =>
    have hx : items[j]? = none := Array.getElem?_eq_none (by have : (items.size : Int) ≤ (j : Int) := h0; (first | lia | omega))
    show wpAny _ _ ((seqItemAt l j >>= fun r => pure (r.map (j, ·))) >>= _) _ _ s
    refine wpAny_bind (wpAny_bind (wpAny_seqItemAt ho hd (wpAny_pure ?_)))
    rw [hx]
    first
      | exact wpAny_bind (wpAny_rule (x_raiseWords2 S he hh hE))
      | exact wpAny_bind (wpAny_rule (wpAny_bind (x_raiseWords2 S he hh hE)))
      | exact wpAny_bind (wpAny_bind (wpAny_rule (x_raiseWords2 S he hh hE)))
      | exact wpAny_rule (x_raiseWords2 S he hh hE)
  | negSucc j => exact absurd h0 (by have := Int.negSucc_lt_zero j; (first | lia | omega))
end
end Mine
end

section
set_option maxRecDepth 100000
namespace Mine
open PySem PyProof.Rows

section
variable {prog : Program} {w : World} {A : Around} {env : Env} {fs : List Addr} {s₀ s : Shared} {m : Str → Option Value} {O : List (Addr × Ky)} {E : Value → Shared → Prop}

/-- list.append upon a list of the ledger -/
theorem c_append (i : Nat) {D : Addr} {items : List Value} {v : Value} {Q : Value → Shared → Prop} (S : St fs s₀ env.locals m O s) (hi : O[i]? = some (D, .list items)) (hz : items.length ≤ 1000)
    (k : ∀ s', St fs s₀ env.locals m (O.set i (D, .list (items ++ [v]))) s' → Q .none s') : wpAny (model prog w) A (call (.builtin "list.append") [.ref D, v]) Q E s := by
  refine list_append_plainL (S.get (List.mem_of_getElem? hi)).plainL (fun h' hp hs => ?_) (by rw [List.size_toArray, sizeLine_eq]; (first | lia | omega))
  have := S.upd i (t := s.toks) hi hs (At.of_plainL hp)
  simp only [List.push_toArray] at this
  exact k _ this

/-- list.extend by another list -/
theorem c_extend (i : Nat) {D l : Addr} {items ys : List Value} {Q : Value → Shared → Prop} (S : St fs s₀ env.locals m O s) (hi : O[i]? = some (D, .list items)) (hl : s.heap.IsList l ys.toArray) (hz : items.length + ys.length ≤ 1000)
    (k : ∀ s', St fs s₀ env.locals m (O.set i (D, .list (items ++ ys))) s' → Q .none s') : wpAny (model prog w) A (call (.builtin "list.extend") [.ref D, .ref l]) Q E s := by
  obtain ⟨oD, hD, hcD, hnD, n, hdD⟩ := S.get (List.mem_of_getElem? hi)
  obtain ⟨o, ho, hc, n', hd⟩ := id hl
  refine wpAny_call_entry F.slot_list_extend ⟨_, hD, hcD⟩ F.entry_list_extend ?_ (F.args_list_extend_2 _ _)
  show wpAny _ _ (Builtin.List.listExtendWith (.ref D) (.ref l) .none) _ _ s
  unfold Builtin.List.listExtendWith
  refine wpAny_bind (wpAny_typeOf ⟨o, ho, hc⟩ ?_)
  have h1 : (Builtin.List.listSameRef (.ref D) (.ref l) || Value.type "list" == Value.type "list" || Value.type "list" == Value.type "tuple") = true := by simp
  simp only [h1, if_true]
  refine wpAny_bind ?_
  unfold Builtin.List.listItems
  refine wpAny_bind (wpAny_seqItems ho hd (wpAny_pure ?_))
  refine wpAny_bind ?_
  refine wpAny_bind (wpAny_seqItems hD hdD (wpAny_pure ?_))
  have h2 : Builtin.List.listTooLong (items.toArray.size + ys.toArray.size) = false := by
    unfold Builtin.List.listTooLong
    simp only [List.size_toArray]
    exact decide_eq_false (by rw [sizeLine_eq]; (first | lia | omega))
  have fin : wpAny (model prog w) A.in1 (updateSeq D (· ++ ys.toArray) >>= fun _ => ret Value.none) (fun fin s' => ∃ v, fin = .done (.ret v) ∧ Q v s') E s := by
    refine wpAny_bind (wpAny_updateSeq hD hdD ?_ (by simp only [List.size_toArray]; rw [sizeLine_eq]; (first | lia | omega)) (by simp only [Array.size_append, List.size_toArray]; rw [sizeLine_eq]; (first | lia | omega)))
    obtain ⟨n₂, e⟩ := Obj.data_mapSeq hdD (· ++ ys.toArray)
    have S' := S.upd i (t := s.toks) hi (Heap.SameBut.update ..) (o' := .list (items ++ ys)) ⟨_, Heap.get?_update_self (Obj.mapSeq (· ++ ys.toArray)) hD (Obj.isFreed_of_seq e), (Obj.cls_mapSeq ..).trans hcD, (by
      obtain ⟨c, d, dt, sl⟩ := oD
      obtain rfl : dt = _ := hdD
      exact hnD), n₂, by simpa using e⟩
    exact wpAny_pure ⟨_, rfl, k _ S'⟩
  simp only [h2, Bool.and_false, Bool.false_eq_true, if_false]
  first
    | exact fin
    | exact wpAny_bind (wpAny_pure fin)

/-- x[a:] -/
theorem w_from {value lower : Expr} {p pos : Pos} {l : Addr} {items : List Value} {a : Nat} {Q : Value → Shared → Prop} (S : St fs s₀ env.locals m O s) (x : EvV prog w A env s.heap value (.ref l)) (y : EvI prog w A env s.heap lower (a : Int))
    (hl : s.heap.IsList l items.toArray) (hz : items.length ≤ 1000) (k : ∀ D s', St fs s₀ env.locals m ((D, .list (items.drop a)) :: O) s' → Q (.ref D) s')
    (ht : ∀ o r, letTemporaryGo value o r = pure () := by intro _ _; rfl) : wpAny (model prog w) A (eval (.Subscript value (.Slice (some lower) none none p) pos) env) Q E s := by
  refine wpAny_Subscript_list_slice (x s _ _ rfl fun tk => wpAny_evalPart_some (y { s with toks := tk } _ _ rfl fun t tk' => wpAny_evalPart_none ?_)) ht
  refine ⟨l, items.toArray, some (a : Int), none, rfl, hl, by rw [List.size_toArray, sizeLine_eq]; (first | lia | omega), .int _ _, .none, ?_⟩
  have S₁ := ((S.tok tk').push (o := { cls := .type "slice", data := .fields #[.int (a : Int) t, .none, .none] }) (k := .pred fun _ => True) trivial).push (o := { cls := .type "list", data := .seq (slicePick items.toArray (some (a : Int)) none none) }) (k := .list (items.drop a)) ⟨rfl, rfl, 0, by rw [slicePick_from']⟩
  rw [Heap.size_push] at S₁
  exact k _ _ (S₁.sub (by simp))
/-- x[:b] -/
theorem w_upto {value upper : Expr} {p pos : Pos} {l : Addr} {items : List Value} {b : Nat} {Q : Value → Shared → Prop} (S : St fs s₀ env.locals m O s) (x : EvV prog w A env s.heap value (.ref l)) (y : EvI prog w A env s.heap upper (b : Int))
    (hl : s.heap.IsList l items.toArray) (hz : items.length ≤ 1000) (k : ∀ D s', St fs s₀ env.locals m ((D, .list (items.take b)) :: O) s' → Q (.ref D) s')
    (ht : ∀ o r, letTemporaryGo value o r = pure () := by intro _ _; rfl) : wpAny (model prog w) A (eval (.Subscript value (.Slice none (some upper) none p) pos) env) Q E s := by
  refine wpAny_Subscript_list_slice (x s _ _ rfl fun tk => wpAny_evalPart_none (wpAny_evalPart_some (y { s with toks := tk } _ _ rfl fun t tk' => ?_))) ht
  refine ⟨l, items.toArray, none, some (b : Int), rfl, hl, by rw [List.size_toArray, sizeLine_eq]; (first | lia | omega), .none, .int _ _, ?_⟩
  have S₁ := ((S.tok tk').push (o := { cls := .type "slice", data := .fields #[.none, .int (b : Int) t, .none] }) (k := .pred fun _ => True) trivial).push (o := { cls := .type "list", data := .seq (slicePick items.toArray none (some (b : Int)) none) }) (k := .list (items.take b)) ⟨rfl, rfl, 0, by rw [slicePick_upto']⟩
  rw [Heap.size_push] at S₁
  exact k _ _ (S₁.sub (by simp))

/-- a method of a list, one argument -/
theorem w_meth {o e : Expr} {name : Str} {id : String} {apos pos : Pos} {D : Addr} {items : List Value} {Q : Value → Shared → Prop} (x : EvV prog w A env s.heap o (.ref D)) (hD : At s.heap D (.list items)) (slot : Slot "list" name id) (hty : typeOf (.builtin id) = pure (.type "method_descriptor"))
    (h : ∀ tk, wpAny (model prog w) A (eval e env) (fun v s₁ => wpAny (model prog w) A (call (.builtin id) [.ref D, v]) Q E s₁) E { s with toks := tk })
    (hbase : attributeBase o name env (eval o env) = eval o env := by rfl) (hline : (apos.endLine == pos.line) = true := by rfl)
    (htrees : backTo pos (starEach [e] env) = [(false, eval e env)] := by rfl) : wpAny (model prog w) A (eval (.Call (.Attribute o name apos) [e] [] pos) env) Q E s := by
  refine wpAny_Call_method1_late hbase hline htrees (x s _ _ rfl fun tk => ⟨"list", id, F.plainAttrs_list, slot, hty, hD.isList.typeIs, fun a ha => ?_, ?_⟩)
  · cases ha
    obtain ⟨o', ho, hc, hn, n, hd⟩ := hD
    exact ⟨_, ho, hn⟩
  · exact Calls.callWith_builtin rfl (Calls.evalArgs_plain (Calls.spliced_cons (wpAny_mono (h tk) (fun v s₁ h₁ => Calls.spliced_nil h₁) fun _ _ e => e)))

theorem x_append (i : Nat) {o e : Expr} {apos pos pos' : Pos} {D : Addr} {items : List Value} {v : Value} {Q : Flow → Shared → Prop} (S : St fs s₀ env.locals m O s) (x : EvV prog w A env s.heap o (.ref D)) (y : EvV prog w A env s.heap e v) (hi : O[i]? = some (D, .list items)) (hz : items.length ≤ 1000)
    (k : ∀ s', St fs s₀ env.locals m (O.set i (D, .list (items ++ [v]))) s' → Q .next s')
    (hbase : attributeBase o "append" env (eval o env) = eval o env := by rfl) (hline : (apos.endLine == pos.line) = true := by rfl)
    (htrees : backTo pos (starEach [e] env) = [(false, eval e env)] := by rfl) (hint : interactive env = false := by rfl) : wpAny (model prog w) A (exec (.Expr (.Call (.Attribute o "append" apos) [e] [] pos) pos') env) Q E s :=
  wpAny_Expr_any (w_meth x (S.get (List.mem_of_getElem? hi)) F.slot_list_append F.type_list_append (fun tk => y { s with toks := tk } _ _ rfl fun tk' => c_append i (S.tok tk') hi hz fun s' S' => k s' S') hbase hline htrees) hint

/-- n += 1 -/
theorem x_inc {n : Str} {px pos p : Pos} {i : Int} {t : Tok} {k₀ : Nat} {Q : Flow → Shared → Prop} (S : St fs s₀ env.locals m O s) (hn : m n = some (.int i t)) (k : ∀ t s', St fs s₀ env.locals (fun y => if y = n then some (.int (i + 1) t) else m y) O s' → Q .next s')
    (hk : env.scope.kind = .function := by rfl) (hl : env.kindOf n = some .local := by rfl) :
    wpAny (model prog w) A (exec (.AugAssign (.Name n px) .Add (.Constant (.int 1) k₀ p) pos) env) Q E s :=
  wpAny_AugAssign_Name (wpAny_loadName_local hk hl S.ns hn (wpAny_Constant_int (wpAny_iadd_int (st_store (S.tok _) (fun s' S' => k _ s' S') hk hl))))
end
end Mine
end

section
namespace Mine

/-- what is in the one alone -/
def diff (a b : List Int) : List Int := a.filter fun x => !b.contains x
def Inc (l : List Int) : Prop := l.Pairwise (· < ·)

theorem diff_congr {a b b' : List Int} (h : ∀ x ∈ a, x ∈ b ↔ x ∈ b') : diff a b = diff a b' := by
  unfold diff
  refine List.filter_congr fun x hx => ?_
  have := h x hx
  by_cases q : x ∈ b
  · have q' := this.mp q; simp [q, q']
  · have q' : x ∉ b' := fun z => q (this.mpr z); simp [q, q']
theorem diff_nil (a : List Int) : diff a [] = a := by simp [diff]
theorem nil_diff (b : List Int) : diff [] b = [] := rfl
theorem diff_cons {x : Int} {a b : List Int} (h : x ∉ b) : diff (x :: a) b = x :: diff a b := by simp [diff, h]
theorem diff_cons_in {x : Int} {a b : List Int} (h : x ∈ b) : diff (x :: a) b = diff a b := by simp [diff, h]

structure InvD (xs ys : List Int) (i j : Nat) (M U : List Int) : Prop where
  mis : M ++ diff (xs.drop i) (ys.drop j) = diff xs ys
  une : U ++ diff (ys.drop j) (xs.drop i) = diff ys xs
theorem InvD.symm {xs ys : List Int} {i j : Nat} {M U : List Int} (h : InvD xs ys i j M U) : InvD ys xs j i U M := ⟨h.une, h.mis⟩
theorem InvD.start (xs ys : List Int) : InvD xs ys 0 0 [] [] := ⟨rfl, rfl⟩

theorem Inc.drop {l : List Int} (h : Inc l) (k : Nat) : Inc (l.drop k) := h.sublist (List.drop_sublist k l)
theorem Inc.lt_tail {l : List Int} (h : Inc l) {k : Nat} (hk : k < l.length) : ∀ x ∈ l.drop (k + 1), l[k] < x := by
  have := h.drop k
  rw [List.drop_eq_getElem_cons hk] at this
  exact (List.pairwise_cons.mp this).1
theorem Inc.le_drop {l : List Int} (h : Inc l) {k : Nat} (hk : k < l.length) : ∀ x ∈ l.drop k, l[k] ≤ x := by
  intro x hx
  rw [List.drop_eq_getElem_cons hk] at hx
  rcases List.mem_cons.mp hx with rfl | hx
  · exact Int.le_refl _
  · exact Int.le_of_lt (h.lt_tail hk x hx)
theorem Inc.next {l : List Int} (h : Inc l) {k : Nat} (hk : k + 1 < l.length) : l[k]'(by (first | lia | omega)) < l[k + 1] :=
  List.pairwise_iff_getElem.mp h k (k + 1) (by (first | lia | omega)) hk (Nat.lt_succ_self k)

theorem InvD.lt {xs ys : List Int} (hy : Inc ys) {i j : Nat} {M U : List Int} (h : InvD xs ys i j M U) (hi : i < xs.length) (hj : j < ys.length) (hlt : xs[i] < ys[j]) : InvD xs ys (i + 1) j (M ++ [xs[i]]) U := by
  have hn : xs[i] ∉ ys.drop j := fun hm => by have := hy.le_drop hj _ hm; (first | lia | omega)
  refine ⟨?_, ?_⟩
  · have := h.mis
    rw [List.drop_eq_getElem_cons hi, diff_cons hn] at this
    rw [← this]; simp
  · have := h.une
    rw [← this]
    congr 1
    refine diff_congr fun x hx => ?_
    rw [List.drop_eq_getElem_cons hi, List.mem_cons]
    exact ⟨fun z => .inr z, fun z => z.resolve_left fun e => hn (e ▸ hx)⟩
theorem InvD.gt {xs ys : List Int} (hx : Inc xs) {i j : Nat} {M U : List Int} (h : InvD xs ys i j M U) (hi : i < xs.length) (hj : j < ys.length) (hlt : ys[j] < xs[i]) : InvD xs ys i (j + 1) M (U ++ [ys[j]]) :=
  (h.symm.lt hx hj hi hlt).symm
theorem InvD.eq {xs ys : List Int} (hx : Inc xs) (hy : Inc ys) {i j : Nat} {M U : List Int} (h : InvD xs ys i j M U) (hi : i < xs.length) (hj : j < ys.length) (he : xs[i] = ys[j]) : InvD xs ys (i + 1) (j + 1) M U := by
  have one : ∀ {as bs : List Int} (ha : Inc as) (hb : Inc bs) {i j : Nat} (hi : i < as.length) (hj : j < bs.length), as[i] = bs[j] → diff (as.drop i) (bs.drop j) = diff (as.drop (i + 1)) (bs.drop (j + 1)) := by
    intro as bs ha hb i j hi hj he
    rw [List.drop_eq_getElem_cons hi, List.drop_eq_getElem_cons hj, diff_cons_in (by rw [he]; exact List.mem_cons_self ..)]
    refine diff_congr fun x hx => ?_
    rw [List.mem_cons]
    have := ha.lt_tail hi x hx
    exact ⟨fun z => z.resolve_left fun e => by (first | lia | omega), .inr⟩
  exact ⟨by rw [← one hx hy hi hj he]; exact h.mis, by rw [← one hy hx hj hi he.symm]; exact h.une⟩
theorem InvD.fin {xs ys : List Int} {i j : Nat} {M U : List Int} (h : InvD xs ys i j M U) (he : xs.length ≤ i ∨ ys.length ≤ j) : M ++ xs.drop i = diff xs ys ∧ U ++ ys.drop j = diff ys xs := by
  rcases he with e | e
  · have z : xs.drop i = [] := List.drop_eq_nil_of_le e
    have a := h.mis; have b := h.une
    rw [z, nil_diff] at a
    rw [z, diff_nil] at b
    exact ⟨by rw [z]; exact a, b⟩
  · have z : ys.drop j = [] := List.drop_eq_nil_of_le e
    have a := h.mis; have b := h.une
    rw [z, diff_nil] at a
    rw [z, nil_diff] at b
    exact ⟨a, by rw [z]; exact b⟩
end Mine
end

section
set_option maxRecDepth 100000
namespace Mine
open PySem PyProof.Rows

/-- the names of the text's top, and those of the built-ins that it reads -/
def globs : List (Str × Value) := [("_wall", .ref 21), ("sorted_list_difference", .ref 28), ("three_way_cmp", .ref 35), ("_buffer", .ref 42), ("_NO_SEP", .ref 43), ("b2a_hex", .ref 51), ("hexlify", .ref 51), ("b16encode", .ref 58), ("cmp_to_key", .ref 65),
  ("_initial_missing", .ref 66), ("reduce", .ref 74), ("_law_things", .ref 79), ("_law_machine", .ref 84), ("_law_number", .ref 91), ("_law_comparison", .ref 98), ("_law_differ", .ref 103), ("_law_written", .ref 108), ("_law_sign", .ref 115), ("_law_ordered", .ref 120)]
def blts : List (Str × Value) := [("IndexError", .type "IndexError"), ("len", .builtin "len"), ("range", .type "range"), ("sum", .builtin "sum"), ("int", .type "int"), ("type", .type "type"), ("bytes", .type "bytes"), ("sorted", .builtin "sorted"), ("min", .builtin "min"), ("iter", .builtin "iter"), ("object", .type "object"), ("__build_class__", .builtin "__build_class__"), ("str", .type "str"), ("bool", .type "bool")]
structure GlbF (h : Heap) (mg mb : Str → Option Value) (bm : Addr) (ob : Obj) (tn : Tok) : Prop where
  g : h.Ns 3 mg
  b : h.Ns 0 mb
  gs : ∀ x v, globs.lookup x = some v → mg x = some v
  bs : ∀ x v, blts.lookup x = some v → mg x = none ∧ mb x = some v
  nm : mg "__name__" = some (.str "law_nq0035_01" tn)
  bi : mg "__builtins__" = some (.ref bm)
  b0 : bm ≠ 0
  b3 : bm ≠ 3
  og : h.get? bm = some ob
  oc : ob.cls = .type "module"
  od : ob.dict = some builtinsNs
  op : ob.data = .plain
  sm : ∃ o, h.get? 1 = some o ∧ o.data ≠ .fields #[]
def Glb (h : Heap) : Prop := ∃ mg mb bm ob tn, GlbF h mg mb bm ob tn
theorem UpTo.glb {h h' : Heap} (k : UpTo h h') (G : Glb h) : Glb h' := by
  obtain ⟨mg, mb, bm, ob, tn, a, b, c, d, e, f, g, i, j, l, m, n, o1, p1, q1⟩ := G
  obtain ⟨sl, j⟩ := k _ _ j
  obtain ⟨sl1, p1⟩ := k _ _ p1
  exact ⟨mg, mb, bm, _, tn, k.ns a, k.ns b, c, d, e, f, g, i, j, l, m, n, _, p1, q1⟩

/-- what a call keeps that may have raised within -/
def KeepsU (fs : List Addr) (s s' : Shared) : Prop := ∃ h' tk, s' = { s with heap := h', toks := tk } ∧ UpTo s.heap h' ∧ ∀ b o, b ∉ fs → s.heap.get? b = some o → h'.get? b = some o
theorem KeepsU.upto {fs : List Addr} {s s' : Shared} (k : KeepsU fs s s') : UpTo s.heap s'.heap := by obtain ⟨h', tk, rfl, u, _⟩ := k; exact u
/-- what it has made -/
def Made (s s' : Shared) (O : List (Addr × Ky)) : Prop := (∀ p ∈ O, At s'.heap p.1 p.2 ∧ s.heap.get? p.1 = none) ∧ (O.map (·.1)).Nodup
section
variable {fs : List Addr} {s₀ s s' : Shared} {L : Addr} {m : Str → Option Value} {O O₂ : List (Addr × Ky)}
theorem St.keepsU (S : St fs s₀ L m O s) : KeepsU fs s₀ s := by
  obtain ⟨h, tk, rfl⟩ := S.same
  exact ⟨h, tk, rfl, S.upto, fun b o n q => S.keep b o q n⟩
theorem St.made (S : St fs s₀ L m O s) : Made s₀ s O := ⟨fun p hp => ⟨S.led p hp, (S.fresh p hp).1⟩, S.apart⟩
theorem St.keptU (S : St fs s₀ L m O s) (k : KeepsU (L :: fs) s s') : St fs s₀ L m O s' := by
  obtain ⟨⟨h, tk, rfl⟩, a, b, c, d, e, f, g, i⟩ := S
  obtain ⟨h', tk', rfl, u, k⟩ := k
  have nfs : ∀ x, s₀.heap.get? x = none → x ∉ fs := fun x q z => by obtain ⟨o, r⟩ := i x z; rw [q] at r; cases r
  refine ⟨⟨h', tk', rfl⟩, u.ns a, fun b' o q n => k _ _ (fun z => ?_) (b b' o q n), c.trans u, fun p hp => (d p hp).keeps fun o q => k _ _ (fun z => ?_) q, e, f, g, i⟩
  · rcases List.mem_cons.mp z with z | z
    · rw [z, g] at q; cases q
    · exact n z
  · rcases List.mem_cons.mp z with z | z
    · exact (e p hp).2 z
    · exact nfs _ (e p hp).1 z
theorem St.with (S : St fs s₀ L m O s) (S' : St fs s₀ L m O s') (M : Made s s' O₂) : St fs s₀ L m (O₂ ++ O) s' := by
  refine ⟨S'.same, S'.ns, S'.keep, S'.upto, fun p hp => ?_, fun p hp => ?_, ?_, S'.above, S'.fsOld⟩
  · rcases List.mem_append.mp hp with hp | hp
    · exact (M.1 p hp).1
    · exact S'.led p hp
  · rcases List.mem_append.mp hp with hp | hp
    · refine ⟨S.new (M.1 p hp).2, fun z => ?_⟩
      obtain ⟨oL, _, _, hL, _⟩ := S.ns
      rw [← z, (M.1 p hp).2] at hL; cases hL
    · exact S'.fresh p hp
  · rw [List.map_append, List.nodup_append]
    refine ⟨M.2, S'.apart, fun a ha b hb z => ?_⟩
    obtain ⟨p, hp, rfl⟩ := List.mem_map.mp ha
    obtain ⟨q, hq, rfl⟩ := List.mem_map.mp hb
    obtain ⟨o, ho, _⟩ := S.led q hq
    rw [← z, (M.1 p hp).2] at ho; cases ho
end

section
variable {prog : Program} {w : World} {A : Around} {env : Env} {h : Heap} {fs : List Addr} {s₀ s : Shared} {m : Str → Option Value} {O : List (Addr × Ky)} {E : Value → Shared → Prop} {Q : Value → Shared → Prop}
theorem ev_g {x : Str} {pos : Pos} {v : Value} (G : Glb h) (hv : globs.lookup x = some v) (hg : env.globals = 3 := by rfl) (hk : env.scope.kind = .function := by rfl) (hl : env.kindOf x = some .globalImplicit := by rfl)
    (hd : (x == ("__debug__" : Str)) = false := by decide) : EvV prog w A env h (.Name x pos) v :=
  let ⟨mg, mb, bm, ob, tn, K⟩ := G; ev_global (mg := mg) (by rw [hg]; exact K.g) (K.gs x v hv) hk hl hd
theorem ev_b {x : Str} {pos : Pos} {v : Value} (G : Glb h) (hv : blts.lookup x = some v) (hg : env.globals = 3 := by rfl) (hb : env.builtins = 0 := by rfl) (hk : env.scope.kind = .function := by rfl) (hl : env.kindOf x = some .globalImplicit := by rfl)
    (hd : (x == ("__debug__" : Str)) = false := by decide) : EvV prog w A env h (.Name x pos) v :=
  let ⟨mg, mb, bm, ob, tn, K⟩ := G; ev_builtin (mg := mg) (mb := mb) (by rw [hg]; exact K.g) (K.bs x v hv).1 (by rw [hb]; exact K.b) (K.bs x v hv).2 hk hl hd

theorem w_newList {vs : List Value} (S : St fs s₀ env.locals m O s) (hz : vs.length ≤ 1000) (k : ∀ D s', St fs s₀ env.locals m ((D, .list vs) :: O) s' → Q (.ref D) s') : wpAny (model prog w) A (newList vs) Q E s :=
  wpAny_newObj_type (k _ _ (S.push (k := .list vs) ⟨rfl, rfl, 0, rfl⟩)) (by show vs.toArray.size ≤ sizeLine; rw [List.size_toArray, sizeLine_eq]; (first | lia | omega))
theorem w_list0 {pos : Pos} (S : St fs s₀ env.locals m O s) (k : ∀ D s', St fs s₀ env.locals m ((D, .list []) :: O) s' → Q (.ref D) s') : wpAny (model prog w) A (eval (.List [] pos) env) Q E s :=
  List_ (Calls.spliced_nil (w_newList S (by decide) k))
abbrev tupK (vs : List Value) : Ky := .pred fun o => o.cls = .type "tuple" ∧ o.dict = none ∧ ∃ n, o.data = .seq vs.toArray n
theorem w_newTuple {vs : List Value} (S : St fs s₀ env.locals m O s) (hz : vs.length ≤ 1000) (k : ∀ D s', St fs s₀ env.locals m ((D, tupK vs) :: O) s' → Q (.ref D) s') : wpAny (model prog w) A (newTuple vs) Q E s :=
  wpAny_newObj_type (k _ _ (S.push (k := tupK vs) ⟨rfl, rfl, 0, rfl⟩)) (by show vs.toArray.size ≤ sizeLine; rw [List.size_toArray, sizeLine_eq]; (first | lia | omega))

/-- an item that is not there -/
theorem w_itemOut {value slice : Expr} {pos : Pos} {l : Addr} {items : Array Value} {k : Int} (S : St fs s₀ env.locals m O s) (hh : A.handled = none) (x : EvV prog w A env s.heap value (.ref l)) (y : EvI prog w A env s.heap slice k) (hl : s.heap.IsList l items)
    (h0 : (items.size : Int) ≤ k) (h1 : k < 2 ^ 63) (hE : ∀ e s', St fs s₀ env.locals m ((e, excK .none .none) :: O) s' → E (.ref e) s')
    (hs : ∀ o i, subscripted slice false o i = operate [o, i] (getItem o i) := by intro _ _; rfl) : wpAny (model prog w) A (eval (.Subscript value slice pos) env) Q E s :=
  Subscript_ (x s _ _ rfl fun tk => y { s with toks := tk } _ _ rfl fun _ tk' =>
    tail_any (s := { s with toks := tk' }) hl.typeIs slot_list_getitem.lookup (x_raise (S.tok tk') hh hl h0 h1 hE) (hs _ _))
theorem w_itemOut2 {value slice : Expr} {pos : Pos} {l e : Addr} {tv : Value} {items : Array Value} {k : Int} (S : St fs s₀ env.locals m O s) (he : (e, excK tv .none) ∈ O) (hh : A.handled = some (.ref e)) (x : EvV prog w A env s.heap value (.ref l)) (y : EvI prog w A env s.heap slice k) (hl : s.heap.IsList l items)
    (h0 : (items.size : Int) ≤ k) (h1 : k < 2 ^ 63) (hE : ∀ e' s', St fs s₀ env.locals m ((e', excK .none (.ref e)) :: O) s' → E (.ref e') s')
    (hs : ∀ o i, subscripted slice false o i = operate [o, i] (getItem o i) := by intro _ _; rfl) : wpAny (model prog w) A (eval (.Subscript value slice pos) env) Q E s :=
  Subscript_ (x s _ _ rfl fun tk => y { s with toks := tk } _ _ rfl fun _ tk' =>
    tail_any (s := { s with toks := tk' }) hl.typeIs slot_list_getitem.lookup (x_raise2 (S.tok tk') he hh hl h0 h1 hE) (hs _ _))
end

section
variable {prog : Program} {w : World} {A : Around} {env : Env} {fs : List Addr} {s₀ s : Shared} {m : Str → Option Value} {O : List (Addr × Ky)} {E : Value → Shared → Prop} {Q : Flow → Shared → Prop} {outer : List Env} {ctx : Value}
theorem x_whileNo {test : Expr} {body : List Stmt} {pos : Pos} (S : St fs s₀ env.locals m O s) (x : EvT prog w A env s.heap test false) (k : ∀ s', St fs s₀ env.locals m O s' → Q .next s') : wpAny (model prog w) A (exec (.While test body [] pos) env) Q E s := by
  refine wpAny_While (codeAny_whileLoop (fun _ s' => s' = s) ?_ 0 rfl)
  rintro n s' rfl
  refine x s' _ _ rfl fun tk => ?_
  simp only [Bool.false_eq_true, if_false]
  exact wpAny_execs_nil (k _ (S.tok tk))
/-- the test raises -/
theorem x_whileRaise {test : Expr} {body : List Stmt} {pos : Pos} (S : St fs s₀ env.locals m O s) (hfr : A.frames = some (env :: outer)) (hff : s₀.heap.FunFrames {} outer) (hfs : fs = outer.filterMap (·.frame)) (hf : env.frame = some env.locals) (hk : env.scope.kind = .function)
    (R : ∀ (Q' : Bool → Shared → Prop) (E' : Value → Shared → Prop), (∀ e s'', St fs s₀ env.locals m ((e, excK .none ctx) :: O) s'' → E' (.ref e) s'') → wpAny (model prog w) A (isTrue test env (eval test env)) Q' E' s)
    (k : ∀ e tb s', St fs s₀ env.locals m ((tb, tbK (rawInt env.locals)) :: (e, excK (.ref tb) ctx) :: O) s' → E (.ref e) s') : wpAny (model prog w) A (exec (.While test body [] pos) env) Q E s := by
  refine wpAny_While (codeAny_whileLoop (fun _ s' => s' = s) ?_ 0 rfl)
  rintro n s' rfl
  exact R _ _ fun e s₁ S₁ => x_note S₁ hfr hff hfs hf hk fun tb s₂ S₂ => x_cameBack S₂ hf fun s₃ S₃ => k e tb s₃ S₃
end
end Mine
end

section
set_option maxRecDepth 100000
namespace Mine
open PySem PyProof.Rows

/-- parts of sorted_list_difference -/
def tryS : Stmt := match ((bodyOf (stm 2))[3]? : Option Stmt) with
  | some (.While _ (t :: _) _ _) => t
  | _ => .Pass default
def hdlS : List ExceptHandler := match tryS with
  | .Try _ h _ _ _ => h
  | _ => []
def tbodyS : List Stmt := match tryS with
  | .Try b _ _ _ _ => b
  | _ => []

/-- the names in the loop -/
structure NmS (m : Str → Option Value) (x y p q : Addr) (i j : Nat) : Prop where
  ex : m "expected" = some (.ref x)
  ac : m "actual" = some (.ref y)
  mi : m "missing" = some (.ref p)
  un : m "unexpected" = some (.ref q)
  i : ∃ t, m "i" = some (.int (i : Int) t)
  j : ∃ t, m "j" = some (.int (j : Int) t)

/-- what stands around the loop -/
structure CtxS (A : Around) (env : Env) (fs : List Addr) (s₀ : Shared) (outer : List Env) (x y : Addr) (vx vy : List Value) (xs ys : List Int) : Prop where
  isEnv : ∃ c L a, env = envD (stm 2) c L a
  hh : A.handled = none
  hfr : A.frames = some (env :: outer)
  hff : s₀.heap.FunFrames {} outer
  hfs : fs = outer.filterMap (·.frame)
  G : Glb s₀.heap
  hx : At s₀.heap x (.list vx)
  ix : Ints vx xs
  incx : Inc xs
  hy : At s₀.heap y (.list vy)
  iy : Ints vy ys
  incy : Inc ys
  lx : xs.length ≤ 100
  ly : ys.length ≤ 100

theorem Ints.get {vs : List Value} {ns : List Int} (h : Ints vs ns) {k : Nat} (hk : k < ns.length) : ∃ t, vs[k]? = some (Value.int ns[k] t) := h.2 k _ (by simp [hk])
theorem Ints.nil : Ints [] [] := ⟨rfl, fun k n h => by simp at h⟩
theorem Ints.snoc {vs : List Value} {ns : List Int} (h : Ints vs ns) (n : Int) (t : Tok) : Ints (vs ++ [.int n t]) (ns ++ [n]) := by
  refine ⟨by simp [h.1], fun k n' hk => ?_⟩
  by_cases q : k < ns.length
  · rw [List.getElem?_append_left q] at hk
    obtain ⟨t', ht⟩ := h.2 k n' hk
    exact ⟨t', by rw [List.getElem?_append_left (by rw [h.1]; exact q)]; exact ht⟩
  · rw [List.getElem?_append_right (by (first | lia | omega))] at hk
    have hz : k - ns.length = 0 := by
      rcases Nat.eq_zero_or_pos (k - ns.length) with z | z
      · exact z
      · rw [List.getElem?_eq_none (by simp; (first | lia | omega))] at hk; cases hk
    rw [hz] at hk
    cases hk
    exact ⟨t, by rw [List.getElem?_append_right (by rw [h.1]; (first | lia | omega)), h.1, hz]; rfl⟩
theorem Ints.drop {vs : List Value} {ns : List Int} (h : Ints vs ns) (a : Nat) : Ints (vs.drop a) (ns.drop a) := by
  refine ⟨by simp [h.1], fun k n hk => ?_⟩
  rw [List.getElem?_drop] at hk ⊢
  exact h.2 _ _ hk
theorem Ints.append {vs us : List Value} {ns ks : List Int} (h : Ints vs ns) (g : Ints us ks) : Ints (vs ++ us) (ns ++ ks) := by
  refine ⟨by simp [h.1, g.1], fun k n hk => ?_⟩
  by_cases q : k < ns.length
  · rw [List.getElem?_append_left q] at hk
    obtain ⟨t, ht⟩ := h.2 k n hk
    exact ⟨t, by rw [List.getElem?_append_left (by rw [h.1]; exact q)]; exact ht⟩
  · rw [List.getElem?_append_right (by (first | lia | omega))] at hk
    obtain ⟨t, ht⟩ := g.2 _ n hk
    exact ⟨t, by rw [List.getElem?_append_right (by rw [h.1]; (first | lia | omega)), h.1]; exact ht⟩

theorem diff_le (a b : List Int) : (diff a b).length ≤ a.length := List.length_filter_le ..
theorem InvD.len {xs ys : List Int} {i j : Nat} {M U : List Int} (h : InvD xs ys i j M U) : M.length ≤ xs.length ∧ U.length ≤ ys.length := by
  have a := congrArg List.length h.mis
  have b := congrArg List.length h.une
  rw [List.length_append] at a b
  have := diff_le xs ys; have := diff_le ys xs
  (first | lia | omega)

section
variable {prog : Program} {w : World} {A : Around} {env : Env} {fs : List Addr} {s₀ s : Shared} {outer : List Env} {x y p q e tb : Addr} {vx vy vp vq : List Value} {xs ys M U : List Int} {m : Str → Option Value} {i j : Nat} {fl ctx : Value} {E : Value → Shared → Prop} {Q : Flow → Shared → Prop}

/-- the except clause -/
theorem sld_handler (C : CtxS A env fs s₀ outer x y vx vy xs ys) (N : NmS m x y p q i j) (D : InvD xs ys i j M U) (he : xs.length ≤ i ∨ ys.length ≤ j) (ip : Ints vp M) (iq : Ints vq U)
    (S : St fs s₀ env.locals m ((tb, tbK fl) :: (e, excK (.ref tb) ctx) :: [(q, .list vq), (p, .list vp)]) s)
    (k : ∀ m' vp' vq' s', NmS m' x y p q i j → Ints vp' (diff xs ys) → Ints vq' (diff ys xs) → St fs s₀ env.locals m' [(q, .list vq'), (p, .list vp')] s' → Q .brk s') :
    wpAny (model prog w) A (handleBy (.ref e) env hdlS) Q E s := by
  obtain ⟨c, L, a, rfl⟩ := C.isEnv
  obtain ⟨hl1, hl2⟩ := D.len
  obtain ⟨hf1, hf2⟩ := D.fin he
  refine wpAny_handleBy_builtin (X := "IndexError") (T := "IndexError") (b := true) F.isExc_IndexError F.notTuple_IndexError (by rw [isSubtype_type]; kernel_rfl) ?_
  refine (ev_b (S.upto.glb C.G) (v := .type "IndexError") rfl) s _ _ rfl fun tk => ⟨rfl, ?_, ?_⟩
  · obtain ⟨oe, hoe, hc, _⟩ := S.led _ (.tail _ (.head _))
    exact ⟨oe, hoe, hc⟩
  rw [if_pos rfl]
  refine x_flight (S.tok tk) fun s₁ S => ?_
  obtain ⟨ti, hi⟩ := N.i
  obtain ⟨tj, hj⟩ := N.j
  have S := S.sub (O' := [(q, .list vq), (p, .list vp)]) (by simp)
  refine wpAny_execs_cons (wpAny_Expr_any (w_meth (ev_local S.ns N.mi) (S.get (.tail _ (.head _))) F.slot_list_extend F.type_list_extend fun tk => ?_))
  refine w_from (S.tok tk) (ev_local S.ns N.ex) (ev_local S.ns (by exact hi)).toI (S.upto.list C.hx).isList (by rw [C.ix.1]; have := C.lx; (first | lia | omega)) fun D₁ s₂ S₂ => ?_
  refine c_extend 2 S₂ rfl (S₂.get (.head _)).isList (by rw [ip.1, List.length_drop, C.ix.1]; have := C.lx; (first | lia | omega)) fun s₃ S₃ => ?_
  have S₃ := S₃.sub (O' := [(q, .list vq), (p, .list (vp ++ vx.drop i))]) (by simp)
  refine wpAny_execs_cons (wpAny_Expr_any (w_meth (ev_local S₃.ns N.un) (S₃.get (.head _)) F.slot_list_extend F.type_list_extend fun tk => ?_))
  refine w_from (S₃.tok tk) (ev_local S₃.ns N.ac) (ev_local S₃.ns (by exact hj)).toI (S₃.upto.list C.hy).isList (by rw [C.iy.1]; have := C.ly; (first | lia | omega)) fun D₂ s₄ S₄ => ?_
  refine c_extend 1 S₄ rfl (S₄.get (.head _)).isList (by rw [iq.1, List.length_drop, C.iy.1]; have := C.ly; (first | lia | omega)) fun s₅ S₅ => ?_
  have S₅ := S₅.sub (O' := [(q, .list (vq ++ vy.drop j)), (p, .list (vp ++ vx.drop i))]) (by simp)
  refine wpAny_execs_cons (wpAny_Break ?_)
  exact k _ _ _ _ N (hf1 ▸ ip.append (C.ix.drop i)) (hf2 ▸ iq.append (C.iy.drop j)) S₅
end
end Mine
end

section
set_option maxRecDepth 100000
namespace Mine
open PySem PyProof.Rows

/-- a state between two turns -/
def LpS (env : Env) (fs : List Addr) (s₀ : Shared) (x y p q : Addr) (xs ys : List Int) (i j : Nat) (O : List (Addr × Ky)) (s : Shared) : Prop :=
  ∃ m M U vp vq, i ≤ xs.length ∧ j ≤ ys.length ∧ NmS m x y p q i j ∧ InvD xs ys i j M U ∧ Ints vp M ∧ Ints vq U ∧ St fs s₀ env.locals m (O ++ [(q, .list vq), (p, .list vp)]) s
theorem LpS.mk {env : Env} {fs : List Addr} {s₀ s : Shared} {x y p q : Addr} {xs ys M U : List Int} {i j : Nat} {O : List (Addr × Ky)} {m : Str → Option Value} {vp vq : List Value} (S : St fs s₀ env.locals m (O ++ [(q, .list vq), (p, .list vp)]) s)
    (hi : i ≤ xs.length) (hj : j ≤ ys.length) (N : NmS m x y p q i j) (D : InvD xs ys i j M U) (ip : Ints vp M) (iq : Ints vq U) : LpS env fs s₀ x y p q xs ys i j O s := ⟨m, M, U, vp, vq, hi, hj, N, D, ip, iq, S⟩
/-- an IndexError that the clause takes -/
def ArrS (env : Env) (fs : List Addr) (s₀ : Shared) (x y p q : Addr) (xs ys : List Int) (e : Value) (s : Shared) : Prop :=
  ∃ e' i j, e = .ref e' ∧ (xs.length ≤ i ∨ ys.length ≤ j) ∧ (LpS env fs s₀ x y p q xs ys i j [(e', excK .none .none)] s ∨ ∃ tb ctx, LpS env fs s₀ x y p q xs ys i j [(tb, tbK (rawInt env.locals)), (e', excK (.ref tb) ctx)] s)
def NxtS (env : Env) (fs : List Addr) (s₀ : Shared) (x y p q : Addr) (xs ys : List Int) (i j : Nat) (f : Flow) (s : Shared) : Prop :=
  f = .next ∧ ∃ i' j', i + j < i' + j' ∧ LpS env fs s₀ x y p q xs ys i' j' [] s

theorem EvT.to {prog : Program} {w : World} {A : Around} {env : Env} {h : Heap} {e : Expr} {b b' : Bool} (x : EvT prog w A env h e b) (q : b = b') : EvT prog w A env h e b' := q ▸ x

section
variable {prog : Program} {w : World} {A : Around} {env : Env} {fs : List Addr} {s₀ s : Shared} {outer : List Env} {x y p q : Addr} {vx vy vp vq : List Value} {xs ys M U : List Int} {m : Str → Option Value} {i j : Nat}

theorem sld_body (C : CtxS A env fs s₀ outer x y vx vy xs ys) (hi : i ≤ xs.length) (hj : j ≤ ys.length) (N : NmS m x y p q i j) (D : InvD xs ys i j M U) (ip : Ints vp M) (iq : Ints vq U) (S : St fs s₀ env.locals m [(q, .list vq), (p, .list vp)] s) :
    wpAny (model prog w) A (execs tbodyS env) (NxtS env fs s₀ x y p q xs ys i j) (ArrS env fs s₀ x y p q xs ys) s := by
  obtain ⟨hl1, hl2⟩ := D.len
  have lx := C.lx
  have ly := C.ly
  have sx : vx.toArray.size = xs.length := by rw [List.size_toArray, C.ix.1]
  have sy : vy.toArray.size = ys.length := by rw [List.size_toArray, C.iy.1]
  obtain ⟨c, L, a, rfl⟩ := C.isEnv
  obtain ⟨ti, hti⟩ := N.i
  obtain ⟨tj, htj⟩ := N.j
  by_cases hix : i < xs.length
  · obtain ⟨te, hte⟩ := C.ix.get hix
    refine wpAny_execs_cons (x_assignV S (ev_item (ev_local S.ns N.ex) (ev_local S.ns (by exact hti)).toI (S.upto.list C.hx).isList (by (first | lia | omega)) (by (first | lia | omega)) (by simpa using hte)) fun s₁ S₁ => ?_)
    by_cases hjy : j < ys.length
    · obtain ⟨ta, hta⟩ := C.iy.get hjy
      refine wpAny_execs_cons (x_assignV S₁ (ev_item (ev_local S₁.ns N.ac) (ev_local S₁.ns (by exact htj)).toI (S₁.upto.list C.hy).isList (by (first | lia | omega)) (by (first | lia | omega)) (by simpa using hta)) fun s₂ S₂ => ?_)
      refine wpAny_execs_cons (x_if S₂ (et_lt (ev_local S₂.ns rfl).toI (ev_local S₂.ns rfl).toI) fun s₃ S₃ => ?_)
      by_cases hlt : xs[i] < ys[j]
      · -- the one is in expected alone
        rw [decide_eq_true hlt, if_pos rfl]
        refine wpAny_execs_cons (x_append 1 S₃ (ev_local S₃.ns (by exact N.mi)) (ev_local S₃.ns rfl) rfl (by rw [ip.1]; (first | lia | omega)) fun s₄ S₄ => ?_)
        refine wpAny_execs_cons (x_inc S₄ (by exact hti) fun t s₅ S₅ => ?_)
        have D' := D.lt C.incy hix hjy hlt
        by_cases hi' : i + 1 < xs.length
        · obtain ⟨t', ht'⟩ := C.ix.get hi'
          have hne : (xs[i + 1] == xs[i]) = false := by have := C.incx.next hi'; simp; (first | lia | omega)
          refine wpAny_execs_cons (x_whileNo S₅ ((et_eq (ev_item (v := .int xs[i + 1] t') (ev_local S₅.ns (by exact N.ex)) (ev_local S₅.ns rfl).toI (S₅.upto.list C.hx).isList (by (first | lia | omega)) (by (first | lia | omega)) (by simpa using ht')).toI (ev_local S₅.ns rfl).toI).to hne) fun s₆ S₆ => ?_)
          exact wpAny_execs_nil (wpAny_execs_nil ⟨rfl, i + 1, j, by (first | lia | omega), LpS.mk S₆ (by (first | lia | omega)) hj ⟨N.ex, N.ac, N.mi, N.un, ⟨t, rfl⟩, ⟨tj, htj⟩⟩ D' (ip.snoc _ _) iq⟩)
        · refine wpAny_execs_cons (x_whileRaise S₅ C.hfr C.hff C.hfs rfl rfl (ctx := .none) (fun Q' E' hE => ?_) fun e tb s₆ S₆ => ?_)
          · exact wpAny_isTrue_Compare1 (w_itemOut S₅ C.hh (ev_local S₅.ns (by exact N.ex)) (ev_local S₅.ns rfl).toI (S₅.upto.list C.hx).isList (by (first | lia | omega)) (by (first | lia | omega)) hE)
          · exact ⟨e, i + 1, j, rfl, .inl (by (first | lia | omega)), .inr ⟨tb, .none, LpS.mk S₆ (by (first | lia | omega)) hj ⟨N.ex, N.ac, N.mi, N.un, ⟨t, rfl⟩, ⟨tj, htj⟩⟩ D' (ip.snoc _ _) iq⟩⟩
      · rw [decide_eq_false hlt, if_neg (by decide)]
        refine wpAny_execs_cons (x_if S₃ (et_gt (ev_local S₃.ns rfl).toI (ev_local S₃.ns rfl).toI) fun s₃' S₃ => ?_)
        by_cases hgt : xs[i] > ys[j]
        · -- the one is in actual alone
          rw [decide_eq_true hgt, if_pos rfl]
          refine wpAny_execs_cons (x_append 0 S₃ (ev_local S₃.ns (by exact N.un)) (ev_local S₃.ns rfl) rfl (by rw [iq.1]; (first | lia | omega)) fun s₄ S₄ => ?_)
          refine wpAny_execs_cons (x_inc S₄ (by exact htj) fun t s₅ S₅ => ?_)
          have D' := D.gt C.incx hix hjy hgt
          by_cases hj' : j + 1 < ys.length
          · obtain ⟨t', ht'⟩ := C.iy.get hj'
            have hne : (ys[j + 1] == ys[j]) = false := by have := C.incy.next hj'; simp; (first | lia | omega)
            refine wpAny_execs_cons (x_whileNo S₅ ((et_eq (ev_item (v := .int ys[j + 1] t') (ev_local S₅.ns (by exact N.ac)) (ev_local S₅.ns rfl).toI (S₅.upto.list C.hy).isList (by (first | lia | omega)) (by (first | lia | omega)) (by simpa using ht')).toI (ev_local S₅.ns rfl).toI).to hne) fun s₆ S₆ => ?_)
            exact wpAny_execs_nil (wpAny_execs_nil (wpAny_execs_nil ⟨rfl, i, j + 1, by (first | lia | omega), LpS.mk S₆ hi (by (first | lia | omega)) ⟨N.ex, N.ac, N.mi, N.un, ⟨ti, hti⟩, ⟨t, rfl⟩⟩ D' ip (iq.snoc _ _)⟩))
          · refine wpAny_execs_cons (x_whileRaise S₅ C.hfr C.hff C.hfs rfl rfl (ctx := .none) (fun Q' E' hE => ?_) fun e tb s₆ S₆ => ?_)
            · exact wpAny_isTrue_Compare1 (w_itemOut S₅ C.hh (ev_local S₅.ns (by exact N.ac)) (ev_local S₅.ns rfl).toI (S₅.upto.list C.hy).isList (by (first | lia | omega)) (by (first | lia | omega)) hE)
            · exact ⟨e, i, j + 1, rfl, .inr (by (first | lia | omega)), .inr ⟨tb, .none, LpS.mk S₆ hi (by (first | lia | omega)) ⟨N.ex, N.ac, N.mi, N.un, ⟨ti, hti⟩, ⟨t, rfl⟩⟩ D' ip (iq.snoc _ _)⟩⟩
        · -- in both
          rw [decide_eq_false hgt, if_neg (by decide)]
          have heq : xs[i] = ys[j] := by (first | lia | omega)
          have D' := D.eq C.incx C.incy hix hjy heq
          refine wpAny_execs_cons (x_inc S₃ (by exact hti) fun t s₄ S₄ => ?_)
          by_cases hi' : i + 1 < xs.length
          · obtain ⟨t', ht'⟩ := C.ix.get hi'
            have hne : (xs[i + 1] == xs[i]) = false := by have := C.incx.next hi'; simp; (first | lia | omega)
            refine wpAny_execs_cons (wpAny_Try_finally ?_)
            refine wpAny_execs_cons (x_whileNo S₄ ((et_eq (ev_item (v := .int xs[i + 1] t') (ev_local S₄.ns (by exact N.ex)) (ev_local S₄.ns rfl).toI (S₄.upto.list C.hx).isList (by (first | lia | omega)) (by (first | lia | omega)) (by simpa using ht')).toI (ev_local S₄.ns rfl).toI).to hne) fun s₅ S₅ => ?_)
            refine wpAny_execs_nil (wpAny_execs_nil ?_)
            refine wpAny_execs_cons (x_inc S₅ (by exact htj) fun t₂ s₆ S₆ => ?_)
            by_cases hj' : j + 1 < ys.length
            · obtain ⟨t₃, ht₃⟩ := C.iy.get hj'
              have hne' : (ys[j + 1] == ys[j]) = false := by have := C.incy.next hj'; simp; (first | lia | omega)
              refine wpAny_execs_cons (x_whileNo S₆ ((et_eq (ev_item (v := .int ys[j + 1] t₃) (ev_local S₆.ns (by exact N.ac)) (ev_local S₆.ns rfl).toI (S₆.upto.list C.hy).isList (by (first | lia | omega)) (by (first | lia | omega)) (by simpa using ht₃)).toI (ev_local S₆.ns rfl).toI).to hne') fun s₇ S₇ => ?_)
              exact wpAny_execs_nil (wpAny_execs_nil (wpAny_execs_nil (wpAny_execs_nil ⟨rfl, i + 1, j + 1, by (first | lia | omega), LpS.mk S₇ (by (first | lia | omega)) (by (first | lia | omega)) ⟨N.ex, N.ac, N.mi, N.un, ⟨t, rfl⟩, ⟨t₂, rfl⟩⟩ D' ip iq⟩)))
            · refine wpAny_execs_cons (x_whileRaise S₆ C.hfr C.hff C.hfs rfl rfl (ctx := .none) (fun Q' E' hE => ?_) fun e tb s₇ S₇ => ?_)
              · exact wpAny_isTrue_Compare1 (w_itemOut S₆ C.hh (ev_local S₆.ns (by exact N.ac)) (ev_local S₆.ns rfl).toI (S₆.upto.list C.hy).isList (by (first | lia | omega)) (by (first | lia | omega)) hE)
              · exact x_noteAgain S₇ rfl (x_cameBack S₇ rfl fun s₈ S₈ => ⟨e, i + 1, j + 1, rfl, .inr (by (first | lia | omega)), .inr ⟨tb, .none, LpS.mk S₈ (by (first | lia | omega)) (by (first | lia | omega)) ⟨N.ex, N.ac, N.mi, N.un, ⟨t, rfl⟩, ⟨t₂, rfl⟩⟩ D' ip iq⟩⟩)
          · refine wpAny_execs_cons (wpAny_Try_finally ?_)
            refine wpAny_execs_cons (x_whileRaise S₄ C.hfr C.hff C.hfs rfl rfl (ctx := .none) (fun Q' E' hE => ?_) fun e tb s₅ S₅ => ?_)
            · exact wpAny_isTrue_Compare1 (w_itemOut S₄ C.hh (ev_local S₄.ns (by exact N.ex)) (ev_local S₄.ns rfl).toI (S₄.upto.list C.hx).isList (by (first | lia | omega)) (by (first | lia | omega)) hE)
            · refine x_noteAgain S₅ rfl ⟨(by intro z; cases z), x_noteAgain S₅ rfl (x_flight S₅ fun s₆ S₆ => ?_)⟩
              refine wpAny_execs_cons (x_inc S₆ (by exact htj) fun t₂ s₇ S₇ => ?_)
              by_cases hj' : j + 1 < ys.length
              · obtain ⟨t₃, ht₃⟩ := C.iy.get hj'
                have hne' : (ys[j + 1] == ys[j]) = false := by have := C.incy.next hj'; simp; (first | lia | omega)
                refine wpAny_execs_cons (x_whileNo S₇ ((et_eq (ev_item (v := .int ys[j + 1] t₃) (ev_local S₇.ns (by exact N.ac)) (ev_local S₇.ns rfl).toI (S₇.upto.list C.hy).isList (by (first | lia | omega)) (by (first | lia | omega)) (by simpa using ht₃)).toI (ev_local S₇.ns rfl).toI).to hne') fun s₈ S₈ => ?_)
                refine wpAny_execs_nil (x_passOn S₈ rfl fun s₉ S₉ => ?_)
                exact ⟨e, i + 1, j + 1, rfl, .inl (by (first | lia | omega)), .inr ⟨tb, .none, LpS.mk S₉ (by (first | lia | omega)) (by (first | lia | omega)) ⟨N.ex, N.ac, N.mi, N.un, ⟨t, rfl⟩, ⟨t₂, rfl⟩⟩ D' ip iq⟩⟩
              · refine wpAny_execs_cons (x_whileRaise (A := A.mark (some (.ref e))) S₇ C.hfr C.hff C.hfs rfl rfl (ctx := .ref e) (fun Q' E' hE => ?_) fun e₂ tb₂ s₈ S₈ => ?_)
                · exact wpAny_isTrue_Compare1 (w_itemOut2 S₇ (tv := .ref tb) (by simp) rfl (ev_local S₇.ns (by exact N.ac)) (ev_local S₇.ns rfl).toI (S₇.upto.list C.hy).isList (by (first | lia | omega)) (by (first | lia | omega)) hE)
                · refine x_noteAgain S₈ rfl (x_cameBack S₈ rfl fun s₉ S₉ => ⟨e₂, i + 1, j + 1, rfl, .inr (by (first | lia | omega)), .inr ⟨tb₂, .ref e, LpS.mk (S₉.sub (by simp)) (by (first | lia | omega)) (by (first | lia | omega)) ⟨N.ex, N.ac, N.mi, N.un, ⟨t, rfl⟩, ⟨t₂, rfl⟩⟩ D' ip iq⟩⟩)
    · refine wpAny_execs_cons (wpAny_Assign_Name (w_itemOut S₁ C.hh (ev_local S₁.ns (by exact N.ac)) (ev_local S₁.ns (by exact htj)).toI (S₁.upto.list C.hy).isList (by (first | lia | omega)) (by (first | lia | omega)) fun e s₂ S₂ => ?_))
      exact ⟨e, i, j, rfl, .inr (by (first | lia | omega)), .inl (LpS.mk S₂ hi hj ⟨N.ex, N.ac, N.mi, N.un, ⟨ti, hti⟩, ⟨tj, htj⟩⟩ D ip iq)⟩
  · refine wpAny_execs_cons (wpAny_Assign_Name (w_itemOut S C.hh (ev_local S.ns (by exact N.ex)) (ev_local S.ns (by exact hti)).toI (S.upto.list C.hx).isList (by (first | lia | omega)) (by (first | lia | omega)) fun e s₂ S₂ => ?_))
    exact ⟨e, i, j, rfl, .inl (by (first | lia | omega)), .inl (LpS.mk S₂ hi hj N D ip iq)⟩
end
end Mine
end

section
set_option maxRecDepth 100000
namespace Mine
open PySem PyProof.Rows

theorem EvV.go {prog : Program} {w : World} {A : Around} {env : Env} {s : Shared} {e : Expr} {v : Value} {Q E : Value → Shared → Prop} (x : EvV prog w A env s.heap e v) (k : ∀ tk, Q v { s with toks := tk }) : wpAny (model prog w) A (eval e env) Q E s := x s Q E rfl k
theorem EvI.go {prog : Program} {w : World} {A : Around} {env : Env} {s : Shared} {e : Expr} {i : Int} {Q E : Value → Shared → Prop} (x : EvI prog w A env s.heap e i) (k : ∀ t tk, Q (.int i t) { s with toks := tk }) : wpAny (model prog w) A (eval e env) Q E s := x s Q E rfl k
/-- the frames around a call: what a raise asks of them -/
structure Frs (A : Around) (h : Heap) (outer : List Env) : Prop where
  hfr : A.frames = some outer
  hff : h.FunFrames {} outer
theorem Frs.old {A : Around} {h : Heap} {outer : List Env} (F : Frs A h outer) : ∀ f ∈ outer.filterMap (·.frame), ∃ o, h.get? f = some o := fun f hf => let ⟨_, o, ho, _⟩ := F.hff.mem hf; ⟨o, ho⟩

/-- sorted_list_difference of two rising lists -/
theorem sld_ok {prog : Program} {w : World} {A : Around} {s : Shared} {E Q : Value → Shared → Prop} {a x y : Addr} {c : Value} {vx vy : List Value} {xs ys : List Int} {outer : List Env}
    (F : FnAt s.heap a (stm 2) c) (hlim : s.heap.NoLimit) (hroom : A.depth < recursionLimit) (hh : A.handled = none) (B : Frs A s.heap outer) (G : Glb s.heap)
    (hx : At s.heap x (.list vx)) (ix : Ints vx xs) (incx : Inc xs) (hy : At s.heap y (.list vy)) (iy : Ints vy ys) (incy : Inc ys) (lx : xs.length ≤ 100) (ly : ys.length ≤ 100)
    (k : ∀ r p q vp vq s', KeepsU (outer.filterMap (·.frame)) s s' → Ints vp (diff xs ys) → Ints vq (diff ys xs) → Made s s' [(r, tupK [.ref p, .ref q]), (q, .list vq), (p, .list vp)] → Q (.ref r) s') :
    wpAny (model prog w) A (call (.ref a) [.ref x, .ref y]) Q E s := by
  refine call_d (outer.filterMap (·.frame)) B.old [("expected", .ref x), ("actual", .ref y)] F hlim hroom (fun s₁ S => ?_) (fun _ => rfl) (by decide) (locs rfl) rfl rfl rfl
  have C : CtxS (A.deeper (envD (stm 2) c s.heap.objs.size a)) (envD (stm 2) c s.heap.objs.size a) (outer.filterMap (·.frame)) s outer x y vx vy xs ys :=
    ⟨⟨_, _, _, rfl⟩, hh, by show A.frames.map _ = _; rw [B.hfr]; rfl, B.hff, rfl, G, hx, ix, incx, hy, iy, incy, lx, ly⟩
  refine wpAny_execs_cons (wpAny_Assign_two (wpAny_Constant_int (wpAny_assign_Name (st_store (S.tok _) fun s₂ S => wpAny_assign_Name (st_store S fun s₃ S => ?_)))))
  refine wpAny_execs_cons (wpAny_Assign_Name (w_list0 S fun p s₄ S => st_store S fun s₅ S => ?_))
  refine wpAny_execs_cons (wpAny_Assign_Name (w_list0 S fun q s₆ S => st_store S fun s₇ S => ?_))
  refine wpAny_execs_cons (wpAny_While (codeAny_whileLoop (fun n s' => ∃ i j, n = 2 * 100 - (i + j) ∧ LpS (envD (stm 2) c s.heap.objs.size a) (outer.filterMap (·.frame)) s x y p q xs ys i j [] s') ?_ (2 * 100 - (0 + 0))
    ⟨0, 0, rfl, LpS.mk (O := []) S (by (first | lia | omega)) (by (first | lia | omega)) ⟨rfl, rfl, rfl, rfl, ⟨_, rfl⟩, ⟨_, rfl⟩⟩ (InvD.start xs ys) .nil .nil⟩))
  rintro n s' ⟨i, j, rfl, m, M, U, vp, vq, hi, hj, N, D, ip, iq, S⟩
  refine wpAny_isTrue_value (wpAny_Constant_bool (wpAny_truthy_bool ?_))
  rw [if_pos rfl]
  refine wpAny_execs_cons (wpAny_Try_except ?_)
  refine wpAny_mono (sld_body C hi hj N D ip iq S) (fun f s₁ h₁ => ?_) fun e s₁ h₁ => ?_
  · obtain ⟨rfl, i', j', hlt, L'⟩ := h₁
    refine wpAny_execs_nil (wpAny_execs_nil ⟨_, ?_, i', j', rfl, L'⟩)
    obtain ⟨_, _, _, _, _, hi', hj', _⟩ := L'
    (first | lia | omega)
  · obtain ⟨e', i', j', rfl, he, h₁⟩ := h₁
    have fin : ∀ (m' : Str → Option Value) (vp' vq' : List Value) (s₂ : Shared), NmS m' x y p q i' j' → Ints vp' (diff xs ys) → Ints vq' (diff ys xs) → St (outer.filterMap (·.frame)) s (envD (stm 2) c s.heap.objs.size a).locals m' [(q, .list vq'), (p, .list vp')] s₂ →
        wpAny (model prog w) (A.deeper (envD (stm 2) c s.heap.objs.size a)) (execs ((bodyOf (stm 2)).drop 4) (envD (stm 2) c s.heap.objs.size a)) (fun f s' => Q (match f with | .ret v => v | _ => .none) s') (fun _ _ => False) s₂ := by
      intro m' vp' vq' s₂ N' ip' iq' S₂
      refine wpAny_execs_cons (wpAny_Return_some (Tuple_ (Calls.spliced_cons ((ev_local S₂.ns N'.mi).go fun tk => Calls.spliced_cons (EvV.go (s := { s₂ with toks := tk }) (ev_local S₂.ns N'.un) fun tk' => Calls.spliced_nil ?_)))))
      exact w_newTuple (S₂.tok _) (by simp) fun r s₃ S₃ => k r p q vp' vq' s₃ S₃.keepsU ip' iq' S₃.made
    rcases h₁ with ⟨m', M', U', vp', vq', hi', hj', N', D', ip', iq', S'⟩ | ⟨tb, ctx, m', M', U', vp', vq', hi', hj', N', D', ip', iq', S'⟩
    · refine x_note S' C.hfr C.hff C.hfs rfl rfl fun tb s₂ S₂ => x_flight S₂ fun s₃ S₃ => ?_
      exact sld_handler C N' D' he ip' iq' S₃ fun m'' vp'' vq'' s₄ N'' ip'' iq'' S₄ => fin m'' vp'' vq'' s₄ N'' ip'' iq'' S₄
    · refine x_noteAgain S' rfl (x_flight S' fun s₃ S₃ => ?_)
      exact sld_handler C N' D' he ip' iq' S₃ fun m'' vp'' vq'' s₄ N'' ip'' iq'' S₄ => fin m'' vp'' vq'' s₄ N'' ip'' iq'' S₄
end Mine
end

section
set_option maxRecDepth 100000
namespace Mine
open PySem PyProof.Rows

/-- a def's data, whatever its closure and defaults -/
def fdC (st : Stmt) (qn : Str) (c pm ct dV doc : Value) (cl : List (Str × Addr)) : FuncData :=
  { name := nameOf st, qualname := qn, params := parsOf st, body := .stmts (bodyOf st), scope := scopeOf st, globals := 3, closure := cl, defaults := dV, kwdefaults := .none, doc := doc, code := c, pyModule := pm, closureTuple := ct, builtins := 0 }
def FnC (h : Heap) (a : Addr) (st : Stmt) (qn : Str) (c dV : Value) (cl : List (Str × Addr)) : Prop := (∃ o pm ct doc, h.get? a = some o ∧ o.data = .func (fdC st qn c pm ct dV doc cl)) ∧ h.CodeRec c qn
theorem UpTo.fnC {h h' : Heap} (k : UpTo h h') {a : Addr} {st : Stmt} {qn : Str} {c dV : Value} {cl : List (Str × Addr)} (x : FnC h a st qn c dV cl) : FnC h' a st qn c dV cl := by
  obtain ⟨⟨o, pm, ct, doc, ho, hd⟩, hc⟩ := x
  obtain ⟨sl, e⟩ := k a o ho
  exact ⟨⟨_, pm, ct, doc, e, hd⟩, k.codeRec hc⟩
theorem FnC.func {h : Heap} {a : Addr} {st : Stmt} {qn : Str} {c dV : Value} {cl : List (Str × Addr)} (x : FnC h a st qn c dV cl) : ∃ o fd, h.get? a = some o ∧ o.data = .func fd := let ⟨⟨o, pm, ct, doc, ho, hd⟩, _⟩ := x; ⟨o, _, ho, hd⟩
theorem FnAt.func {h : Heap} {a : Addr} {st : Stmt} {c : Value} (x : FnAt h a st c) : ∃ o fd, h.get? a = some o ∧ o.data = .func fd := let ⟨⟨o, pm, ho, hd⟩, _⟩ := x; ⟨o, _, ho, hd⟩
def envC (st : Stmt) (qn : Str) (c : Value) (cl : List (Str × Addr)) (L a : Addr) : Env :=
  { scope := scopeOf st, locals := L, globals := 3, cells := cl, qual := qn ++ ".<locals>.", func := some a, code := c, frame := some L, builtins := 0 }

section
variable {prog : Program} {w : World} {A : Around} {s : Shared} {E : Value → Shared → Prop} {Q : Value → Shared → Prop}
theorem call_c (fs : List Addr) (hfs : ∀ f ∈ fs, ∃ o, s.heap.get? f = some o) {st : Stmt} {a : Addr} {qn : Str} {c dV : Value} {cl : List (Str × Addr)} {args : List Value} (binds : List (Str × Value)) (F : FnC s.heap a st qn c dV cl) (hlim : s.heap.NoLimit) (hroom : A.depth < recursionLimit)
    (k : ∀ s₁, St fs s s.heap.objs.size (fun x => binds.reverse.lookup x) [] s₁ →
      wpAny (model prog w) (A.deeper (envC st qn c cl s.heap.objs.size a)) (execs (bodyOf st) (envC st qn c cl s.heap.objs.size a)) (fun f s' => Q (match f with | .ret v => v | _ => .none) s') (fun _ _ => False) s₁)
    (hbind : ∀ pm ct doc, BindsTo s (fdC st qn c pm ct dV doc cl) ⟨args, []⟩ binds) (hcell : ∀ x ∈ (scopeOf st).names, x.2 ≠ .cell) (hloc : ∀ x ∈ binds, (scopeOf st).names.lookup x.1 = some .local)
    (hco : (scopeOf st).isCoroutine = false) (hgen : (scopeOf st).isGenerator = false) (hk : (scopeOf st).kind = .function) : wpAny (model prog w) A (call (.ref a) args) Q E s := by
  obtain ⟨⟨o, pm, ct, doc, ho, hod⟩, hcd⟩ := F
  refine wpAny_call (codeAny_call_def (fd := fdC st qn c pm ct dV doc cl) (body := bodyOf st) (binds := binds) hroom ho hod hlim hcd rfl (hbind pm ct doc) hcell hloc (fun h₀ hns hk' => ?_) hco hgen hk)
  refine wpAny_mono (k { s with heap := h₀, toks := s.toks + binds.length } ⟨⟨_, _, rfl⟩, hns, fun b o q _ => hk' b o q, fun b o q => ⟨o.slots, hk' b o q⟩, fun p hp => (nomatch hp), fun p hp => (nomatch hp), by simp, Heap.get?_none_of_le (Nat.le_refl _), hfs⟩) (fun _ _ q => q) fun _ _ q => q.elim
end

/-- step and compare, the defs within _law_comparison -/
def subStm (k j : Nat) : Stmt := ((bodyOf (stm k))[j]? : Option Stmt).getD (.Pass default)

section
variable {prog : Program} {w : World} {A : Around} {s : Shared} {E : Value → Shared → Prop} {Q : Value → Shared → Prop} {fa la cL : Addr} {fl : List Int} {ld : List (List Int)} {q b : Int} {tq tb : Tok}

theorem step_ok {a : Addr} {qn : Str} {c : Value} (F : FnC s.heap a (subStm 19 0) qn c .none [("leads", cL)]) (hlim : s.heap.NoLimit) (hroom : A.depth < recursionLimit) (hc : s.heap.IsCell cL (some (.ref la)))
    (M : MachAt s.heap fa la fl ld) (K : MachOk fl ld) (hq : 0 ≤ q ∧ q < 3) (hb : b = 0 ∨ b = 1) (k : ∀ t s', Keeps s s' → Q (.int (lead ld q b) t) s') :
    wpAny (model prog w) A (call (.ref a) [.int q tq, .int b tb]) Q E s := by
  refine call_c [] (by simp) [("state", .int q tq), ("bit", .int b tb)] F hlim hroom (fun s₁ S => ?_) (fun _ _ _ => .of_eq rfl) (by decide) (locs rfl) rfl rfl rfl
  refine wpAny_execs_cons (x_retI S (ev_lead (S.upto.mach M) K hq hb (ev_free (c := cL) rfl (S.upto.isCell hc)) (ev_local S.ns rfl).toI (ev_local S.ns rfl).toI) fun t s' S' => k t s' S'.keeps)
end

theorem kind_iter : builtinKind "iter" = none := by decide +kernel
theorem plain_iter : plainId "iter" = true := by decide +kernel
theorem entry_iter : entryFor table "iter" = some Builtin.«iter» := entryFor_of_tree (by kernel_rfl)
theorem args_iter1 (a : Value) : argsOk "iter" ⟨[a], []⟩ := by unfold argsOk; kernel_rfl

section
variable {prog : Program} {w : World} {A : Around} {env : Env} {fs : List Addr} {s₀ s : Shared} {m : Str → Option Value} {O : List (Addr × Ky)} {E : Value → Shared → Prop}

theorem c_iter {l : Addr} {items : Array Value} {Q : Value → Shared → Prop} (S : St fs s₀ env.locals m O s) (hl : s.heap.IsList l items) (k : ∀ I s', St fs s₀ env.locals m ((I, itr l 0) :: O) s' → Q (.ref I) s') : wpAny (model prog w) A (call (.builtin "iter") [.ref l]) Q E s := by
  refine Calls.call_function_entry kind_iter plain_iter entry_iter (args_iter1 _) ?_
  unfold Builtin.«iter»
  refine wpAny_bind (wpAny_of_eq (a := [.ref l]) rfl ?_)
  refine wpAny_bind (wpAny_pyIter_list hl (wpAny_pure ⟨_, rfl, ?_⟩))
  exact k _ _ (S.push (k := itr l 0) ⟨rfl, rfl⟩)

theorem keeps_F {M : Model} {a : Addr} (h : Heap) (X : ∃ o fd, h.get? a = some o ∧ o.data = .func fd) : ∃ k, (k = Keeper.frame ∨ k = Keeper.machine ∨ k = Keeper.boundFrame) ∧ PySem.W.Looks M h (keeperOf (.ref a)) k := by
  obtain ⟨⟨c, d, dt, sl⟩, fd, ho, hd⟩ := X
  obtain rfl : dt = _ := hd
  exact ⟨.frame, .inl rfl, (PySem.W.Looks.ld (part := none) ho).andThen .now⟩
/-- a call of a def by a name -/
theorem w_callF {f : Str} {p pos : Pos} {e : Expr} {rest : List Expr} {a : Addr} {Q : Value → Shared → Prop} (x : EvV prog w A env s.heap (.Name f p) (.ref a))
    (h : ∀ tk, wpAny (model prog w) A (spliced (backTo pos (starEach (e :: rest) env))) (fun vs s₁ => (∃ o fd, s₁.heap.get? a = some o ∧ o.data = .func fd) ∧ wpAny (model prog w) A (call (.ref a) vs) Q E s₁) E { s with toks := tk })
    (he : starEach (e :: rest) env = (false, eval e env) :: starEach rest env := by rfl) (hplain : ((backTo pos ((false, eval e env) :: starEach rest env)).any (·.1) || ([] : List (Option Str × Sem Value)).any (·.1.isNone)) = false := by rfl) : wpAny (model prog w) A (eval (.Call (.Name f p) (e :: rest) [] pos) env) Q E s := by
  refine wpAny_Call_NameR (x.go fun tk => ?_)
  have := h tk
  rw [he] at this ⊢
  exact PySem.W.callWith_of (P := fun h => ∃ o fd, h.get? a = some o ∧ o.data = .func fd) hplain keeps_F (Calls.evalArgs_plain this)
end
end Mine
end

section
set_option maxRecDepth 100000
namespace Mine
open PySem PyProof.Rows

section
variable {prog : Program} {w : World} {A : Around} {env : Env} {fs : List Addr} {s₀ s : Shared} {m : Str → Option Value} {O : List (Addr × Ky)} {E : Value → Shared → Prop}

/-- a for over a list's iterator -/
theorem x_forIt {Q : Flow → Shared → Prop} {target iter : Expr} {body : List Stmt} {pos : Pos} {l I : Addr} {items : List Value} (J : Nat → (Str → Option Value) → List (Addr × Ky) → Prop)
    (hh : A.handled = none) (S : St fs s₀ env.locals m ((I, itr l 0) :: O) s) (x : EvV prog w A env s.heap iter (.ref I)) (h0 : J 0 m O)
    (hl : ∀ (j k : Nat) m' O' s', St fs s₀ env.locals m' ((I, itr l j) :: O') s' → J k m' O' → s'.heap.IsList l items.toArray)
    (turn : ∀ (k : Nat) v m' O' s' (E' : Value → Shared → Prop), items[k]? = some v → J k m' O' → St fs s₀ env.locals m' ((I, itr l (k + 1)) :: O') s' →
      wpAny (model prog w) A (assign target env v) (fun _ s₁ => wpAny (model prog w) A (execs body env) (fun f s₂ => f = .next ∧ ∃ m₂ O₂, St fs s₀ env.locals m₂ ((I, itr l (k + 1)) :: O₂) s₂ ∧ J (k + 1) m₂ O₂) E' s₁) E' s')
    (fin : ∀ m' O' s', St fs s₀ env.locals m' O' s' → J items.length m' O' → Q .next s')
    (hf : ∀ x, foldedSetIterable iter env x = pure x := by intro _; rfl) (ht : ∀ it v, letOwnedTupleGo target it v = pure () := by intro _ _; rfl) :
    wpAny (model prog w) A (exec (.For target iter body [] pos) env) Q E s := by
  have hit₀ : ∀ {s' : Shared} {k : Nat} {m' O'}, St fs s₀ env.locals m' ((I, itr l k) :: O') s' → s'.heap.IsListIter I l k := fun S' => by
    obtain ⟨o, ho, a, b⟩ := S'.led _ (.head _)
    exact ⟨o, ho, a, b⟩
  refine wpAny_For (x s _ _ rfl fun tk => wpAny_pyIter_listiter (hit₀ (S.tok tk)) ?_) hf
  refine codeAny_forLoop_any (fun n s' => ∃ k m' O', n = items.length - k ∧ k ≤ items.length ∧ St fs s₀ env.locals m' ((I, itr l k) :: O') s' ∧ J k m' O') ?_ (items.length - 0) ⟨0, m, O, rfl, Nat.zero_le _, S.tok tk, h0⟩
  rintro n s' ⟨k, m', O', rfl, hk, S', hJ⟩
  have hl' := hl k k m' O' s' S' hJ
  by_cases hlt : k < items.length
  · refine wpAny_pyNext_list_item (hit₀ S') hl' (x := items[k]) (by simp [hlt]) fun h' hit' hs' => ?_
    have S₁ := S'.upd 0 (t := s'.toks) rfl hs' (o' := itr l (k + 1)) (let ⟨o, ho, a, b⟩ := hit'; ⟨o, ho, a, b⟩)
    refine wpAny_of_eq (ht _ _) ?_
    refine wpAny_mono (turn k _ m' O' _ _ (by simp [hlt]) hJ S₁) (fun _ s₁ h₁ => wpAny_mono h₁ (fun f s₂ h₂ => ?_) fun _ _ e => e) fun _ _ e => e
    obtain ⟨rfl, m₂, O₂, S₂, J₂⟩ := h₂
    exact ⟨_, by (first | lia | omega), k + 1, m₂, O₂, rfl, hlt, S₂, J₂⟩
  · have e : k = items.length := by (first | lia | omega)
    subst e
    refine wpAny_pyNext_list_end hh (hit₀ S') hl' (by simp) fun h' hx => ?_
    exact wpAny_execs_nil (fin _ _ _ (S'.ext (t := s'.toks) fun b o q z => hx b o q z) hJ)
end

/-- where the machine stands behind these bits -/
def stateOf (ld : List (List Int)) (row : List Int) : Int := row.foldl (lead ld) 0
theorem stateOf_lt {fl : List Int} {ld : List (List Int)} (K : MachOk fl ld) : ∀ (row : List Int) (q : Int), Bits row → (0 ≤ q ∧ q < 3) → 0 ≤ row.foldl (lead ld) q ∧ row.foldl (lead ld) q < 3
  | [], _, _, h => h
  | b :: r, q, hb, h => stateOf_lt K r _ (fun x hx => hb x (.tail _ hx)) (K.lead_lt h (hb b (.head _)))

theorem reduce_ok {prog : Program} {w : World} {A : Around} {s : Shared} {E Q : Value → Shared → Prop} {a f l fa la cL : Addr} {c cf : Value} {qn : Str} {vs : List Value} {row fl : List Int} {ld : List (List Int)} {tz : Tok}
    (F : FnC s.heap a (stm 14) "reduce" c (.ref 67) []) (hT : ∃ o n, s.heap.get? 67 = some o ∧ o.data = .seq #[.ref 66] n) (G : Glb s.heap) (hlim : s.heap.NoLimit) (hroom : A.depth + 1 < recursionLimit) (hh : A.handled = none)
    (Fs : FnC s.heap f (subStm 19 0) qn cf .none [("leads", cL)]) (hc : s.heap.IsCell cL (some (.ref la))) (M : MachAt s.heap fa la fl ld) (K : MachOk fl ld)
    (hl : At s.heap l (.list vs)) (hv : Ints vs row) (hb : Bits row) (k : ∀ t s', Keeps s s' → Q (.int (stateOf ld row) t) s') :
    wpAny (model prog w) A (call (.ref a) [.ref f, .ref l, .int 0 tz]) Q E s := by
  obtain ⟨oT, nT, hT, hTd⟩ := hT
  refine call_c [] (by simp) [("function", .ref f), ("sequence", .ref l), ("initial", .int 0 tz)] F hlim (by (first | lia | omega)) (fun s₁ S => ?_) (fun _ _ _ => .of_defaults rfl hT hTd rfl rfl) (by decide) (locs rfl) rfl rfl rfl
  refine wpAny_execs_cons (wpAny_Assign_Name (wpAny_Call_NameR ((ev_b (S.upto.glb G) (v := .builtin "iter") rfl).go fun tk => callWith_builtin1 (Calls.spliced_cons (EvV.go (s := { s₁ with toks := tk }) (ev_local S.ns rfl) fun tk' => Calls.spliced_nil ?_)))))
  refine c_iter (S.tok tk') (S.upto.list hl).isList fun I s₂ S => st_store S fun s₃ S => ?_
  refine wpAny_execs_cons (wpAny_If (wpAny_isTrue_Compare1 ((ev_local S.ns rfl).go fun tk => EvV.go (s := { s₃ with toks := tk }) (ev_g (S.upto.glb G) (v := .ref 66) rfl) fun tk' => wpAny_is_other rfl (by simp) (wpAny_truthy_bool ?_))))
  rw [if_neg (by decide)]
  refine wpAny_execs_cons (x_assignV (S.tok _) (ev_local S.ns rfl) fun s₄ S => wpAny_execs_nil ?_)
  refine wpAny_execs_cons (x_forIt (l := l) (I := I) (items := vs) (fun k m O => O = [] ∧ (∃ t, m "value" = some (.int ((row.take k).foldl (lead ld) 0) t)) ∧ m "function" = some (.ref f)) hh S (ev_local S.ns rfl) ⟨rfl, ⟨_, rfl⟩, rfl⟩ (fun j k m O s' S' _ => (S'.upto.list hl).isList) ?_ ?_)
  · rintro k v m O s' E' hk ⟨rfl, ⟨tn, hn⟩, hf⟩ S'
    have hkr : k < row.length := by have := (List.getElem?_eq_some_iff.mp hk).1; rw [hv.1] at this; exact this
    obtain ⟨tb, hvb⟩ := hv.2 k row[k] (by simp [hkr])
    rw [hk] at hvb
    cases hvb
    have hbk := hb _ (List.getElem_mem hkr)
    have hq := stateOf_lt K (row.take k) 0 (fun x hx => hb x (List.mem_of_mem_take hx)) (by decide)
    have hfold : (row.take (k + 1)).foldl (lead ld) 0 = lead ld ((row.take k).foldl (lead ld) 0) row[k] := by
      rw [List.take_succ_eq_append_getElem hkr, List.foldl_append]; rfl
    refine wpAny_assign_Name (st_store S' fun s₄ S₄ => ?_)
    refine wpAny_execs_cons (wpAny_Assign_Name (w_callF (ev_local S₄.ns (by exact hf)) fun tk => Calls.spliced_cons (EvV.go (s := { s₄ with toks := tk }) (ev_local S₄.ns (by exact hn)) fun tk' => Calls.spliced_cons (EvV.go (s := { s₄ with toks := tk' }) (ev_local S₄.ns rfl) fun tk'' => Calls.spliced_nil ⟨(S₄.upto.fnC Fs).func, ?_⟩))))
    refine step_ok (s := { s₄ with toks := tk'' }) (S₄.upto.fnC Fs) (S₄.upto.noLimit hlim) (by show A.depth + 1 < _; exact hroom) (S₄.upto.isCell hc) (S₄.upto.mach M) K hq hbk fun t s₅ k₅ => ?_
    refine st_store ((S₄.tok tk'').kept k₅) fun s₆ S₆ => wpAny_execs_nil ⟨rfl, _, _, S₆, rfl, ⟨t, ?_⟩, hf⟩
    rw [hfold]; rfl
  · rintro m O s' S' ⟨rfl, ⟨t, hn⟩, -⟩
    refine wpAny_execs_cons (x_retV S' (ev_local S'.ns hn) fun s'' S'' => ?_)
    rw [hv.1, List.take_length]
    exact k _ _ S''.keeps
end Mine
end

section
set_option maxRecDepth 100000
namespace Mine
open PySem PyProof.Rows

theorem Ints.are : ∀ {vs : List Value} {ns : List Int}, Ints vs ns → IntsAre vs ns
  | [], [], _ => .nil
  | [], _ :: _, h => by have := h.1; simp at this
  | _ :: _, [], h => by have := h.1; simp at this
  | v :: vs, n :: ns, h => by
    obtain ⟨t, ht⟩ := h.2 0 n rfl
    simp at ht
    subst ht
    exact .cons n t (Ints.are ⟨by simpa using h.1, fun k n' hk => by simpa using h.2 (k + 1) n' (by simpa using hk)⟩)
theorem Ints.of_are : ∀ {vs : List Value} {ns : List Int}, IntsAre vs ns → Ints vs ns
  | _, _, .nil => ⟨rfl, fun k n h => by simp at h⟩
  | _, _, .cons n t r => by
    have := Ints.of_are r
    refine ⟨by simp [this.1], fun k m h => ?_⟩
    cases k with
    | zero => simp at h; subst h; exact ⟨t, rfl⟩
    | succ k => simpa using this.2 k m (by simpa using h)
theorem Ints.take {vs : List Value} {ns : List Int} (h : Ints vs ns) (k : Nat) : Ints (vs.take k) (ns.take k) := by
  refine ⟨by simp [h.1], fun j n hj => ?_⟩
  rw [List.getElem?_take] at hj ⊢
  split at hj
  · rename_i hlt; rw [if_pos hlt]; exact h.2 j n hj
  · cases hj
theorem Ints.one (n : Int) (t : Tok) : Ints [.int n t] [n] := .of_are (.cons n t .nil)

section
variable {prog : Program} {w : World} {A : Around} {env : Env} {fs : List Addr} {s₀ s : Shared} {m : Str → Option Value} {O : List (Addr × Ky)} {E : Value → Shared → Prop}

theorem c_concat {l b : Addr} {vs ws : List Value} {Q : Value → Shared → Prop} (S : St fs s₀ env.locals m O s) (hl : s.heap.IsList l vs.toArray) (hb : s.heap.IsList b ws.toArray) (hz : vs.length + ws.length ≤ 1000)
    (k : ∀ D s', St fs s₀ env.locals m ((D, .list (vs ++ ws)) :: O) s' → Q (.ref D) s') : wpAny (model prog w) A (binaryOp .Add (.ref l) (.ref b)) Q E s := by
  obtain ⟨⟨cls, dd, data, sl⟩, ho, hc, n, hd⟩ := id hl
  obtain ⟨⟨cls2, dd2, data2, sl2⟩, ho2, hc2, n2, hd2⟩ := id hb
  simp only at hc hd hc2 hd2
  subst hc hd hc2 hd2
  refine concat_meets ⟨_, ho, rfl⟩ ⟨_, ho2, rfl⟩ noFill_list_add seq_list_add PySem.F.slot_list_add PySem.F.entry_list_add (PySem.F.args_list_add_2 _ _) (list_addW l b vs.toArray ws.toArray n n2 dd dd2 sl sl2 (by rw [List.size_toArray, List.size_toArray, sizeLine_eq]; (first | lia | omega))) ⟨ho, ho2, ?_⟩
  exact k _ _ (S.push (k := .list (vs ++ ws)) ⟨rfl, rfl, 0, by simp⟩)

theorem c_min {l : Addr} {vs : List Value} {ns : List Int} {Q : Value → Shared → Prop} (hh : A.handled = none) (hl : s.heap.IsList l vs.toArray) (hi : Ints vs ns) (hne : 0 < ns.length)
    (k : ∀ M t s', Keeps s s' → M ∈ ns → (∀ a ∈ ns, M ≤ a) → Q (.int M t) s') : wpAny (model prog w) A (call (.builtin "min") [.ref l]) Q E s := by
  have ha := hi.are
  obtain ⟨xs, hx⟩ := ha.allInts.items
  have hn := ha.numsOf
  rw [show vs = vs.toArray.toList from rfl, hx, nums_intItems] at hn
  rw [hx] at hl
  have hsz : 0 < xs.size := by rw [← Array.length_toList, ← List.length_map (f := fun p : Int × Tok => p.1), hn]; exact hne
  refine min_intList hh hl hsz fun v h' tk hv hk => ?_
  obtain ⟨t, rfl⟩ := intItems_at hv
  obtain ⟨h1, h2⟩ := argBest_lt (numAt xs) (xs.size - 1)
  subst hn
  refine k _ t _ ⟨h', tk, rfl, hk⟩ ?_ fun a ha => ?_
  · rw [numAt_eq]; exact getD_mem (by rw [List.length_map, Array.length_toList]; (first | lia | omega))
  · obtain ⟨j, hj, rfl⟩ := mem_getD ha
    rw [List.length_map, Array.length_toList] at hj
    rw [← numAt_eq]; exact h2 j (by (first | lia | omega))

/-- two names are set from a tuple -/
theorem x_unpack2 {n₁ n₂ : Str} {p₁ p₂ p₃ : Pos} {k₀} {t : Addr} {v₁ v₂ : Value} {Q : Unit → Shared → Prop} (hh : A.handled = none) (S : St fs s₀ env.locals m O s) (ht : s.heap.IsTuple t #[v₁, v₂])
    (k : ∀ s', St fs s₀ env.locals (fun y => if y = n₂ then some v₂ else if y = n₁ then some v₁ else m y) O s' → Q () s')
    (hk : env.scope.kind = .function := by rfl) (h₁ : env.kindOf n₁ = some .local := by rfl) (h₂ : env.kindOf n₂ = some .local := by rfl) :
    wpAny (model prog w) A (assign (.Tuple [.Name n₁ p₁, .Name n₂ p₂] k₀ p₃) env (.ref t)) Q E s := by
  refine wpAny_assign_Tuple hh ht rfl rfl fun h' hx => ?_
  have S' : St fs s₀ env.locals m O { s with heap := h' } := S.kept ⟨h', s.toks, rfl, fun b o q => hx b o (Nat.ne_of_lt (Heap.lt_size q)) q⟩
  show wpAny _ _ (assignInOrder [assign (.Name n₁ p₁) env, assign (.Name n₂ p₂) env] [v₁, v₂]) _ _ _
  refine wpAny_bind (wpAny_holding (wpAny_assign_Name (st_store S' (fun s₁ S₁ => ?_) hk h₁)))
  refine wpAny_bind (wpAny_holding (wpAny_assign_Name (st_store S₁ (fun s₂ S₂ => ?_) hk h₂)))
  exact wpAny_pure (k s₂ S₂)
end

/-- what of the text stands in the heap -/
structure Txt (h : Heap) : Prop where
  glb : Glb h
  lim : h.NoLimit
  f2 : FnAt h 28 (stm 2) (.ref 27)
  f3 : FnAt h 35 (stm 3) (.ref 34)
  f5 : FnAt h 42 (stm 5) (.ref 41)
  f7 : FnC h 51 (stm 7) "b2a_hex" (.ref 50) (.ref 44) []
  d7 : ∃ o n t, h.get? 44 = some o ∧ o.data = .seq #[.ref 43, .int 1 t] n
  f10 : FnAt h 58 (stm 10) (.ref 57)
  f12 : FnAt h 65 (stm 12) (.ref 64)
  f14 : FnC h 74 (stm 14) "reduce" (.ref 73) (.ref 67) []
  d14 : ∃ o n, h.get? 67 = some o ∧ o.data = .seq #[.ref 66] n
  f16 : FnAt h 79 (stm 16) (.ref 78)
  f17 : FnAt h 84 (stm 17) (.ref 83)
  f18 : FnAt h 91 (stm 18) (.ref 90)
  f19 : FnAt h 98 (stm 19) (.ref 97)
  f20 : FnAt h 103 (stm 20) (.ref 102)
  f21 : FnAt h 108 (stm 21) (.ref 107)
  f22 : FnAt h 115 (stm 22) (.ref 114)
  f23 : FnAt h 120 (stm 23) (.ref 119)
theorem UpTo.txt {h h' : Heap} (k : UpTo h h') (x : Txt h) : Txt h' := by
  obtain ⟨a, b, f2, f3, f5, f7, ⟨o7, n7, t7, d7, e7⟩, f10, f12, f14, ⟨o14, n14, d14, e14⟩, f16, f17, f18, f19, f20, f21, f22, f23⟩ := x
  obtain ⟨_, d7⟩ := k _ _ d7
  obtain ⟨_, d14⟩ := k _ _ d14
  exact ⟨k.glb a, k.noLimit b, k.fn f2, k.fn f3, k.fn f5, k.fnC f7, ⟨_, n7, t7, d7, e7⟩, k.fn f10, k.fn f12, k.fnC f14, ⟨_, n14, d14, e14⟩, k.fn f16, k.fn f17, k.fn f18, k.fn f19, k.fn f20, k.fn f21, k.fn f22, k.fn f23⟩

/-- a thing: its places, its bits, its number -/
def ThingAt (h : Heap) (a : Addr) (xs bits : List Int) (n : Int) : Prop := ∃ pa ba vp vb t, At h a (.list [.ref pa, .ref ba, .int n t]) ∧ At h pa (.list vp) ∧ Ints vp xs ∧ At h ba (.list vb) ∧ Ints vb bits
theorem UpTo.thing {h h' : Heap} (k : UpTo h h') {a : Addr} {xs bits : List Int} {n : Int} (x : ThingAt h a xs bits n) : ThingAt h' a xs bits n :=
  let ⟨pa, ba, vp, vb, t, p, q, r, u, v⟩ := x; ⟨pa, ba, vp, vb, t, k.list p, k.list q, r, k.list u, v⟩
/-- the comparison stands there -/
def CmpAt (h : Heap) (a fa la : Addr) : Prop := ∃ qn c cS cF cL st qs cs, FnC h a (subStm 19 1) qn c .none [("step", cS), ("flips", cF)] ∧ h.IsCell cS (some (.ref st)) ∧ h.IsCell cF (some (.ref fa)) ∧ FnC h st (subStm 19 0) qs cs .none [("leads", cL)] ∧ h.IsCell cL (some (.ref la))
theorem UpTo.cmp {h h' : Heap} (k : UpTo h h') {a fa la : Addr} (x : CmpAt h a fa la) : CmpAt h' a fa la :=
  let ⟨qn, c, cS, cF, cL, st, qs, cs, p, q, r, u, v⟩ := x; ⟨qn, c, cS, cF, cL, st, qs, cs, k.fnC p, k.isCell q, k.isCell r, k.fnC u, k.isCell v⟩

/-- what compare tells -/
def heads (xs ys : List Int) : List Int := (diff xs ys).take 1 ++ (diff ys xs).take 1
def cmpOf (fl : List Int) (ld : List (List Int)) (xs ys bits : List Int) : Int :=
  if heads xs ys = [] then 0 else
    let M := (heads xs ys).min?.getD 0
    let f := flip fl (stateOf ld (bits.take M.toNat))
    if (diff xs ys).take 1 = [M] then (M + 1) * (1 - 2 * f) else (M + 1) * (2 * f - 1)
end Mine
end

section
set_option maxRecDepth 100000
namespace Mine
open PySem PyProof.Rows

theorem Frs.deeper {A : Around} {s₀ s : Shared} {env : Env} {fs : List Addr} {m : Str → Option Value} {O : List (Addr × Ky)} {outer : List Env} (B : Frs A s₀.heap outer) (S : St fs s₀ env.locals m O s) (hf : env.frame = some env.locals) (hk : env.scope.kind = .function) :
    Frs (A.deeper env) s.heap (env :: outer) := ⟨by show A.frames.map _ = _; rw [B.hfr]; rfl, funFrames_of S B.hff hf hk⟩

theorem IntMulOk.small {a b : Int} (h : b.natAbs < 1000) : IntMulOk a b := by
  refine IntMulOk.of_right (intBits_le_64 ?_ ?_) <;> (first | lia | omega)

section
variable {prog : Program} {w : World} {A : Around} {env : Env} {fs : List Addr} {s₀ s : Shared} {m : Str → Option Value} {O : List (Addr × Ky)} {E : Value → Shared → Prop}
/-- e[:b], the list behind no name -/
theorem w_uptoE {value upper : Expr} {p pos : Pos} {l : Addr} {items : List Value} {b : Nat} {Q : Value → Shared → Prop} (S : St fs s₀ env.locals m O s) (x : EvV prog w A env s.heap value (.ref l)) (y : EvI prog w A env s.heap upper (b : Int))
    (hl : s.heap.IsList l items.toArray) (hz : items.length ≤ 1000) (k : ∀ D s', St fs s₀ env.locals m ((D, .list (items.take b)) :: O) s' → Q (.ref D) s') :
    wpAny (model prog w) A (eval (.Subscript value (.Slice none (some upper) none p) pos) env) Q E s := by
  rw [eval_Subscript]
  refine wpAny_bind (x s _ _ rfl fun tk => wpAny_bind (wpAny_holding (wpAny_Slice ?_)))
  rw [evalPart_none, evalPart_some]
  refine wpAny_pure (y { s with toks := tk } _ _ rfl fun t tk' => wpAny_pure ?_)
  refine wpAny_bind (wpAny_standAt ?_)
  have hl' := hl.push { cls := .type "slice", data := .fields #[.none, .int (b : Int) t, .none] }
  have fin : wpAny (model prog w) A (operate [.ref s.heap.objs.size, .ref l] (getItem (.ref l) (.ref s.heap.objs.size))) (fun r s₃ => wpAny (model prog w) A (letTemporaryGo value (.ref l) r >>= fun _ => pure r) Q E s₃) E
      { s with toks := tk', heap := s.heap.push { cls := .type "slice", data := .fields #[.none, .int (b : Int) t, .none] } } := by
    refine wpAny_operating (wpAny_getItem_list_slice hl' (Heap.IsSliceOf.new ..) .none (.int _ _) .none (by simp) (wpAny_bind (wpAny_letTemporaryGo (wpAny_pure ?_))) (by rw [List.size_toArray, sizeLine_eq]; (first | lia | omega)))
    have S₁ := ((S.tok tk').push (o := { cls := .type "slice", data := .fields #[.none, .int (b : Int) t, .none] }) (k := .pred fun _ => True) trivial).push (o := { cls := .type "list", data := .seq (slicePick items.toArray none (some (b : Int)) none) }) (k := .list (items.take b)) ⟨rfl, rfl, 0, by rw [slicePick_upto']⟩
    exact k _ _ (S₁.sub (by simp))
  have hT : Shared.TypeIs { s with toks := tk', heap := s.heap.push { cls := .type "slice", data := .fields #[.none, .int (b : Int) t, .none] } } (.ref l) "list" := hl'.typeIs
  refine wpAny_bind ?_
  rw [getitemInPython_of_ne hT.not_modules]
  refine wpAny_bind (wpAny_specialOf hT list_getitem_lookup ?_)
  first
    | exact wpAny_pure (wpAny_bind fin)
    | exact wpAny_bind (wpAny_pure (wpAny_bind fin))
end

theorem flip_bit {fl : List Int} {ld : List (List Int)} (K : MachOk fl ld) {q : Int} (hq : 0 ≤ q ∧ q < 3) : flip fl q = 0 ∨ flip fl q = 1 := by
  have h1 : q.toNat < fl.length := by rw [K.nf]; (first | lia | omega)
  have e : flip fl q = fl[q.toNat] := by simp [flip, List.getD, h1]
  rw [e]
  exact K.bit _ (List.getElem_mem h1)

theorem min_is {l : List Int} {M : Int} (h1 : M ∈ l) (h2 : ∀ a ∈ l, M ≤ a) : l.min?.getD 0 = M := by
  rw [List.min?_eq_some_iff.mpr ⟨h1, h2⟩]; rfl

/-- compare of two things -/
theorem compare_ok {prog : Program} {w : World} {A : Around} {s : Shared} {E Q : Value → Shared → Prop} {a x y fa la : Addr} {xs ys bx by' fl : List Int} {ld : List (List Int)} {nx ny : Int} {outer : List Env}
    (F : CmpAt s.heap a fa la) (T : Txt s.heap) (hroom : A.depth + 4 < recursionLimit) (hu : A.units + 100 < cLine) (hh : A.handled = none) (B : Frs A s.heap outer)
    (hx : ThingAt s.heap x xs bx nx) (hy : ThingAt s.heap y ys by' ny) (incx : Inc xs) (incy : Inc ys) (lx : xs.length ≤ 100) (ly : ys.length ≤ 100) (lb : bx.length ≤ 100) (hb : Bits bx) (nn : ∀ p ∈ xs ++ ys, 0 ≤ p)
    (M : MachAt s.heap fa la fl ld) (K : MachOk fl ld) (k : ∀ t s', KeepsU (outer.filterMap (·.frame)) s s' → Q (.int (cmpOf fl ld xs ys bx) t) s') :
    wpAny (model prog w) A (call (.ref a) [.ref x, .ref y]) Q E s := by
  obtain ⟨qn, c, cS, cF, cL, st, qs, cs, Fc, hcS, hcF, Fs, hcL⟩ := F
  refine call_c (outer.filterMap (·.frame)) B.old [("one", .ref x), ("other", .ref y)] Fc T.lim (by (first | lia | omega)) (fun s₁ S => ?_) (fun _ _ _ => .of_eq rfl) (by decide) (locs rfl) rfl rfl rfl
  obtain ⟨pa, ba, vp, vb, t, hx1, hx2, ix, hx3, ib⟩ := hx
  obtain ⟨pa', ba', vp', vb', t', hy1, hy2, iy, -, -⟩ := hy
  have B' : ∀ {s' : Shared} {m O}, St (outer.filterMap (·.frame)) s s.heap.objs.size m O s' → Frs (A.deeper (envC (subStm 19 1) qn c [("step", cS), ("flips", cF)] s.heap.objs.size a)) s'.heap (envC (subStm 19 1) qn c [("step", cS), ("flips", cF)] s.heap.objs.size a :: outer) := fun S' => B.deeper S' rfl rfl
  refine wpAny_execs_cons (Assign_Tuple (w_callF (ev_g (S.upto.glb T.glb) (v := .ref 28) rfl) fun tk => Calls.spliced_cons (EvV.go (s := { s₁ with toks := tk }) (ev_item (ev_local S.ns rfl) ev_int (S.upto.list hx1).isList (by decide) (by decide) rfl) fun tk' =>
    Calls.spliced_cons (EvV.go (s := { s₁ with toks := tk' }) (ev_item (ev_local S.ns rfl) ev_int (S.upto.list hy1).isList (by decide) (by decide) rfl) fun tk'' => Calls.spliced_nil ⟨(S.upto.fn T.f2).func, ?_⟩))))
  have S := S.tok tk''
  refine sld_ok (S.upto.fn T.f2) (S.upto.noLimit T.lim) (by show A.depth + 1 < _; (first | lia | omega)) hh (B' S) (S.upto.glb T.glb) (S.upto.list hx2) ix incx (S.upto.list hy2) iy incy lx ly fun r p q wp wq s₂ kU ip iq Md => ?_
  have S := S.with (S.keptU kU) Md
  have ht : s₂.heap.IsTuple r #[.ref p, .ref q] := by
    obtain ⟨o, ho, hc, hd, n, hdd⟩ := S.led _ (.head _)
    exact ⟨o, ho, hc, n, hdd⟩
  refine x_unpack2 hh S ht fun s₃ S => ?_
  have S := S.sub (O' := [(q, .list wq), (p, .list wp)]) (by simp)
  have lw : wp.length ≤ 1000 := by rw [ip.1]; exact Nat.le_trans (List.length_filter_le _ _) (by (first | lia | omega))
  have lq : wq.length ≤ 1000 := by rw [iq.1]; exact Nat.le_trans (List.length_filter_le _ _) (by (first | lia | omega))
  have gp : ∀ {m O s'}, St (outer.filterMap (·.frame)) s s.heap.objs.size m (O ++ [(q, .list wq), (p, .list wp)]) s' → s'.heap.IsList p wp.toArray := fun S' => (S'.led (p, .list wp) (by simp)).isList
  have gq : ∀ {m O s'}, St (outer.filterMap (·.frame)) s s.heap.objs.size m (O ++ [(q, .list wq), (p, .list wp)]) s' → s'.heap.IsList q wq.toArray := fun S' => (S'.led (q, .list wq) (by simp)).isList
  refine wpAny_execs_cons (wpAny_Assign_Name (wpAny_BinOp ?_))
  refine w_upto (b := 1) S (ev_local S.ns rfl) ev_int (gp (O := []) S) lw fun D₁ s₄ S => ?_
  refine w_upto (b := 1) S (ev_local S.ns rfl) ev_int (gq (O := [_]) S) lq fun D₂ s₅ S => ?_
  refine c_concat S (S.led _ (.tail _ (.head _))).isList (S.led _ (.head _)).isList (by simp; (first | lia | omega)) fun H s₆ S => ?_
  have ih : Ints (wp.take 1 ++ wq.take 1) (heads xs ys) := (ip.take 1).append (iq.take 1)
  refine st_store S fun s₇ S => ?_
  have S := S.sub (O' := [(H, .list (wp.take 1 ++ wq.take 1)), (q, .list wq), (p, .list wp)]) (by simp)
  refine wpAny_execs_cons (wpAny_If (wpAny_isTrue_Compare1 ((ev_local S.ns rfl).go fun tk₁ => ?_)))
  refine w_list0 (S.tok tk₁) fun N s₈ S => ?_
  refine PySem.W.eq_intsK (S.led _ (.tail _ (.head _))).isList ih.are (S.led _ (.head _)).isList IntsAre.nil (by show A.units + 3 + 64 < cLine; (first | lia | omega)) (wpAny_truthy_bool ?_)
  have S := S.sub (O' := [(H, .list (wp.take 1 ++ wq.take 1)), (q, .list wq), (p, .list wp)]) (by simp)
  by_cases he : heads xs ys = []
  · rw [if_pos (by simpa using he)]
    refine wpAny_execs_cons (x_retI S ev_int fun t s₉ S => ?_)
    have := k t s₉ S.keepsU
    rw [cmpOf, if_pos he] at this
    exact this
  rw [if_neg (by simpa using he)]
  refine wpAny_execs_nil ?_
  refine wpAny_execs_cons (wpAny_Assign_Name (wpAny_Call_NameR ((ev_b (S.upto.glb T.glb) (v := .builtin "min") rfl).go fun tk₂ => callWith_builtin1 (Calls.spliced_cons (EvV.go (s := { s₈ with toks := tk₂ }) (ev_local S.ns rfl) fun tk₃ => Calls.spliced_nil ?_)))))
  have S := S.tok tk₃
  refine c_min hh (S.led _ (.head _)).isList ih (List.length_pos_iff.mpr he) fun mn t₂ s₉ k₉ hm1 hm2 => ?_
  refine st_store (S.kept k₉) fun s₁₀ S => ?_
  have hmin := min_is hm1 hm2
  have hm0 : 0 ≤ mn := by
    refine nn mn ?_
    rcases List.mem_append.mp hm1 with z | z
    · exact List.mem_append_left _ ((List.mem_filter.mp (List.mem_of_mem_take z)).1)
    · exact List.mem_append_right _ ((List.mem_filter.mp (List.mem_of_mem_take z)).1)
  obtain ⟨mk, rfl⟩ := Int.eq_ofNat_of_zero_le hm0
  refine wpAny_execs_cons (wpAny_Assign_Name (w_callF (ev_g (S.upto.glb T.glb) (v := .ref 74) rfl) fun tk₄ => ?_))
  have S := S.tok tk₄
  refine Calls.spliced_cons ((ev_free (c := cS) rfl (S.upto.isCell hcS)).go fun tk₅ => Calls.spliced_cons ?_)
  have S := S.tok tk₅
  refine w_uptoE (b := mk) S (ev_item (ev_local S.ns rfl) ev_int (S.upto.list hx1).isList (by decide) (by decide) rfl) (ev_local S.ns rfl).toI (S.upto.list hx3).isList (by rw [ib.1]; (first | lia | omega)) fun D₃ s₁₁ S => ?_
  refine Calls.spliced_cons (wpAny_Constant_int (k := 0) (pos := default) (Calls.spliced_nil ⟨(S.upto.fnC T.f14).func, ?_⟩))
  have S := S.tok (s₁₁.toks + 1)
  have hb' : Bits (bx.take mk) := fun z hz => hb z (List.mem_of_mem_take hz)
  refine reduce_ok (S.upto.fnC T.f14) (S.upto.txt T).d14 (S.upto.glb T.glb) (S.upto.noLimit T.lim) (by show A.depth + 1 + 1 < _; (first | lia | omega)) hh (S.upto.fnC Fs) (S.upto.isCell hcL) (S.upto.mach M) K (S.led _ (.head _)) (ib.take mk) hb' fun t₄ s₁₂ k₁₂ => ?_
  refine st_store (S.kept k₁₂) fun s₁₃ S => ?_
  have hq : 0 ≤ stateOf ld (bx.take mk) ∧ stateOf ld (bx.take mk) < 3 := stateOf_lt K _ 0 hb' (by decide)
  have hf := flip_bit K hq
  have S := S.sub (O' := [(H, .list (wp.take 1 ++ wq.take 1)), (q, .list wq), (p, .list wp)]) (by simp)
  refine wpAny_execs_cons (wpAny_If (wpAny_isTrue_Compare1 ?_))
  refine w_upto (b := 1) S (ev_local S.ns rfl) ev_int (gp (O := [_]) S) lw fun D₄ s₁₄ S => ?_
  refine List_ (Calls.spliced_cons ((ev_local S.ns rfl).go fun tk₇ => Calls.spliced_nil ?_))
  refine w_newList (S.tok tk₇) (by simp) fun D₅ s₁₅ S => ?_
  refine PySem.W.eq_intsK (S.led _ (.tail _ (.head _))).isList (ip.take 1).are (S.led _ (.head _)).isList (Ints.one _ _).are (by show A.units + 3 + 64 < cLine; (first | lia | omega)) (wpAny_truthy_bool ?_)
  have fin : cmpOf fl ld xs ys bx = if (diff xs ys).take 1 = [(mk : Int)] then ((mk : Int) + 1) * (1 - 2 * flip fl (stateOf ld (bx.take mk))) else ((mk : Int) + 1) * (2 * flip fl (stateOf ld (bx.take mk)) - 1) := by
    rw [cmpOf, if_neg he]
    simp only [hmin, Int.toNat_natCast]
  by_cases hd : (diff xs ys).take 1 = [(mk : Int)]
  · rw [if_pos (by simpa using hd)]
    refine wpAny_execs_cons (x_retI S (ev_mul (ev_add (ev_local S.ns rfl).toI ev_int) (ev_sub ev_int (ev_mul ev_int (ev_flip (S.upto.mach M) K hq (ev_free (c := cF) rfl (S.upto.isCell hcF)) (ev_local S.ns rfl).toI) (IntMulOk.small (by (first | lia | omega))))) (IntMulOk.small (by (first | lia | omega)))) fun t s' S => ?_)
    have := k t s' S.keepsU
    rw [fin, if_pos hd] at this
    exact this
  · rw [if_neg (by simpa using hd)]
    refine wpAny_execs_nil ?_
    refine wpAny_execs_cons (x_retI S (ev_mul (ev_add (ev_local S.ns rfl).toI ev_int) (ev_sub (ev_mul ev_int (ev_flip (S.upto.mach M) K hq (ev_free (c := cF) rfl (S.upto.isCell hcF)) (ev_local S.ns rfl).toI) (IntMulOk.small (by (first | lia | omega)))) ev_int) (IntMulOk.small (by (first | lia | omega)))) fun t s' S => ?_)
    have := k t s' S.keepsU
    rw [fin, if_neg hd] at this
    exact this
end Mine
end

section
set_option maxRecDepth 100000
namespace Mine
open PySem PyProof.Rows
open PySem.W (tabObj CodeHd fnMade hideAll of_hideAll hideAll_get hideAll_none)

section
variable {fs : List Addr} {s₀ s : Shared} {L : Addr} {m : Str → Option Value} {O : List (Addr × Ky)}
/-- the first object of the ledger is turned, others may have come -/
theorem St.extPut {a : Addr} {k k' : Ky} (S : St fs s₀ L m ((a, k) :: O) s) {h' : Heap} {t : Nat} (hx : ∀ b o, b ≠ a → s.heap.get? b = some o → h'.get? b = some o) (hk : At h' a k') : St fs s₀ L m ((a, k') :: O) { s with heap := h', toks := t } := by
  have hf := S.fresh _ (.head _)
  have ha := S.apart
  rw [List.map_cons, List.nodup_cons] at ha
  exact (S.ext (t := t) hx).more hk hf.1 hf.2 fun p hp z => ha.1 (List.mem_map.mpr ⟨p, hp, z⟩)
/-- the base forgets one of its objects, the ledger speaks of it -/
theorem St.hide {P : Addr} {o : Obj} (S : St fs s₀ L m O s) (hP : s₀.heap.get? P = some o) (hn : P ∉ fs) : St fs { s₀ with heap := hideAll s₀.heap [P] } L m ((P, .obj o) :: O) s := by
  have hPL : P ≠ L := fun z => by rw [z, S.above] at hP; cases hP
  refine ⟨?_, S.ns, fun b o' q n => S.keep b o' (of_hideAll _ q) n, fun b o' q => S.upto b o' (of_hideAll _ q), fun p hp => ?_, fun p hp => ?_, ?_, ?_, fun f hf => ?_⟩
  · obtain ⟨h, tk, rfl⟩ := S.same; exact ⟨h, tk, rfl⟩
  · rcases List.mem_cons.mp hp with rfl | hp
    · exact .of_get (S.keep _ _ hP hn)
    · exact S.led p hp
  · rcases List.mem_cons.mp hp with rfl | hp
    · exact ⟨hideAll_none _ (.head _), hPL⟩
    · refine ⟨?_, (S.fresh p hp).2⟩
      cases q : (hideAll s₀.heap [P]).get? p.1 with
      | none => rfl
      | some o' => have := (S.fresh p hp).1; rw [of_hideAll _ q] at this; cases this
  · rw [List.map_cons, List.nodup_cons]
    refine ⟨fun q => ?_, S.apart⟩
    obtain ⟨p, hp, e⟩ := List.mem_map.mp q
    have := (S.fresh p hp).1
    simp only at e
    rw [e, hP] at this; cases this
  · show (hideAll s₀.heap [P]).get? L = none
    cases q : (hideAll s₀.heap [P]).get? L with
    | none => rfl
    | some o' => have := S.above; rw [of_hideAll _ q] at this; cases this
  · obtain ⟨o', h'⟩ := S.fsOld f hf
    exact ⟨o', hideAll_get _ h' (fun z => hn (by rcases List.mem_cons.mp z with rfl | z; exact hf; cases z))⟩
/-- all but one object stays -/
def KeepsX (P : Addr) (s s' : Shared) : Prop := ∃ h' tk, s' = { s with heap := h', toks := tk } ∧ ∀ b o, b ≠ P → s.heap.get? b = some o → h'.get? b = some o
theorem St.keepsX {P : Addr} (S : St [] { s₀ with heap := hideAll s₀.heap [P] } L m O s) : KeepsX P s₀ s := by
  obtain ⟨h, tk, e⟩ := S.same
  refine ⟨h, tk, e, fun b o n q => ?_⟩
  have := S.keepsAll b o (hideAll_get _ q (by simpa using n))
  rw [e] at this; exact this
theorem St.after {P : Addr} {k k' : Ky} {s' : Shared} (S : St fs s₀ L m ((P, k) :: O) s) (x : KeepsX P s s') (hk : At s'.heap P k') : St fs s₀ L m ((P, k') :: O) s' := by
  obtain ⟨h', tk, rfl, x⟩ := x
  exact S.extPut x hk
end

/-- a def with cells is called -/
theorem call_k {prog : Program} {w : World} {A : Around} {s : Shared} {E : Value → Shared → Prop} {Q : Value → Shared → Prop} (fs : List Addr) (hfs : ∀ f ∈ fs, ∃ o, s.heap.get? f = some o) {st : Stmt} {a : Addr} {c : Value} {args : List Value} (binds : List (Str × Value)) {m : Str → Option Value} {cl : List (Str × Addr)} {O : List (Addr × Ky)}
    (F : FnAt s.heap a st c) (hlim : s.heap.NoLimit) (hroom : A.depth < recursionLimit)
    (hcl : cellsFrom (s.heap.objs.size + 1) (scopeOf st).names [] = cl) (hm : bindL (fun x => (scopeOf st).names.lookup x) binds (fun _ => none) = m) (hO : cl.map (fun p => (p.2, Ky.cell (bindC (fun x => (scopeOf st).names.lookup x) binds (fun _ => none) p.1))) = O)
    (k : ∀ s₁, St fs s s.heap.objs.size m O s₁ →
      wpAny (model prog w) (A.deeper (envC st (nameOf st) c cl s.heap.objs.size a)) (execs (bodyOf st) (envC st (nameOf st) c cl s.heap.objs.size a)) (fun f s' => Q (match f with | .ret v => v | _ => .none) s') (fun _ _ => False) s₁)
    (hbind : ∀ pm, bindArgs (fdOf st c pm) ⟨args, []⟩ = pure binds) (hlk : ∀ p ∈ cl, cl.lookup p.1 = some p.2)
    (hkind : ∀ x ∈ binds, (scopeOf st).names.lookup x.1 = some .local ∨ ((scopeOf st).names.lookup x.1 = some .cell ∧ (cl.lookup x.1).isSome = true))
    (hco : (scopeOf st).isCoroutine = false) (hgen : (scopeOf st).isGenerator = false) (hk : (scopeOf st).kind = .function) : wpAny (model prog w) A (call (.ref a) args) Q E s := by
  obtain ⟨⟨o, pm, ho, hod⟩, hcd⟩ := F
  subst hcl hm hO
  refine wpAny_call (codeAny_call_cells (fd := fdOf st c pm) (body := bodyOf st) (binds := binds) hroom ho hod hlim hcd rfl (hbind pm) rfl hkind (fun s₁ x => ?_) hco hgen hk)
  have S : St fs s s.heap.objs.size (bindL (fun x => (scopeOf st).names.lookup x) binds (fun _ => none)) ((cellsFrom (s.heap.objs.size + 1) (scopeOf st).names []).map (fun p => (p.2, Ky.cell (bindC (fun x => (scopeOf st).names.lookup x) binds (fun _ => none) p.1)))) s₁ := by
    refine ⟨x.toInCall.same, x.toInCall.ns, fun b o q _ => x.toInCall.keep b o q, fun b o q => ⟨o.slots, x.toInCall.keep b o q⟩, fun p hp => ?_, fun p hp => ?_, ?_, Heap.get?_none_of_le (Nat.le_refl _), hfs⟩
    · obtain ⟨q, hq, rfl⟩ := List.mem_map.mp hp
      exact x.cell q.1 q.2 (hlk q hq)
    · obtain ⟨q, hq, rfl⟩ := List.mem_map.mp hp
      have : s.heap.objs.size < q.2 := x.above q.1 q.2 hq
      exact ⟨Heap.get?_none_of_le (Nat.le_of_lt this), Nat.ne_of_gt this⟩
    · rw [List.map_map]
      exact List.pairwise_map.mpr x.apart
  exact wpAny_mono (k s₁ S) (fun _ _ q => q) fun _ _ q => q.elim

/-- the code object of a def -/
abbrev codeK (q : Str) : Ky := .pred fun o => ∃ vs t, o.data = .fields vs ∧ vs[1]? = some (.str q t)
theorem At.codeRec {h : Heap} {c : Addr} {q : Str} (x : At h c (codeK q)) : h.CodeRec (.ref c) q := let ⟨o, ho, vs, t, hd, hv⟩ := x; ⟨c, o, vs, t, rfl, ho, hd, hv⟩
theorem CodeHd.upto {h h' : Heap} {c P : Addr} (k : UpTo h h') (x : CodeHd h c P) : CodeHd h' c P := by
  obtain ⟨o, vs, file, tf, flags, tg, inF, text, tt, e, r⟩ := x
  obtain ⟨sl, e'⟩ := k _ _ e
  exact ⟨_, vs, file, tf, flags, tg, inF, text, tt, e', r⟩

section
variable {prog : Program} {w : World} {A : Around} {env : Env} {fs : List Addr} {s₀ s : Shared} {L : Addr} {m : Str → Option Value} {O : List (Addr × Ky)} {E : Value → Shared → Prop}
/-- a function is made; its code's place is noted in the table P -/
theorem w_fn {name qual : Str} {params : Arguments} {body : List Stmt} {scope : Scope} {c P : Addr} {ps : Array Value} {pos : Pos} {firstLine : Nat} {clos : List (Str × Addr)} {Q : Value → Shared → Prop}
    (S : St fs s₀ L m ((P, .obj (tabObj ps)) :: O) s) (hcl : closureFor scope env = pure clos) (hge : env.globals = 3) (G : Glb s.heap) (hcode : env.code = .ref c) (C : CodeHd s.heap c P) (ht : TriplesOk ps.toList) (hnf : codeAmong pos ps.toList = none)
    (k : ∀ f c' ctv doc pm s', St fs s₀ L m ((f, .obj (fnMade name qual params body scope clos doc pm c' ctv)) :: (c', codeK qual) :: (P, .obj (tabObj (ps ++ #[rawInt pos.line, rawInt pos.col, .ref c']))) :: O) s' → Q (.ref f) s') :
    wpAny (model prog w) A (makeFunction name qual params (.stmts body) scope env [] [] [] pos firstLine) Q E s := by
  obtain ⟨mg, mb, bm, ob, tn, K⟩ := G
  have hP := (S.get (.head _)).get
  have hlt : ∀ p ∈ (P, Ky.obj (tabObj ps)) :: O, p.1 < s.heap.objs.size := fun p hp => (S.led p hp).lt
  have hbP : bm ≠ P := fun z => by have := K.og; rw [z, hP] at this; cases this; cases K.op
  have h3P : (3 : Nat) ≠ P := fun z => by obtain ⟨o, es, ep, ho, hd, _⟩ := K.g; rw [z, hP] at ho; cases ho; cases hd
  refine PySem.W.makeFunction_K hcl hge K.g hcode C hP ht hnf h3P ⟨bm, ob, K.bi, K.b0, K.b3, hbP, K.og, K.oc, K.od, K.op⟩ fun c' ctv doc h' tk hx hge' hlt' hrec hP' => ?_
  have hc'n : s.heap.get? c' = none := Heap.get?_none_of_le hge'
  have S₁ := S.extPut (t := tk) (fun b o hb q => hx b o hb q) (At.of_get hP')
  have S₂ : St fs s₀ L m ((c', codeK qual) :: (P, .obj (tabObj (ps ++ #[rawInt pos.line, rawInt pos.col, .ref c']))) :: O) { s with heap := h', toks := tk } := by
    refine S₁.more ?_ (S.new hc'n) (fun z => ?_) fun p hp z => ?_
    · obtain ⟨c₁, o, vs, t, e, ho, hd, hv⟩ := hrec
      cases e
      exact ⟨o, ho, vs, t, hd, hv⟩
    · exact absurd (z ▸ S.size_le) (Nat.not_lt.mpr hge')
    · have : p.1 < s.heap.objs.size := by
        rcases List.mem_cons.mp hp with rfl | hp
        · exact hlt (P, .obj (tabObj ps)) (.head _)
        · exact hlt p (.tail _ hp)
      exact absurd (z ▸ this) (Nat.not_lt.mpr hge')
  exact k _ _ _ _ _ _ (S₂.push (o := fnMade name qual params body scope clos doc ((mg "__name__").getD .none) c' ctv) (k := .obj (fnMade name qual params body scope clos doc ((mg "__name__").getD .none) c' ctv)) rfl)
end
/-- such a function, as FnC tells it -/
theorem FnC.of {h : Heap} {f c' : Addr} {st : Stmt} {qn : Str} {cl : List (Str × Addr)} {ctv doc pm : Value} (x : At h f (.obj (fnMade (nameOf st) qn (parsOf st) (bodyOf st) (scopeOf st) cl doc pm c' ctv))) (y : At h c' (codeK qn)) : FnC h f st qn (.ref c') .none cl :=
  ⟨⟨_, pm, ctv, doc, x.get, rfl⟩, y.codeRec⟩
end Mine
end

section
set_option maxRecDepth 100000
namespace Mine
open PySem PyProof.Rows
open PySem.W (tabObj CodeHd fnMade hideAll of_hideAll hideAll_get hideAll_none)

theorem front_perm {α : Type} {p : α} : ∀ {l : List α} {i : Nat}, l[i]? = some p → (p :: l.eraseIdx i).Perm l
  | [], _, h => by simp at h
  | x :: r, 0, h => by simp at h; subst h; exact .refl _
  | x :: r, i + 1, h => by
    rw [List.eraseIdx_cons_succ]
    exact (List.Perm.swap _ _ _).trans (.cons x (front_perm (by simpa using h)))
theorem St.front {fs : List Addr} {s₀ s : Shared} {L : Addr} {m : Str → Option Value} {O : List (Addr × Ky)} (S : St fs s₀ L m O s) (i : Nat) {p : Addr × Ky} (hi : O[i]? = some p) : St fs s₀ L m (p :: O.eraseIdx i) s := S.perm (front_perm hi)

section
variable {fs : List Addr} {s₀ s : Shared} {L : Addr} {m : Str → Option Value} {O : List (Addr × Ky)}
theorem St.nth (S : St fs s₀ L m O s) (i : Nat) {a : Addr} {k : Ky} (hi : O[i]? = some (a, k)) : At s.heap a k := S.led _ (List.mem_of_getElem? hi)
theorem St.ne (S : St fs s₀ L m O s) (i j : Nat) {a b : Addr} {k l : Ky} (hi : O[i]? = some (a, k)) (hj : O[j]? = some (b, l)) (h : i ≠ j := by decide) : a ≠ b := by
  obtain ⟨h1, e1⟩ := List.getElem?_eq_some_iff.mp hi
  obtain ⟨h2, e2⟩ := List.getElem?_eq_some_iff.mp hj
  have pw := List.pairwise_iff_getElem.mp S.apart
  rcases Nat.lt_or_gt_of_ne h with q | q
  · have := pw i j (by simpa using h1) (by simpa using h2) q
    simp only [List.getElem_map, e1, e2] at this
    exact this
  · have := pw j i (by simpa using h2) (by simpa using h1) q
    simp only [List.getElem_map, e1, e2] at this
    exact fun z => this z.symm
theorem St.newX {P : Addr} (S : St fs { s₀ with heap := hideAll s₀.heap [P] } L m O s) (i j : Nat) {a : Addr} {k l : Ky} (hi : O[i]? = some (a, k)) (hj : O[j]? = some (P, l)) (h : i ≠ j := by decide) : s₀.heap.get? a = none := by
  have hn := S.ne i j hi hj h
  have hf := (S.fresh _ (List.mem_of_getElem? hi)).1
  cases q : s₀.heap.get? a with
  | none => rfl
  | some o =>
    have e : (hideAll s₀.heap [P]).get? a = some o := hideAll_get _ q (by simpa using hn)
    rw [show (hideAll s₀.heap [P]).get? a = none from hf] at e; cases e
end

section
variable {h : Heap} {P : Addr}
theorem hid {b : Addr} {o : Obj} (hP : h.get? P = some (tabObj #[])) (e : h.get? b = some o) (hn : o.data ≠ .fields #[]) : (hideAll h [P]).get? b = some o := by
  refine hideAll_get _ e fun z => ?_
  rcases List.mem_cons.mp z with rfl | z
  · rw [hP] at e; cases e; exact hn rfl
  · cases z
theorem hid_ns {a : Addr} {m : Str → Option Value} (hP : h.get? P = some (tabObj #[])) (x : h.Ns a m) : (hideAll h [P]).Ns a m := by
  obtain ⟨o, es, ep, ho, hd, r⟩ := x
  exact ⟨o, es, ep, hid hP ho (by rw [hd]; intro z; cases z), hd, r⟩
theorem hid_codeRec {cd : Value} {q : Str} (hP : h.get? P = some (tabObj #[])) (x : h.CodeRec cd q) : (hideAll h [P]).CodeRec cd q := by
  obtain ⟨c, o, vs, t, rfl, ho, hd, hv⟩ := x
  exact ⟨c, o, vs, t, rfl, hid hP ho (by rw [hd]; intro z; cases z; simp at hv), hd, hv⟩
theorem hid_fn {a : Addr} {st : Stmt} {c : Value} (hP : h.get? P = some (tabObj #[])) (x : FnAt h a st c) : FnAt (hideAll h [P]) a st c := by
  obtain ⟨⟨o, pm, ho, hd⟩, hc⟩ := x
  exact ⟨⟨o, pm, hid hP ho (by rw [hd]; intro z; cases z), hd⟩, hid_codeRec hP hc⟩
theorem hid_fnC {a : Addr} {st : Stmt} {qn : Str} {c dV : Value} {cl : List (Str × Addr)} (hP : h.get? P = some (tabObj #[])) (x : FnC h a st qn c dV cl) : FnC (hideAll h [P]) a st qn c dV cl := by
  obtain ⟨⟨o, pm, ct, doc, ho, hd⟩, hc⟩ := x
  exact ⟨⟨o, pm, ct, doc, hid hP ho (by rw [hd]; intro z; cases z), hd⟩, hid_codeRec hP hc⟩
theorem hid_txt (hP : h.get? P = some (tabObj #[])) (x : Txt h) : Txt (hideAll h [P]) := by
  obtain ⟨⟨mg, mb, bm, ob, tn, a, b, c, d, e, f, g, i, j, l, m, n, o1, p1, q1⟩, ⟨mc, l1, l2⟩, f2, f3, f5, f7, ⟨o7, n7, t7, d7, e7⟩, f10, f12, f14, ⟨o14, n14, d14, e14⟩, f16, f17, f18, f19, f20, f21, f22, f23⟩ := x
  exact ⟨⟨mg, mb, bm, ob, tn, hid_ns hP a, hid_ns hP b, c, d, e, f, g, i, hid hP j (by rw [n]; intro z; cases z), l, m, n, o1, hid hP p1 q1, q1⟩, ⟨mc, hid_ns hP l1, l2⟩, hid_fn hP f2, hid_fn hP f3, hid_fn hP f5, hid_fnC hP f7, ⟨o7, n7, t7, hid hP d7 (by rw [e7]; intro z; cases z), e7⟩,
    hid_fn hP f10, hid_fn hP f12, hid_fnC hP f14, ⟨o14, n14, hid hP d14 (by rw [e14]; intro z; cases z), e14⟩, hid_fn hP f16, hid_fn hP f17, hid_fn hP f18, hid_fn hP f19, hid_fn hP f20, hid_fn hP f21, hid_fn hP f22, hid_fn hP f23⟩
theorem hid_hd {c : Addr} (hP : h.get? P = some (tabObj #[])) {P' : Addr} (x : CodeHd h c P') : CodeHd (hideAll h [P]) c P' := by
  obtain ⟨o, vs, file, tf, flags, tg, inF, text, tt, e, e2, e3, e4, r⟩ := x
  exact ⟨o, vs, file, tf, flags, tg, inF, text, tt, hid hP e (by rw [e3]; intro z; cases z; simp at e4), e2, e3, e4, r⟩
end

/-- _law_comparison makes the comparison -/
theorem comparison_ok {prog : Program} {w : World} {A : Around} {s : Shared} {E Q : Value → Shared → Prop} {fa la : Addr}
    (T : Txt s.heap) (hroom : A.depth < recursionLimit) (C : CodeHd s.heap 97 93) (hP : s.heap.get? 93 = some (tabObj #[]))
    (k : ∀ cmp s', KeepsX 93 s s' → s.heap.get? cmp = none → CmpAt s'.heap cmp fa la → (∃ ps, s'.heap.get? 93 = some (tabObj ps)) → Q (.ref cmp) s') :
    wpAny (model prog w) A (call (.ref 98) [.ref fa, .ref la]) Q E s := by
  refine call_k [] (by simp) [("flips", .ref fa), ("leads", .ref la)] (m := fun _ => none) (cl := [("step", s.heap.objs.size + 1 + 1 + 1), ("leads", s.heap.objs.size + 1 + 1), ("flips", s.heap.objs.size + 1)])
    (O := [(s.heap.objs.size + 1 + 1 + 1, .cell none), (s.heap.objs.size + 1 + 1, .cell (some (.ref la))), (s.heap.objs.size + 1, .cell (some (.ref fa)))])
    T.f19 T.lim hroom rfl rfl rfl (fun s₁ S => ?_) (fun _ => rfl) ?_ ?_ rfl rfl rfl
  · have T := hid_txt hP T
    have C := hid_hd hP C
    have S := S.hide hP (by simp)
    refine wpAny_execs_cons (PySem.W.nestDef_K rfl rfl rfl (w_fn S rfl rfl (S.upto.glb T.glb) rfl (C.keeps S.keepsAll) trivial rfl fun f c' ctv doc pm s₂ S => ?_))
    refine st_storeC 3 S rfl (fun s₃ S => ?_) rfl
    have S := S.front 2 rfl
    refine wpAny_execs_cons (PySem.W.nestDef_K rfl rfl rfl (w_fn S rfl rfl (S.upto.glb T.glb) rfl (C.keeps S.keepsAll) trivial rfl fun f₂ c₂ ctv₂ doc₂ pm₂ s₄ S => ?_))
    refine st_store S fun s₅ S => ?_
    refine wpAny_execs_cons (x_retV S (ev_local S.ns rfl) fun s₆ S => ?_)
    refine k f₂ s₆ S.keepsX ?_ ⟨_, _, s.heap.objs.size + 1 + 1 + 1, s.heap.objs.size + 1, s.heap.objs.size + 1 + 1, f, _, _, FnC.of (ctv := ctv₂) (doc := doc₂) (pm := pm₂) (S.led _ (.head _)) (S.led _ (.tail _ (.head _))), ?_, ?_, FnC.of (ctv := ctv) (doc := doc) (pm := pm) (S.led _ (.tail _ (.tail _ (.tail _ (.head _))))) (S.led _ (.tail _ (.tail _ (.tail _ (.tail _ (.head _)))))), ?_⟩ ⟨_, (S.led _ (.tail _ (.tail _ (.head _)))).get⟩
    · exact S.newX 0 2 rfl rfl
    · exact (S.nth 5 rfl).isCell
    · exact (S.nth 7 rfl).isCell
    · exact (S.nth 6 rfl).isCell
  · intro p hp
    simp only [List.mem_cons, List.not_mem_nil, or_false] at hp
    rcases hp with rfl | rfl | rfl <;> rfl
  · intro x hx
    simp only [List.mem_cons, List.not_mem_nil, or_false] at hx
    rcases hx with rfl | rfl <;> exact .inr ⟨rfl, rfl⟩
end Mine
end

section
set_option maxRecDepth 100000
namespace Mine
open PySem PyProof.Rows

/-- the entries of a dict of names, hashes and tokens aside -/
inductive Ents : List DictEntry → List (Str × Value) → Prop
  | nil : Ents [] []
  | cons (h : Int) (n : Str) (t : Tok) (v : Value) {es l} : Ents es l → Ents (⟨h, .str n t, v⟩ :: es) ((n, v) :: l)

theorem Ents.snoc {es : List DictEntry} {l : List (Str × Value)} (x : Ents es l) (h : Int) (n : Str) (t : Tok) (v : Value) : Ents (es ++ [⟨h, .str n t, v⟩]) (l ++ [(n, v)]) := by
  induction x with
  | nil => exact .cons h n t v .nil
  | cons h' n' t' v' _ ih => exact .cons h' n' t' v' ih
theorem Ents.length {es : List DictEntry} {l : List (Str × Value)} (x : Ents es l) : es.length = l.length := by
  induction x with
  | nil => rfl
  | cons _ _ _ _ _ ih => simp [ih]
theorem isStr_str (n name : Str) (t : Tok) : (Value.str n t).isStr name = (n == name) := rfl
theorem Ents.find {es : List DictEntry} {l : List (Str × Value)} (x : Ents es l) (name : Str) : (es.find? (·.key.isStr name)).map (·.val) = l.lookup name := by
  induction x with
  | nil => rfl
  | cons h n t v _ ih =>
    rw [List.find?_cons, List.lookup_cons]
    show (match (n == name) with | true => some _ | false => _).map _ = _
    by_cases q : n = name
    · subst q; simp
    · have q1 : (n == name) = false := by simp [q]
      have q2 : (name == n) = false := by simp; exact fun z => q z.symm
      rw [q1, q2]; exact ih
theorem Ents.noRef {es : List DictEntry} {l : List (Str × Value)} (x : Ents es l) : es.any (·.refKey) = false := by
  induction x with
  | nil => rfl
  | cons h n t v _ ih => rw [List.any_cons, ih]; rfl
/-- a name is set in such a list -/
noncomputable def putL : List (Str × Value) → Str → Value → List (Str × Value)
  | [], name, v => [(name, v)]
  | (n, w) :: r, name, v => if n == name then (n, v) :: r else (n, w) :: putL r name v
theorem Ents.put {es : List DictEntry} {l : List (Str × Value)} (x : Ents es l) (name : Str) (v : Value) (H : Int) (t : Tok) {f : Option DictEntry → DictEntry} (h1 : ∀ e, f (some e) = { e with val := v }) (h2 : f none = ⟨H, .str name t, v⟩) :
    Ents (nsPutIn name.cps.size name.cps.toList f es).1 (putL l name v) := by
  induction x with
  | nil => rw [nsPutIn, h2]; exact .cons H name t v .nil
  | cons h n t' w r ih =>
    rw [nsPutIn, Value.isStrByCps_eq, isStr_str]
    cases q : n == name with
    | true =>
      simp only [putL, q, if_true, h1]
      exact .cons h n t' v r
    | false =>
      simp only [putL, q, Bool.false_eq_true, if_false]
      exact .cons h n t' w ih
theorem Ents.put' {es es' : List DictEntry} {b : Bool} {l : List (Str × Value)} (x : Ents es l) {name : Str} {v : Value} {H : Int} {t : Tok} {f : Option DictEntry → DictEntry} (q : nsPutIn name.cps.size name.cps.toList f es = (es', b)) (h1 : ∀ e, f (some e) = { e with val := v }) (h2 : f none = ⟨H, .str name t, v⟩) :
    Ents es' (putL l name v) := by
  have := x.put name v H t h1 h2
  rw [q] at this
  exact this
theorem Ents.drop {es : List DictEntry} {l : List (Str × Value)} (x : Ents es l) {name : Str} : ∀ {v : Value}, l.lookup name = some v → ∃ es', nsDropIn name.cps.size name.cps.toList es = some es' ∧ Ents es' (l.eraseP fun p => name == p.1) := by
  induction x with
  | nil => intro v h; cases h
  | cons h n t w r ih =>
    intro v hl
    rw [List.lookup_cons] at hl
    rw [nsDropIn, Value.isStrByCps_eq, isStr_str]
    by_cases q : n = name
    · subst q
      simp
      exact r
    · have q1 : (n == name) = false := by simp [q]
      have q2 : (name == n) = false := by simp; exact fun z => q z.symm
      rw [q2] at hl
      obtain ⟨es', e, r'⟩ := ih hl
      rw [q1, e]
      refine ⟨_, rfl, ?_⟩
      rw [List.eraseP_cons, q2]
      exact .cons h n t w r'

/-- a dict of names -/
abbrev nsK (l : List (Str × Value)) : Ky := .pred fun o => o.cls = .type "dict" ∧ o.dict = none ∧ o.slots = #[] ∧ ∃ es n, o.data = .dict es n ∧ Ents es.toList l

section
variable {M : Model} {A : Around} {s : Shared} {E : Value → Shared → Prop} {a : Addr} {l : List (Str × Value)}
theorem wn_get {name : Str} {Q : Option Value → Shared → Prop} (x : At s.heap a (nsK l)) (k : Q (l.lookup name) s) : wpAny M A (nsGet a name) Q E s := by
  obtain ⟨o, ho, hc, hd, hs, es, n, hdt, he⟩ := x
  unfold nsGet
  refine wpAny_bind (wpAny_loadPart ho ?_)
  rw [nsLook_eq]
  unfold nsLookByArray
  rw [hdt]
  have hf := he.find name
  rw [Array.find?_toList] at hf
  dsimp only
  cases q : es.find? (·.key.isStr name) with
  | some e => rw [q] at hf; rw [← hf] at k; exact wpAny_pure k
  | none =>
    rw [q] at hf; rw [← hf] at k
    have hr : es.any (·.refKey) = false := by rw [← Array.any_toList]; exact he.noRef
    simp only [hr, Bool.false_eq_true, if_false]
    exact wpAny_pure k
theorem wn_set {name : Str} {v : Value} {Q : Unit → Shared → Prop} (x : At s.heap a (nsK l)) (k : ∀ h' tk, Heap.SameBut a s.heap h' → At h' a (nsK (putL l name v)) → Q () { s with heap := h', toks := tk }) : wpAny M A (nsSet a name v) Q E s := by
  obtain ⟨⟨oc, od, odt, osl⟩, ho, hc, hd, hs, es, n, hdt, he⟩ := x
  simp only at hc hd hs hdt
  subst hc hd hs hdt
  unfold nsSet strHash
  refine wpAny_bind (wpAny_bind (PySem.W.nd_ask (wpAny_pure (wpAny_pure ?_))))
  refine wpAny_bind (wpAny_mkText ?_)
  refine wpAny_bind (wpAny_loadPart ho ?_)
  have hr : es.any (·.refKey) = false := by rw [← Array.any_toList]; exact he.noRef
  have hb : aRefKeyMayBeTheName name es = false := by rw [aRefKeyMayBeTheName_eq]; simp only [aRefKeyMayBeTheNameByArray, hr, Bool.and_false]
  dsimp only
  rw [hb]
  simp only [Bool.false_eq_true, if_false]
  generalize hH : (if name.cps.isEmpty = true then (0 : Int) else _) = H
  have hp : ∃ es' n', Obj.putName name H (.str name s.toks) v ⟨.type "dict", none, .dict es n, #[]⟩ = ⟨.type "dict", none, .dict es'.toArray n', #[]⟩ ∧ Ents es' (putL l name v) := by
    simp only [Obj.putName]
    split <;> rename_i es' q
    · exact ⟨es', _, rfl, he.put' q (fun e => rfl) rfl⟩
    · exact ⟨es', _, rfl, he.put' q (fun e => rfl) rfl⟩
  obtain ⟨es', n', hp, e2⟩ := hp
  refine wpAny_updatePart ho ?_
  refine k _ _ (Heap.SameBut.update ..) ⟨_, Heap.get?_update_self _ ho (by rw [hp]; rfl), ?_⟩
  rw [hp]
  exact ⟨rfl, rfl, rfl, _, _, rfl, by simpa using e2⟩
theorem wn_del {name : Str} {v : Value} {Q : Bool → Shared → Prop} (x : At s.heap a (nsK l)) (hl : l.lookup name = some v) (k : ∀ h', Heap.SameBut a s.heap h' → At h' a (nsK (l.eraseP fun p => name == p.1)) → Q true { s with heap := h' }) : wpAny M A (nsDel a name) Q E s := by
  obtain ⟨⟨oc, od, odt, osl⟩, ho, hc, hd, hs, es, n, hdt, he⟩ := x
  simp only at hc hd hs hdt
  subst hc hd hs hdt
  unfold nsDel
  refine wpAny_bind (wpAny_loadPart ho ?_)
  have hf := he.find name
  rw [Array.find?_toList, hl] at hf
  have hh : nsHas name ⟨.type "dict", none, .dict es n, #[]⟩ = pure true := by
    unfold nsHas
    have h1 := nsNameIn_fst name es
    dsimp only
    generalize nsNameIn name.cps.size name.cps.toList es.toList false = x at h1
    obtain ⟨p, q⟩ := x
    simp only at h1
    rw [← h1] at hf
    cases p with
    | none => cases hf
    | some e => rfl
  rw [hh]
  refine wpAny_bind (wpAny_pure ?_)
  simp only [if_true]
  obtain ⟨es', e1, e2⟩ := he.drop hl
  have hp : Obj.dropName name ⟨.type "dict", none, .dict es n, #[]⟩ = ⟨.type "dict", none, .dict es'.toArray (n + 1), #[]⟩ := by
    simp only [Obj.dropName]
    rw [e1]
  refine wpAny_bind (wpAny_updatePart ho (wpAny_pure ?_))
  refine k _ (Heap.SameBut.update ..) ⟨_, Heap.get?_update_self _ ho (by rw [hp]; rfl), ?_⟩
  rw [hp]
  exact ⟨rfl, rfl, rfl, _, _, rfl, by simpa using e2⟩
theorem wn_setV {name : Str} {v : Value} {Q : Unit → Shared → Prop} (x : At s.heap a (nsK l)) (hz : l.length ≤ 1000) (k : ∀ h' tk, Heap.SameBut a s.heap h' → At h' a (nsK (putL l name v)) → Q () { s with heap := h', toks := tk }) : wpAny M A (nsSetByValue a name v) Q E s := by
  obtain ⟨o, ho, hc, hd, hs, es, n, hdt, he⟩ := id x
  unfold nsSetByValue
  refine wpAny_bind (wpAny_loadPart ho ?_)
  rw [hdt]
  have hz' : ¬ (es.size > sizeLine) := by rw [← Array.length_toList, he.length, sizeLine_eq]; (first | lia | omega)
  simp only [hz', decide_false, Bool.false_and, Bool.false_eq_true, if_false]
  first
    | exact wn_set x k
    | exact wpAny_bind (wpAny_pure (wn_set x k))
end

section
variable {prog : Program} {w : World} {A : Around} {env : Env} {fs : List Addr} {s₀ s : Shared} {L N : Addr} {m : Str → Option Value} {O : List (Addr × Ky)} {E : Value → Shared → Prop} {l : List (Str × Value)}
/-- a name of the class is set -/
theorem cs_store (i : Nat) {name : Str} {v : Value} {Q : Unit → Shared → Prop} (S : St fs s₀ L m O s) (hi : O[i]? = some (N, nsK l)) (k : ∀ s', St fs s₀ L m (O.set i (N, nsK (putL l name v))) s' → Q () s')
    (hN : env.locals = N) (hk : env.scope.kind = .class) (hl : env.kindOf name = some .local ∨ (env.kindOf name = none ∧ compilersOwnNames.contains name = true)) : wpAny (model prog w) A (storeName env name v) Q E s := by
  have x := S.led _ (List.mem_of_getElem? hi)
  have fin : wpAny (model prog w) A (localSet env name v) Q E s := by
    obtain ⟨o, ho, hc, _⟩ := id x
    unfold localSet
    rw [hN]
    refine wpAny_bind (wpAny_load ho ?_)
    rw [hc, if_pos (by simp)]
    exact wn_set x fun h' tk hs hk' => k _ (S.upd i hi hs hk')
  unfold storeName
  have hb : env.blockKind = .class := by unfold Env.blockKind; rw [hk]; rfl
  rcases hl with hl | ⟨hl, hc⟩
  · rw [hl, hk]
    exact fin
  · rw [hl, hk, hb, hc]
    exact fin
end
end Mine
end

section
set_option maxRecDepth 100000
namespace Mine
open PySem PyProof.Rows
open PySem.W (tabObj CodeHd fnMade hideAll of_hideAll hideAll_get hideAll_none)

/-- a code object whose table is P -/
abbrev hdK (P : Addr) (q : Str) : Ky := .pred fun o => ∃ vs file tf flags tg inF text tt t, o.cls = .type "code" ∧ o.data = .fields vs ∧ vs[11]? = some (.ref P) ∧ vs.getD 11 .none = .ref P ∧ vs.getD 18 .none = .str file tf ∧
    vs.getD 7 .none = .int flags tg ∧ vs.getD 9 .none = .bool inF ∧ vs.getD 10 .none = .int text tt ∧ vs[1]? = some (.str q t)
theorem At.codeHd {h : Heap} {c P : Addr} {q : Str} (x : At h c (hdK P q)) (hne : c ≠ P) : CodeHd h c P := by
  obtain ⟨o, ho, vs, file, tf, flags, tg, inF, text, tt, t, a, b, d, e, f, g, i, j, l⟩ := x
  exact ⟨o, vs, file, tf, flags, tg, inF, text, tt, ho, a, b, d, e, f, g, i, j, hne⟩
theorem At.of_codeHd {h : Heap} {c P : Addr} {q : Str} (x : CodeHd h c P) (y : h.CodeRec (.ref c) q) : At h c (hdK P q) := by
  obtain ⟨o, vs, file, tf, flags, tg, inF, text, tt, ho, a, b, d, e, f, g, i, j, hne⟩ := x
  obtain ⟨c', o', vs', t, ec, ho', hd', hv'⟩ := y
  cases ec
  rw [ho] at ho'; cases ho'
  rw [b] at hd'; cases hd'
  exact ⟨o, ho, vs, file, tf, flags, tg, inF, text, tt, t, a, b, d, e, f, g, i, j, hv'⟩
section
variable {prog : Program} {w : World} {A : Around} {env : Env} {fs : List Addr} {s₀ s : Shared} {L : Addr} {m : Str → Option Value} {O : List (Addr × Ky)} {E : Value → Shared → Prop}
/-- the code of a class is made; its place is noted in the table P -/
theorem w_classCode {name qual : Str} {scope : Scope} {c P : Addr} {ps : Array Value} {pos : Pos} {firstLine : Nat} {Q : Value → Shared → Prop}
    (S : St fs s₀ L m ((P, .obj (tabObj ps)) :: O) s) (hcode : env.code = .ref c) (C : CodeHd s.heap c P) (ht : TriplesOk ps.toList) (hnf : codeAmong pos ps.toList = none)
    (k : ∀ c' P' s', St fs s₀ L m ((c', hdK P' qual) :: (P', .obj (tabObj #[])) :: (P, .obj (tabObj (ps ++ #[rawInt pos.line, rawInt pos.col, .ref c']))) :: O) s' → Q (.ref c') s') :
    wpAny (model prog w) A (classCode env pos firstLine name qual scope) Q E s := by
  have hop := (S.get (.head _)).get
  have hlt : ∀ p ∈ (P, Ky.obj (tabObj ps)) :: O, p.1 < s.heap.objs.size := fun p hp => (S.led p hp).lt
  obtain ⟨o, vs, file, tf, flags, tg, inF, text, tt, op, ho, hd, h11, h2, h7, h9, h10, hop', hpd, htr, hne⟩ := C.code hop ht
  rw [hop] at hop'; cases hop'
  unfold classCode codeAt
  rw [hcode, if_neg (show ¬ ((Value.ref c == Value.none) = true) from Bool.false_ne_true)]
  refine wpAny_bind (wpAny_fieldsOf ho hd ?_)
  rw [h11]
  refine wpAny_bind (wpAny_fieldsOf hop rfl ?_)
  rw [hnf, h2, h7, h9, h10]
  refine wpAny_bind (wpAny_newCodeX fun c' P' h' tk hk hc' hP' hcode' htab' hrec' => ?_)
  have S₁ : St fs s₀ L m ((P, .obj (tabObj ps)) :: O) { s with heap := h', toks := tk } := S.kept ⟨h', tk, rfl, hk⟩
  have hne' : c' ≠ P' := by obtain ⟨_, _, _, _, _, _, _, _, _, _, _, _, _, _, _, _, _, _, _, _, z⟩ := hcode'; exact z
  have S₂ : St fs s₀ L m ((P', .obj (tabObj #[])) :: (P, .obj (tabObj ps)) :: O) { s with heap := h', toks := tk } :=
    S₁.more (.of_get htab'.2) (S.new (Heap.get?_none_of_le hP')) (fun z => absurd (z ▸ S.size_le) (Nat.not_lt.mpr hP')) fun p hp z => absurd (z ▸ hlt p hp) (Nat.not_lt.mpr hP')
  have S₃ : St fs s₀ L m ((c', hdK P' qual) :: (P', .obj (tabObj #[])) :: (P, .obj (tabObj ps)) :: O) { s with heap := h', toks := tk } :=
    S₂.more (.of_codeHd (.of hcode' htab') hrec') (S.new (Heap.get?_none_of_le hc')) (fun z => absurd (z ▸ S.size_le) (Nat.not_lt.mpr hc')) fun p hp z => by
      rcases List.mem_cons.mp hp with rfl | hp
      · exact hne' z.symm
      · exact absurd (z ▸ hlt p hp) (Nat.not_lt.mpr hc')
  have hop₁ := hk _ _ hop
  refine wpAny_bind (wpAny_updateFieldsOfTheText hop₁ rfl ?_)
  have hnew : (Obj.mapFields (fun vs => if (codeAmong pos vs.toList).isSome = true then vs else vs ++ #[rawInt pos.line, rawInt pos.col, .ref c']) (tabObj ps)) = tabObj (ps ++ #[rawInt pos.line, rawInt pos.col, .ref c']) := by
    simp only [Obj.mapFields, hnf]; rfl
  have hget := Heap.get?_update_self (h := h') (fun o => Obj.mapFields (fun vs => if (codeAmong pos vs.toList).isSome = true then vs else
    vs ++ #[rawInt pos.line, rawInt pos.col, .ref c']) o) hop₁ (by rw [hnew]; rfl)
  rw [hnew] at hget
  refine wpAny_bind (wpAny_fieldsOf hget rfl ?_)
  have hl : (ps ++ #[rawInt pos.line, rawInt pos.col, Value.ref c']).toList = ps.toList ++ [rawInt pos.line, rawInt pos.col, .ref c'] := by simp
  rw [hl, codeAmong_snoc _ htr hnf]
  refine wpAny_pure (k c' P' _ (S₃.upd 2 (t := tk) rfl (Heap.SameBut.update ..) (.of_get hget)))
end
end Mine
end

section
set_option maxRecDepth 100000
namespace Mine
open PySem PyProof.Rows
open PySem.W (tabObj CodeHd Frag Looks findCls subIn findIn looks_findIn looks_subIn check_slot tga_run CFound handedOut_of)

section
variable {prog : Program} {w : World} {A : Around} {E : Value → Shared → Prop} {s : Shared} {K : Frag} {c mc : Value} {name : Str}
theorem cls_openBy {tk : Tok} {r : CFound} {fill : Bool} {Q : Value → Shared → Prop} {hook : Option Value} (X : K.In s.heap) (ho : Looks (model prog w) s.heap (opaqueClassAbove c) none) (ht : Looks (model prog w) s.heap (typeOf c) mc)
    (hga : findIn K mc "__getattribute__" = some (some (.builtin "type.__getattribute__"))) (hb : Looks (model prog w) s.heap (hookBefore mc) hook) (hi : subIn K mc (.type "type") = some true) (e : findCls K c mc name = some r)
    (h : wpAny (model prog w) A.in1 r.run (fun fin s' => match fin with | .done (.ret v) => wpAny (model prog w) A (handedOut v) Q E s' | _ => False) (fun _ _ => False) s) :
    wpAny (model prog w) A (getAttrBy c (.str name tk) fill) Q E s := by
  unfold getAttrBy
  refine wpAny_holding (wpAny_bind (ht _ _ _ _ (fun _ _ e => e) (wpAny_bind (looks_findIn X hga _ _ _ _ (fun _ _ e => e) ?_))))
  dsimp only
  rw [show (onTheHeap mc && Value.builtin "type.__getattribute__" == Value.builtin "object.__getattribute__") = false from by rw [show (Value.builtin "type.__getattribute__" == Value.builtin "object.__getattribute__") = false from by decide +kernel, Bool.and_false], if_neg (by decide)]
  unfold getAttrByItsOwn
  refine wpAny_bind (hb _ _ _ _ (fun _ _ e => e) (wpAny_bind (wpAny_attempt (wpAny_holding ?_))))
  unfold callGetattribute
  rw [show (false && onTheHeap (Value.builtin "type.__getattribute__")) = false from Bool.false_and _, if_neg (by decide)]
  unfold boundAndCalled
  rw [PySem.W.KF.slot_tga.bind]
  refine wpAny_bind (wpAny_pure ?_)
  show wpAny _ _ (call (.builtin "type.__getattribute__") [c, .str name tk]) _ _ _
  refine wpAny_call ?_
  refine codeAny_call_builtin PySem.W.KF.slot_tga.plain PySem.W.KF.entry_tga ?_
  refine @check_slot (model prog w) _ _ s "type.__getattribute__" "type" "__getattribute__" c [.str name tk] [] _ (by decide +kernel) (by decide +kernel) (ht.andThen (looks_subIn X hi)) (PySem.W.KF.args_tga c (.str name tk)) ?_
  refine tga_run X ho ht e (wpAny_mono h (fun fin s' z => ?_) fun _ _ z => z.elim)
  rcases fin with (_ | _ | _ | _) | _ <;> first | exact z | exact z.elim
end
theorem in_nil (h : Heap) : Frag.In ([] : Frag) h := fun a o e => by cases e
theorem cmd_get : Builtin.«classmethod_descriptor.__get__» ⟨[.builtin "type.__prepare__", .none, .type "type"], []⟩ = (do ret (← newFields "builtin_function_or_method" [.builtin "type.__prepare__", .type "type"])) := by kernel_rfl
theorem kind_cmdg : builtinKind "classmethod_descriptor.__get__" = some .slot := by decide +kernel
theorem fc_prep : findCls [] (.type "type") (.type "type") "__prepare__" = some (.get (.builtin "classmethod_descriptor.__get__") (.builtin "type.__prepare__") .none (.type "type")) := by kernel_rfl
theorem fi_tga : findIn [] (.type "type") "__getattribute__" = some (some (.builtin "type.__getattribute__")) := by kernel_rfl
theorem si_tt : subIn [] (.type "type") (.type "type") = some true := by kernel_rfl
theorem kind_cmdg' : splitId "classmethod_descriptor.__get__" = some ("classmethod_descriptor", "__get__") := by decide +kernel
theorem plain_cmdg : plainId "classmethod_descriptor.__get__" = true := by decide +kernel
theorem entry_cmdg : entryFor table "classmethod_descriptor.__get__" = some Builtin.«classmethod_descriptor.__get__» := entryFor_of_tree (by kernel_rfl)
theorem args_cmdg (a b c : Value) : argsOk "classmethod_descriptor.__get__" ⟨[a, b, c], []⟩ := by unfold argsOk; kernel_rfl
theorem inst_cmdg : isInstance (.builtin "type.__prepare__") (.type "classmethod_descriptor") = pure true := by kernel_rfl
theorem plain_prep : plainId "type.__prepare__" = true := by decide +kernel
theorem entry_prep : entryFor table "type.__prepare__" = some Builtin.«type.__prepare__» := entryFor_of_tree (by kernel_rfl)
theorem bound_prep (a b : Value) : checkBoundCall "type.__prepare__" ⟨[.type "type", a, b], []⟩ = pure () := by kernel_rfl
theorem w_for1 {M : Model} {A : Around} {s : Shared} {E : Value → Shared → Prop} {α β : Type} {x : α} {b : β} {f : α → β → Sem (ForInStep β)} {Q : β → Shared → Prop}
    (h : wpAny M A (f x b) (fun r s' => match r with | .done b' => Q b' s' | .yield b' => Q b' s') E s) : wpAny M A (forIn [x] b f) Q E s := by
  rw [List.forIn_cons]
  refine wpAny_bind (wpAny_mono h (fun r s' h' => ?_) fun _ _ q => q)
  cases r with
  | done b' => exact wpAny_pure h'
  | yield b' => show wpAny M A (forIn [] b' f) Q E s'; rw [List.forIn_nil]; exact wpAny_pure h'
theorem w_t {M : Model} {A : Around} {s : Shared} {E : Value → Shared → Prop} {α : Type} {t e : Sem α} {Q : α → Shared → Prop} (h : wpAny M A t Q E s) : wpAny M A (if true = true then t else e) Q E s := h
theorem w_f {M : Model} {A : Around} {s : Shared} {E : Value → Shared → Prop} {α : Type} {t e : Sem α} {Q : α → Shared → Prop} (h : wpAny M A e Q E s) : wpAny M A (if false = true then t else e) Q E s := h

theorem oca_type : opaqueClassAbove (.type "type") = pure none := by kernel_rfl
theorem tof_type : typeOf (.type "type") = pure (.type "type") := by kernel_rfl
theorem hb_type : hookBefore (.type "type") = pure none := rfl
section
variable {prog : Program} {w : World} {A : Around} {E : Value → Shared → Prop} {s : Shared}
abbrev bfmObj (f self : Value) : Obj := { cls := .type "builtin_function_or_method", data := .fields #[f, self] }
theorem prep_get {Q : Option Value → Shared → Prop} (k : Q (some (.ref s.heap.objs.size)) { s with heap := s.heap.push (bfmObj (.builtin "type.__prepare__") (.type "type")), toks := s.toks + 1 }) : wpAny (model prog w) A (getAttr? (.type "type") "__prepare__") Q E s := by
  unfold getAttr? getAttrBy?
  refine wpAny_bind (wpAny_mkText (wpAny_bind (wpAny_attempt ?_)))
  refine cls_openBy (K := []) (mc := .type "type") (hook := none) (in_nil _) (.of_pure oca_type) (.of_pure tof_type) fi_tga (.of_pure hb_type) si_tt fc_prep ?_
  refine wpAny_bind (wpAny_holding (wpAny_call (codeAny_call_builtin plain_cmdg entry_cmdg ?_)))
  refine @check_slot (model prog w) _ _ { s with toks := s.toks + 1 } "classmethod_descriptor.__get__" "classmethod_descriptor" "__get__" (.builtin "type.__prepare__") [.none, .type "type"] [] _ kind_cmdg kind_cmdg' (Looks.of_pure inst_cmdg) (args_cmdg _ _ _) ?_
  rw [cmd_get]
  refine wpAny_bind (wpAny_newObj_type ?_ (by size_fits))
  refine wpAny_pure (wpAny_pure ?_)
  exact wpAny_pure (wpAny_pure k)
theorem prep_call {p : Addr} {a b : Value} {Q : Value → Shared → Prop} (ho : s.heap.get? p = some (bfmObj (.builtin "type.__prepare__") (.type "type")))
    (k : Q (.ref s.heap.objs.size) { s with heap := s.heap.push { cls := .type "dict", data := .dict #[] } }) : wpAny (model prog w) A (call (.ref p) [a, b] []) Q E s := by
  refine wpAny_call (codeAny_of_tree ?_)
  obtain ⟨hh, g, dr, t, os⟩ := s
  show wpAny _ _ (callAny (.ref p) _) _ _ _
  dsimp only at ho
  refine PySem.W.nd_load ho ?_
  show wpAny _ _ (checkBoundCall "type.__prepare__" ⟨[.type "type", a, b], []⟩ >>= fun _ => again (.builtin "type.__prepare__" ⟨[.type "type", a, b], []⟩)) _ _ _
  rw [bound_prep]
  refine wpAny_bind (wpAny_pure (wpAny_pure ⟨plainId_quiet plain_prep _, ?_⟩))
  refine codeAny_builtin entry_prep ?_
  show wpAny _ _ (newDict >>= fun v => ret v) _ _ _
  refine wpAny_bind (wpAny_newObj_type ?_ (by size_fits))
  exact wpAny_pure k
end
end Mine
end

section
set_option maxRecDepth 100000
namespace Mine
open PySem PyProof.Rows
open PySem.W (tabObj CodeHd)

/-- the frame of a class's body -/
def envB (scope : Scope) (nsA : Addr) (qual : Str) (c' : Addr) (fr : Addr) (clos : List (Str × Addr)) : Env :=
  { scope, locals := nsA, globals := 3, qual := qual ++ ".", code := .ref c', frame := some fr, builtins := 0, cells := clos }

theorem isType_object : isType (.type "object") = pure true := by kernel_rfl
theorem typeOf_object : typeOf (.type "object") = pure (.type "type") := by kernel_rfl
theorem isType_type : isType (.type "type") = pure true := by kernel_rfl
theorem sub_type_type : isSubtype (.type "type") (.type "type") = pure true := by kernel_rfl

section
variable {prog : Program} {w : World} {A : Around} {env : Env} {fs : List Addr} {s₀ s : Shared} {L : Addr} {m : Str → Option Value} {O : List (Addr × Ky)} {E : Value → Shared → Prop}
theorem w_tupL {vs : List Value} {Q : Value → Shared → Prop} (S : St fs s₀ L m O s) (hz : vs.length ≤ 1000) (k : ∀ D s', St fs s₀ L m ((D, tupK vs) :: O) s' → Q (.ref D) s') : wpAny (model prog w) A (newTuple vs) Q E s :=
  wpAny_newObj_type (k _ _ (S.push (k := tupK vs) ⟨rfl, rfl, 0, rfl⟩)) (by show vs.toArray.size ≤ sizeLine; rw [List.size_toArray, sizeLine_eq]; (first | lia | omega))
theorem w_textL {n : Str} {Q : Value → Shared → Prop} (S : St fs s₀ L m O s) (k : ∀ t s', St fs s₀ L m O s' → Q (.str n t) s') : wpAny (model prog w) A (mkText n) Q E s := wpAny_mkText (k _ _ (S.tok _))
theorem w_prep {Q : Option Value → Shared → Prop} (S : St fs s₀ L m O s) (k : ∀ p s', St fs s₀ L m ((p, .obj (bfmObj (.builtin "type.__prepare__") (.type "type"))) :: O) s' → Q (some (.ref p)) s') : wpAny (model prog w) A (getAttr? (.type "type") "__prepare__") Q E s :=
  prep_get (k _ _ ((S.tok (s.toks + 1)).push (k := .obj _) rfl))
theorem w_prepCall {p : Addr} {a b : Value} {Q : Value → Shared → Prop} (S : St fs s₀ L m ((p, .obj (bfmObj (.builtin "type.__prepare__") (.type "type"))) :: O) s) (k : ∀ D s', St fs s₀ L m ((D, nsK []) :: O) s' → Q (.ref D) s') : wpAny (model prog w) A (call (.ref p) [a, b] []) Q E s :=
  prep_call (S.get (.head _)).get (k _ _ ((S.push (o := { cls := .type "dict", data := .dict #[] }) (k := nsK []) ⟨rfl, rfl, rfl, _, _, rfl, .nil⟩).sub (by simp)))
theorem special_dict {D : Addr} {l : List (Str × Value)} {Q : Option Value → Shared → Prop} (x : At s.heap D (nsK l)) (k : Q (some (.builtin "dict.__getitem__")) s) : wpAny (model prog w) A (specialOf (.ref D) "__getitem__") Q E s := by
  obtain ⟨o, ho, hc, _⟩ := x
  exact wpAny_specialOf (T := "dict") ⟨o, ho, hc⟩ F.slot_dict_getitem.lookup k
theorem cs_name {N : Addr} {l : List (Str × Value)} {Q : Value → Shared → Prop} {mg mb : Str → Option Value} {bm : Addr} {ob : Obj} {tn : Tok} (x : At s.heap N (nsK l)) (hl : l.lookup ("__name__" : Str) = none) (hN : env.locals = N) (hg : env.globals = 3) (hk : env.scope.kind = .class) (hn : env.kindOf "__name__" = none) (K : GlbF s.heap mg mb bm ob tn)
    (k : Q (.str "law_nq0035_01" tn) s) : wpAny (model prog w) A (loadName env "__name__") Q E s := by
  unfold loadName
  have hb : env.blockKind = .class := by unfold Env.blockKind; rw [hk]; rfl
  rw [hk, hb, hn]
  simp only [ScopeKind.isAnnotationScope, Bool.false_and, Bool.false_eq_true, if_false]
  have hc : compilersOwnNames.contains ("__name__" : Str) = true := by decide
  rw [hc]
  simp only [Bool.not_true, Bool.false_eq_true, if_false]
  obtain ⟨o, ho, hcl, _⟩ := id x
  have hlg : wpAny (model prog w) A (localGet env "__name__") (fun r s' => r = none ∧ s' = s) E s := by
    unfold localGet
    rw [hN]
    refine wpAny_bind (wpAny_load ho ?_)
    rw [hcl, if_pos (by simp)]
    refine wn_get x ?_
    rw [hl]
    exact And.intro rfl rfl
  refine wpAny_bind (wpAny_mono hlg (fun r s' hr => ?_) fun _ _ e => e)
  obtain ⟨rfl, rfl⟩ := hr
  unfold loadGlobal
  rw [hg]
  refine wpAny_bind (wpAny_nsGet K.g ?_)
  rw [K.nm]
  exact wpAny_pure k
theorem bc_open {name qual : Str} {body : List Stmt} {scope : Scope} {statics : List Str} {fl : Nat} {pos : Pos} {c P : Addr} {ps : Array Value} {clos : List (Str × Addr)} {Q : Value → Shared → Prop}
    (S : St fs s₀ L m ((P, .obj (tabObj ps)) :: O) s) (hcode : env.code = .ref c) (C : CodeHd s₀.heap c P) (ht : TriplesOk ps.toList) (hnf : codeAmong pos ps.toList = none) (hge : env.globals = 3) (hbe : env.builtins = 0) (G : Glb s₀.heap) (hlim : s₀.heap.NoLimit) (hroom : A.depth < recursionLimit)
    (hcl : closureFor scope env = pure clos) (hk : scope.kind = .class) (hc1 : (scope.names.lookup ("__class__" : Str) == some NameKind.cell) = false) (hc2 : (scope.names.lookup ("__classdict__" : Str) == some NameKind.cell) = false)
    (hn1 : scope.names.lookup ("__name__" : Str) = none) (hn2 : scope.names.lookup ("__module__" : Str) = some .local) (hn3 : scope.names.lookup ("__qualname__" : Str) = none) (hn4 : scope.names.lookup ("__firstlineno__" : Str) = none) (hsm : ∃ o, s₀.heap.get? 1 = some o)
    (k : ∀ gT nsA c' P' fr tm tq tl tn s', St fs s₀ L m ((nsA, nsK [("__module__", .str "law_nq0035_01" tm), ("__qualname__", .str qual tq), ("__firstlineno__", .int fl tl)]) :: (fr, .pred fun _ => True) :: (c', hdK P' qual) :: (P', .obj (tabObj #[])) ::
        (P, .obj (tabObj (ps ++ #[rawInt pos.line, rawInt pos.col, .ref c']))) :: (gT, tupK [.type "object"]) :: O) s' →
      wpAny (model prog w) A (run (.body body (envB scope nsA qual c' fr clos))) (fun _ s'' => wpAny (model prog w) A (statics.mapM mkText) (fun vs s₃ => wpAny (model prog w) A (newTextTuple vs) (fun v s₄ => wpAny (model prog w) A (storeName (envB scope nsA qual c' fr clos) "__static_attributes__" v)
          (fun _ s₅ => wpAny (model prog w) A (call (.type "type") [.str name tn, .ref gT, .ref nsA] []) Q E s₅) (fun _ _ => False) s₄) (fun _ _ => False) s₃) (fun _ _ => False) s'') E s') :
    wpAny (model prog w) A (buildClass name qual [.type "object"] [] body scope statics fl env pos none) Q E s := by
  unfold buildClass
  refine wpAny_bind (w_tupL S (by decide) fun gT s₁ S => ?_)
  refine wpAny_bind (w_for1 (wpAny_bind (wpAny_of_eq isType_object (w_t ?_))))
  try wp_delta
  refine wpAny_ite_false (by decide) (wpAny_pure ?_)
  try wp_delta
  refine wpAny_bind (wpAny_of_eq typeOf_object ?_)
  refine wpAny_bind (wpAny_of_eq isType_type ?_)
  try wp_delta
  refine w_t ?_
  refine wpAny_bind (w_for1 (wpAny_bind (wpAny_of_eq typeOf_object (wpAny_bind (wpAny_of_eq sub_type_type (w_t (wpAny_pure ?_)))))))
  try wp_delta
  refine wpAny_bind (w_textL S fun tn s₂ S => ?_)
  try wp_delta
  refine w_f (wpAny_bind (wpAny_pure (wpAny_holding ?_)))
  refine wpAny_bind (w_prep S fun p s₃ S => ?_)
  try wp_delta
  refine wpAny_bind (w_prepCall S fun nsA s₄ S => ?_)
  try wp_delta
  have hn1' : nsA ≠ 1 := fun z => by
    have := (S.fresh _ (.head _)).1
    obtain ⟨o, ho⟩ := hsm
    simp only [z, ho] at this
    cases this
  have hnt : notTheModulesDict "class:the-namespace-that-__prepare__-gave" nsA = pure () := by
    unfold notTheModulesDict
    rw [if_neg (by simpa [sysModules] using hn1')]
  refine wpAny_bind (wpAny_of_eq hnt ?_)
  refine wpAny_bind (special_dict (S.led _ (.head _)) ?_)
  try wp_delta
  refine w_f (wpAny_holding ?_)
  try wp_delta
  rw [hc1]
  refine w_f (wpAny_bind (wpAny_pure ?_))
  try wp_delta
  rw [hc2]
  refine w_f (wpAny_bind (wpAny_pure ?_))
  try wp_delta
  have S := S.front 2 rfl
  refine wpAny_bind (w_classCode S hcode (CodeHd.upto S.upto C) ht hnf fun c' P' s₅ S => ?_)
  rw [hge]
  obtain ⟨mg, mb, bm, ob, tg, K⟩ := S.upto.glb G
  refine wpAny_bind (wpAny_builtinsFor K.g K.bi K.b0 K.og K.oc K.od K.op ?_)
  refine wpAny_bind ?_
  unfold newBodyFrame
  refine wpAny_bind (wpAny_nsGet K.g ?_)
  refine wpAny_alloc ?_
  have S := S.push (o := { cls := .type "frame", slots := #[some (Value.ref c'), some (.ref 3), some (.ref nsA), none, some ((mg "__name__").getD .none), none, some (.ref builtinsNs)] }) (k := .pred fun _ => True) trivial
  generalize s₅.heap.objs.size = fr at S ⊢
  generalize hs6 : ({ s₅ with heap := _ } : Shared) = s₆ at S ⊢
  clear hs6
  rw [hcl]
  refine wpAny_bind (wpAny_pure (wpAny_holding (wpAny_bind (wpAny_enterFrame (S.upto.noLimit hlim) hroom ?_))))
  have S := S.front 4 rfl
  obtain ⟨mg', mb', bm', ob', tg', K'⟩ := S.upto.glb G
  refine wpAny_bind (wpAny_onRaise (wpAny_bind ?_))
  refine cs_name (N := nsA) (S.led _ (.head _)) rfl rfl rfl hk hn1 K' ?_
  refine wpAny_bind (cs_store 0 S rfl (fun s₇ S => ?_) rfl hk (.inl hn2))
  refine wpAny_bind (w_textL S fun tq s₈ S => ?_)
  refine wpAny_bind (cs_store 0 S rfl (fun s₉ S => ?_) rfl hk (.inr ⟨hn3, by decide⟩))
  refine wpAny_bind (wpAny_mkInt ?_)
  have S := S.tok (s₉.toks + 1)
  refine wpAny_bind (cs_store 0 S rfl (fun s₁₀ S => ?_) rfl hk (.inr ⟨hn4, by decide⟩))
  refine wpAny_pure ?_
  refine wpAny_bind (wpAny_mono (k gT nsA c' P' fr _ _ _ tn s₁₀ S) (fun f s' h => ?_) fun _ _ e => e)
  refine wpAny_bind (wpAny_onRaise (wpAny_bind (wpAny_mono h (fun vs s₃ h => wpAny_bind (wpAny_mono h (fun v s₄ h => wpAny_bind (wpAny_mono h (fun _ s₅ h => ?_) fun _ _ e => e.elim)) fun _ _ e => e.elim)) fun _ _ e => e.elim)))
  refine wpAny_pure ?_
  try wp_delta
  refine w_f ?_
  try wp_delta
  refine wpAny_bind (wpAny_mono h (fun v s₆ h => ?_) fun _ _ e => e)
  exact wpAny_pure h
end
end Mine
end

section
set_option maxRecDepth 100000
namespace Mine
open PySem PyProof.Rows
open PySem.W (tabObj CodeHd fnMade)

/-- the class statement within cmp_to_key, and its parts -/
def cBody : List Stmt := match subStm 12 0 with | .ClassDef _ _ _ body .. => body | _ => []
def cScope : Scope := match subStm 12 0 with | .ClassDef _ _ _ _ _ _ sc .. => sc | _ => default
def cStm (j : Nat) : Stmt := (cBody[j]? : Option Stmt).getD (.Pass default)

section
variable {prog : Program} {w : World} {A : Around} {env : Env} {fs : List Addr} {s₀ s : Shared} {L : Addr} {m : Str → Option Value} {O : List (Addr × Ky)} {E : Value → Shared → Prop}
theorem w_listL {vs : List Value} {Q : Value → Shared → Prop} (S : St fs s₀ L m O s) (hz : vs.length ≤ 1000) (k : ∀ D s', St fs s₀ L m ((D, .list vs) :: O) s' → Q (.ref D) s') : wpAny (model prog w) A (newList vs) Q E s :=
  wpAny_newObj_type (k _ _ (S.push (k := .list vs) ⟨rfl, rfl, 0, rfl⟩)) (by show vs.toArray.size ≤ sizeLine; rw [List.size_toArray, sizeLine_eq]; omega)

theorem St.drop (S : St fs s₀ L m O s) (i : Nat) : St fs s₀ L m (O.eraseIdx i) s := S.sub (List.eraseIdx_sublist ..)
/-- a method of the class -/
theorem cb_def {nsA P' c' : Addr} {q name : Str} {l : List (Str × Value)} {params : Arguments} {body : List Stmt} {scope : Scope} {ps : Array Value} {pos : Pos} {clos : List (Str × Addr)} {Q : Flow → Shared → Prop}
    (S : St fs s₀ L m ((nsA, nsK l) :: (P', .obj (tabObj ps)) :: (c', hdK P' q) :: O) s) (G : Glb s₀.heap)
    (k : ∀ f cc ctv doc pm s', St fs s₀ L m ((nsA, nsK (putL l name (.ref f))) :: (P', .obj (tabObj (ps ++ #[rawInt pos.line, rawInt pos.col, .ref cc]))) :: (c', hdK P' q) :: (f, .obj (fnMade name (qualnameIn env name name) params body scope clos doc pm cc ctv)) :: (cc, codeK (qualnameIn env name name)) :: O) s' → Q .next s')
    (ht : TriplesOk ps.toList = True) (hnf : codeAmong pos ps.toList = none) (hcl : closureFor scope env = pure clos) (hge : env.globals = 3) (hcode : env.code = .ref c') (hN : env.locals = nsA) (hk : env.scope.kind = .class) (hl : env.kindOf name = some .local)
    (hd0 : params.defaults = []) (hk0 : params.kw_defaults = []) (ha : annTrees params none env = []) :
    wpAny (model prog w) A (exec (.FunctionDef name params body [] none [] scope none name pos) env) Q E s := by
  have hne := S.ne 2 1 rfl rfl
  have C := (S.nth 2 rfl).codeHd hne
  have S := S.front 1 rfl
  refine PySem.W.nestDef_K hd0 hk0 ha (w_fn S hcl hge (S.upto.glb G) hcode C (of_eq_true ht) hnf fun f cc ctv doc pm s' S => ?_)
  refine cs_store 3 S rfl (fun s'' S => ?_) hN hk (.inl hl)
  exact k f cc ctv doc pm s'' (((S.front 4 rfl).front 3 rfl).front 4 rfl)

/-- the names of the class behind its body -/
def cNames (q : Str) (fl : Int) (tm tq tl : Tok) (sl f₁ f₂ f₃ f₄ f₅ f₆ : Addr) : List (Str × Value) := [("__module__", .str "cpy313.functools" tm), ("__qualname__", .str q tq), ("__firstlineno__", .int fl tl), ("__slots__", .ref sl), ("__init__", .ref f₁), ("__lt__", .ref f₂), ("__gt__", .ref f₃),
  ("__eq__", .ref f₄), ("__le__", .ref f₅), ("__ge__", .ref f₆), ("__hash__", .none)]
/-- a method's function and code, in the ledger -/
def mK (q : Str) (mc : Addr) (j : Nat) (f c : Addr) (doc pm ct : Value) : List (Addr × Ky) :=
  [(f, .obj (fnMade (nameOf (cStm j)) (q ++ "." ++ nameOf (cStm j)) (parsOf (cStm j)) (bodyOf (cStm j)) (scopeOf (cStm j)) (if j = 2 then [] else [("mycmp", mc)]) doc pm c ct)), (c, codeK (q ++ "." ++ nameOf (cStm j)))]

set_option maxHeartbeats 2000000 in
theorem cb_ok {q : Str} {nsA fr c' P' mc : Addr} {tm tq tl : Tok} {fl : Int} {Q : Flow → Shared → Prop}
    (S : St fs s₀ L m ((nsA, nsK [("__module__", .str "law_nq0035_01" tm), ("__qualname__", .str q tq), ("__firstlineno__", .int fl tl)]) :: (fr, .pred fun _ => True) :: (c', hdK P' q) :: (P', .obj (tabObj #[])) :: O) s) (G : Glb s₀.heap)
    (k : ∀ tm sl ts f₁ c₁ d₁ p₁ t₁ f₂ c₂ d₂ p₂ t₂ f₃ c₃ d₃ p₃ t₃ f₄ c₄ d₄ p₄ t₄ f₅ c₅ d₅ p₅ t₅ f₆ c₆ d₆ p₆ t₆ s', St fs s₀ L m ((nsA, nsK (cNames q fl tm tq tl sl f₁ f₂ f₃ f₄ f₅ f₆)) :: (mK q mc 7 f₆ c₆ d₆ p₆ t₆ ++ mK q mc 6 f₅ c₅ d₅ p₅ t₅ ++ mK q mc 5 f₄ c₄ d₄ p₄ t₄ ++
      mK q mc 4 f₃ c₃ d₃ p₃ t₃ ++ mK q mc 3 f₂ c₂ d₂ p₂ t₂ ++ mK q mc 2 f₁ c₁ d₁ p₁ t₁ ++ (sl, .list [.str "obj" ts]) :: O)) s' → Q .next s') :
    wpAny (model prog w) A (run (.body cBody (envB cScope nsA q c' fr [("mycmp", mc)]))) Q E s := by
  refine wpAny_run (codeAny_body rfl rfl ?_)
  have S := ((S.drop 1).front 2 rfl).front 1 rfl
  refine wpAny_execs_cons (wpAny_Assign_Name (wpAny_Constant_str (cs_store 0 (S.tok _) rfl (fun s₁ S => ?_) rfl rfl (.inl rfl))))
  refine wpAny_execs_cons (wpAny_Assign_Name (List_ (Calls.spliced_cons (wpAny_Constant_str (k := 0) (pos := default) (Calls.spliced_nil (w_listL (S.tok _) (by simp) fun sl s₂ S => cs_store 1 S rfl (fun s₃ S => ?_) rfl rfl (.inl rfl)))))))
  have S := ((S.front 3 rfl).front 3 rfl).front 3 rfl
  refine wpAny_execs_cons (cb_def S G (fun f₁ c₁ t₁ d₁ p₁ s₄ S => ?_) (by kernel_rfl) (by kernel_rfl) rfl rfl rfl rfl rfl rfl rfl rfl rfl)
  refine wpAny_execs_cons (cb_def S G (fun f₂ c₂ t₂ d₂ p₂ s₅ S => ?_) (by kernel_rfl) (by kernel_rfl) rfl rfl rfl rfl rfl rfl rfl rfl rfl)
  refine wpAny_execs_cons (cb_def S G (fun f₃ c₃ t₃ d₃ p₃ s₆ S => ?_) (by kernel_rfl) (by kernel_rfl) rfl rfl rfl rfl rfl rfl rfl rfl rfl)
  refine wpAny_execs_cons (cb_def S G (fun f₄ c₄ t₄ d₄ p₄ s₇ S => ?_) (by kernel_rfl) (by kernel_rfl) rfl rfl rfl rfl rfl rfl rfl rfl rfl)
  refine wpAny_execs_cons (cb_def S G (fun f₅ c₅ t₅ d₅ p₅ s₈ S => ?_) (by kernel_rfl) (by kernel_rfl) rfl rfl rfl rfl rfl rfl rfl rfl rfl)
  refine wpAny_execs_cons (cb_def S G (fun f₆ c₆ t₆ d₆ p₆ s₉ S => ?_) (by kernel_rfl) (by kernel_rfl) rfl rfl rfl rfl rfl rfl rfl rfl rfl)
  refine wpAny_execs_cons (wpAny_Assign_Name (wpAny_Constant_none (cs_store 0 S rfl (fun s₁₀ S => ?_) rfl rfl (.inl rfl))))
  refine wpAny_execs_nil ?_
  refine k _ _ _ _ _ _ _ _ _ _ _ _ _ _ _ _ _ _ _ _ _ _ _ _ _ _ _ _ _ _ _ _ _ _ ((S.drop 1).drop 1)
end
end Mine
end

section
set_option maxRecDepth 100000
namespace Mine
open PySem PyProof.Rows
open PySem.W (tabObj CodeHd fnMade Looks)
theorem bb_object : Builtin.Slots.bestBase [.type "object"] = pure (.type "object") := by kernel_rfl
theorem sn_object : Builtin.Slots.slotNamesOf (.type "object") = pure [] := by kernel_rfl
theorem gd_object : Builtin.Slots.givesDict (.type "object") = pure false := by kernel_rfl
theorem gw_object : Builtin.Slots.givesWeak (.type "object") = pure false := by kernel_rfl
theorem vs_object : Builtin.Slots.varSize (.type "object") = pure false := by kernel_rfl
section
variable {prog : Program} {w : World} {A : Around} {env : Env} {fs : List Addr} {s₀ s : Shared} {L : Addr} {m : Str → Option Value} {O : List (Addr × Ky)} {E : Value → Shared → Prop}
theorem read_ok {sl : Addr} {ts : Tok} {l : List (Str × Value)} {es : Array DictEntry} {Q : Builtin.Slots.Plan → Shared → Prop} (he : Ents es.toList l) (hl : l.lookup ("__slots__" : Str) = some (.ref sl)) (hx : At s.heap sl (.list [.str "obj" ts])) (hno : l.lookup ("obj" : Str) = none) (k : ∀ s', Keeps s s' → Q { names := ["obj"], dict := false, weak := false, inherited := [] } s') :
    wpAny (model prog w) A (Builtin.Slots.read "K" [.type "object"] es) Q E s := by
  unfold Builtin.Slots.read
  refine wpAny_bind (wpAny_of_eq bb_object (wpAny_bind (wpAny_of_eq sn_object (wpAny_bind (wpAny_of_eq gd_object (wpAny_bind (wpAny_of_eq gw_object (wpAny_bind (wpAny_of_eq vs_object ?_)))))))))
  try wp_delta
  have hf := he.find "__slots__"
  rw [Array.find?_toList, hl] at hf
  obtain ⟨e, he1, he2⟩ := Option.map_eq_some_iff.mp hf
  rw [he1]
  try wp_delta
  refine wpAny_bind (wpAny_rule ?_)
  rw [he2]
  obtain ⟨o, ho, hc, hd, n, hdt⟩ := id hx
  refine wpAny_bind ?_
  unfold asStr?
  refine wpAny_bind (wpAny_load ho ?_)
  rw [hdt]
  refine wpAny_pure ?_
  try wp_delta
  refine w_f ?_
  try wp_delta
  refine wpAny_bind (wpAny_collect_seq sl (.inl rfl) ho hc hdt (fun h' hk => ?_) (by simp [sizeLine_eq]))
  try wp_delta
  refine w_t ?_
  try wp_delta
  refine wpAny_bind (wpAny_of_eq vs_object ?_)
  try wp_delta
  refine w_f ?_
  try wp_delta
  refine wpAny_bind (w_for1 ?_)
  try wp_delta
  refine wpAny_of_eq (a := ForInStep.yield (false, false, #[("obj" : Str)], [])) (by kernel_rfl) ?_
  try wp_delta
  rw [← Array.forIn_toList]
  refine wpAny_bind (w_for1 ?_)
  try wp_delta
  have hmg : Builtin.Slots.mangle "K" "obj" = "obj" := by kernel_rfl
  rw [hmg]
  refine wpAny_ite_false (by decide +kernel) ?_
  try wp_delta
  have hany : (es.any fun x => x.key.isStr ("obj" : Str)) = false := by
    have := he.find "obj"
    rw [hno, Option.map_eq_none_iff, List.find?_eq_none] at this
    rw [← Array.any_toList]
    exact List.any_eq_false.mpr this
  rw [hany]
  refine wpAny_ite_false (by decide) ?_
  try wp_delta
  refine wpAny_ite_false (by decide) ?_
  try wp_delta
  refine wpAny_pure ?_
  try wp_delta
  refine wpAny_bind (w_for1 ?_)
  try wp_delta
  refine wpAny_ite_false (by decide) (wpAny_pure ?_)
  exact wpAny_pure (k _ ⟨h', s.toks, rfl, hk⟩)
end
end Mine
end

section
set_option maxRecDepth 100000
namespace Mine
open PySem PyProof.Rows
open PySem.W (tabObj CodeHd fnMade Looks)

theorem nt_object : Builtin.notOverATurnedClass [.type "object"] = pure () := by kernel_rfl
theorem eb_object : Builtin.extendedBase [.type "object"] = pure (.type "object") := by kernel_rfl
theorem sub_tuple : isSubtype (.type "tuple") (.type "tuple") = pure true := by kernel_rfl
theorem sub_dict : isSubtype (.type "dict") (.type "dict") = pure true := by kernel_rfl
theorem special_dict_iter {M : Model} {A : Around} {s : Shared} {E : Value → Shared → Prop} {D : Addr} {l : List (Str × Value)} {Q : Option Value → Shared → Prop} (x : At s.heap D (nsK l)) (k : Q (some (.builtin "dict.__iter__")) s) : wpAny M A (specialOf (.ref D) "__iter__") Q E s := by
  obtain ⟨o, ho, hc, _⟩ := x
  exact wpAny_specialOf (T := "dict") ⟨o, ho, hc⟩ (by rw [typeLookup_type, builtinLookup_eq_fast]; kernel_rfl) k
theorem wn_entries {M : Model} {A : Around} {s : Shared} {E : Value → Shared → Prop} {D : Addr} {l : List (Str × Value)} {Q : Array DictEntry → Shared → Prop} (x : At s.heap D (nsK l)) (k : ∀ es, Ents es.toList l → Q es s) : wpAny M A (dictEntries D) Q E s := by
  obtain ⟨o, ho, hc, hd, hs, es, n, hdt, he⟩ := x
  unfold dictEntries
  refine wpAny_bind (wpAny_load ho ?_)
  rw [hdt]
  exact wpAny_pure (k es he)

theorem Ents.any {es : Array DictEntry} {l : List (Str × Value)} (he : Ents es.toList l) (name : Str) : (es.any fun x => x.key.isStr name) = (l.lookup name).isSome := by
  rw [← he.find name, ← Array.any_toList]
  cases q : es.toList.find? (·.key.isStr name) with
  | none => exact List.any_eq_false.mpr (List.find?_eq_none.mp q)
  | some e => exact List.any_eq_true.mpr ⟨e, List.mem_of_find?_eq_some q, List.find?_some (p := fun x : DictEntry => x.key.isStr name) q⟩

section
variable {prog : Program} {w : World} {A : Around} {env : Env} {fs : List Addr} {s₀ s : Shared} {L : Addr} {m : Str → Option Value} {O : List (Addr × Ky)} {E : Value → Shared → Prop}
abbrev clsO (cd : ClassData) (sl : Array (Option Value)) : Obj := { cls := .type "type", data := .cls cd, slots := sl }
theorem w_setSlot {a : Addr} {cd : ClassData} {sl : Array (Option Value)} {j : Nat} {v : Option Value} {Q : Unit → Shared → Prop} (S : St fs s₀ L m ((a, .obj (clsO cd sl)) :: O) s) (hj : j < 1000)
    (k : ∀ s', St fs s₀ L m ((a, .obj (clsO cd ((sl ++ Array.replicate (j + 1 - sl.size) none).setIfInBounds j v))) :: O) s' → Q () s') : wpAny (model prog w) A (setSlotAt a j v) Q E s := by
  unfold setSlotAt
  rw [if_neg (by rw [sizeLine_eq]; (first | lia | omega))]
  refine wpAny_updatePart (S.nth 0 rfl).get ?_
  exact k _ (S.upd 0 (t := s.toks) rfl (Heap.SameBut.update ..) (.of_get (Heap.get?_update_self _ (S.nth 0 rfl).get rfl)))
theorem w_allocL {o : Obj} {Q : Addr → Shared → Prop} (S : St fs s₀ L m O s) (hf : o.isFreed = false) (k : ∀ a s', St fs s₀ L m ((a, .obj o) :: O) s' → Q a s') : wpAny (model prog w) A (alloc o) Q E s := wpAny_alloc (k _ _ (S.push (k := .obj o) rfl hf))
theorem w_updCls {a : Addr} {cd : ClassData} {sl : Array (Option Value)} {f : ClassData → ClassData} {Q : Unit → Shared → Prop} (S : St fs s₀ L m ((a, .obj (clsO cd sl)) :: O) s) (hp : (Data.cls (f cd)).pastItsLine = none)
    (k : ∀ s', St fs s₀ L m ((a, .obj (clsO (f cd) sl)) :: O) s' → Q () s') : wpAny (model prog w) A (updateCls a f) Q E s := by
  unfold updateCls
  refine wpAny_bind (wpAny_load (S.nth 0 rfl).get ?_)
  refine wpAny_bind (wpAny_update (S.nth 0 rfl).get ?_)
  have hg := Heap.get?_update_self (h := s.heap) (Obj.mapCls f) (S.nth 0 rfl).get rfl
  refine wpAny_lookBehind hg hp ?_
  exact k _ (S.upd 0 (t := s.toks) rfl (Heap.SameBut.update ..) (.of_get hg))
theorem mh_type : Builtin.mroHook? (.type "type") = pure none := by kernel_rfl
theorem lin_object : Builtin.linearize [.type "object"] mroOf = pure [.type "object"] := by kernel_rfl
theorem mb_object : Bind.madeBy (.type "object") = pure (some "object.__new__") := by kernel_rfl
/-- the names of the class as type.__new__ finds them, and as it leaves them -/
def kNames (q : Str) (fl : Int) (tm tq tl : Tok) (sl f₁ f₂ f₃ f₄ f₅ f₆ sa : Addr) : List (Str × Value) := [("__module__", .str "cpy313.functools" tm), ("__qualname__", .str q tq), ("__firstlineno__", .int fl tl), ("__slots__", .ref sl), ("__init__", .ref f₁), ("__lt__", .ref f₂), ("__gt__", .ref f₃),
  ("__eq__", .ref f₄), ("__le__", .ref f₅), ("__ge__", .ref f₆), ("__hash__", .none), ("__static_attributes__", .ref sa)]
def kNames1 (fl : Int) (tm tl : Tok) (sl f₁ f₂ f₃ f₄ f₅ f₆ sa : Addr) : List (Str × Value) := [("__module__", .str "cpy313.functools" tm), ("__firstlineno__", .int fl tl), ("__slots__", .ref sl), ("__init__", .ref f₁), ("__lt__", .ref f₂), ("__gt__", .ref f₃),
  ("__eq__", .ref f₄), ("__le__", .ref f₅), ("__ge__", .ref f₆), ("__hash__", .none), ("__static_attributes__", .ref sa)]
theorem w_nsDel {a : Addr} {l l' : List (Str × Value)} {name : Str} {v : Value} {Q : Bool → Shared → Prop} (S : St fs s₀ L m ((a, nsK l) :: O) s) (hl : l.lookup name = some v) (he : l.eraseP (fun p => name == p.1) = l')
    (k : ∀ s', St fs s₀ L m ((a, nsK l') :: O) s' → Q true s') : wpAny (model prog w) A (nsDel a name) Q E s := by
  subst he
  exact wn_del (S.nth 0 rfl) hl fun h' hs hk => k _ (S.upd 0 (t := s.toks) rfl hs hk)
theorem w_nsSet {a : Addr} {l l' : List (Str × Value)} {name : Str} {v : Value} {Q : Unit → Shared → Prop} (S : St fs s₀ L m ((a, nsK l) :: O) s) (he : putL l name v = l')
    (k : ∀ s', St fs s₀ L m ((a, nsK l') :: O) s' → Q () s') : wpAny (model prog w) A (nsSet a name v) Q E s := by
  subst he
  exact wn_set (S.nth 0 rfl) fun h' tk hs hk => k _ (S.upd 0 (t := tk) rfl hs hk)
theorem w_nsSetV {a : Addr} {l l' : List (Str × Value)} {name : Str} {v : Value} {Q : Unit → Shared → Prop} (S : St fs s₀ L m ((a, nsK l) :: O) s) (hz : l.length ≤ 1000) (he : putL l name v = l')
    (k : ∀ s', St fs s₀ L m ((a, nsK l') :: O) s' → Q () s') : wpAny (model prog w) A (nsSetByValue a name v) Q E s := by
  subst he
  exact wn_setV (S.nth 0 rfl) hz fun h' tk hs hk => k _ (S.upd 0 (t := tk) rfl hs hk)
theorem w_slot {a : Addr} {cd : ClassData} {sl sl' : Array (Option Value)} {j : Nat} {v : Option Value} {Q : Unit → Shared → Prop} (S : St fs s₀ L m ((a, .obj (clsO cd sl)) :: O) s) (hj : j < 1000) (he : (sl ++ Array.replicate (j + 1 - sl.size) none).setIfInBounds j v = sl')
    (k : ∀ s', St fs s₀ L m ((a, .obj (clsO cd sl')) :: O) s' → Q () s') : wpAny (model prog w) A (setSlotAt a j v) Q E s := by
  subst he
  exact w_setSlot S hj k
end
theorem looks_ns {M : Model} {h : Heap} {a : Addr} {l : List (Str × Value)} {name : Str} (x : At h a (nsK l)) : Looks M h (nsGet a name) (l.lookup name) := fun A Q E s k q => wn_get (x.keeps fun o e => k _ _ e) q
/-- a look-up in the class K -/
theorem looks_K {M : Model} {h : Heap} {a ns : Addr} {l : List (Str × Value)} {cd : ClassData} {sl : Array (Option Value)} {name : Str} {r : Option Value} (x : h.get? a = some (clsO cd sl)) (y : At h ns (nsK l)) (hm : cd.mro = [.ref a, .type "object"]) (hn : cd.ns = ns)
    (hr : (match l.lookup name with | some v => some v | none => fastBuiltinOwn "object" name) = r) : Looks M h (typeLookup (.ref a) name) r := by
  intro A Q E s k q
  show wpAny M A (mroOf (.ref a) >>= fun l => lookupAlong l name) Q E s
  refine wpAny_bind ?_
  show wpAny M A (classData a >>= fun c => pure c.mro) _ E s
  refine wpAny_bind (wpAny_bind (wpAny_load (k _ _ x) (wpAny_pure (wpAny_pure ?_))))
  rw [hm, lookupAlong_cons]
  refine wpAny_bind ?_
  show wpAny M A (classData a >>= fun c => nsGet c.ns name) _ E s
  refine wpAny_bind (wpAny_bind (wpAny_load (k _ _ x) (wpAny_pure ?_)))
  rw [hn]
  refine looks_ns y _ _ _ _ k ?_
  cases q' : l.lookup name with
  | some v => rw [q'] at hr; subst hr; exact wpAny_pure q
  | none =>
    rw [q'] at hr
    simp only at hr
    rw [lookupAlong_cons]
    refine wpAny_bind ?_
    show wpAny M A (pure (builtinOwn "object" name)) _ E s
    rw [builtinOwn_eq_fast, hr]
    refine wpAny_pure ?_
    cases r with
    | some v => exact wpAny_pure q
    | none => exact wpAny_pure q
theorem w_slotAt {M : Model} {A : Around} {s : Shared} {E : Value → Shared → Prop} {a : Addr} {o : Obj} {i : Nat} {v : Option Value} {Q : Option Value → Shared → Prop} (x : s.heap.get? a = some o) (hv : (o.slots[i]?).join = v) (k : Q v s) : wpAny M A (slotAt a i) Q E s := by
  unfold slotAt
  refine wpAny_bind (wpAny_loadPart x (wpAny_pure ?_))
  rw [hv]; exact k
theorem refresh_ok {M : Model} {A : Around} {s : Shared} {E : Value → Shared → Prop} {a : Addr} {o : Obj} {Q : Unit → Shared → Prop} (x : s.heap.get? a = some o) (h4 : (o.slots[4]?).join = some (.builtin "object.__new__"))
    (hL : Looks M s.heap (typeLookup (.ref a) "__new__") (some (.builtin "object.__new__"))) (k : Q () s) : wpAny M A (Bind.refreshMaker a) Q E s := by
  unfold Bind.refreshMaker
  refine wpAny_bind (w_slotAt x h4 ?_)
  refine w_f ?_
  refine wpAny_bind (hL.here ?_)
  have he : (!("object.__new__" : String).endsWith ".__new__") = false := by decide +kernel
  show wpAny M A (if (!("object.__new__" : String).endsWith ".__new__") = true then setSlotAt a 4 (some .none) else pure ()) Q E s
  rw [he]
  exact w_f (wpAny_pure k)
section
variable {prog : Program} {w : World} {A : Around} {env : Env} {fs : List Addr} {s₀ s : Shared} {L : Addr} {m : Str → Option Value} {O : List (Addr × Ky)} {E : Value → Shared → Prop}
abbrev memO (a : Addr) (t : Tok) : Obj := { cls := .type "member_descriptor", data := .fields #[.str "obj" t, .ref a, .builtin "proto.slot", .builtin "proto.slot#set", rawInt 0] }
theorem install_ok {a ns : Addr} {cd : ClassData} {slt : Array (Option Value)} {l : List (Str × Value)} {Q : Unit → Shared → Prop} (S : St fs s₀ L m ((a, .obj (clsO cd slt)) :: (ns, nsK l) :: O) s) (hl : l.lookup ("obj" : Str) = none) (hz : l.length ≤ 1000) (hp : (Data.cls { cd with hasDict := false, slotNames := [("obj" : Str)] }).pastItsLine = none)
    (k : ∀ d t s', St fs s₀ L m ((a, .obj (clsO { cd with hasDict := false, slotNames := ["obj"] } slt)) :: (ns, nsK (putL l "obj" (.ref d))) :: (d, .obj (memO a t)) :: O) s' → Q () s') :
    wpAny (model prog w) A (Builtin.Slots.install (.ref a) ns [.type "object"] { names := ["obj"], dict := false, weak := false, inherited := [] }) Q E s := by
  unfold Builtin.Slots.install
  try wp_delta
  refine wpAny_bind (w_for1 (wpAny_bind (wn_get (S.nth 1 rfl) ?_)))
  rw [hl]
  refine w_t (wpAny_bind (wpAny_mkStr ?_ (by decide +kernel)))
  have S := S.tok (s.toks + 1)
  refine wpAny_bind (wpAny_newObj_type ?_ (by size_fits))
  have S := (S.push (o := memO a s.toks) (k := .obj (memO a s.toks)) rfl).front 2 rfl
  refine wpAny_bind (w_nsSetV S hz rfl fun s₁ S => wpAny_pure ?_)
  have S := S.front 2 rfl
  try wp_delta
  refine wpAny_bind (w_for1 (wpAny_bind (wpAny_of_eq (a := false) (by kernel_rfl) (w_f (wpAny_pure ?_)))))
  try wp_delta
  refine wpAny_ite_false (by decide +kernel) ?_
  try wp_delta
  exact w_updCls S hp fun s₂ S => k _ _ s₂ S
end
theorem note_object (a : Addr) : Builtin.noteSubclassOfBuiltin "object" a = pure () := by kernel_rfl
/-- a loop over the entries that changes nothing -/
theorem w_ents {M : Model} {A : Around} {s : Shared} {E : Value → Shared → Prop} {β : Type} {b : β} {f : DictEntry → β → Sem (ForInStep β)} {Q : β → Shared → Prop} : ∀ {es : List DictEntry} {l : List (Str × Value)}, Ents es l →
    (∀ h n t v, (n, v) ∈ l → ∀ (R : ForInStep β → Shared → Prop), R (.yield b) s → wpAny M A (f ⟨h, .str n t, v⟩ b) R E s) → Q b s → wpAny M A (forIn es b f) Q E s
  | _, _, .nil, _, k => by rw [List.forIn_nil]; exact wpAny_pure k
  | _, _, .cons h n t v r, H, k => by
    rw [List.forIn_cons]
    refine wpAny_bind (H h n t v (.head _) _ ?_)
    exact w_ents r (fun h' n' t' v' hm => H h' n' t' v' (.tail _ hm)) k
theorem sn_list : typeLookup (.type "list") "__set_name__" = pure none := by rw [typeLookup_type, builtinLookup_eq_fast]; kernel_rfl
theorem sn_function : typeLookup (.type "function") "__set_name__" = pure none := by rw [typeLookup_type, builtinLookup_eq_fast]; kernel_rfl
theorem sn_tuple : typeLookup (.type "tuple") "__set_name__" = pure none := by rw [typeLookup_type, builtinLookup_eq_fast]; kernel_rfl
theorem sn_member : typeLookup (.type "member_descriptor") "__set_name__" = pure none := by rw [typeLookup_type, builtinLookup_eq_fast]; kernel_rfl
theorem sn_str : typeLookup (.type "str") "__set_name__" = pure none := by rw [typeLookup_type, builtinLookup_eq_fast]; kernel_rfl
theorem sn_int : typeLookup (.type "int") "__set_name__" = pure none := by rw [typeLookup_type, builtinLookup_eq_fast]; kernel_rfl
theorem sn_none : typeLookup (.type "NoneType") "__set_name__" = pure none := by rw [typeLookup_type, builtinLookup_eq_fast]; kernel_rfl
theorem looks_sn {M : Model} {h : Heap} {a : Addr} {o : Obj} {T : String} (ho : h.get? a = some o) (hc : o.cls = .type T) (ht : typeLookup (.type T) "__set_name__" = pure none) : Looks M h (specialOf (.ref a) "__set_name__") none :=
  fun A Q E s k q => wpAny_bind (wpAny_typeOf (T := T) ⟨o, k _ _ ho, hc⟩ (wpAny_of_eq ht q))
end Mine
end

section
set_option maxRecDepth 100000
namespace Mine
open PySem PyProof.Rows
open PySem.W (tabObj CodeHd fnMade Looks check_slot)
theorem w_forC {M : Model} {A : Around} {s : Shared} {E : Value → Shared → Prop} {α β : Type} {x : α} {r : List α} {b : β} {f : α → β → Sem (ForInStep β)} {Q : β → Shared → Prop}
    (h : wpAny M A (f x b) (fun y s' => match y with | .done b' => Q b' s' | .yield b' => wpAny M A (forIn r b' f) Q E s') E s) : wpAny M A (forIn (x :: r) b f) Q E s := by
  rw [List.forIn_cons]
  refine wpAny_bind (wpAny_mono h (fun y s' h' => ?_) fun _ _ q => q)
  cases y with
  | done b' => exact wpAny_pure h'
  | yield b' => exact h'
theorem w_forN {M : Model} {A : Around} {s : Shared} {E : Value → Shared → Prop} {α β : Type} {b : β} {f : α → β → Sem (ForInStep β)} {Q : β → Shared → Prop} (h : Q b s) : wpAny M A (forIn ([] : List α) b f) Q E s := by
  rw [List.forIn_nil]; exact wpAny_pure h

/-- nothing of a third party is loaded -/
def NoOpq (h : Heap) : Prop := ∃ mc, h.Ns cStatics mc ∧ mc "thirdparty.any" = none
theorem UpTo.opq {h h' : Heap} (k : UpTo h h') (x : NoOpq h) : NoOpq h' := let ⟨mc, a, b⟩ := x; ⟨mc, k.ns a, b⟩
theorem NoOpq.looks {M : Model} {h : Heap} {C : Addr} (x : NoOpq h) : Looks M h (opaqueClassAbove (.ref C)) none := by
  obtain ⟨mc, hn, e⟩ := x
  refine Looks.andThen (a := false) (Looks.andThen (a := (none : Option Value)) (fun A Q E s k q => ?_) .now) (by show Looks M h (if (!false) = true then pure none else _) none; rw [if_pos (show (!false) = true from rfl)]; exact .now)
  exact wpAny_nsGet (hn.keeps k) (by rw [e]; exact q)
theorem looks_mroK {M : Model} {h : Heap} {a : Addr} {cd : ClassData} {sl : Array (Option Value)} (x : h.get? a = some (clsO cd sl)) : Looks M h (mroOf (.ref a)) cd.mro := by
  intro A Q E s k q
  show wpAny M A (classData a >>= fun c => pure c.mro) _ E s
  exact wpAny_bind (wpAny_bind (wpAny_load (k _ _ x) (wpAny_pure (wpAny_pure q))))
theorem looks_subK {M : Model} {h : Heap} {a : Addr} {cd : ClassData} {sl : Array (Option Value)} {v : Value} {b : Bool} (x : h.get? a = some (clsO cd sl)) (hm : cd.mro = [.ref a, .type "object"]) (hb : [Value.ref a, Value.type "object"].contains v = b) : Looks M h (isSubtype (.ref a) v) b := by
  intro A Q E s k q
  unfold isSubtype
  refine wpAny_bind (looks_mroK x _ _ _ _ k ?_)
  rw [hm]
  dsimp only
  refine w_f ?_
  rw [hb]
  exact wpAny_pure q
section
variable {prog : Program} {w : World} {A : Around} {env : Env} {fs : List Addr} {s₀ s : Shared} {L : Addr} {m : Str → Option Value} {O : List (Addr × Ky)} {E : Value → Shared → Prop}
abbrev supO (a : Addr) : Obj := { cls := .type "super", dict := none, data := .fields #[.ref a, .ref a, .ref a], slots := #[] }
theorem sup_call {a : Addr} {cd : ClassData} {sl : Array (Option Value)} {Q : Value → Shared → Prop} (S : St fs s₀ L m O s) (x : s.heap.get? a = some (clsO cd sl)) (hm : cd.mro = [.ref a, .type "object"])
    (k : ∀ so s', St fs s₀ L m ((so, .obj (supO a)) :: O) s' → Q (.ref so) s') : wpAny (model prog w) A (call (.type "super") [.ref a, .ref a]) Q E s := by
  obtain ⟨h, g, d, t, os⟩ := s
  refine ks_callType_codesW (Q₁ := fun obj s₁ => obj = .ref h.objs.size ∧ s₁ = ⟨h.push { cls := .type "super", data := .fields #[.none, .none, .none] }, g, d, t, os⟩) F.ks_called_super (ks_wpAny_checkTypeCall_super x rfl) F.ks_entry_super_init
    (ks_code_super_new _ _ ⟨rfl, rfl⟩) fun obj s₁ h₁ => ?_
  obtain ⟨rfl, rfl⟩ := h₁
  have up : ∀ y o, h.get? y = some o → (h.push { cls := .type "super", data := .fields #[.none, .none, .none] }).get? y = some o := fun y o e => Heap.get?_push_of_some _ e
  have hso : (h.push { cls := .type "super", data := .fields #[.none, .none, .none] }).get? h.objs.size = some { cls := .type "super", dict := none, data := .fields #[.none, .none, .none], slots := #[] } := Heap.get?_push_at rfl rfl
  have hD' := up _ _ x
  have hsub : Looks (model prog w) h (isSubtype (.ref a) (.ref a)) true := looks_subK x hm (by simp)
  have hsub' := hsub.keeps up
  refine ⟨⟨_, hso, rfl⟩, F.ks_initArgs_super _ _ _, ?_⟩
  unfold Builtin.«super.__init__» noKeywords
  have fin : ∀ h', h'.get? h.objs.size = some (supO a) → (∀ y o, y ≠ h.objs.size → (h.push { cls := .type "super", data := .fields #[.none, .none, .none] }).get? y = some o → h'.get? y = some o) → Q (.ref h.objs.size) ⟨h', g, d, t, os⟩ := fun h' e kk => by
    have S' : St fs s₀ L m O ⟨h', g, d, t, os⟩ := S.kept ⟨h', t, rfl, fun y o ey => kk y o (Nat.ne_of_lt (Heap.lt_size ey)) (up y o ey)⟩
    exact k _ _ (S.moreOf S' (.of_get e) (Heap.get?_none_of_le (Nat.le_refl _)))
  repeat (first | (with_reducible refine ks_wpAny_isType_cls hD' rfl ?_) | (with_reducible refine Looks.at hsub' ?_) | (with_reducible refine ks_wpAny_super_set3 hso ?_) | wp_step)
  all_goals first
    | (intro h' e kk; exact ⟨rfl, fin h' e kk⟩)
    | (refine ks_wpAny_super_set3 hso ?_; intro h' e kk; exact ⟨rfl, fin h' e kk⟩)
end
theorem own_is : classOwn (.type "object") "__init_subclass__" = pure (some (.builtin "object.__init_subclass__")) := by
  show pure (builtinOwn "object" "__init_subclass__") = _
  rw [builtinOwn_eq_fast]; kernel_rfl
theorem tof_is : typeOf (.builtin "object.__init_subclass__") = pure (.type "classmethod_descriptor") := by kernel_rfl
theorem get_is : typeLookup (.type "classmethod_descriptor") "__get__" = pure (some (.builtin "classmethod_descriptor.__get__")) := by rw [typeLookup_type, builtinLookup_eq_fast]; kernel_rfl
theorem inst_is : isInstance (.builtin "object.__init_subclass__") (.type "classmethod_descriptor") = pure true := by kernel_rfl
theorem cmd_is (a : Addr) : Builtin.«classmethod_descriptor.__get__» ⟨[.builtin "object.__init_subclass__", .none, .ref a], []⟩ = (do
    if !(← isType (.ref a)) then raiseError "TypeError" s!"descriptor '__init_subclass__' for type 'object' needs a type, not a '{← typeNameOf (.ref a)}' as arg 2"
    if !(← isSubtype (.ref a) (.type "object")) then
      refusalWouldNameAnOpaqueClass (.ref a)
      raiseError "TypeError" s!"descriptor '__init_subclass__' requires a subtype of 'object' but received '{← typeName (.ref a)}'"
    ret (← newFields "builtin_function_or_method" [.builtin "object.__init_subclass__", .ref a])) := by kernel_rfl

section
variable {prog : Program} {w : World} {A : Around} {env : Env} {fs : List Addr} {s₀ s : Shared} {L : Addr} {m : Str → Option Value} {O : List (Addr × Ky)} {E : Value → Shared → Prop}
theorem entry_is : entryFor table "object.__init_subclass__" = some Builtin.«object.__init_subclass__» := entryFor_of_tree (by kernel_rfl)
theorem plain_is : plainId "object.__init_subclass__" = true := by decide +kernel
theorem isT_K {M : Model} {A : Around} {s : Shared} {E : Value → Shared → Prop} {a : Addr} {cd : ClassData} {sl : Array (Option Value)} {Q : Bool → Shared → Prop} (x : s.heap.get? a = some (clsO cd sl)) (k : Q true s) : wpAny M A (isType (.ref a)) Q E s := by
  obtain ⟨h, g, d, t, os⟩ := s
  exact ks_wpAny_isType_cls x rfl k
theorem sup_get {a so : Addr} {cd : ClassData} {sl : Array (Option Value)} {Q : Value → Shared → Prop} (N : NoOpq s.heap) (S : St fs s₀ L m ((so, .obj (supO a)) :: O) s) (x : s.heap.get? a = some (clsO cd sl)) (hm : cd.mro = [.ref a, .type "object"])
    (k : ∀ f s', St fs s₀ L m ((f, .obj (bfmObj (.builtin "object.__init_subclass__") (.ref a))) :: O) s' → Q (.ref f) s') : wpAny (model prog w) A (getAttr (.ref so) "__init_subclass__") Q E s := by
  have hlk := F.ks_slot_super_ga.lookup
  have hso := (S.get (.head _)).get
  have hT : ∀ t', ({ s with toks := t' } : Shared).TypeIs (.ref so) "super" := fun _ => ⟨_, hso, rfl⟩
  unfold getAttr getAttrBy
  refine wpAny_bind (wpAny_mkText (wpAny_holding (wpAny_bind (wpAny_typeOf (hT _) (wpAny_bind (wpAny_of_eq hlk ?_))))))
  show wpAny _ _ (getAttrByItsOwn (.ref so) (.str "__init_subclass__" s.toks) (.type "super") (.builtin "super.__getattribute__") true false) _ _ _
  unfold getAttrByItsOwn hookBefore callGetattribute boundAndCalled
  refine wpAny_bind (wpAny_of_eq (show (if onTheHeap (.type "super") then typeLookup (.type "super") "__getattr__" else pure none) = pure none from rfl) ?_)
  refine wpAny_bind (wpAny_attempt (wpAny_holding ?_))
  show wpAny _ _ (bindSpecial (.builtin "super.__getattribute__") (.ref so) >>= _) _ _ _
  refine wpAny_bind (wpAny_of_eq (F.ks_slot_super_ga.bind _) ?_)
  have S₁ := (S.tok (s.toks + 1)).push (o := bfmObj (.builtin "object.__init_subclass__") (.ref a)) (k := .obj (bfmObj (.builtin "object.__init_subclass__") (.ref a))) rfl
  refine wpAny_mono (Q := fun v s' => v = .ref s.heap.objs.size ∧ s' = { s with heap := s.heap.push (bfmObj (.builtin "object.__init_subclass__") (.ref a)), toks := s.toks + 1 }) (E := fun _ _ => False)
    (wpAny_call_entry F.ks_slot_super_ga (hT _) F.ks_entry_super_ga ?_ (F.ks_gaArgs_super _ _)) (fun v s' hv => ?_) fun _ _ z => z.elim
  · unfold Builtin.«super.__getattribute__»
    have hdt : (supO a).data = .fields #[.ref a, .ref a, .ref a] := rfl
    obtain ⟨h, g, d, t, os⟩ := s
    dsimp only
    have hC : Looks (model prog w) h (mroOf (.ref a)) [.ref a, .type "object"] := hm ▸ looks_mroK x
    have f0 : (#[.ref a, .ref a, .ref a] : Array Value)[0]? = some (.ref a) := rfl
    have f1 : (#[.ref a, .ref a, .ref a] : Array Value)[1]? = some (.ref a) := rfl
    have f2 : (#[.ref a, .ref a, .ref a] : Array Value)[2]? = some (.ref a) := rfl
    have hdrop : List.drop 1 (List.dropWhile (fun x => x != Value.ref a) [Value.ref a, Value.type "object"]) = [Value.type "object"] := by simp
    have hkk : (Value.ref a == Value.ref a) = true := by simp
    repeat (first
      | (refine w_for1 ?_)
      | (with_reducible refine wpAny_of_eq own_is ?_) | (with_reducible refine wpAny_of_eq tof_is ?_) | (with_reducible refine wpAny_of_eq get_is ?_)
      | (with_reducible refine wpAny_field hso hdt f0 ?_) | (with_reducible refine wpAny_field hso hdt f1 ?_) | (with_reducible refine wpAny_field hso hdt f2 ?_)
      | (with_reducible refine ks_wpAny_notOpaque N.looks ?_)
      | (with_reducible refine Looks.at hC ?_; rw [hdrop])
      | (with_reducible refine wpAny_call ?_)
      | wp_step
      | dsimp only)
    rw [if_pos hkk]
    refine codeAny_call_builtin plain_cmdg entry_cmdg ?_
    refine @check_slot (model prog w) _ _ ⟨h, g, d, t + 1, os⟩ "classmethod_descriptor.__get__" "classmethod_descriptor" "__get__" (.builtin "object.__init_subclass__") [.none, .ref a] [] _ kind_cmdg kind_cmdg' (Looks.of_pure inst_is) (args_cmdg _ _ _) ?_
    show wpAny _ _ (Builtin.«classmethod_descriptor.__get__» _) _ _ _
    rw [cmd_is]
    have hsubo : Looks (model prog w) h (isSubtype (.ref a) (.type "object")) true := looks_subK x hm (by simp)
    refine wpAny_bind (isT_K x (w_f (wpAny_bind (Looks.at hsubo (w_f (wpAny_bind ?_))))))
    refine wpAny_newObj_type ?_ (by size_fits)
    refine wpAny_pure ?_
    repeat (first | exact ⟨_, rfl, rfl, rfl⟩ | wp_step | dsimp only)
  · obtain ⟨rfl, rfl⟩ := hv
    exact wpAny_pure (k _ _ (S₁.sub (by simp)))

theorem sig_is : Manifest.signature? "object.__init_subclass__" = some { machinery := .noArgs, full := "object.__init_subclass__", short := "__init_subclass__", receiver := .cls, params := [] } := by kernel_rfl
def kQual : Str := "cmp_to_key.<locals>.K"
theorem chk_is (a : Addr) : Bind.checkArgs "object.__init_subclass__" { machinery := .noArgs, full := s!"{kQual.toString}.{Bind.lastOf "object.__init_subclass__"}", short := "__init_subclass__", receiver := .cls, params := [] } ⟨[.ref a], []⟩ = pure () := by kernel_rfl
theorem var_is : Manifest.varargsMethods.contains "object.__init_subclass__" = false := by decide +kernel
theorem mod_type : isSubtype (.type "type") (.type "module") = pure false := by kernel_rfl
theorem kind_is : builtinKind "object.__init_subclass__" = some .classMethod := by decide +kernel
theorem isc_call {f a : Addr} {cd : ClassData} {sl : Array (Option Value)} {Q : Value → Shared → Prop} (ho : s.heap.get? f = some (bfmObj (.builtin "object.__init_subclass__") (.ref a))) (x : s.heap.get? a = some (clsO cd sl)) (hm : cd.mro = [.ref a, .type "object"]) (hq : cd.qualname = kQual)
    (k : Q .none s) : wpAny (model prog w) A (call (.ref f) [] []) Q E s := by
  refine wpAny_call (codeAny_of_tree ?_)
  obtain ⟨hh, g, dr, t, os⟩ := s
  show wpAny _ _ (callAny (.ref f) _) _ _ _
  dsimp only at ho
  refine PySem.W.nd_load ho ?_
  show wpAny _ _ (checkBoundCall "object.__init_subclass__" ⟨[.ref a], []⟩ >>= fun _ => again (.builtin "object.__init_subclass__" ⟨[.ref a], []⟩)) _ _ _
  refine wpAny_bind ?_
  unfold checkBoundCall
  rw [kind_is, sig_is]
  dsimp only
  refine wpAny_ite_false (by decide) ?_
  refine wpAny_bind (wpAny_isInstance (T := "type") ⟨_, x, rfl⟩ mod_type ?_)
  rw [var_is]
  refine w_f ?_
  refine wpAny_bind (isT_K x ?_)
  refine w_t ?_
  try wp_delta
  refine wpAny_bind (wpAny_pure ?_)
  try wp_delta
  refine wpAny_bind ?_
  unfold classData
  refine wpAny_bind (wpAny_load x (wpAny_pure ?_))
  try wp_delta
  refine wpAny_bind (wpAny_typeOf (T := "type") ⟨_, x, rfl⟩ ?_)
  refine wpAny_ite_true (by simp) ?_
  rw [hq]
  refine wpAny_of_eq (chk_is a) ?_
  refine wpAny_pure ⟨plainId_quiet plain_is _, ?_⟩
  refine codeAny_builtin entry_is ?_
  show wpAny _ _ (ret Value.none) _ _ _
  exact wpAny_pure k
end
end Mine
end

section
set_option maxRecDepth 100000
namespace Mine
open PySem PyProof.Rows
open PySem.W (tabObj CodeHd fnMade Looks)
/-- the names of the class as it stands, and its data -/
def kNames2 (fl : Int) (tm tl : Tok) (sl f₁ f₂ f₃ f₄ f₅ f₆ sa d : Addr) : List (Str × Value) := [("__module__", .str "cpy313.functools" tm), ("__firstlineno__", .int fl tl), ("__slots__", .ref sl), ("__init__", .ref f₁), ("__lt__", .ref f₂), ("__gt__", .ref f₃),
  ("__eq__", .ref f₄), ("__le__", .ref f₅), ("__ge__", .ref f₆), ("__hash__", .none), ("__static_attributes__", .ref sa), ("obj", .ref d), ("__doc__", .none)]
abbrev kCls (a ns : Addr) : ClassData := { name := "K", bases := [.type "object"], mro := [.ref a, .type "object"], ns := ns, qualname := kQual, hasDel := false, hasDict := false, slotNames := ["obj"] }
abbrev kSlots (gT : Addr) (tn tq : Tok) : Array (Option Value) := #[some (.ref gT), none, some (.str "K" tn), some (.str kQual tq), some (.builtin "object.__new__"), some (.bool false)]
theorem St.weaken {fs : List Addr} {s₀ s : Shared} {L : Addr} {m : Str → Option Value} {O : List (Addr × Ky)} (S : St fs s₀ L m O s) (i : Nat) {a : Addr} {k k' : Ky} (hi : O[i]? = some (a, k)) (hk : ∀ o, k.is o → k'.is o) : St fs s₀ L m (O.set i (a, k')) s := by
  obtain ⟨o, ho, hio⟩ := S.nth i hi
  have := S.upd i (h' := s.heap) (t := s.toks) hi ⟨rfl, fun _ _ => rfl⟩ (o' := k') ⟨o, ho, hk o hio⟩
  exact this
section
variable {prog : Program} {w : World} {A : Around} {env : Env} {fs : List Addr} {s₀ s : Shared} {L : Addr} {m : Str → Option Value} {O : List (Addr × Ky)} {E : Value → Shared → Prop}
set_option maxHeartbeats 2000000 in
theorem tnew_ok {gT nsA sl f₁ f₂ f₃ f₄ f₅ f₆ sa : Addr} {ts tn tm tq tl : Tok} {fl : Int} {P : Fin → Shared → Prop} (N : NoOpq s₀.heap) (hsm : ∃ o, s₀.heap.get? 1 = some o) (hf : ∀ f ∈ [f₁, f₂, f₃, f₄, f₅, f₆], ∃ o : Obj, (f, Ky.obj o) ∈ O ∧ o.cls = .type "function") {vsa : List Value} (hsa : (sa, tupK vsa) ∈ O)
    (S : St fs s₀ L m ((nsA, nsK (kNames kQual fl tm tq tl sl f₁ f₂ f₃ f₄ f₅ f₆ sa)) :: (gT, tupK [.type "object"]) :: (sl, .list [.str "obj" ts]) :: O) s)
    (k : ∀ a ns d td s', St fs s₀ L m ((a, .obj (clsO (kCls a ns) (kSlots gT tn tq))) :: (ns, nsK (kNames2 fl tm tl sl f₁ f₂ f₃ f₄ f₅ f₆ sa d)) :: (d, .obj (memO a td)) :: (nsA, .pred fun _ => True) :: (gT, tupK [.type "object"]) :: (sl, .list [.str "obj" ts]) :: O) s' → P (.done (.ret (.ref a))) s') :
    wpAny (model prog w) A (Builtin.«type.__new__» ⟨[.type "type", (.str "K" tn), .ref gT, .ref nsA], []⟩) P E s := by
  unfold Builtin.«type.__new__»
  have hn1' : nsA ≠ 1 := fun z => by
    have := (S.fresh _ (.head _)).1
    obtain ⟨o, ho⟩ := hsm
    simp only [z, ho] at this
    cases this
  obtain ⟨oT, hT, hTc, hTd, nT, hTs⟩ := S.nth 1 rfl
  obtain ⟨oN, hN, hNc, -⟩ := S.nth 0 rfl
  try wp_delta
  refine wpAny_bind (wpAny_of_eq (a := some ("K" : Str)) rfl ?_)
  try wp_delta
  refine wpAny_bind (wpAny_isInstance (T := "tuple") ⟨oT, hT, hTc⟩ sub_tuple ?_)
  try wp_delta
  refine w_f (wpAny_bind (wpAny_isInstance (T := "dict") ⟨oN, hN, hNc⟩ sub_dict ?_))
  try wp_delta
  refine w_f ?_
  try wp_delta
  refine wpAny_bind (wpAny_seqItems hT hTs ?_)
  try wp_delta
  refine wpAny_ite_false (by decide) ?_
  try wp_delta
  refine wpAny_bind (w_for1 (wpAny_bind (wpAny_of_eq isType_object (w_f (wpAny_pure ?_)))))
  try wp_delta
  refine wpAny_bind (w_for1 (wpAny_bind (wpAny_of_eq typeOf_object (wpAny_bind (wpAny_of_eq sub_type_type (w_t (wpAny_pure ?_)))))))
  try wp_delta
  refine wpAny_ite_false (by decide) ?_
  try wp_delta
  refine wpAny_bind (wpAny_of_eq nt_object (wpAny_bind (wpAny_of_eq eb_object ?_)))
  try wp_delta
  refine wpAny_ite_false (by simpa [sysModules] using hn1') ?_
  try wp_delta
  refine wpAny_bind (wn_entries (S.nth 0 rfl) fun es he => ?_)
  refine wpAny_bind (special_dict_iter (S.nth 0 rfl) ?_)
  try wp_delta
  refine wpAny_ite_true (by simp) (wpAny_bind (wpAny_pure ?_))
  try wp_delta
  refine wpAny_bind (wpAny_holding (read_ok he rfl (S.nth 2 rfl) rfl fun s₁ k₁ => ?_))
  have S := S.kept k₁
  refine wpAny_bind (wpAny_newObj_type ?_ ?_)
  · have S := S.push (o := { cls := .type "dict", data := .dict es }) (k := nsK (kNames kQual fl tm tq tl sl f₁ f₂ f₃ f₄ f₅ f₆ sa)) ⟨rfl, rfl, rfl, _, _, rfl, he⟩
    generalize s₁.heap.objs.size = ns at S ⊢
    generalize hs2 : ({ s₁ with heap := _ } : Shared) = s₂ at S ⊢
    clear hs2
    try wp_delta
    refine wpAny_ite_false (by show decide ((!(es.any fun x => x.key.isStr ("__module__" : Str))) = true) = false; rw [he.any]; rfl) ?_
    try wp_delta
    refine wpAny_bind (wpAny_ite_false (by decide +kernel) (wpAny_pure ?_))
    try wp_delta
    refine wpAny_ite_false (by decide +kernel) ?_
    try wp_delta
    refine wpAny_bind (wn_get (S.nth 0 rfl) ?_)
    refine wpAny_bind (wn_get (S.nth 0 rfl) ?_)
    try wp_delta
    refine wpAny_bind (wpAny_of_eq (a := some kQual) rfl ?_)
    try wp_delta
    refine wpAny_bind (wpAny_pure ?_)
    try wp_delta
    refine wpAny_bind (wn_get (S.nth 0 rfl) ?_)
    try wp_delta
    refine wpAny_bind (w_allocL S rfl fun a s₃ S => ?_)
    have S : St fs s₀ L m ((a, .obj (clsO { name := "K", bases := [.type "object"], mro := [], ns := ns, qualname := kQual } #[])) :: (ns, nsK (kNames kQual fl tm tq tl sl f₁ f₂ f₃ f₄ f₅ f₆ sa)) :: (nsA, nsK (kNames kQual fl tm tq tl sl f₁ f₂ f₃ f₄ f₅ f₆ sa)) :: (gT, tupK [.type "object"]) :: (sl, .list [.str "obj" ts]) :: O) s₃ := S
    try wp_delta
    refine w_t ?_
    try wp_delta
    refine wpAny_bind (w_slot (sl' := #[some (.ref gT)]) S (by decide) rfl fun s₄ S => ?_)
    try wp_delta
    refine wpAny_bind (w_slot (sl' := #[some (.ref gT), none, some (.str "K" tn)]) S (by decide) rfl fun s₅ S => ?_)
    try wp_delta
    refine wpAny_bind (w_slot (sl' := #[some (.ref gT), none, some (.str "K" tn), some (.str kQual tq)]) S (by decide) rfl fun s₆ S => ?_)
    try wp_delta
    have S := S.front 1 rfl
    refine wpAny_bind (w_nsDel (l' := kNames1 fl tm tl sl f₁ f₂ f₃ f₄ f₅ f₆ sa) (v := .str kQual tq) S rfl rfl fun s₈ S => ?_)
    refine wpAny_bind (wn_get (S.nth 0 rfl) ?_)
    try wp_delta
    refine wpAny_bind (w_forC (wpAny_bind (wn_get (S.nth 0 rfl) (wpAny_pure (w_forC (wpAny_bind (wn_get (S.nth 0 rfl) (wpAny_pure (w_forN ?_)))))))))
    refine wpAny_bind (wn_get (S.nth 0 rfl) ?_)
    try wp_delta
    refine wpAny_bind (wn_get (S.nth 0 rfl) ?_)
    try wp_delta
    refine wpAny_bind (wpAny_of_eq mh_type ?_)
    try wp_delta
    refine wpAny_bind (wpAny_of_eq lin_object ?_)
    try wp_delta
    refine wpAny_bind (wpAny_pure ?_)
    try wp_delta
    have hfl : List.filter (fun x => x != Value.ref a) [Value.ref a, Value.type "object"] = [Value.type "object"] := by simp
    rw [hfl]
    refine wpAny_bind (wpAny_of_eq (a := false) (by kernel_rfl) ?_)
    have S := S.front 1 rfl
    refine wpAny_bind (w_updCls S rfl fun s₉ S => ?_)
    have S : St fs s₀ L m ((a, .obj (clsO { name := "K", bases := [.type "object"], mro := [.ref a, .type "object"], ns := ns, qualname := kQual, hasDel := false } #[some (.ref gT), none, some (.str "K" tn), some (.str kQual tq)])) :: (ns, nsK (kNames1 fl tm tl sl f₁ f₂ f₃ f₄ f₅ f₆ sa)) :: (nsA, nsK (kNames kQual fl tm tq tl sl f₁ f₂ f₃ f₄ f₅ f₆ sa)) :: (gT, tupK [.type "object"]) :: (sl, .list [.str "obj" ts]) :: O) s₉ := by
      have hd : (es.any fun x => x.key.isStr ("__del__" : Str)) = false := by rw [he.any]; rfl
      simp only [hd, Bool.or_false] at S
      exact S
    refine wpAny_bind (wpAny_of_eq mb_object ?_)
    refine wpAny_bind (w_slot (sl' := #[some (.ref gT), none, some (.str "K" tn), some (.str kQual tq), some (.builtin "object.__new__")]) S (by decide) rfl fun s₁₀ S => ?_)
    refine wpAny_bind (refresh_ok (S.nth 0 rfl).get rfl (looks_K (S.nth 0 rfl).get (S.nth 1 rfl) rfl rfl (by kernel_rfl)) ?_)
    refine wpAny_bind (install_ok S rfl (by simp [kNames1]) rfl fun d td s₁₁ S => ?_)
    refine wpAny_bind (wpAny_of_eq gw_object ?_)
    refine wpAny_bind (w_slot (sl' := #[some (.ref gT), none, some (.str "K" tn), some (.str kQual tq), some (.builtin "object.__new__"), some (.bool false)]) S (by decide) rfl fun s₁₂ S => ?_)
    try wp_delta
    refine w_f ?_
    try wp_delta
    refine w_f ?_
    try wp_delta
    have S := S.front 1 rfl
    refine wpAny_bind (wn_get (S.nth 0 rfl) ?_)
    try wp_delta
    refine w_t (wpAny_bind (w_nsSet S rfl fun s₁₃ S => ?_))
    try wp_delta
    refine wpAny_bind (wn_get (S.nth 0 rfl) ?_)
    try wp_delta
    refine w_t (wpAny_bind (wn_get (S.nth 0 rfl) ?_))
    try wp_delta
    refine w_f ?_
    try wp_delta
    refine wpAny_bind (w_for1 ?_)
    try wp_delta
    refine wpAny_bind (wpAny_of_eq (note_object a) (wpAny_pure ?_))
    try wp_delta
    refine wpAny_bind (wpAny_tryCatch (wpAny_holding ?_))
    try wp_delta
    refine wpAny_bind (wn_entries (S.nth 0 rfl) fun es₂ he₂ => ?_)
    rw [← Array.forIn_toList]
    refine wpAny_bind (w_ents he₂ (fun h n t v _ R hR => wpAny_bind (wpAny_of_eq (a := some n) rfl (w_f (wpAny_pure hR)))) ?_)
    try wp_delta
    refine w_f ?_
    try wp_delta
    refine wpAny_bind (wn_entries (S.nth 0 rfl) fun es₃ he₃ => ?_)
    rw [← Array.forIn_toList]
    refine wpAny_bind (w_ents he₃ (fun h n t v hm R hR => ?_) ?_)
    · have key : Builtin.laidUnderItsOwnName (.str n t) v = false ∧ Looks (model prog w) s₁₃.heap (specialOf v "__set_name__") none := by
        have hm : (n, v) ∈ ([("__module__", .str "cpy313.functools" tm), ("__firstlineno__", .int fl tl), ("__slots__", .ref sl), ("__init__", .ref f₁), ("__lt__", .ref f₂), ("__gt__", .ref f₃),
          ("__eq__", .ref f₄), ("__le__", .ref f₅), ("__ge__", .ref f₆), ("__hash__", .none), ("__static_attributes__", .ref sa), ("obj", .ref d), ("__doc__", .none)] : List (Str × Value)) := hm
        have hfn : ∀ f ∈ [f₁, f₂, f₃, f₄, f₅, f₆], Looks (model prog w) s₁₃.heap (specialOf (.ref f) "__set_name__") none := fun f hff => by
          obtain ⟨o, ho, hc⟩ := hf f hff
          exact looks_sn (S.led (f, .obj o) (by simp [ho])).get hc sn_function
        simp only [List.mem_cons, List.not_mem_nil, or_false, Prod.mk.injEq] at hm
        rcases hm with ⟨-, rfl⟩ | ⟨-, rfl⟩ | ⟨-, rfl⟩ | ⟨-, rfl⟩ | ⟨-, rfl⟩ | ⟨-, rfl⟩ | ⟨-, rfl⟩ | ⟨-, rfl⟩ | ⟨-, rfl⟩ | ⟨-, rfl⟩ | ⟨-, rfl⟩ | ⟨-, rfl⟩ | ⟨-, rfl⟩
        · exact ⟨rfl, .of_pure (by kernel_rfl)⟩
        · exact ⟨rfl, .of_pure (by kernel_rfl)⟩
        · obtain ⟨o, ho, hc, _⟩ := S.led (sl, .list [.str "obj" ts]) (by simp)
          exact ⟨rfl, looks_sn ho hc sn_list⟩
        · exact ⟨rfl, hfn _ (by simp)⟩
        · exact ⟨rfl, hfn _ (by simp)⟩
        · exact ⟨rfl, hfn _ (by simp)⟩
        · exact ⟨rfl, hfn _ (by simp)⟩
        · exact ⟨rfl, hfn _ (by simp)⟩
        · exact ⟨rfl, hfn _ (by simp)⟩
        · exact ⟨rfl, .of_pure (by kernel_rfl)⟩
        · obtain ⟨o, ho, hc, _⟩ := S.led (sa, tupK vsa) (by simp [hsa])
          exact ⟨rfl, looks_sn ho hc sn_tuple⟩
        · exact ⟨rfl, looks_sn (S.led (d, .obj (memO a td)) (by simp)).get rfl sn_member⟩
        · exact ⟨rfl, .of_pure (by kernel_rfl)⟩
      refine wpAny_ite_false (by show decide (Builtin.laidUnderItsOwnName (.str n t) v = true) = false; rw [key.1]; rfl) ?_
      exact wpAny_bind (key.2.here (wpAny_pure hR))
    · have S := S.front 1 rfl
      refine wpAny_bind (sup_call S (S.nth 0 rfl).get rfl fun so s₁₄ S => ?_)
      refine wpAny_bind (wpAny_holding (sup_get (S.upto.opq N) S (S.nth 1 rfl).get rfl fun f s₁₅ S => ?_))
      refine wpAny_bind (isc_call (S.nth 0 rfl).get (S.nth 1 rfl).get rfl rfl (wpAny_pure ?_))
      refine wpAny_pure ?_
      have S := S.drop 0
      exact k _ _ _ _ _ (S.weaken 3 rfl fun _ _ => trivial)
  · show es.size ≤ sizeLine + 1
    rw [← Array.length_toList, he.length, sizeLine_eq]
    simp [kNames]
end
end Mine
end

section
set_option maxRecDepth 100000
namespace Mine
open PySem PyProof.Rows
open PySem.W (tabObj CodeHd fnMade Looks)
theorem ctc_type (tn : Tok) (g n : Addr) : checkTypeCall "type" ⟨[.str "K" tn, .ref g, .ref n], []⟩ = pure () := by kernel_rfl
theorem mro_type : mroOf (.type "type") = pure [.type "type", .type "object"] := by rw [mroOf_type]; kernel_rfl
theorem mb_type : Bind.madeBy (.type "type") = pure (some "type.__new__") := by kernel_rfl
theorem slot_type_init : Slot "type" "__init__" "type.__init__" := .of (owner := "type") (n := "__init__") (by rw [typeLookup_type, builtinLookup_eq_fast]; kernel_rfl) (by decide +kernel) (by decide +kernel) (by decide +kernel)
  (by first | exact .inl (by decide +kernel) | exact .inr (by decide +kernel)) (by rw [isSubtype_type]; kernel_rfl)
theorem entry_type_init : entryFor table "type.__init__" = some Builtin.«type.__init__» := entryFor_of_tree (by kernel_rfl)
theorem entry_type_new : entryFor table "type.__new__" = some Builtin.«type.__new__» := entryFor_of_tree (by kernel_rfl)
theorem plain_type_new : plainId "type.__new__" = true := by decide +kernel
theorem args_type_init (o a b c : Value) : argsOk "type.__init__" ⟨[o, a, b, c], []⟩ := by unfold argsOk; kernel_rfl
theorem new_type_chk (tn : Tok) (g n : Addr) : checkBuiltinCall "type.__new__" ⟨[.type "type", .str "K" tn, .ref g, .ref n], []⟩ = pure () := by kernel_rfl
section
variable {prog : Program} {w : World} {A : Around} {env : Env} {fs : List Addr} {s₀ s : Shared} {L : Addr} {m : Str → Option Value} {O : List (Addr × Ky)} {E : Value → Shared → Prop}
theorem tcall {tn : Tok} {gT nsA : Addr} {Q : Value → Shared → Prop}
    (h : ∀ A' (P : Fin → Shared → Prop) (E' : Value → Shared → Prop), (∀ a cd sl s', s'.heap.get? a = some (clsO cd sl) → (Q (.ref a) s' → P (.done (.ret (.ref a))) s')) → wpAny (model prog w) A' (Builtin.«type.__new__» ⟨[.type "type", .str "K" tn, .ref gT, .ref nsA], []⟩) P E' s) :
    wpAny (model prog w) A (call (.type "type") [.str "K" tn, .ref gT, .ref nsA]) Q E s := by
  refine wpAny_call (codeAny_of_tree ?_)
  show wpAny _ _ (callAny (.type "type") _) _ _ _
  refine wpAny_pure ⟨Code.quiet_builtin _ (by decide +kernel), codeAny_builtin F.entry_type_call ?_⟩
  unfold Builtin.«type.__call__»
  try wp_delta
  refine w_t ?_
  try wp_delta
  refine wpAny_ite_false rfl ?_
  try wp_delta
  refine wpAny_ite_false rfl ?_
  try wp_delta
  refine wpAny_ite_false (by decide +kernel) ?_
  try wp_delta
  refine wpAny_bind (wpAny_of_eq (ctc_type tn gT nsA) ?_)
  try wp_delta
  refine wpAny_bind (wpAny_of_eq mro_type ?_)
  try wp_delta
  refine wpAny_ite_false (by decide) ?_
  try wp_delta
  refine wpAny_bind (wpAny_of_eq mb_type ?_)
  try wp_delta
  refine wpAny_bind (wpAny_pure ?_)
  try wp_delta
  refine wpAny_bind (wpAny_holding (wpAny_call (codeAny_of_tree ?_)))
  show wpAny _ _ (checkBuiltinCall "type.__new__" ⟨[.type "type", .str "K" tn, .ref gT, .ref nsA], []⟩ >>= fun _ => again (.builtin "type.__new__" ⟨[.type "type", .str "K" tn, .ref gT, .ref nsA], []⟩)) _ _ s
  refine wpAny_bind (wpAny_of_eq (new_type_chk tn gT nsA) (wpAny_pure ⟨plainId_quiet plain_type_new _, codeAny_builtin entry_type_new ?_⟩))
  refine h _ _ _ fun a cd sl s' x hq => ?_
  try wp_delta
  refine wpAny_bind (wpAny_isInstance (T := "type") ⟨_, x, rfl⟩ sub_type_type ?_)
  try wp_delta
  refine w_f ?_
  try wp_delta
  refine wpAny_bind (wpAny_holding ?_)
  refine wpAny_callSpecial?_slot (T := "type") ⟨_, x, rfl⟩ slot_type_init (wpAny_call_entry slot_type_init ⟨_, x, rfl⟩ entry_type_init ?_ (args_type_init _ _ _ _))
  show wpAny _ _ (ret Value.none) _ _ _
  refine wpAny_pure ⟨_, rfl, ?_⟩
  try wp_delta
  refine wpAny_ite_false (by decide) ?_
  exact wpAny_pure hq
end
end Mine
end

section
set_option maxRecDepth 100000
namespace Mine
open PySem PyProof.Rows
open PySem.W (tabObj CodeHd fnMade Looks hideAll)

section
variable {prog : Program} {w : World} {A : Around} {env : Env} {fs : List Addr} {s₀ s : Shared} {L : Addr} {m : Str → Option Value} {O : List (Addr × Ky)} {E : Value → Shared → Prop}
theorem bcg_ok {Q : Unit → Shared → Prop} (G : Glb s.heap) (hb : env.builtins = 0) (k : Q () s) : wpAny (model prog w) A (buildClassGuard env) Q E s := by
  obtain ⟨mg, mb, bm, ob, tn, K⟩ := G
  unfold buildClassGuard
  rw [hb]
  refine wpAny_bind (wpAny_nsGet K.b ?_)
  rw [(K.bs "__build_class__" (.builtin "__build_class__") rfl).2]
  exact wpAny_pure k
theorem w_textTup {vs : List Value} {Q : Value → Shared → Prop} (S : St fs s₀ L m O s) (hz : vs.length ≤ 1000) (k : ∀ D s', St fs s₀ L m ((D, tupK vs) :: O) s' → Q (.ref D) s') : wpAny (model prog w) A (newTextTuple vs) Q E s := by
  unfold newTextTuple newObjAsIs
  exact wpAny_bind (wpAny_alloc (wpAny_pure (k _ _ (S.push (k := tupK vs) ⟨rfl, rfl, 0, rfl⟩))))

/-- the methods of K, in the ledger -/
abbrev kMeths (mc f₁ c₁ f₂ c₂ f₃ c₃ f₄ c₄ f₅ c₅ f₆ c₆ : Addr) (d₁ p₁ t₁ d₂ p₂ t₂ d₃ p₃ t₃ d₄ p₄ t₄ d₅ p₅ t₅ d₆ p₆ t₆ : Value) : List (Addr × Ky) :=
  mK kQual mc 7 f₆ c₆ d₆ p₆ t₆ ++ mK kQual mc 6 f₅ c₅ d₅ p₅ t₅ ++ mK kQual mc 5 f₄ c₄ d₄ p₄ t₄ ++ mK kQual mc 4 f₃ c₃ d₃ p₃ t₃ ++ mK kQual mc 3 f₂ c₂ d₂ p₂ t₂ ++ mK kQual mc 2 f₁ c₁ d₁ p₁ t₁

set_option maxHeartbeats 2000000 in
/-- the class statement -/
theorem cls_ok {c P mc : Addr} {ps : Array Value} {Q : Flow → Shared → Prop}
    (S : St fs s₀ env.locals m ((P, .obj (tabObj ps)) :: O) s) (N : NoOpq s₀.heap) (hcode : env.code = .ref c) (C : CodeHd s₀.heap c P) (ht : TriplesOk ps.toList) (hnf : codeAmong ⟨71, 4, 92, 23⟩ ps.toList = none) (hge : env.globals = 3) (hbe : env.builtins = 0) (G : Glb s₀.heap) (hlim : s₀.heap.NoLimit) (hroom : A.depth < recursionLimit)
    (hcl : closureFor cScope env = pure [(("mycmp" : Str), mc)]) (hqn : qualnameIn env "K" "K" = kQual) (hkf : env.scope.kind = .function) (hkK : env.kindOf "K" = some .local) (hko : env.kindOf "object" = some .globalImplicit)
    (k : ∀ a ns d td gT tn tq fl tm tl sl sa c' f₁ c₁ f₂ c₂ f₃ c₃ f₄ c₄ f₅ c₅ f₆ c₆ d₁ p₁ t₁ d₂ p₂ t₂ d₃ p₃ t₃ d₄ p₄ t₄ d₅ p₅ t₅ d₆ p₆ t₆ s', St fs s₀ env.locals (fun y => if y = "K" then some (.ref a) else m y) ((a, .obj (clsO (kCls a ns) (kSlots gT tn tq))) :: (ns, nsK (kNames2 fl tm tl sl f₁ f₂ f₃ f₄ f₅ f₆ sa d)) :: (d, .obj (memO a td)) ::
        (kMeths mc f₁ c₁ f₂ c₂ f₃ c₃ f₄ c₄ f₅ c₅ f₆ c₆ d₁ p₁ t₁ d₂ p₂ t₂ d₃ p₃ t₃ d₄ p₄ t₄ d₅ p₅ t₅ d₆ p₆ t₆ ++ (P, .obj (tabObj (ps ++ #[rawInt 71, rawInt 4, .ref c']))) :: O)) s' → Q .next s') :
    wpAny (model prog w) A (exec (subStm 12 0) env) Q E s := by
  show wpAny _ _ (exec (.ClassDef "K" [.Name "object" _] [] cBody [] [] cScope none "K" ["obj"] ⟨71, 4, 92, 23⟩) env) _ _ _
  rw [arm_exec_ClassDef]
  refine wpAny_bind (wpAny_pure (wpAny_bind (wpAny_standAt (wpAny_bind (bcg_ok (S.upto.glb G) hbe (wpAny_bind (wpAny_holding (wpAny_bind ?_))))))))
  refine Calls.evalArgs_plain (Calls.spliced_cons (EvV.go (ev_b (S.upto.glb G) (v := .type "object") rfl hge hbe hkf hko) fun tk => Calls.spliced_nil ?_))
  have S := S.tok tk
  refine wpAny_bind (wpAny_standAt (wpAny_holding ?_))
  obtain ⟨_, _, _, _, _, KK⟩ := id G
  rw [hqn]
  refine bc_open S hcode C ht hnf hge hbe G hlim hroom hcl rfl rfl rfl rfl rfl rfl rfl (by obtain ⟨o, ho, _⟩ := KK.sm; exact ⟨o, ho⟩) fun gT nsA c' P' fr tm tq tl tn s₁ S => ?_
  refine cb_ok (mc := mc) S G fun tm sl ts f₁ c₁ d₁ p₁ t₁ f₂ c₂ d₂ p₂ t₂ f₃ c₃ d₃ p₃ t₃ f₄ c₄ d₄ p₄ t₄ f₅ c₅ d₅ p₅ t₅ f₆ c₆ d₆ p₆ t₆ s₂ S => ?_
  show wpAny _ _ (mkText ("obj" : Str) >>= fun v => pure [v].reverse) _ _ _
  refine wpAny_bind (w_textL S fun tx s₃ S => wpAny_pure ?_)
  refine w_textTup S (by simp) fun sa s₄ S => ?_
  refine cs_store 1 S rfl (fun s₅ S => ?_) rfl rfl (.inr ⟨rfl, by decide⟩)
  refine tcall fun A' P' E' hP' => ?_
  have S := ((S.front 14 rfl).front 16 rfl).front 3 rfl
  refine tnew_ok (O := (sa, tupK [.str "obj" tx]) :: (kMeths mc f₁ c₁ f₂ c₂ f₃ c₃ f₄ c₄ f₅ c₅ f₆ c₆ d₁ p₁ t₁ d₂ p₂ t₂ d₃ p₃ t₃ d₄ p₄ t₄ d₅ p₅ t₅ d₆ p₆ t₆ ++ (P, .obj (tabObj (ps ++ #[rawInt 71, rawInt 4, .ref c']))) :: O)) N (by obtain ⟨o, ho, _⟩ := KK.sm; exact ⟨o, ho⟩) (fun f hf => ?_) (.head _) S fun a ns d td s₆ S => ?_
  · simp only [List.mem_cons, List.not_mem_nil, or_false] at hf
    rcases hf with rfl | rfl | rfl | rfl | rfl | rfl
    · exact ⟨_, List.mem_of_getElem? (i := 11) rfl, rfl⟩
    · exact ⟨_, List.mem_of_getElem? (i := 9) rfl, rfl⟩
    · exact ⟨_, List.mem_of_getElem? (i := 7) rfl, rfl⟩
    · exact ⟨_, List.mem_of_getElem? (i := 5) rfl, rfl⟩
    · exact ⟨_, List.mem_of_getElem? (i := 3) rfl, rfl⟩
    · exact ⟨_, List.mem_of_getElem? (i := 1) rfl, rfl⟩
  · refine hP' a _ _ _ (S.nth 0 rfl).get ?_
    refine wpAny_bind (wpAny_pure (wpAny_bind (wpAny_standAt (wpAny_bind (wpAny_bindName (st_store S (fun s₇ S => wpAny_pure ?_) hkf hkK))))))
    exact k _ _ _ _ _ _ _ _ _ _ _ _ _ _ _ _ _ _ _ _ _ _ _ _ _ _ _ _ _ _ _ _ _ _ _ _ _ _ _ _ _ _ _ _ ((((S.drop 3).drop 3).drop 3).drop 3)
end
end Mine
end

section
set_option maxRecDepth 100000
namespace Mine
open PySem PyProof.Rows
open PySem.W (tabObj CodeHd fnMade Looks hideAll of_hideAll hideAll_get hideAll_none Frag findIn typeIn takesIn slotIn makesIn plainOver takerIn clsIn nsIn ownIn alongIn specialIn recIn plainGet isClsIn instIn subIn mroIn onlyObject)

theorem lookup_nodup : ∀ {l : Frag}, (l.map (·.1)).Nodup → ∀ {i : Nat} {a : Addr} {o : Obj}, l[i]? = some (a, o) → l.lookup a = some o
  | [], _, _, _, _, h => by simp at h
  | (b, p) :: r, nd, 0, a, o, h => by
    simp at h; obtain ⟨rfl, rfl⟩ := h
    simp
  | (b, p) :: r, nd, i + 1, a, o, h => by
    rw [List.map_cons, List.nodup_cons] at nd
    have h' : r[i]? = some (a, o) := by simpa using h
    have hm := List.mem_of_getElem? h'
    have hne : (a == b) = false := by
      have : a ≠ b := fun z => nd.1 (List.mem_map.mpr ⟨_, hm, z⟩)
      simpa using this
    rw [List.lookup_cons, hne]
    exact lookup_nodup nd.2 h'

/-- the class K as the library's rules want it -/
structure KFr (K : Frag) (C d fI fL fG fE : Addr) : Prop where
  makes : makesIn K C = true
  cls : isClsIn K C = true
  init : findIn K (.ref C) "__init__" = some (some (.ref fI))
  lt : findIn K (.ref C) "__lt__" = some (some (.ref fL))
  gt : findIn K (.ref C) "__gt__" = some (some (.ref fG))
  eq : findIn K (.ref C) "__eq__" = some (some (.ref fE))
  tI : typeIn K (.ref fI) = some (.type "function")
  tL : typeIn K (.ref fL) = some (.type "function")
  tG : typeIn K (.ref fG) = some (.type "function")
  tE : typeIn K (.ref fE) = some (.type "function")
  set : findIn K (.ref C) "__setattr__" = some (some (.builtin "object.__setattr__"))
  ga : plainGet K C "obj" = true
  obj : findIn K (.ref C) "obj" = some (some (.ref d))
  over : plainOver K C = true
  taker : takerIn K C "obj" = some (some (.ref d))
  takes : takesIn K (.ref d) = some true
  get : specialIn K (.ref d) "__get__" = some (some (.builtin "member_descriptor.__get__"))
  tD : typeIn K (.ref d) = some (.type "member_descriptor")
  slot : slotIn K d C = some 0

theorem kfr_of {K : Frag} {C ns d fI fL fG fE : Addr} {l : List (Str × Value)} {oN oI oL oG oE : Obj} {es : Array DictEntry} {n : Nat} {td gT : Nat} {tn tq : Tok}
    (hC : K.lookup C = some (clsO (kCls C ns) (kSlots gT tn tq))) (hN : K.lookup ns = some oN) (hd : oN.data = .dict es n) (he : Ents es.toList l) (hD : K.lookup d = some (memO C td))
    (hI : K.lookup fI = some oI) (hIc : oI.cls = .type "function") (hL : K.lookup fL = some oL) (hLc : oL.cls = .type "function") (hG : K.lookup fG = some oG) (hGc : oG.cls = .type "function") (hE : K.lookup fE = some oE) (hEc : oE.cls = .type "function")
    (l1 : l.lookup ("__init__" : Str) = some (.ref fI)) (l2 : l.lookup ("__lt__" : Str) = some (.ref fL)) (l3 : l.lookup ("__gt__" : Str) = some (.ref fG)) (l4 : l.lookup ("__eq__" : Str) = some (.ref fE)) (l5 : l.lookup ("obj" : Str) = some (.ref d))
    (l6 : l.lookup ("__setattr__" : Str) = none) (l7 : l.lookup ("__getattribute__" : Str) = none) (l8 : l.lookup ("__getattr__" : Str) = none) : KFr K C d fI fL fG fE := by
  have hns : ∀ name, nsIn K ns name = some (l.lookup name) := fun name => by
    obtain ⟨c1, c2, c3, c4⟩ := oN
    simp only at hd
    subst hd
    unfold nsIn
    rw [hN]
    have := he.find name
    dsimp only
    cases q : es.toList.find? (·.key.isStr name) with
    | some e => rw [q] at this; rw [← this]; rfl
    | none => rw [q] at this; rw [← this]; simp only [he.noRef]; rfl
  have hfind : ∀ name, findIn K (.ref C) name = some (match l.lookup name with | some v => some v | none => fastBuiltinOwn "object" name) := fun name => by
    unfold findIn
    dsimp only
    rw [hC]
    show alongIn K name [.ref C, .type "object"] = _
    simp only [alongIn]
    have : ownIn K name (.ref C) = some (l.lookup name) := by
      unfold ownIn; dsimp only; rw [hC]; exact hns name
    rw [this]
    cases l.lookup name with
    | some v => rfl
    | none =>
      show (match ownIn K name (.type "object") with | some (some v) => some (some v) | some none => alongIn K name [] | none => none) = _
      show (match some (fastBuiltinOwn "object" name) with | some (some v) => some (some v) | some none => some none | none => none) = _
      cases fastBuiltinOwn "object" name <;> rfl
  have hcls : clsIn K C = some (kCls C ns) := by unfold clsIn; rw [hC]
  have htc : typeIn K (.ref C) = some (.type "type") := by show (K.lookup C).map (·.cls) = _; rw [hC]; rfl
  have htd : typeIn K (.ref d) = some (.type "member_descriptor") := by show (K.lookup d).map (·.cls) = _; rw [hD]; rfl
  have hsp : ∀ name, specialIn K (.ref d) name = fastLookup "member_descriptor" name := fun name => by unfold specialIn; rw [htd]; rfl
  have htk : takesIn K (.ref d) = some true := by
    unfold takesIn; rw [hsp]
    have : fastLookup "member_descriptor" "__set__" = some (some (.builtin "member_descriptor.__set__")) := by kernel_rfl
    rw [this]
  have hob : findIn K (.ref C) "obj" = some (some (.ref d)) := by rw [hfind, l5]
  refine ⟨?_, by unfold isClsIn; rw [hcls]; rfl, by rw [hfind, l1], by rw [hfind, l2], by rw [hfind, l3], by rw [hfind, l4], by show (K.lookup fI).map (·.cls) = _; rw [hI, Option.map_some, hIc], by show (K.lookup fL).map (·.cls) = _; rw [hL, Option.map_some, hLc], by show (K.lookup fG).map (·.cls) = _; rw [hG, Option.map_some, hGc], by show (K.lookup fE).map (·.cls) = _; rw [hE, Option.map_some, hEc], ?_, ?_, hob, ?_, ?_, htk, ?_, htd, ?_⟩
  · unfold makesIn
    rw [hC]
    have h1 : specialIn K (.ref C) "__call__" = some (some (.builtin "type.__call__")) := by unfold specialIn; rw [htc]; show findIn K (.type "type") _ = _; kernel_rfl
    have h2 : instIn K (.ref C) (.type "type") = some true := by unfold instIn; rw [htc]; show subIn K (.type "type") _ = _; kernel_rfl
    simp only [h1, h2]
    simp
  · rw [hfind, l6]
    have : fastBuiltinOwn "object" "__setattr__" = some (.builtin "object.__setattr__") := by kernel_rfl
    simp only [this]
  · unfold plainGet
    rw [hfind, hfind, l7, l8]
    have : fastBuiltinOwn "object" "__getattribute__" = some (.builtin "object.__getattribute__") := by kernel_rfl
    have h2 : fastBuiltinOwn "object" "__getattr__" = none := by kernel_rfl
    simp only [this, h2]
    simp
  · unfold plainOver; rw [hcls]; rfl
  · unfold takerIn; rw [hob]
    simp only [Option.bind_some, htk, Option.map_some, if_true]
  · rw [hsp]; kernel_rfl
  · unfold slotIn recIn
    rw [hD, hcls]
    simp [rawInt]
end Mine
end

section
set_option maxRecDepth 100000
namespace Mine
open PySem PyProof.Rows
open PySem.W (tabObj CodeHd fnMade Looks hideAll of_hideAll hideAll_get hideAll_none Frag)

/-- the class that cmp_to_key has made of the comparison cmp stands there, apart from the frames fs -/
def KAt (h : Heap) (fs : List Addr) (C cmp : Addr) : Prop := ∃ (K : Frag) (d fI fL fG fE mc : Addr) (cI cL cG cE : Value), K.In h ∧ KFr K C d fI fL fG fE ∧ (∀ a o, K.lookup a = some o → a ∉ fs) ∧ h.IsCell mc (some (.ref cmp)) ∧
  FnC h fI (cStm 2) (kQual ++ "." ++ nameOf (cStm 2)) cI .none [] ∧ FnC h fL (cStm 3) (kQual ++ "." ++ nameOf (cStm 3)) cL .none [("mycmp", mc)] ∧ FnC h fG (cStm 4) (kQual ++ "." ++ nameOf (cStm 4)) cG .none [("mycmp", mc)] ∧ FnC h fE (cStm 5) (kQual ++ "." ++ nameOf (cStm 5)) cE .none [("mycmp", mc)]
theorem KAt.st {fs : List Addr} {s₀ s : Shared} {L : Addr} {m : Str → Option Value} {O : List (Addr × Ky)} {C cmp : Addr} (x : KAt s₀.heap fs C cmp) (S : St fs s₀ L m O s) : KAt s.heap (L :: fs) C cmp := by
  obtain ⟨K, d, fI, fL, fG, fE, mc, cI, cL, cG, cE, a, b, c, e, f, g, i, j⟩ := x
  refine ⟨K, d, fI, fL, fG, fE, mc, cI, cL, cG, cE, fun p o q => S.keep _ _ (a p o q) (c p o q), b, fun p o q z => ?_, S.upto.isCell e, S.upto.fnC f, S.upto.fnC g, S.upto.fnC i, S.upto.fnC j⟩
  rcases List.mem_cons.mp z with rfl | z
  · have := a p o q
    rw [S.above] at this; cases this
  · exact c p o q z

/-- cmp_to_key makes the class -/
theorem ctk_ok {prog : Program} {w : World} {A : Around} {s : Shared} {E Q : Value → Shared → Prop} {cmp : Addr}
    (T : Txt s.heap) (N : NoOpq s.heap) (hroom : A.depth + 1 < recursionLimit) (C : CodeHd s.heap 64 60) (hP : s.heap.get? 60 = some (tabObj #[]))
    (k : ∀ K s', KeepsX 60 s s' → s.heap.get? K = none → (∀ fs : List Addr, (∀ f ∈ fs, ∃ o, s.heap.get? f = some o) → KAt s'.heap fs K cmp) → (∃ ps, s'.heap.get? 60 = some (tabObj ps)) → Q (.ref K) s') :
    wpAny (model prog w) A (call (.ref 65) [.ref cmp]) Q E s := by
  refine call_k [] (by simp) [("mycmp", .ref cmp)] (m := fun _ => none) (cl := [("mycmp", s.heap.objs.size + 1)]) (O := [(s.heap.objs.size + 1, .cell (some (.ref cmp)))])
    T.f12 T.lim (by (first | lia | omega)) rfl rfl rfl (fun s₁ S => ?_) (fun _ => rfl) ?_ ?_ rfl rfl rfl
  · have T := hid_txt hP T
    have C := hid_hd hP C
    have N : NoOpq (hideAll s.heap [60]) := by obtain ⟨mc, a, b⟩ := N; exact ⟨mc, hid_ns hP a, b⟩
    have S := S.hide hP (by simp)
    refine wpAny_execs_cons ?_
    refine cls_ok (s₀ := { s with heap := hideAll s.heap [60] }) (mc := s.heap.objs.size + 1) S N rfl C trivial rfl rfl rfl T.glb T.lim (by show A.depth + 1 < _; exact hroom) rfl (by kernel_rfl) rfl rfl rfl fun a ns d td gT tn tq fl tm tl sl sa c' f₁ c₁ f₂ c₂ f₃ c₃ f₄ c₄ f₅ c₅ f₆ c₆ d₁ p₁ t₁ d₂ p₂ t₂ d₃ p₃ t₃ d₄ p₄ t₄ d₅ p₅ t₅ d₆ p₆ t₆ s₂ S => ?_
    refine wpAny_execs_cons (x_retV S (ev_local S.ns rfl) fun s₃ S => ?_)
    refine k a s₃ S.keepsX (S.newX 0 15 rfl rfl) (fun fs hfs => ?_) ⟨_, (S.nth 15 rfl).get⟩
    obtain ⟨oN, hN, -, -, -, es, n, hd, he⟩ := S.nth 1 rfl
    have hf1 := (S.nth 13 rfl).get
    have hf2 := (S.nth 11 rfl).get
    have hf3 := (S.nth 9 rfl).get
    have hf4 := (S.nth 7 rfl).get
    generalize hg1 : fnMade (nameOf (cStm 2)) _ _ _ _ _ _ _ _ _ = o₁ at hf1
    generalize hg2 : fnMade (nameOf (cStm 3)) _ _ _ _ _ _ _ _ _ = o₂ at hf2
    generalize hg3 : fnMade (nameOf (cStm 4)) _ _ _ _ _ _ _ _ _ = o₃ at hf3
    generalize hg4 : fnMade (nameOf (cStm 5)) _ _ _ _ _ _ _ _ _ = o₄ at hf4
    let K : Frag := [(a, clsO (kCls a ns) (kSlots gT tn tq)), (ns, oN), (d, memO a td), (f₄, o₄), (f₃, o₃), (f₂, o₂), (f₁, o₁)]
    have nd : (K.map (·.1)).Nodup := by
      refine S.apart.sublist ?_
      show [a, ns, d, f₄, f₃, f₂, f₁].Sublist (a :: ns :: d :: f₆ :: c₆ :: f₅ :: c₅ :: f₄ :: c₄ :: f₃ :: c₃ :: f₂ :: c₂ :: f₁ :: c₁ :: _)
      repeat first | exact List.nil_sublist _ | apply List.Sublist.cons_cons | apply List.Sublist.cons
    have inK : ∀ p o, K.lookup p = some o → s₃.heap.get? p = some o ∧ s.heap.get? p = none := fun p o q => by
      have hm : (p, o) ∈ K := by
        clear_value K
        clear nd
        induction K with
        | nil => cases q
        | cons x r ih =>
          obtain ⟨b, y⟩ := x
          rw [List.lookup_cons] at q
          by_cases e : p = b
          · subst e; simp at q; subst q; exact .head _
          · have e' : (p == b) = false := by simpa using e
            rw [e'] at q
            exact .tail _ (ih q)
      simp only [K, List.mem_cons, List.not_mem_nil, or_false, Prod.mk.injEq] at hm
      rcases hm with ⟨rfl, rfl⟩ | ⟨rfl, rfl⟩ | ⟨rfl, rfl⟩ | ⟨rfl, rfl⟩ | ⟨rfl, rfl⟩ | ⟨rfl, rfl⟩ | ⟨rfl, rfl⟩
      · exact ⟨(S.nth 0 rfl).get, S.newX 0 15 rfl rfl⟩
      · exact ⟨hN, S.newX 1 15 rfl rfl⟩
      · exact ⟨(S.nth 2 rfl).get, S.newX 2 15 rfl rfl⟩
      · exact ⟨hf4, S.newX 7 15 rfl rfl⟩
      · exact ⟨hf3, S.newX 9 15 rfl rfl⟩
      · exact ⟨hf2, S.newX 11 15 rfl rfl⟩
      · exact ⟨hf1, S.newX 13 15 rfl rfl⟩
    refine ⟨K, d, f₁, f₂, f₃, f₄, s.heap.objs.size + 1, _, _, _, _, fun p o q => (inK p o q).1, ?_, fun p o q z => ?_, (S.nth 16 rfl).isCell, FnC.of (ctv := t₁) (doc := d₁) (pm := p₁) (S.nth 13 rfl) (S.nth 14 rfl), FnC.of (ctv := t₂) (doc := d₂) (pm := p₂) (S.nth 11 rfl) (S.nth 12 rfl), FnC.of (ctv := t₃) (doc := d₃) (pm := p₃) (S.nth 9 rfl) (S.nth 10 rfl), FnC.of (ctv := t₄) (doc := d₄) (pm := p₄) (S.nth 7 rfl) (S.nth 8 rfl)⟩
    · exact kfr_of (ns := ns) (l := kNames2 fl tm tl sl f₁ f₂ f₃ f₄ f₅ f₆ sa d) (lookup_nodup nd (i := 0) rfl) (lookup_nodup nd (i := 1) rfl) hd he (lookup_nodup nd (i := 2) rfl) (lookup_nodup nd (i := 6) rfl) (by rw [← hg1]) (lookup_nodup nd (i := 5) rfl) (by rw [← hg2]) (lookup_nodup nd (i := 4) rfl) (by rw [← hg3]) (lookup_nodup nd (i := 3) rfl) (by rw [← hg4]) rfl rfl rfl rfl rfl rfl rfl rfl
    · obtain ⟨o', h'⟩ := hfs p z
      rw [(inK p o q).2] at h'; cases h'
  · intro p hp
    simp only [List.mem_cons, List.not_mem_nil, or_false] at hp
    rcases hp with rfl; rfl
  · intro x hx
    simp only [List.mem_cons, List.not_mem_nil, or_false] at hx
    rcases hx with rfl; exact .inr ⟨rfl, rfl⟩
end Mine
end

section
set_option maxRecDepth 100000
namespace Mine
open PySem PyProof.Rows
open PySem.W (tabObj CodeHd fnMade Looks hideAll of_hideAll hideAll_get hideAll_none hideAll_size Frag make_core makes_of bind_fn looks_findIn InitBack instObj emptyDict InstAt set_plain osa_descr slot_set get_bind plainGet_of findObj_data slot_get handed_on)

/-- a key: an object of the class C that holds v -/
abbrev keyO (C dx : Addr) (v : Value) : Obj := { cls := .ref C, dict := some dx, data := .plain, slots := #[some v] }
def KeyAt (h : Heap) (x C : Addr) (v : Value) : Prop := ∃ dx, h.get? x = some (keyO C dx v) ∧ h.get? dx = some emptyDict
theorem KeyAt.inst {h : Heap} {x C : Addr} {v : Value} (k : KeyAt h x C v) : ∃ dx, InstAt h x (keyO C dx v) C (some emptyDict) := let ⟨dx, a, b⟩ := k; ⟨dx, a, rfl, rfl, b⟩

section
variable {prog : Program} {w : World} {A : Around} {s : Shared} {E : Value → Shared → Prop}
theorem call_cc {R : Result → Shared → Prop} (fs : List Addr) (hfs : ∀ f ∈ fs, ∃ o, s.heap.get? f = some o) {st : Stmt} {a : Addr} {qn : Str} {c dV : Value} {cl : List (Str × Addr)} {args : List Value} (binds : List (Str × Value)) (F : FnC s.heap a st qn c dV cl) (hlim : s.heap.NoLimit) (hroom : A.depth < recursionLimit)
    (k : ∀ s₁, St fs s s.heap.objs.size (fun x => binds.reverse.lookup x) [] s₁ →
      wpAny (model prog w) (A.deeper (envC st qn c cl s.heap.objs.size a)) (execs (bodyOf st) (envC st qn c cl s.heap.objs.size a)) (fun f s' => R (.ok (.ret (match f with | .ret v => v | _ => .none))) s') (fun _ _ => False) s₁)
    (hbind : ∀ pm ct doc, BindsTo s (fdC st qn c pm ct dV doc cl) ⟨args, []⟩ binds) (hcell : ∀ x ∈ (scopeOf st).names, x.2 ≠ .cell) (hloc : ∀ x ∈ binds, (scopeOf st).names.lookup x.1 = some .local)
    (hco : (scopeOf st).isCoroutine = false) (hgen : (scopeOf st).isGenerator = false) (hk : (scopeOf st).kind = .function) : codeAny (model prog w) A (.call (.ref a) ⟨args, []⟩) R s := by
  obtain ⟨⟨o, pm, ct, doc, ho, hod⟩, hcd⟩ := F
  refine codeAny_call_def (fd := fdC st qn c pm ct dV doc cl) (body := bodyOf st) (binds := binds) hroom ho hod hlim hcd rfl (hbind pm ct doc) hcell hloc (fun h₀ hns hk' => ?_) hco hgen hk
  refine wpAny_mono (k { s with heap := h₀, toks := s.toks + binds.length } ⟨⟨_, _, rfl⟩, hns, fun b o q _ => hk' b o q, fun b o q => ⟨o.slots, hk' b o q⟩, fun p hp => (nomatch hp), fun p hp => (nomatch hp), by simp, Heap.get?_none_of_le (Nat.le_refl _), hfs⟩) (fun _ _ q => q) fun _ _ q => q.elim

theorem St.frO {s₀ s : Shared} {m : Str → Option Value} {O : List (Addr × Ky)} {fs : List Addr} (hs : List Addr) (S : St fs s₀ s₀.heap.objs.size m O s) (hfs : ∀ f ∈ fs, f ∈ hs) : Fr (hideAll s₀.heap hs) s₀.heap.objs.size s.heap m :=
  ⟨S.ns, fun b o e => S.keep b o (of_hideAll _ e) (fun z => by rw [hideAll_none _ (hfs b z)] at e; cases e), Nat.le_of_eq (hideAll_size _ _)⟩

/-- a key is made -/
theorem key_ok {fs : List Addr} {C cmp : Addr} {v : Value} {Q : Value → Shared → Prop} (K : KAt s.heap fs C cmp) (hlim : s.heap.NoLimit) (hroom : A.depth + 1 < recursionLimit)
    (k : ∀ x dx s', Keeps s s' → Made s s' [(x, .obj (keyO C dx v)), (dx, .obj emptyDict)] → Q (.ref x) s') : wpAny (model prog w) A (call (.ref C) [v]) Q E s := by
  obtain ⟨K, d, fI, fL, fG, fE, mc, cI, cL, cG, cE, X, Y, -, hc, FI, -⟩ := K
  refine wpAny_call ?_
  have hlt : ∀ b o, s.heap.get? b = some o → b < s.heap.objs.size := fun b o q => Heap.lt_size q
  obtain ⟨h, g, dr, t, os⟩ := s
  refine make_core (makes_of X Y.makes) (looks_findIn X Y.init) (fun self => bind_fn X self Y.tI) (.inl (by simp)) ?_
  have up : ∀ b o, h.get? b = some o → ((h.push emptyDict).push (instObj C h.objs.size)).get? b = some o := fun b o e => Heap.get?_push_of_some _ (Heap.get?_push_of_some _ e)
  have hx : ((h.push emptyDict).push (instObj C h.objs.size)).get? (h.objs.size + 1) = some (instObj C h.objs.size) := by rw [← Heap.size_push h emptyDict]; exact Heap.get?_push_size _ rfl
  have hdx : ((h.push emptyDict).push (instObj C h.objs.size)).get? h.objs.size = some emptyDict := Heap.get?_push_of_some _ (Heap.get?_push_size _ rfl)
  have U : UpTo h ((h.push emptyDict).push (instObj C h.objs.size)) := .of_keeps up
  refine call_cc [] (by simp) [("self", .ref (h.objs.size + 1)), ("obj", v)] (U.fnC FI) (U.noLimit hlim) (by show A.depth + 1 < _; exact hroom) (fun s₁ S => ?_) (fun _ _ _ => .of_eq rfl) (by decide) (locs rfl) rfl rfl rfl
  have F := S.frO [h.objs.size + 1] (by simp)
  have N : News (hideAll ((h.push emptyDict).push (instObj C h.objs.size)) [h.objs.size + 1]) ((h.push emptyDict).push (instObj C h.objs.size)).objs.size s₁.heap ([] ++ (h.objs.size + 1, instObj C h.objs.size) :: []) := fun p hp => by
    simp only [List.nil_append, List.mem_cons, List.not_mem_nil, or_false] at hp
    subst hp
    exact ⟨S.keepsAll _ _ hx, Nat.ne_of_lt (Heap.lt_size hx), hideAll_none _ (.head _)⟩
  have X₁ : Frag.In K s₁.heap := fun a o e => S.keepsAll _ _ (up _ _ (X a o e))
  have I₁ : InstAt s₁.heap (h.objs.size + 1) (instObj C h.objs.size) C (some emptyDict) := ⟨S.keepsAll _ _ hx, rfl, rfl, S.keepsAll _ _ hdx⟩
  obtain ⟨h₁, tk₁, hs₁⟩ := S.same
  refine wpAny_execs_cons (plainObj_wpAny_Assign_Attribute (EvV.go (ev_local S.ns (v := v) rfl) fun tk => EvV.go (s := { s₁ with toks := tk }) (ev_local S.ns (v := .ref (h.objs.size + 1)) rfl) fun tk' => ?_))
  refine set_plain (s := { s₁ with toks := tk' }) X₁ I₁ Y.set ?_
  refine osa_descr (s := { s₁ with toks := tk' + 1 }) PySem.W.KF.slot_mset X₁ I₁ Y.over Y.taker Y.tD ?_
  refine slot_set (s := { s₁ with toks := tk' + 1 }) F N X₁ I₁ Y.slot (by decide) (by simp) (by simp) (ox' := keyO C h.objs.size v) rfl rfl fun h' F' N' => ?_
  refine wpAny_execs_nil ⟨rfl, ?_⟩
  have hN := N' (h.objs.size + 1, keyO C h.objs.size v) (by simp)
  have keepx : ∀ b o, b ≠ h.objs.size + 1 → ((h.push emptyDict).push (instObj C h.objs.size)).get? b = some o → h'.get? b = some o := fun b o hb q => F'.keep b o (hideAll_get _ q (by simpa using hb))
  subst hs₁
  refine k (h.objs.size + 1) h.objs.size _ ⟨h', tk' + 1, rfl, fun b o q => keepx b o (Nat.ne_of_lt (Nat.lt_succ_of_lt (hlt b o q))) (up b o q)⟩ ⟨fun p hp => ?_, by simp⟩
  simp only [List.mem_cons, List.not_mem_nil, or_false] at hp
  rcases hp with rfl | rfl
  · exact ⟨.of_get hN.1, Heap.get?_none_of_le (Nat.le_succ _)⟩
  · exact ⟨.of_get (keepx _ _ (Nat.ne_of_lt (Nat.lt_succ_self _)) hdx), Heap.get?_none_of_le (Nat.le_refl _)⟩
end
end Mine
end

section
set_option maxRecDepth 100000
namespace Mine
open PySem PyProof.Rows
open PySem.W (tabObj CodeHd fnMade Looks hideAll of_hideAll hideAll_get hideAll_none hideAll_size Frag looks_findIn instObj emptyDict InstAt get_bind plainGet_of findObj_data slot_get handed_on cmp_K CmpBack notFirst isFn)

section
variable {prog : Program} {w : World} {A : Around} {env : Env} {h : Heap}
/-- the object that a key holds -/
theorem ev_key {n : Str} {p pos : Pos} {K : Frag} {C d fI fL fG fE x : Addr} {v : Value} (X : K.In h) (Y : KFr K C d fI fL fG fE) (hx : KeyAt h x C v) (e : EvV prog w A env h (.Name n p) (.ref x)) (hv : PySem.W.handedIn v = true) : EvV prog w A env h (.Attribute (.Name n p) "obj" pos) v := by
  intro s Q E hs hQ
  subst hs
  refine Attribute_Name_ (e s _ _ rfl fun tk => ?_)
  obtain ⟨dx, I⟩ := hx.inst
  exact get_bind (s := { s with toks := tk }) X I (plainGet_of Y.ga).1 (findObj_data Y.cls Y.obj Y.get Y.takes) (plainGet_of Y.ga).2 (wpAny_call (slot_get (s := { s with toks := tk + 1 }) X I Y.slot rfl (handed_on hv (hQ _))))
end

/-- a key, apart from the frames fs -/
def KeyIn (h : Heap) (fs : List Addr) (x C : Addr) (v : Value) : Prop := ∃ dx, (h.get? x = some (keyO C dx v) ∧ x ∉ fs) ∧ h.get? dx = some emptyDict ∧ dx ∉ fs
theorem KeyIn.at_ {h : Heap} {fs : List Addr} {x C : Addr} {v : Value} (k : KeyIn h fs x C v) : KeyAt h x C v := let ⟨dx, ⟨a, _⟩, b, _⟩ := k; ⟨dx, a, b⟩
theorem KeyIn.st {fs : List Addr} {s₀ s : Shared} {L : Addr} {m : Str → Option Value} {O : List (Addr × Ky)} {x C : Addr} {v : Value} (k : KeyIn s₀.heap fs x C v) (S : St fs s₀ L m O s) : KeyIn s.heap (L :: fs) x C v := by
  obtain ⟨dx, ⟨a, b⟩, c, d⟩ := k
  refine ⟨dx, ⟨S.keep _ _ a b, fun z => ?_⟩, S.keep _ _ c d, fun z => ?_⟩
  · rcases List.mem_cons.mp z with rfl | z
    · rw [S.above] at a; cases a
    · exact b z
  · rcases List.mem_cons.mp z with rfl | z
    · rw [S.above] at c; cases c
    · exact d z
theorem KeyIn.led {fs : List Addr} {s₀ s : Shared} {L : Addr} {m : Str → Option Value} {O : List (Addr × Ky)} {x dx C : Addr} {v : Value} (S : St fs s₀ L m O s) (h1 : (x, .obj (keyO C dx v)) ∈ O) (h2 : (dx, .obj emptyDict) ∈ O) : KeyIn s.heap (L :: fs) x C v := by
  have nfs : ∀ b k, (b, k) ∈ O → b ∉ L :: fs := fun b k hb z => by
    have hf := S.fresh _ hb
    rcases List.mem_cons.mp z with z | z
    · exact hf.2 z
    · obtain ⟨o, r⟩ := S.fsOld _ z
      rw [hf.1] at r; cases r
  exact ⟨dx, ⟨(S.led _ h1).get, nfs _ _ h1⟩, (S.led _ h2).get, nfs _ _ h2⟩

/-- what the keys speak of -/
structure Wld (h : Heap) (fs : List Addr) (C cmp fa la : Addr) (fl : List Int) (ld : List (List Int)) : Prop where
  txt : Txt h
  key : KAt h fs C cmp
  cmp : CmpAt h cmp fa la
  mach : MachAt h fa la fl ld
  ok : MachOk fl ld
theorem Wld.st {fs : List Addr} {s₀ s : Shared} {L : Addr} {m : Str → Option Value} {O : List (Addr × Ky)} {C cmp fa la : Addr} {fl : List Int} {ld : List (List Int)} (x : Wld s₀.heap fs C cmp fa la fl ld) (S : St fs s₀ L m O s) : Wld s.heap (L :: fs) C cmp fa la fl ld :=
  ⟨S.upto.txt x.txt, x.key.st S, S.upto.cmp x.cmp, S.upto.mach x.mach, x.ok⟩
/-- a thing that may be compared -/
structure Thg (h : Heap) (a : Addr) (xs bits : List Int) (n : Int) : Prop where
  at_ : ThingAt h a xs bits n
  inc : Inc xs
  lx : xs.length ≤ 100
  lb : bits.length ≤ 100
  bits : Bits bits
  nn : ∀ p ∈ xs, 0 ≤ p
theorem UpTo.thg {h h' : Heap} (k : UpTo h h') {a : Addr} {xs bits : List Int} {n : Int} (x : Thg h a xs bits n) : Thg h' a xs bits n := ⟨k.thing x.at_, x.inc, x.lx, x.lb, x.bits, x.nn⟩

section
variable {prog : Program} {w : World} {A : Around} {s : Shared} {E Q : Value → Shared → Prop} {x y tx ty C cmp fa la : Addr} {xs ys bx by' fl : List Int} {ld : List (List Int)} {nx ny : Int} {outer : List Env}

theorem klt_ok {K : Frag} {d fI fL fG fE mc : Addr} {c : Value} (X : K.In s.heap) (Y : KFr K C d fI fL fG fE) (hK : ∀ a o, K.lookup a = some o → a ∉ outer.filterMap (·.frame)) (hc : s.heap.IsCell mc (some (.ref cmp))) (FX : FnC s.heap fL (cStm 3) (kQual ++ "." ++ nameOf (cStm 3)) c .none [("mycmp", mc)])
    (T : Txt s.heap) (F : CmpAt s.heap cmp fa la) (M : MachAt s.heap fa la fl ld) (Ko : MachOk fl ld) (hroom : A.depth + 6 < recursionLimit) (hu : A.units + 110 < cLine) (hh : A.handled = none) (B : Frs A s.heap outer)
    (hx : KeyIn s.heap (outer.filterMap (·.frame)) x C (.ref tx)) (hy : KeyIn s.heap (outer.filterMap (·.frame)) y C (.ref ty)) (tX : Thg s.heap tx xs bx nx) (tY : Thg s.heap ty ys by' ny)
    (k : ∀ s', KeepsU (outer.filterMap (·.frame)) s s' → Q (.bool (decide (cmpOf fl ld xs ys bx < 0))) s') : wpAny (model prog w) A (call (.ref fL) [.ref x, .ref y]) Q E s := by
  refine call_c (outer.filterMap (·.frame)) B.old [("self", .ref x), ("other", .ref y)] FX T.lim (by (first | lia | omega)) (fun s₁ S => ?_) (fun _ _ _ => .of_eq rfl) (by decide) (locs rfl) rfl rfl rfl
  have X₁ : Frag.In K s₁.heap := fun a o e => S.keep _ _ (X a o e) (hK a o e)
  have kx : KeyAt s₁.heap x C (.ref tx) := (hx.st S).at_
  have ky : KeyAt s₁.heap y C (.ref ty) := (hy.st S).at_
  have hfn : ∃ o fd, s₁.heap.get? cmp = some o ∧ o.data = .func fd := by
    obtain ⟨qn, c, cS, cF, cL, st, qs, cs, p, q, r, u, v⟩ := S.upto.cmp F
    exact p.func
  refine wpAny_execs_cons (wpAny_Return_some (wpAny_Compare1 (w_callF (ev_free (c := mc) rfl (S.upto.isCell hc)) fun tk => Calls.spliced_cons (EvV.go (s := { s₁ with toks := tk }) (ev_key X₁ Y kx (ev_local S.ns rfl) rfl) fun tk' => Calls.spliced_cons (EvV.go (s := { s₁ with toks := tk' }) (ev_key X₁ Y ky (ev_local S.ns rfl) rfl) fun tk'' => Calls.spliced_nil ⟨hfn, ?_⟩))) (nm _ (by simp) (by simp))))
  have S := S.tok tk''
  refine compare_ok (S.upto.cmp F) (S.upto.txt T) (by show A.depth + 1 + 4 < _; (first | lia | omega)) (by show A.units + 3 + 100 < cLine; (first | lia | omega)) hh (B.deeper (env := envC (cStm 3) (kQual ++ "." ++ nameOf (cStm 3)) c [("mycmp", mc)] s.heap.objs.size fL) S rfl rfl) (S.upto.thing tX.at_) (S.upto.thing tY.at_) tX.inc tY.inc tX.lx tY.lx tX.lb tX.bits (fun p hp => (List.mem_append.mp hp).elim (tX.nn p) (tY.nn p)) (S.upto.mach M) Ko fun t s₂ kU => ?_
  have S := S.keptU kU
  refine wpAny_Constant_int (P.lt_int ?_)
  exact k _ (S.tok _).keepsU

theorem kgt_ok {K : Frag} {d fI fL fG fE mc : Addr} {c : Value} (X : K.In s.heap) (Y : KFr K C d fI fL fG fE) (hK : ∀ a o, K.lookup a = some o → a ∉ outer.filterMap (·.frame)) (hc : s.heap.IsCell mc (some (.ref cmp))) (FX : FnC s.heap fG (cStm 4) (kQual ++ "." ++ nameOf (cStm 4)) c .none [("mycmp", mc)])
    (T : Txt s.heap) (F : CmpAt s.heap cmp fa la) (M : MachAt s.heap fa la fl ld) (Ko : MachOk fl ld) (hroom : A.depth + 6 < recursionLimit) (hu : A.units + 110 < cLine) (hh : A.handled = none) (B : Frs A s.heap outer)
    (hx : KeyIn s.heap (outer.filterMap (·.frame)) x C (.ref tx)) (hy : KeyIn s.heap (outer.filterMap (·.frame)) y C (.ref ty)) (tX : Thg s.heap tx xs bx nx) (tY : Thg s.heap ty ys by' ny)
    (k : ∀ s', KeepsU (outer.filterMap (·.frame)) s s' → Q (.bool (decide (cmpOf fl ld xs ys bx > 0))) s') : wpAny (model prog w) A (call (.ref fG) [.ref x, .ref y]) Q E s := by
  refine call_c (outer.filterMap (·.frame)) B.old [("self", .ref x), ("other", .ref y)] FX T.lim (by (first | lia | omega)) (fun s₁ S => ?_) (fun _ _ _ => .of_eq rfl) (by decide) (locs rfl) rfl rfl rfl
  have X₁ : Frag.In K s₁.heap := fun a o e => S.keep _ _ (X a o e) (hK a o e)
  have kx : KeyAt s₁.heap x C (.ref tx) := (hx.st S).at_
  have ky : KeyAt s₁.heap y C (.ref ty) := (hy.st S).at_
  have hfn : ∃ o fd, s₁.heap.get? cmp = some o ∧ o.data = .func fd := by
    obtain ⟨qn, c, cS, cF, cL, st, qs, cs, p, q, r, u, v⟩ := S.upto.cmp F
    exact p.func
  refine wpAny_execs_cons (wpAny_Return_some (wpAny_Compare1 (w_callF (ev_free (c := mc) rfl (S.upto.isCell hc)) fun tk => Calls.spliced_cons (EvV.go (s := { s₁ with toks := tk }) (ev_key X₁ Y kx (ev_local S.ns rfl) rfl) fun tk' => Calls.spliced_cons (EvV.go (s := { s₁ with toks := tk' }) (ev_key X₁ Y ky (ev_local S.ns rfl) rfl) fun tk'' => Calls.spliced_nil ⟨hfn, ?_⟩))) (nm _ (by simp) (by simp))))
  have S := S.tok tk''
  refine compare_ok (S.upto.cmp F) (S.upto.txt T) (by show A.depth + 1 + 4 < _; (first | lia | omega)) (by show A.units + 3 + 100 < cLine; (first | lia | omega)) hh (B.deeper (env := envC (cStm 4) (kQual ++ "." ++ nameOf (cStm 4)) c [("mycmp", mc)] s.heap.objs.size fG) S rfl rfl) (S.upto.thing tX.at_) (S.upto.thing tY.at_) tX.inc tY.inc tX.lx tY.lx tX.lb tX.bits (fun p hp => (List.mem_append.mp hp).elim (tX.nn p) (tY.nn p)) (S.upto.mach M) Ko fun t s₂ kU => ?_
  have S := S.keptU kU
  refine wpAny_Constant_int (P.gt_int ?_)
  exact k _ (S.tok _).keepsU

theorem keq_ok {K : Frag} {d fI fL fG fE mc : Addr} {c : Value} (X : K.In s.heap) (Y : KFr K C d fI fL fG fE) (hK : ∀ a o, K.lookup a = some o → a ∉ outer.filterMap (·.frame)) (hc : s.heap.IsCell mc (some (.ref cmp))) (FX : FnC s.heap fE (cStm 5) (kQual ++ "." ++ nameOf (cStm 5)) c .none [("mycmp", mc)])
    (T : Txt s.heap) (F : CmpAt s.heap cmp fa la) (M : MachAt s.heap fa la fl ld) (Ko : MachOk fl ld) (hroom : A.depth + 6 < recursionLimit) (hu : A.units + 110 < cLine) (hh : A.handled = none) (B : Frs A s.heap outer)
    (hx : KeyIn s.heap (outer.filterMap (·.frame)) x C (.ref tx)) (hy : KeyIn s.heap (outer.filterMap (·.frame)) y C (.ref ty)) (tX : Thg s.heap tx xs bx nx) (tY : Thg s.heap ty ys by' ny)
    (k : ∀ s', KeepsU (outer.filterMap (·.frame)) s s' → Q (.bool (cmpOf fl ld xs ys bx == 0)) s') : wpAny (model prog w) A (call (.ref fE) [.ref x, .ref y]) Q E s := by
  refine call_c (outer.filterMap (·.frame)) B.old [("self", .ref x), ("other", .ref y)] FX T.lim (by (first | lia | omega)) (fun s₁ S => ?_) (fun _ _ _ => .of_eq rfl) (by decide) (locs rfl) rfl rfl rfl
  have X₁ : Frag.In K s₁.heap := fun a o e => S.keep _ _ (X a o e) (hK a o e)
  have kx : KeyAt s₁.heap x C (.ref tx) := (hx.st S).at_
  have ky : KeyAt s₁.heap y C (.ref ty) := (hy.st S).at_
  have hfn : ∃ o fd, s₁.heap.get? cmp = some o ∧ o.data = .func fd := by
    obtain ⟨qn, c, cS, cF, cL, st, qs, cs, p, q, r, u, v⟩ := S.upto.cmp F
    exact p.func
  refine wpAny_execs_cons (wpAny_Return_some (wpAny_Compare1 (w_callF (ev_free (c := mc) rfl (S.upto.isCell hc)) fun tk => Calls.spliced_cons (EvV.go (s := { s₁ with toks := tk }) (ev_key X₁ Y kx (ev_local S.ns rfl) rfl) fun tk' => Calls.spliced_cons (EvV.go (s := { s₁ with toks := tk' }) (ev_key X₁ Y ky (ev_local S.ns rfl) rfl) fun tk'' => Calls.spliced_nil ⟨hfn, ?_⟩))) (nm _ (by simp) (by simp))))
  have S := S.tok tk''
  refine compare_ok (S.upto.cmp F) (S.upto.txt T) (by show A.depth + 1 + 4 < _; (first | lia | omega)) (by show A.units + 3 + 100 < cLine; (first | lia | omega)) hh (B.deeper (env := envC (cStm 5) (kQual ++ "." ++ nameOf (cStm 5)) c [("mycmp", mc)] s.heap.objs.size fE) S rfl rfl) (S.upto.thing tX.at_) (S.upto.thing tY.at_) tX.inc tY.inc tX.lx tY.lx tX.lb tX.bits (fun p hp => (List.mem_append.mp hp).elim (tX.nn p) (tY.nn p)) (S.upto.mach M) Ko fun t s₂ kU => ?_
  have S := S.keptU kU
  refine wpAny_Constant_int (P.eq_int ?_)
  exact k _ (S.tok _).keepsU
end

section
variable {prog : Program} {w : World} {A : Around} {env : Env} {s₀ s : Shared} {m : Str → Option Value} {O : List (Addr × Ky)} {E Q : Value → Shared → Prop} {x y tx ty C cmp fa la : Addr} {xs ys bx by' fl : List Int} {ld : List (List Int)} {nx ny : Int} {outer : List Env}

theorem klt_rich (S : St (outer.filterMap (·.frame)) s₀ s₀.heap.objs.size m O s) (W : Wld s₀.heap (outer.filterMap (·.frame)) C cmp fa la fl ld) (hroom : A.depth + 6 < recursionLimit) (hu : A.units + 110 < cLine) (hh : A.handled = none) (B : Frs A s.heap (env :: outer)) (hf : env.frame = some s₀.heap.objs.size)
    (hx : KeyIn s.heap (s₀.heap.objs.size :: outer.filterMap (·.frame)) x C (.ref tx)) (hy : KeyIn s.heap (s₀.heap.objs.size :: outer.filterMap (·.frame)) y C (.ref ty)) (tX : Thg s.heap tx xs bx nx) (tY : Thg s.heap ty ys by' ny)
    (k : ∀ s', KeepsU (s₀.heap.objs.size :: outer.filterMap (·.frame)) s s' → Q (.bool (decide (cmpOf fl ld xs ys bx < 0))) s') : wpAny (model prog w) A (richCompare .Lt (.ref x) (.ref y)) Q E s := by
  obtain ⟨K, d, fI, fL, fG, fE, mc, cI, cL, cG, cE, X, Y, hK, hc, FI, FL, FG, FE⟩ := id W.key
  have efs : (env :: outer).filterMap (·.frame) = s₀.heap.objs.size :: outer.filterMap (·.frame) := by rw [List.filterMap_cons, hf]
  have X₀ : Frag.In K (hideAll s₀.heap (outer.filterMap (·.frame))) := fun a o e => hideAll_get _ (X a o e) (hK a o e)
  have X₁ : Frag.In K s.heap := fun a o e => S.keep _ _ (X a o e) (hK a o e)
  obtain ⟨dx, Ix⟩ := hx.at_.inst
  obtain ⟨dy, Iy⟩ := hy.at_.inst
  refine cmp_K (K := K) (C := C) (tb := .ref C) (f := fL) (by (first | lia | omega)) (S.frO (outer.filterMap (·.frame)) fun f hf => hf) X₀ Ix Iy.type (by simp [notFirst]) Y.lt (by unfold isFn; rw [Y.tL]; rfl) ?_
  refine klt_ok (outer := env :: outer) X₁ Y (fun a o e => ?_) (S.upto.isCell hc) (S.upto.fnC FL) (S.upto.txt W.txt) (S.upto.cmp W.cmp) (S.upto.mach W.mach) W.ok hroom hu hh B (by rw [efs]; exact hx) (by rw [efs]; exact hy) tX tY fun s' kU => ?_
  · rw [efs]
    intro z
    rcases List.mem_cons.mp z with rfl | z
    · have := X _ _ e
      rw [S.above] at this; cases this
    · exact hK a o e z
  · rw [efs] at kU
    exact k s' kU

theorem kgt_rich (S : St (outer.filterMap (·.frame)) s₀ s₀.heap.objs.size m O s) (W : Wld s₀.heap (outer.filterMap (·.frame)) C cmp fa la fl ld) (hroom : A.depth + 6 < recursionLimit) (hu : A.units + 110 < cLine) (hh : A.handled = none) (B : Frs A s.heap (env :: outer)) (hf : env.frame = some s₀.heap.objs.size)
    (hx : KeyIn s.heap (s₀.heap.objs.size :: outer.filterMap (·.frame)) x C (.ref tx)) (hy : KeyIn s.heap (s₀.heap.objs.size :: outer.filterMap (·.frame)) y C (.ref ty)) (tX : Thg s.heap tx xs bx nx) (tY : Thg s.heap ty ys by' ny)
    (k : ∀ s', KeepsU (s₀.heap.objs.size :: outer.filterMap (·.frame)) s s' → Q (.bool (decide (cmpOf fl ld xs ys bx > 0))) s') : wpAny (model prog w) A (richCompare .Gt (.ref x) (.ref y)) Q E s := by
  obtain ⟨K, d, fI, fL, fG, fE, mc, cI, cL, cG, cE, X, Y, hK, hc, FI, FL, FG, FE⟩ := id W.key
  have efs : (env :: outer).filterMap (·.frame) = s₀.heap.objs.size :: outer.filterMap (·.frame) := by rw [List.filterMap_cons, hf]
  have X₀ : Frag.In K (hideAll s₀.heap (outer.filterMap (·.frame))) := fun a o e => hideAll_get _ (X a o e) (hK a o e)
  have X₁ : Frag.In K s.heap := fun a o e => S.keep _ _ (X a o e) (hK a o e)
  obtain ⟨dx, Ix⟩ := hx.at_.inst
  obtain ⟨dy, Iy⟩ := hy.at_.inst
  refine cmp_K (K := K) (C := C) (tb := .ref C) (f := fG) (by (first | lia | omega)) (S.frO (outer.filterMap (·.frame)) fun f hf => hf) X₀ Ix Iy.type (by simp [notFirst]) Y.gt (by unfold isFn; rw [Y.tG]; rfl) ?_
  refine kgt_ok (outer := env :: outer) X₁ Y (fun a o e => ?_) (S.upto.isCell hc) (S.upto.fnC FG) (S.upto.txt W.txt) (S.upto.cmp W.cmp) (S.upto.mach W.mach) W.ok hroom hu hh B (by rw [efs]; exact hx) (by rw [efs]; exact hy) tX tY fun s' kU => ?_
  · rw [efs]
    intro z
    rcases List.mem_cons.mp z with rfl | z
    · have := X _ _ e
      rw [S.above] at this; cases this
    · exact hK a o e z
  · rw [efs] at kU
    exact k s' kU

theorem keq_rich (S : St (outer.filterMap (·.frame)) s₀ s₀.heap.objs.size m O s) (W : Wld s₀.heap (outer.filterMap (·.frame)) C cmp fa la fl ld) (hroom : A.depth + 6 < recursionLimit) (hu : A.units + 110 < cLine) (hh : A.handled = none) (B : Frs A s.heap (env :: outer)) (hf : env.frame = some s₀.heap.objs.size)
    (hx : KeyIn s.heap (s₀.heap.objs.size :: outer.filterMap (·.frame)) x C (.ref tx)) (hy : KeyIn s.heap (s₀.heap.objs.size :: outer.filterMap (·.frame)) y C (.ref ty)) (tX : Thg s.heap tx xs bx nx) (tY : Thg s.heap ty ys by' ny)
    (k : ∀ s', KeepsU (s₀.heap.objs.size :: outer.filterMap (·.frame)) s s' → Q (.bool (cmpOf fl ld xs ys bx == 0)) s') : wpAny (model prog w) A (richCompare .Eq (.ref x) (.ref y)) Q E s := by
  obtain ⟨K, d, fI, fL, fG, fE, mc, cI, cL, cG, cE, X, Y, hK, hc, FI, FL, FG, FE⟩ := id W.key
  have efs : (env :: outer).filterMap (·.frame) = s₀.heap.objs.size :: outer.filterMap (·.frame) := by rw [List.filterMap_cons, hf]
  have X₀ : Frag.In K (hideAll s₀.heap (outer.filterMap (·.frame))) := fun a o e => hideAll_get _ (X a o e) (hK a o e)
  have X₁ : Frag.In K s.heap := fun a o e => S.keep _ _ (X a o e) (hK a o e)
  obtain ⟨dx, Ix⟩ := hx.at_.inst
  obtain ⟨dy, Iy⟩ := hy.at_.inst
  refine cmp_K (K := K) (C := C) (tb := .ref C) (f := fE) (by (first | lia | omega)) (S.frO (outer.filterMap (·.frame)) fun f hf => hf) X₀ Ix Iy.type (by simp [notFirst]) Y.eq (by unfold isFn; rw [Y.tE]; rfl) ?_
  refine keq_ok (outer := env :: outer) X₁ Y (fun a o e => ?_) (S.upto.isCell hc) (S.upto.fnC FE) (S.upto.txt W.txt) (S.upto.cmp W.cmp) (S.upto.mach W.mach) W.ok hroom hu hh B (by rw [efs]; exact hx) (by rw [efs]; exact hy) tX tY fun s' kU => ?_
  · rw [efs]
    intro z
    rcases List.mem_cons.mp z with rfl | z
    · have := X _ _ e
      rw [S.above] at this; cases this
    · exact hK a o e z
  · rw [efs] at kU
    exact k s' kU
end
end Mine
end

section
set_option maxRecDepth 100000
namespace Mine
open PySem PyProof.Rows

/-- a namespace with these names -/
abbrev nmK (m : Str → Option Value) : Ky := .pred fun o => ∃ es ep, o.data = .dict es ep ∧ StrKeys es ∧ ∀ name, nsFind es name = m name
theorem At.ns {h : Heap} {a : Addr} {m : Str → Option Value} (x : At h a (nmK m)) : h.Ns a m := let ⟨o, ho, es, ep, r⟩ := x; ⟨o, es, ep, ho, r⟩
theorem At.of_ns {h : Heap} {a : Addr} {m : Str → Option Value} (x : h.Ns a m) : At h a (nmK m) := let ⟨o, es, ep, ho, r⟩ := x; ⟨o, ho, es, ep, r⟩

/-- an iterator that gives n values, and what it asks of the heap -/
structure Iter (prog : Program) (w : World) (A : Around) (I : Addr) (n : Nat) (P : Nat → Value → Prop) (K : Nat → Ky) (H : Heap → Prop) : Prop where
  item : ∀ (i : Nat) (s : Shared) (Q : Option Value → Shared → Prop) (E : Value → Shared → Prop), i < n → At s.heap I (K i) → H s.heap →
    (∀ v h' tk, P i v → Heap.SameBut I s.heap h' → At h' I (K (i + 1)) → Q (some v) { s with heap := h', toks := tk }) → wpAny (model prog w) A (pyNext (.ref I)) Q E s
  done : ∀ (s : Shared) (Q : Option Value → Shared → Prop) (E : Value → Shared → Prop), At s.heap I (K n) → H s.heap →
    (∀ h' tk, (∀ b o, b ≠ I → s.heap.get? b = some o → h'.get? b = some o) → Q none { s with heap := h', toks := tk }) → wpAny (model prog w) A (pyNext (.ref I)) Q E s
  self : ∀ (i : Nat) (s : Shared) (Q : Value → Shared → Prop) (E : Value → Shared → Prop), At s.heap I (K i) → Q (.ref I) s → wpAny (model prog w) A (pyIter (.ref I)) Q E s

theorem iter_list {prog : Program} {w : World} {A : Around} (hh : A.handled = none) (I l : Addr) (items : List Value) :
    Iter prog w A I items.length (fun i v => items[i]? = some v) (fun i => itr l i) (fun h => h.IsList l items.toArray) where
  item := fun i s Q E hi hk hl hQ => by
    obtain ⟨o, ho, a, b⟩ := hk
    refine wpAny_pyNext_list_item ⟨o, ho, a, b⟩ hl (x := items[i]) (by simp [hi]) fun h' hit' hs' => hQ _ h' s.toks (by simp [hi]) hs' ?_
    obtain ⟨o, ho, a, b⟩ := hit'
    exact ⟨o, ho, a, b⟩
  done := fun s Q E hk hl hQ => by
    obtain ⟨o, ho, a, b⟩ := hk
    exact wpAny_pyNext_list_end hh ⟨o, ho, a, b⟩ hl (by simp) fun h' hx => hQ h' s.toks fun b o q z => hx b o q z
  self := fun i s Q E hk hQ => by
    obtain ⟨o, ho, a, b⟩ := hk
    exact wpAny_pyIter_listiter ⟨o, ho, a, b⟩ hQ
abbrev ritO (x left : Int) : Obj := { cls := .type "range_iterator", dict := none, data := .fields #[rawInt x, rawInt left, rawInt 1], slots := #[] }
theorem iter_range {prog : Program} {w : World} {A : Around} (hh : A.handled = none) (I : Addr) (n : Nat) :
    Iter prog w A I n (fun i v => ∃ t, v = .int (i : Int) t) (fun i => .obj (ritO (i : Int) ((n : Int) - i))) (fun _ => True) where
  item := fun i s Q E hi hk _ hQ => by
    refine wpAny_pyNext_range_item hk.get (by (first | lia | omega)) fun h' hit' hs' => hQ _ h' _ ⟨_, rfl⟩ hs' ?_
    refine .of_get ?_
    have e : ((n : Int) - i - 1) = (n : Int) - ((i + 1 : Nat) : Int) := by (first | lia | omega)
    have e2 : ((i : Int) + 1) = ((i + 1 : Nat) : Int) := by (first | lia | omega)
    rw [e, e2] at hit'
    exact hit'
  done := fun s Q E hk _ hQ => wpAny_pyNext_range_end hh hk.get (by (first | lia | omega)) fun h' hx => hQ h' s.toks fun b o q z => hx b o q z
  self := fun i s Q E hk hQ => wpAny_pyIter_rangeiter hk.get hQ

section
variable {prog : Program} {w : World} {A : Around} {env cenv : Env} {fs : List Addr} {s₀ s : Shared} {L : Addr} {m : Str → Option Value} {O : List (Addr × Ky)}

/-- the turns of a list comprehension -/
theorem comp_loop {elt target iter : Expr} {ifs : List Expr} {scope : Scope} {pos : Pos} {R : Result → Shared → Prop} {I D : Addr} {n : Nat} {P : Nat → Value → Prop} {K : Nat → Ky} {H : Heap → Prop} (IT : Iter prog w A I n P K H) (hn : n ≤ 1000)
    (F0 : List (Addr × Ky) → Prop) (FS : Value → List (Addr × Ky) → Prop) (h0S : ∀ v F, FS v F → F0 F)
    (store : ∀ F Rr s v (Q : Unit → Shared → Prop) E, F0 F → St fs s₀ L m (F ++ Rr) s → (∀ F' s', FS v F' → St fs s₀ L m (F' ++ Rr) s' → Q () s') → wpAny (model prog w) A (assign target cenv v) Q E s)
    (J : Nat → List Value → List (Addr × Ky) → Prop) {F : List (Addr × Ky)} (hF : F0 F) (S : St fs s₀ L m (F ++ (D, .list []) :: (I, K 0) :: O) s) (hJ : J 0 [] O)
    (hH : ∀ j j' ys F' O' s', St fs s₀ L m (F' ++ (D, .list ys) :: (I, K j) :: O') s' → J j' ys O' → H s'.heap)
    (turn : ∀ j v ys F' O' s' (E' : Value → Shared → Prop), j < n → P j v → J j ys O' → FS v F' → St fs s₀ L m (F' ++ (D, .list ys) :: (I, K (j + 1)) :: O') s' →
      wpAny (model prog w) A (forIn ifs true fun c r => if r = true then do let ok ← isTrue c cenv (eval c cenv); pure (ForInStep.yield ok) else pure (ForInStep.yield r)) (fun ok s₁ =>
        if ok = true then wpAny (model prog w) A (eval elt cenv) (fun y s₂ => ∃ O'', St fs s₀ L m (F' ++ (D, .list ys) :: (I, K (j + 1)) :: O'') s₂ ∧ J (j + 1) (ys ++ [y]) O'') E' s₁
        else ∃ O'', St fs s₀ L m (F' ++ (D, .list ys) :: (I, K (j + 1)) :: O'') s₁ ∧ J (j + 1) ys O'') E' s')
    (fin : ∀ ys F' O' s', F0 F' → St fs s₀ L m (F' ++ (D, .list ys) :: O') s' → J n ys O' → ys.length ≤ n → R (.ok .next) s')
    (ht : ∀ v, letOwnedTupleGo target (.ref I) v = pure () := by intro _; rfl) :
    codeAny (model prog w) A (.compLoop (.ListComp elt [⟨target, iter, ifs, 0⟩] scope pos) 0 (.ref I) (.ref D) cenv) R s := by
  refine codeAny_compLoop_tests (fun k s' => ∃ j ys F' O', k = n - j ∧ j ≤ n ∧ ys.length ≤ j ∧ F0 F' ∧ St fs s₀ L m (F' ++ (D, .list ys) :: (I, K j) :: O') s' ∧ J j ys O') ?_ (n - 0) ⟨0, [], F, O, rfl, Nat.zero_le _, Nat.le_refl _, hF, S, hJ⟩ ht
  rintro k s' ⟨j, ys, F', O', rfl, hj, hys, hF', S', hJ'⟩
  have hH' := hH j j ys F' O' s' S' hJ'
  have hI : (F' ++ (D, Ky.list ys) :: (I, K j) :: O')[F'.length + 1]? = some (I, K j) := by
    rw [List.getElem?_append_right (by (first | lia | omega))]; simp
  have hD : ∀ O'', (F' ++ (D, Ky.list ys) :: O'')[F'.length]? = some (D, Ky.list ys) := fun O'' => by
    rw [List.getElem?_append_right (by (first | lia | omega))]; simp
  by_cases hlt : j < n
  · refine IT.item j s' _ _ hlt (S'.nth _ hI) hH' fun v h' tk hv hs' hk' => ?_
    have S₁ := S'.upd (F'.length + 1) (t := tk) hI hs' hk'
    rw [List.set_append_right _ _ (by (first | lia | omega))] at S₁
    simp only [Nat.add_sub_cancel_left, List.set_cons_succ, List.set_cons_zero] at S₁
    refine store F' _ _ v _ _ hF' S₁ fun F₁ s₁ hF₁ S₂ => ?_
    refine wpAny_mono (turn j v ys F₁ O' s₁ _ hlt hv hJ' hF₁ S₂) (fun ok s₂ h₂ => ?_) fun _ _ e => e
    split
    · rename_i hok
      rw [if_pos hok] at h₂
      refine wpAny_mono h₂ (fun y s₃ h₃ => ?_) fun _ _ e => e
      obtain ⟨O'', S₃, J₃⟩ := h₃
      have hD' : (F₁ ++ (D, Ky.list ys) :: (I, K (j + 1)) :: O'')[F₁.length]? = some (D, Ky.list ys) := by rw [List.getElem?_append_right (by (first | lia | omega))]; simp
      refine c_append (env := { cenv with locals := L }) F₁.length S₃ hD' (by (first | lia | omega)) fun s₄ S₄ => ?_
      rw [List.set_append_right _ _ (by (first | lia | omega))] at S₄
      simp only [Nat.sub_self, List.set_cons_zero] at S₄
      exact ⟨n - (j + 1), by (first | lia | omega), j + 1, ys ++ [y], F₁, O'', rfl, hlt, by simp; (first | lia | omega), h0S v F₁ hF₁, S₄, J₃⟩
    · rename_i hok
      rw [if_neg hok] at h₂
      obtain ⟨O'', S₃, J₃⟩ := h₂
      exact ⟨n - (j + 1), by (first | lia | omega), j + 1, ys, F₁, O'', rfl, hlt, by (first | lia | omega), h0S v F₁ hF₁, S₃, J₃⟩
  · obtain rfl : j = n := by (first | lia | omega)
    refine IT.done s' _ _ (S'.nth _ hI) hH' fun h' tk hx => ?_
    have S₁ := (S'.front _ hI).ext (t := tk) (h' := h') fun b o hb q => hx b o hb q
    have e : (F' ++ (D, Ky.list ys) :: (I, K j) :: O').eraseIdx (F'.length + 1) = F' ++ (D, Ky.list ys) :: O' := by
      rw [List.eraseIdx_append_of_length_le (by (first | lia | omega))]
      simp
    rw [e] at S₁
    exact fin ys F' O' _ hF' S₁ hJ' hys
end
end Mine
end

section
set_option maxRecDepth 100000
namespace Mine
open PySem PyProof.Rows

section
variable {prog : Program} {w : World} {A : Around} {env : Env} {fs : List Addr} {s₀ s : Shared} {m : Str → Option Value} {O : List (Addr × Ky)} {E : Value → Shared → Prop}

/-- what a turn of a comprehension shows -/
def Turns (prog : Program) (w : World) (A : Around) (env : Env) (fs : List Addr) (s₀ : Shared) (m : Str → Option Value) (scope : Scope) (cl : List (Str × Addr)) (x : Str) (ifs : List Expr) (elt : Expr) (I : Addr) (n : Nat) (P : Nat → Value → Prop) (K : Nat → Ky) (J : Nat → List Value → List (Addr × Ky) → Prop) : Prop :=
  ∀ (C D : Addr) j v ys (mC : Str → Option Value) O' s' (E' : Value → Shared → Prop), j < n → P j v → J j ys O' → mC x = some v → St fs s₀ env.locals m ((C, nmK mC) :: (D, .list ys) :: (I, K (j + 1)) :: O') s' →
    wpAny (model prog w) A (forIn ifs true fun c r => if r = true then do let ok ← isTrue c (compEnvC scope cl C env) (eval c (compEnvC scope cl C env)); pure (ForInStep.yield ok) else pure (ForInStep.yield r)) (fun ok s₁ =>
      if ok = true then wpAny (model prog w) A (eval elt (compEnvC scope cl C env)) (fun y s₂ => ∃ O'', St fs s₀ env.locals m ((C, nmK mC) :: (D, .list ys) :: (I, K (j + 1)) :: O'') s₂ ∧ J (j + 1) (ys ++ [y]) O'') E' s₁
      else ∃ O'', St fs s₀ env.locals m ((C, nmK mC) :: (D, .list ys) :: (I, K (j + 1)) :: O'') s₁ ∧ J (j + 1) ys O'') E' s'
def Holds (env : Env) (fs : List Addr) (s₀ : Shared) (m : Str → Option Value) (I : Addr) (K : Nat → Ky) (H : Heap → Prop) (J : Nat → List Value → List (Addr × Ky) → Prop) : Prop :=
  ∀ (D : Addr) j j' ys F' O' s', St fs s₀ env.locals m (F' ++ (D, .list ys) :: (I, K j) :: O') s' → J j' ys O' → H s'.heap

theorem comp_block {elt iter : Expr} {x : Str} {px : Pos} {ifs : List Expr} {scope : Scope} {cl : List (Str × Addr)} {pos : Pos} {I : Addr} {n : Nat} {P : Nat → Value → Prop} {K : Nat → Ky} {H : Heap → Prop} (IT : Iter prog w A I n P K H) (hn : n ≤ 1000)
    {RR : Value → Addr → Result → Shared → Prop} (hcell : ∀ y ∈ scope.names, y.2 ≠ .cell) (hkind : scope.kind = .function) (hx : scope.names.lookup x = some .local)
    (J : Nat → List Value → List (Addr × Ky) → Prop) (S : St fs s₀ env.locals m ((I, K 0) :: O) s) (hJ : J 0 [] O) (hH : Holds env fs s₀ m I K H J) (turn : Turns prog w A env fs s₀ m scope cl x ifs elt I n P K J)
    (fin : ∀ C D mC ys O' s', St fs s₀ env.locals m ((C, nmK mC) :: (D, .list ys) :: O') s' → J n ys O' → ys.length ≤ n → RR (.ref D) C (.ok .next) s') :
    wpAny (model prog w) A (newList []) (fun acc s₃ => wpAny (model prog w) A (newFunctionEnv scope env.globals cl [] env.qual none .none (some env)) (fun cenv s₄ =>
      codeAny (model prog w) A (.compStart (.ListComp elt [⟨.Name x px, iter, ifs, 0⟩] scope pos) 0 (.ref I) acc { cenv with scope := relabel scope env }) (RR acc cenv.locals) s₄) E s₃) E s := by
  refine w_newList (env := env) (vs := []) S (by simp) fun D s₁ S₁ => ?_
  refine wpAny_newFunctionEnv hcell (by intro y hy; simp at hy) (fun h₁ hns₁ hsb₁ => ?_) hkind
  have S₂ : St fs s₀ env.locals m ((D, .list []) :: (I, K 0) :: O) { s₁ with heap := h₁, toks := s₁.toks + ([] : List (Str × Value)).length } :=
    S₁.kept ⟨h₁, _, rfl, fun b o e => hsb₁.extBut b o (Nat.ne_of_lt (Heap.lt_size e)) (Heap.get?_push_of_some _ e)⟩
  have S₃ := S₁.moreOf S₂ (At.of_ns hns₁) (Heap.get?_none_of_le (Nat.le_refl _))
  generalize s₁.heap.objs.size = C at S₃
  have loop : codeAny (model prog w) A (.compLoop (.ListComp elt [⟨.Name x px, iter, ifs, 0⟩] scope pos) 0 (.ref I) (.ref D) (compEnvC scope cl C env)) (RR (.ref D) C) { s₁ with heap := h₁, toks := s₁.toks + ([] : List (Str × Value)).length } := by
    refine comp_loop (cenv := compEnvC scope cl C env) IT hn (fun F => ∃ mC, F = [(C, nmK mC)]) (fun v F => ∃ mC, F = [(C, nmK mC)] ∧ mC x = some v) (fun v F ⟨mC, e, _⟩ => ⟨mC, e⟩) ?_ J ⟨_, rfl⟩ S₃ hJ (fun j j' ys F' O' s' S' J' => hH D j j' ys F' O' s' S' J') ?_ ?_
    · rintro F Rr s' v Q E' ⟨mC, rfl⟩ S' k
      refine wpAny_assign_Name (wpAny_storeName_local (lookup_relabel_local hx) (S'.nth 0 rfl).ns (fun h₂ hn₂ hs₂ => k [(C, nmK _)] _ ⟨_, rfl, ?_⟩ (S'.upd 0 (t := s'.toks + 1) rfl hs₂ (At.of_ns hn₂))) (by simp [compEnvC, relabel, hkind]))
      simp
    · rintro j v ys F' O' s' E' hj hv hJ' ⟨mC, rfl, hm⟩ S'
      exact turn C D j v ys mC O' s' E' hj hv hJ' hm S'
    · rintro ys F' O' s' ⟨mC, rfl⟩ S' hJ' hl
      exact fin C D mC ys O' s' S' hJ' hl
  exact codeAny_compStart_list loop (IT.self 0 _ _ _ (S₃.nth 2 rfl) loop)

/-- what stands ahead of a comprehension's turns -/
def Source (prog : Program) (w : World) (A : Around) (env : Env) (fs : List Addr) (s₀ : Shared) (m : Str → Option Value) (O : List (Addr × Ky)) (s : Shared) (iter : Expr) (n : Nat) (P : Nat → Value → Prop) (K : Nat → Ky) (H : Heap → Prop) : Prop :=
  ∀ (Q E : Value → Shared → Prop), (∀ I s', Iter prog w A I n P K H → St fs s₀ env.locals m ((I, K 0) :: O) s' → Q (.ref I) s') → wpAny (model prog w) A (eval iter env) (fun xv s₁ => wpAny (model prog w) A (pyIter xv) Q E s₁) E s

theorem src_list {iter : Expr} {l : Addr} {items : List Value} (hh : A.handled = none) (S : St fs s₀ env.locals m O s) (x : EvV prog w A env s.heap iter (.ref l)) (hl : s.heap.IsList l items.toArray) :
    Source prog w A env fs s₀ m O s iter items.length (fun i v => items[i]? = some v) (fun i => itr l i) (fun h => h.IsList l items.toArray) := by
  intro Q E k
  refine x.go fun tk => wpAny_pyIter_list (s := { s with toks := tk }) hl (k _ _ (iter_list hh _ l items) ?_)
  exact (S.tok tk).push (o := { cls := .type "list_iterator", data := .fields #[.ref l, .int 0 0] }) (k := itr l 0) ⟨rfl, rfl⟩
theorem src_range {p pos : Pos} {e : Expr} {n : Nat} (hh : A.handled = none) (S : St fs s₀ env.locals m O s) (f : EvV prog w A env s.heap (.Name "range" p) (.type "range")) (x : EvI prog w A env s.heap e (n : Int)) (hn : n ≤ 1000)
    (htrees : backTo pos (starEach [e] env) = [(false, eval e env)] := by rfl) :
    Source prog w A env fs s₀ m O s (.Call (.Name "range" p) [e] [] pos) n (fun i v => ∃ t, v = .int (i : Int) t) (fun i => .obj (ritO (i : Int) ((n : Int) - i))) (fun _ => True) := by
  intro Q E k
  refine wpAny_Call_NameR (f.go fun tk => ?_)
  rw [htrees]
  refine PySem.callWith_type1 (EvI.go (s := { s with toks := tk }) x fun t tk' => ?_)
  refine call_range_1 ?_
  have S₁ := (S.tok (tk' + 1 + 1)).push (o := { cls := .type "range", data := .fields #[.int 0 tk', .int n t, .int 1 (tk' + 1)] }) (k := .pred fun _ => True) trivial
  refine wpAny_pyIter_range (IsRange.new _ _ _ _ _ _ _) (small_one (by decide) (by decide) (by (first | lia | omega)) (by (first | lia | omega))) (k _ _ (iter_range hh _ n) ?_)
  have e : Builtin.Range.rangeSize 0 (n : Int) 1 = (n : Int) - ((0 : Nat) : Int) := by rw [rangeSize_one]; split <;> (first | lia | omega)
  rw [e]
  exact (S₁.push (o := ritO ((0 : Nat) : Int) ((n : Int) - ((0 : Nat) : Int))) (k := .obj (ritO ((0 : Nat) : Int) ((n : Int) - ((0 : Nat) : Int)))) rfl).sub (by simp)

/-- a list comprehension -/
theorem w_comp {elt iter : Expr} {x : Str} {px pos : Pos} {ifs : List Expr} {scope : Scope} {cl : List (Str × Addr)} {n : Nat} {P : Nat → Value → Prop} {K : Nat → Ky} {H : Heap → Prop} {Q : Value → Shared → Prop}
    (src : Source prog w A env fs s₀ m O s iter n P K H) (hn : n ≤ 1000) (J : Nat → List Value → List (Addr × Ky) → Prop) (hJ : J 0 [] O) (hH : ∀ I, Holds env fs s₀ m I K H J) (turn : ∀ I, Turns prog w A env fs s₀ m scope cl x ifs elt I n P K J)
    (fin : ∀ D ys O' s', St fs s₀ env.locals m ((D, .list ys) :: O') s' → J n ys O' → ys.length ≤ n → Q (.ref D) s')
    (hclos : closureFor scope env = pure cl := by rfl) (hcell : ∀ y ∈ scope.names, y.2 ≠ .cell := by decide) (hkind : scope.kind = .function := by rfl) (hnames : ∀ y ∈ scope.names, y.2 = .local → scope.names.lookup y.1 = some .local := by decide) (hx : scope.names.lookup x = some .local := by rfl)
    (hs : ∀ x, foldedSetIterable iter env x = pure x := by intro _; rfl) : wpAny (model prog w) A (eval (.ListComp elt [⟨.Name x px, iter, ifs, 0⟩] scope pos) env) Q E s := by
  rw [eval_ListComp]
  refine wpAny_comprehension_free (use := none) rfl hs hclos hkind hnames (src _ _ fun I s₂ IT S₂ => ?_)
  refine comp_block (RR := fun acc C => compPost (model prog w) A E none Q acc C) IT hn hcell hkind hx J S₂ hJ (hH I) (turn I) fun C D mC ys O' s' S' hJ' hl => ?_
  exact ⟨mC, (S'.nth 0 rfl).ns, fun h' hs' => fin D ys O' _ (S'.ext (t := s'.toks) fun b o hb q => hs'.extBut b o hb q) hJ' hl⟩
/-- the same, stored in a name -/
theorem x_comp {elt iter : Expr} {x y : Str} {px py pos spos : Pos} {ifs : List Expr} {scope : Scope} {cl : List (Str × Addr)} {n : Nat} {P : Nat → Value → Prop} {K : Nat → Ky} {H : Heap → Prop} {Q : Flow → Shared → Prop}
    (src : Source prog w A env fs s₀ m O s iter n P K H) (hn : n ≤ 1000) (J : Nat → List Value → List (Addr × Ky) → Prop) (hJ : J 0 [] O) (hH : ∀ I, Holds env fs s₀ m I K H J) (turn : ∀ I, Turns prog w A env fs s₀ m scope cl x ifs elt I n P K J)
    (fin : ∀ D ys O' s', St fs s₀ env.locals (fun z => if z = y then some (.ref D) else m z) ((D, .list ys) :: O') s' → J n ys O' → ys.length ≤ n → Q .next s')
    (hsw : swapsWith (.ListComp elt [⟨.Name x px, iter, ifs, 0⟩] scope pos) (some (.Name y py)) spos.line env = pure true := by rfl)
    (hclos : closureFor scope env = pure cl := by rfl) (hcell : ∀ y ∈ scope.names, y.2 ≠ .cell := by decide) (hkind : scope.kind = .function := by rfl) (hnames : ∀ y ∈ scope.names, y.2 = .local → scope.names.lookup y.1 = some .local := by decide) (hx : scope.names.lookup x = some .local := by rfl)
    (hk : env.scope.kind = .function := by rfl) (hy : env.kindOf y = some .local := by rfl)
    (hs : ∀ x, foldedSetIterable iter env x = pure x := by intro _; rfl) : wpAny (model prog w) A (exec (.Assign [.Name y py] (.ListComp elt [⟨.Name x px, iter, ifs, 0⟩] scope pos) spos) env) Q E s := by
  rw [exec_Assign_Name_used _ _ _ _ hsw]
  refine wpAny_bind (wpAny_standAt (wpAny_bind ?_))
  show wpAny _ A (do let _ ← comprehension (.ListComp elt [⟨.Name x px, iter, ifs, 0⟩] scope pos) scope env _ (newList []) false (eval iter env) (some (assign (.Name y py) env))) _ _ s
  refine wpAny_bind (wpAny_mono (wpAny_comprehension_free (use := some (assign (.Name y py) env)) (Q := fun _ s' => Q .next s') rfl hs hclos hkind hnames (src _ _ fun I s₂ IT S₂ => ?_)) (fun _ s' hq => wpAny_pure (wpAny_pure hq)) fun _ _ e => e)
  refine comp_block (RR := fun acc C => compPost (model prog w) A E (some (assign (.Name y py) env)) (fun _ s' => Q .next s') acc C) IT hn hcell hkind hx J S₂ hJ (hH I) (turn I) fun C D mC ys O' s' S' hJ' hl => ?_
  show wpAny _ A (assign (.Name y py) env (.ref D)) _ _ _
  refine wpAny_assign_Name (st_store S' (fun s₁ S₁ => ?_) hk hy)
  exact ⟨mC, (S₁.nth 0 rfl).ns, fun h' hs' => fin D ys O' _ (S₁.ext (t := s₁.toks) fun b o hb q => hs'.extBut b o hb q) hJ' hl⟩
/-- a comprehension without tests whose element only reads -/
theorem turns_ev {elt : Expr} {x : Str} {scope : Scope} {cl : List (Str × Addr)} {I : Addr} {n : Nat} {P : Nat → Value → Prop} {K : Nat → Ky} {J : Nat → List Value → List (Addr × Ky) → Prop}
    (h : ∀ (C D : Addr) j v ys (mC : Str → Option Value) O' s', j < n → P j v → J j ys O' → mC x = some v → St fs s₀ env.locals m ((C, nmK mC) :: (D, .list ys) :: (I, K (j + 1)) :: O') s' → s'.heap.Ns C mC →
      ∃ i, EvI prog w A (compEnvC scope cl C env) s'.heap elt i ∧ ∀ t, J (j + 1) (ys ++ [.int i t]) O') : Turns prog w A env fs s₀ m scope cl x [] elt I n P K J := by
  intro C D j v ys mC O' s' E' hj hv hJ hm S
  rw [List.forIn_nil]
  refine wpAny_pure ?_
  rw [if_pos rfl]
  obtain ⟨i, hi, hJ'⟩ := h C D j v ys mC O' s' hj hv hJ hm S (S.nth 0 rfl).ns
  exact hi.go fun t tk => ⟨O', S.tok tk, hJ' t⟩
end
end Mine
end

section
set_option maxRecDepth 100000
namespace Mine
open PySem PyProof.Rows

section
variable {prog : Program} {w : World} {A : Around} {env : Env} {fs : List Addr} {s₀ s : Shared} {m : Str → Option Value} {O : List (Addr × Ky)} {E : Value → Shared → Prop}

theorem c_sum {l : Addr} {vs : List Value} {ns : List Int} {Q : Value → Shared → Prop} (hh : A.handled = none) (hl : s.heap.IsList l vs.toArray) (hi : Ints vs ns) (k : ∀ t s', Keeps s s' → Q (.int ns.sum t) s') : wpAny (model prog w) A (call (.builtin "sum") [.ref l]) Q E s := by
  have ha := hi.are
  obtain ⟨xs, hx⟩ := ha.allInts.items
  have hn := ha.numsOf
  rw [show vs = vs.toArray.toList from rfl, hx, nums_intItems] at hn
  rw [hx] at hl
  refine sum_intListG hh hl fun h' tk t' hk => ?_
  have e : preSum (numAt xs) xs.size = ns.sum := by
    rw [← hn]
    rw [preSum_eq, List.take_of_length_le (by simp)]
  rw [e]
  exact k t' _ ⟨h', tk, rfl, hk⟩

/-- what a turn shows where the target is a cell -/
def TurnsC (prog : Program) (w : World) (A : Around) (env : Env) (fs : List Addr) (s₀ : Shared) (m : Str → Option Value) (scope : Scope) (cl : List (Str × Addr)) (x : Str) (elt : Expr) (I : Addr) (n : Nat) (P : Nat → Value → Prop) (K : Nat → Ky) (J : Nat → List Value → List (Addr × Ky) → Prop) : Prop :=
  ∀ (C c D : Addr) j v ys (mC : Str → Option Value) O' s' (E' : Value → Shared → Prop), j < n → P j v → J j ys O' → St fs s₀ env.locals m ((c, .cell (some v)) :: (C, nmK mC) :: (D, .list ys) :: (I, K (j + 1)) :: O') s' →
    wpAny (model prog w) A (eval elt (compEnvC scope ((x, c) :: cl) C env)) (fun y s₂ => ∃ O'', St fs s₀ env.locals m ((c, .cell (some v)) :: (C, nmK mC) :: (D, .list ys) :: (I, K (j + 1)) :: O'') s₂ ∧ J (j + 1) (ys ++ [y]) O'') E' s'

theorem comp_blockC {elt iter : Expr} {x : Str} {px : Pos} {scope : Scope} {cl : List (Str × Addr)} {pos : Pos} {I : Addr} {n : Nat} {P : Nat → Value → Prop} {K : Nat → Ky} {H : Heap → Prop} (IT : Iter prog w A I n P K H) (hn : n ≤ 1000)
    {RR : Value → Addr → Result → Shared → Prop} (hcf : ∀ k, cellsFrom k scope.names cl = (x, k) :: cl) (hpc : ∀ h, pushCells h scope.names = h.push { cls := .type "cell", data := .cell none }) (hkind : scope.kind = .function) (hx : (relabel scope env).names.lookup x = some .cell)
    (J : Nat → List Value → List (Addr × Ky) → Prop) (S : St fs s₀ env.locals m ((I, K 0) :: O) s) (hJ : J 0 [] O) (hH : Holds env fs s₀ m I K H J) (turn : TurnsC prog w A env fs s₀ m scope cl x elt I n P K J)
    (fin : ∀ C D mC ys O' s', St fs s₀ env.locals m ((C, nmK mC) :: (D, .list ys) :: O') s' → J n ys O' → ys.length ≤ n → RR (.ref D) C (.ok .next) s') :
    wpAny (model prog w) A (newList []) (fun acc s₃ => wpAny (model prog w) A (newFunctionEnv scope env.globals cl [] env.qual none .none (some env)) (fun cenv s₄ =>
      codeAny (model prog w) A (.compStart (.ListComp elt [⟨.Name x px, iter, [], 0⟩] scope pos) 0 (.ref I) acc { cenv with scope := relabel scope env }) (RR acc cenv.locals) s₄) E s₃) E s := by
  refine w_newList (env := env) (vs := []) S (by simp) fun D s₁ S₁ => ?_
  simp only [newFunctionEnv, Option.isSome_some, if_true]
  refine wpAny_bind (wpAny_alloc ?_)
  have S₂ := S₁.push (o := { cls := .type "dict", data := .dict #[] }) (k := nmK fun _ => none) ⟨#[], 0, rfl, (Heap.Ns.new s₁.heap (.type "dict")).elim fun _ _ => by intro e he; simp at he, fun _ => rfl⟩
  generalize hC : s₁.heap.objs.size = C at S₂ ⊢
  refine wpAny_bind (wpAny_layCells _ (fun name kind cells => by cases kind == NameKind.cell <;> simp) _ _ _ _ ?_)
  rw [hcf, hpc]
  have S₃ := S₂.push (o := { cls := .type "cell", data := .cell none }) (k := .cell none) rfl
  generalize ({ s₁ with heap := s₁.heap.push { cls := .type "dict", data := .dict #[] } } : Shared).heap.objs.size = c at S₃ ⊢
  generalize hs3 : ({ s₁ with heap := _ } : Shared) = s₃ at S₃ ⊢
  clear hs3 S₂
  refine wpAny_bind (wpAny_pure (wpAny_pure ?_))
  have loop : codeAny (model prog w) A (.compLoop (.ListComp elt [⟨.Name x px, iter, [], 0⟩] scope pos) 0 (.ref I) (.ref D) (compEnvC scope ((x, c) :: cl) C env)) (RR (.ref D) C) s₃ := by
    refine comp_loop (cenv := compEnvC scope ((x, c) :: cl) C env) IT hn (fun F => ∃ mC v, F = [(c, .cell v), (C, nmK mC)]) (fun v F => ∃ mC, F = [(c, .cell (some v)), (C, nmK mC)]) (fun v F ⟨mC, e⟩ => ⟨mC, some v, e⟩) ?_ J ⟨_, _, rfl⟩ S₃ hJ (fun j j' ys F' O' s' S' J' => hH D j j' ys F' O' s' S' J') ?_ ?_
    · rintro F Rr s' v Q E' ⟨mC, v₀, rfl⟩ S' k
      refine wpAny_assign_Name (wpAny_storeName_cell (by show scope.kind = _; exact hkind) hx (by simp [compEnvC]) (S'.nth 0 rfl).isCell fun h₂ hc₂ hs₂ => k [(c, .cell (some v)), (C, nmK mC)] _ ⟨mC, rfl⟩ (S'.upd 0 (t := s'.toks) rfl hs₂ hc₂))
    · rintro j v ys F' O' s' E' hj hv hJ' ⟨mC, rfl⟩ S'
      rw [List.forIn_nil]
      refine wpAny_pure ?_
      rw [if_pos rfl]
      exact turn C c D j v ys mC O' s' E' hj hv hJ' S'
    · rintro ys F' O' s' ⟨mC, v, rfl⟩ S' hJ' hl
      exact fin C D mC ys O' s' (S'.drop 0) hJ' hl
  exact codeAny_compStart_list loop (IT.self 0 _ _ _ (S₃.nth 3 rfl) loop)

theorem x_compC {elt iter : Expr} {x y : Str} {px py pos spos : Pos} {scope : Scope} {cl : List (Str × Addr)} {n : Nat} {P : Nat → Value → Prop} {K : Nat → Ky} {H : Heap → Prop} {Q : Flow → Shared → Prop}
    (src : Source prog w A env fs s₀ m O s iter n P K H) (hn : n ≤ 1000) (J : Nat → List Value → List (Addr × Ky) → Prop) (hJ : J 0 [] O) (hH : ∀ I, Holds env fs s₀ m I K H J) (turn : ∀ I, TurnsC prog w A env fs s₀ m scope cl x elt I n P K J)
    (fin : ∀ D ys O' s', St fs s₀ env.locals (fun z => if z = y then some (.ref D) else m z) ((D, .list ys) :: O') s' → J n ys O' → ys.length ≤ n → Q .next s')
    (hsw : swapsWith (.ListComp elt [⟨.Name x px, iter, [], 0⟩] scope pos) (some (.Name y py)) spos.line env = pure true := by rfl)
    (hclos : closureFor scope env = pure cl := by rfl) (hcf : ∀ k, cellsFrom k scope.names cl = (x, k) :: cl := by intro _; rfl) (hpc : ∀ h, pushCells h scope.names = h.push { cls := .type "cell", data := .cell none } := by intro _; rfl)
    (hkind : scope.kind = .function := by rfl) (hnames : ∀ y ∈ scope.names, y.2 = .local → scope.names.lookup y.1 = some .local := by decide) (hx : (relabel scope env).names.lookup x = some .cell := by rfl)
    (hk : env.scope.kind = .function := by rfl) (hy : env.kindOf y = some .local := by rfl)
    (hs : ∀ x, foldedSetIterable iter env x = pure x := by intro _; rfl) : wpAny (model prog w) A (exec (.Assign [.Name y py] (.ListComp elt [⟨.Name x px, iter, [], 0⟩] scope pos) spos) env) Q E s := by
  rw [exec_Assign_Name_used _ _ _ _ hsw]
  refine wpAny_bind (wpAny_standAt (wpAny_bind ?_))
  show wpAny _ A (do let _ ← comprehension (.ListComp elt [⟨.Name x px, iter, [], 0⟩] scope pos) scope env _ (newList []) false (eval iter env) (some (assign (.Name y py) env))) _ _ s
  refine wpAny_bind (wpAny_mono (wpAny_comprehension_free (use := some (assign (.Name y py) env)) (Q := fun _ s' => Q .next s') rfl hs hclos hkind hnames (src _ _ fun I s₂ IT S₂ => ?_)) (fun _ s' hq => wpAny_pure (wpAny_pure hq)) fun _ _ e => e)
  refine comp_blockC (RR := fun acc C => compPost (model prog w) A E (some (assign (.Name y py) env)) (fun _ s' => Q .next s') acc C) IT hn hcf hpc hkind hx J S₂ hJ (hH I) (turn I) fun C D mC ys O' s' S' hJ' hl => ?_
  show wpAny _ A (assign (.Name y py) env (.ref D)) _ _ _
  refine wpAny_assign_Name (st_store S' (fun s₁ S₁ => ?_) hk hy)
  exact ⟨mC, (S₁.nth 0 rfl).ns, fun h' hs' => fin D ys O' _ (S₁.ext (t := s₁.toks) fun b o hb q => hs'.extBut b o hb q) hJ' hl⟩

/-- a comprehension over a range whose element is an int and only reads -/
theorem turns_range {elt : Expr} {x : Str} {scope : Scope} {cl : List (Str × Addr)} {I : Addr} {n : Nat} (f : Nat → Int)
    (h : ∀ (C : Addr) j t (mC : Str → Option Value) R s', j < n → mC x = some (.int (j : Int) t) → St fs s₀ env.locals m ((C, nmK mC) :: R ++ O) s' → s'.heap.Ns C mC → EvI prog w A (compEnvC scope cl C env) s'.heap elt (f j)) :
    Turns prog w A env fs s₀ m scope cl x [] elt I n (fun i v => ∃ t, v = .int (i : Int) t) (fun i => .obj (ritO (i : Int) ((n : Int) - i))) (fun k ys O' => O' = O ∧ Ints ys ((List.range k).map f)) := by
  refine turns_ev fun C D j v ys mC O' s' hj hv hJ hm S hN => ?_
  obtain ⟨t, rfl⟩ := hv
  obtain ⟨rfl, hi⟩ := hJ
  refine ⟨f j, h C j t mC [(D, .list ys), (I, .obj (ritO ((j + 1 : Nat) : Int) ((n : Int) - ((j + 1 : Nat) : Int))))] s' hj hm S hN, fun t => ⟨rfl, ?_⟩⟩
  rw [List.range_succ, List.map_append]
  exact hi.append (Ints.one _ _)
theorem x_compR {elt : Expr} {x y : Str} {px py pos spos p : Pos} {e : Expr} {scope : Scope} {cl : List (Str × Addr)} {n : Nat} {ppos : Pos} (f : Nat → Int) {Q : Flow → Shared → Prop}
    (hh : A.handled = none) (S : St fs s₀ env.locals m O s) (r : EvV prog w A env s.heap (.Name "range" p) (.type "range")) (z : EvI prog w A env s.heap e (n : Int)) (hn : n ≤ 1000)
    (h : ∀ (C : Addr) j t (mC : Str → Option Value) R s', j < n → mC x = some (.int (j : Int) t) → St fs s₀ env.locals m ((C, nmK mC) :: R ++ O) s' → s'.heap.Ns C mC → EvI prog w A (compEnvC scope cl C env) s'.heap elt (f j))
    (fin : ∀ D ys s', St fs s₀ env.locals (fun z => if z = y then some (.ref D) else m z) ((D, .list ys) :: O) s' → Ints ys ((List.range n).map f) → Q .next s')
    (htrees : backTo ppos (starEach [e] env) = [(false, eval e env)] := by rfl)
    (hsw : swapsWith (.ListComp elt [⟨.Name x px, .Call (.Name "range" p) [e] [] ppos, [], 0⟩] scope pos) (some (.Name y py)) spos.line env = pure true := by rfl)
    (hclos : closureFor scope env = pure cl := by rfl) (hcell : ∀ y ∈ scope.names, y.2 ≠ .cell := by decide) (hkind : scope.kind = .function := by rfl) (hnames : ∀ y ∈ scope.names, y.2 = .local → scope.names.lookup y.1 = some .local := by decide) (hx : scope.names.lookup x = some .local := by rfl)
    (hk : env.scope.kind = .function := by rfl) (hy : env.kindOf y = some .local := by rfl) :
    wpAny (model prog w) A (exec (.Assign [.Name y py] (.ListComp elt [⟨.Name x px, .Call (.Name "range" p) [e] [] ppos, [], 0⟩] scope pos) spos) env) Q E s := by
  refine x_comp (src_range hh S r z hn htrees) hn (fun k ys O' => O' = O ∧ Ints ys ((List.range k).map f)) ⟨rfl, .nil⟩ (fun I D j j' ys F' O' s' S' J' => trivial) (fun I => turns_range f h) (fun D ys O' s' S' J' _ => ?_) hsw hclos hcell hkind hnames hx hk hy
  obtain ⟨rfl, hi⟩ := J'
  exact fin D ys s' S' hi
theorem w_compR {elt : Expr} {x : Str} {px pos p : Pos} {e : Expr} {scope : Scope} {cl : List (Str × Addr)} {n : Nat} {ppos : Pos} (f : Nat → Int) {Q : Value → Shared → Prop}
    (hh : A.handled = none) (S : St fs s₀ env.locals m O s) (r : EvV prog w A env s.heap (.Name "range" p) (.type "range")) (z : EvI prog w A env s.heap e (n : Int)) (hn : n ≤ 1000)
    (h : ∀ (C : Addr) j t (mC : Str → Option Value) R s', j < n → mC x = some (.int (j : Int) t) → St fs s₀ env.locals m ((C, nmK mC) :: R ++ O) s' → s'.heap.Ns C mC → EvI prog w A (compEnvC scope cl C env) s'.heap elt (f j))
    (fin : ∀ D ys s', St fs s₀ env.locals m ((D, .list ys) :: O) s' → Ints ys ((List.range n).map f) → Q (.ref D) s')
    (htrees : backTo ppos (starEach [e] env) = [(false, eval e env)] := by rfl)
    (hclos : closureFor scope env = pure cl := by rfl) (hcell : ∀ y ∈ scope.names, y.2 ≠ .cell := by decide) (hkind : scope.kind = .function := by rfl) (hnames : ∀ y ∈ scope.names, y.2 = .local → scope.names.lookup y.1 = some .local := by decide) (hx : scope.names.lookup x = some .local := by rfl) :
    wpAny (model prog w) A (eval (.ListComp elt [⟨.Name x px, .Call (.Name "range" p) [e] [] ppos, [], 0⟩] scope pos) env) Q E s := by
  refine w_comp (src_range hh S r z hn htrees) hn (fun k ys O' => O' = O ∧ Ints ys ((List.range k).map f)) ⟨rfl, .nil⟩ (fun I D j j' ys F' O' s' S' J' => trivial) (fun I => turns_range f h) (fun D ys O' s' S' J' _ => ?_) hclos hcell hkind hnames hx
  obtain ⟨rfl, hi⟩ := J'
  exact fin D ys s' S' hi
end
end Mine
end

section
set_option maxRecDepth 100000
namespace Mine
open PySem PyProof.Rows

def toldOf (ns : List Int) : Int := ((ns.map fun n => n.fdiv 1048576).sum + 4710).fmod 5832
def flipsOf (told : Int) : List Int := (List.range 3).map fun k => (told.fdiv (2 ^ k)).fmod 2
def leadsOf (told : Int) : List (List Int) := (List.range 3).map fun k => (List.range 2).map fun b => ((told.fdiv 8).fdiv (3 ^ (2 * k + b))).fmod 3

/-- the namespace at hand and one of the ledger change places -/
theorem St.swap {fs : List Addr} {s₀ s : Shared} {L C : Addr} {m mC : Str → Option Value} {R : List (Addr × Ky)} (S : St fs s₀ L m ((C, nmK mC) :: R) s) : St fs s₀ C mC ((L, nmK m) :: R) s := by
  have hC := S.fresh _ (.head _)
  have ap := S.apart
  rw [List.map_cons, List.nodup_cons] at ap
  refine ⟨S.same, (S.nth 0 rfl).ns, S.keep, S.upto, fun p hp => ?_, fun p hp => ?_, ?_, hC.1, S.fsOld⟩
  · rcases List.mem_cons.mp hp with rfl | hp
    · exact .of_ns S.ns
    · exact S.led p (.tail _ hp)
  · rcases List.mem_cons.mp hp with rfl | hp
    · exact ⟨S.above, Ne.symm hC.2⟩
    · exact ⟨(S.fresh p (.tail _ hp)).1, fun z => ap.1 (List.mem_map.mpr ⟨p, hp, z⟩)⟩
  · rw [List.map_cons, List.nodup_cons]
    refine ⟨fun q => ?_, ap.2⟩
    obtain ⟨p, hp, e⟩ := List.mem_map.mp q
    exact (S.fresh p (.tail _ hp)).2 e

theorem machine_ok {prog : Program} {w : World} {A : Around} {s : Shared} {E Q : Value → Shared → Prop} {sc : Addr} {vs : List Value} {ns : List Int}
    (T : Txt s.heap) (hroom : A.depth + 1 < recursionLimit) (hh : A.handled = none) (hs : s.heap.IsList sc vs.toArray) (hi : Ints vs ns) (hl : ns.length ≤ 100)
    (k : ∀ r fa la s', Keeps s s' → Made s s' [(r, tupK [.ref fa, .ref la])] → (∀ b ∈ [fa, la], s.heap.get? b = none) → MachAt s'.heap fa la (flipsOf (toldOf ns)) (leadsOf (toldOf ns)) → Q (.ref r) s') :
    wpAny (model prog w) A (call (.ref 84) [.ref sc]) Q E s := by
  refine call_k [] (by simp) [("script", .ref sc)] (m := fun y => if y = "script" then some (.ref sc) else none) (cl := [("told", s.heap.objs.size + 1)]) (O := [(s.heap.objs.size + 1, .cell none)])
    T.f17 T.lim (by (first | lia | omega)) rfl rfl rfl (fun s₁ S => ?_) (fun _ => rfl) ?_ ?_ rfl rfl rfl
  · have G : ∀ {m O s'}, St [] s s.heap.objs.size m O s' → Glb s'.heap := fun S' => S'.upto.glb T.glb
    refine wpAny_execs_cons (wpAny_Assign_Name (wpAny_BinOp (wpAny_BinOp (wpAny_Call_NameR ((ev_b (G S) (v := .builtin "sum") rfl).go fun tk => callWith_builtin1 (Calls.spliced_cons ?_))))))
    have S := S.tok tk
    refine w_comp (src_list hh S (ev_local S.ns rfl) (S.upto.isList hs)) (by rw [hi.1]; (first | lia | omega)) (fun k ys O' => O' = [(s.heap.objs.size + 1, .cell none)] ∧ Ints ys ((ns.take k).map fun n => n.fdiv 1048576)) ⟨rfl, .nil⟩ (fun I D j j' ys F' O' s' S' J' => S'.upto.isList hs) (fun I => turns_ev fun C D j v ys mC O' s' hj hv hJ hm S' hN => ?_) fun D ys O' s₂ S hJ _ => ?_
    · have hjn : j < ns.length := by rw [← hi.1]; exact hj
      obtain ⟨t, ht⟩ := hi.2 j ns[j] (by simp [hjn])
      rw [ht] at hv; cases hv
      refine ⟨_, ev_fdiv (ev_local hN hm).toI ev_int (by decide) (by decide), fun t => ⟨hJ.1, ?_⟩⟩
      rw [List.take_succ_eq_append_getElem hjn, List.map_append]
      exact hJ.2.append (Ints.one _ _)
    obtain ⟨rfl, hy⟩ := hJ
    rw [hi.1, List.take_length] at hy
    refine Calls.spliced_nil (c_sum hh (S.nth 0 rfl).isList hy fun t s₃ k₃ => ?_)
    have S := (S.kept k₃).drop 0
    refine wpAny_Constant_int (P.add_int (wpAny_Constant_int (mod_int' (by decide) ?_)))
    refine st_storeC 0 (S.tok _) rfl (fun s₄ S => ?_) rfl
    have eT : ((List.map (fun n => n.fdiv 1048576) ns).sum + 4710).fmod 5832 = toldOf ns := rfl
    rw [eT] at S
    obtain ⟨tt, S⟩ : ∃ tt, St [] s s.heap.objs.size (fun y => if y = "script" then some (.ref sc) else none) [(s.heap.objs.size + 1, .cell (some (.int (toldOf ns) tt)))] s₄ := ⟨_, S⟩
    generalize toldOf ns = told at S k ⊢
    refine wpAny_execs_cons (x_compR (n := 3) (fun k => (told.fdiv (2 ^ k)).fmod 2) hh S (ev_b (G S) rfl) ev_int (by decide) (fun C j t mC R s' hj hm S' hN => ?_) fun D₁ y₁ s₅ S i₁ => ?_)
    · have hj3 : j = 0 ∨ j = 1 ∨ j = 2 := by (first | lia | omega)
      exact ev_mod (ev_fdiv (ev_cell (c := s.heap.objs.size + 1) rfl (S'.led _ (List.mem_append_right _ (.head _))).isCell).toI ((ev_pow ev_int (ev_local hN hm).toI (by (first | lia | omega)) (by (first | lia | omega)) (by decide)).to (by simp)) (by rcases hj3 with rfl | rfl | rfl <;> decide) (by rcases hj3 with rfl | rfl | rfl <;> decide)) ev_int (by decide)
    refine wpAny_execs_cons (x_compC (n := 3) (src_range hh S (ev_b (G S) rfl) ev_int (by decide)) (by decide) (fun k ys O' => ∃ as : List Addr, ys = as.map .ref ∧ as.length = k ∧ ∃ R, O' = R ++ [(D₁, .list y₁), (s.heap.objs.size + 1, .cell (some (.int told tt)))] ∧ ∀ (i : Nat) a, as[i]? = some a → ∃ zs, (a, Ky.list zs) ∈ R ∧ Ints zs ((List.range 2).map fun b => ((told.fdiv 8).fdiv (3 ^ (2 * i + b))).fmod 3))
      ⟨[], rfl, rfl, [], rfl, fun i a h => by simp at h⟩ (fun I D j j' ys F' O' s' S' J' => trivial) (fun I C c D j v ys mC O' s' E' hj hv hJ S' => ?_) fun D₂ y₂ O' s₆ S hJ _ => ?_)
    · obtain ⟨tv, rfl⟩ := hv
      obtain ⟨as, rfl, hlen, R, rfl, hR⟩ := hJ
      have hj3 : j = 0 ∨ j = 1 ∨ j = 2 := by (first | lia | omega)
      have S₁ := (S'.front 1 rfl).swap
      refine w_compR (n := 2) (fun b => ((told.fdiv 8).fdiv (3 ^ (2 * j + b))).fmod 3) hh S₁ (ev_b (G S') rfl) ev_int (by decide) (fun C' j' t' mC' R' s'' hj' hm' S'' hN' => ?_) fun Z zs s'' S'' hz => ?_
      · have hj2 : j' = 0 ∨ j' = 1 := by (first | lia | omega)
        have hcT : s''.heap.IsCell (s.heap.objs.size + 1) (some (.int told tt)) := (S''.led (s.heap.objs.size + 1, .cell (some (.int told tt))) (by simp)).isCell
        have hcS : s''.heap.IsCell c (some (.int (j : Int) tv)) := (S''.led (c, .cell (some (.int (j : Int) tv))) (by simp)).isCell
        refine ev_mod (ev_fdiv (ev_fdiv (ev_cell (c := s.heap.objs.size + 1) rfl hcT).toI ev_int (by decide) (by decide)) ((ev_pow ev_int (ev_add (ev_mul ev_int (ev_cell (c := c) rfl hcS).toI (IntMulOk.small (by (first | lia | omega)))) (ev_local hN' hm').toI) (by (first | lia | omega)) (by (first | lia | omega)) (by decide)).to (j := 3 ^ (2 * j + j')) ?_) ?_ ?_) ev_int (by decide)
        · rw [show (2 * (j : Int) + (j' : Int)).toNat = 2 * j + j' from by (first | lia | omega)]
        · rcases hj3 with rfl | rfl | rfl <;> rcases hj2 with rfl | rfl <;> decide
        · rcases hj3 with rfl | rfl | rfl <;> rcases hj2 with rfl | rfl <;> decide
      · have S₃ := (S''.front 1 rfl).swap
        have S₄ := ((((S₃.front 1 rfl).front 4 rfl).front 4 rfl).front 3 rfl).front 4 rfl
        refine ⟨(Z, .list zs) :: (R ++ [(D₁, .list y₁), (s.heap.objs.size + 1, .cell (some (.int told tt)))]), ?_, as ++ [Z], by simp, by simp [hlen], (Z, .list zs) :: R, by simp, fun i a ha => ?_⟩
        · exact S₄
        · rw [List.getElem?_append] at ha
          split at ha
          · obtain ⟨ws, h1, h2⟩ := hR i a ha
            exact ⟨ws, .tail _ h1, h2⟩
          · have : i = as.length := by
              have := (List.getElem?_eq_some_iff.mp ha).1
              simp at this; (first | lia | omega)
            subst this
            simp at ha
            subst ha
            exact ⟨zs, .head _, by rw [hlen]; exact hz⟩
    · obtain ⟨as, rfl, hlen, R, rfl, hR⟩ := hJ
      refine wpAny_execs_cons (wpAny_Return_some (Tuple_ (Calls.spliced_cons ((ev_local S.ns rfl).go fun tk => Calls.spliced_cons (EvV.go (s := { s₆ with toks := tk }) (ev_local S.ns rfl) fun tk' => Calls.spliced_nil ?_)))))
      refine w_newTuple (S.tok tk') (by simp) fun r s₇ S => k r D₁ D₂ s₇ S.keeps ⟨fun p hp => ?_, by simp⟩ ?_ ⟨⟨y₁, S.led (D₁, .list y₁) (by simp), i₁⟩, as, S.led (D₂, .list (as.map .ref)) (by simp), by rw [hlen]; rfl, fun i a l ha hl' => ?_⟩
      · simp only [List.mem_cons, List.not_mem_nil, or_false] at hp
        subst hp
        exact ⟨S.nth 0 rfl, (S.fresh _ (.head _)).1⟩
      · intro b hb
        simp only [List.mem_cons, List.not_mem_nil, or_false] at hb
        rcases hb with rfl | rfl
        · exact (S.fresh (b, .list y₁) (by simp)).1
        · exact (S.fresh (b, .list _) (.tail _ (.head _))).1
      · obtain ⟨zs, hz1, hz2⟩ := hR i a ha
        have hi3 : i < 3 := by have := (List.getElem?_eq_some_iff.mp ha).1; (first | lia | omega)
        have : (leadsOf told)[i]? = some ((List.range 2).map fun b => ((told.fdiv 8).fdiv (3 ^ (2 * i + b))).fmod 3) := by
          simp [leadsOf, hi3]
        rw [this] at hl'; cases hl'
        exact ⟨zs, S.led (a, .list zs) (by simp [hz1]), hz2⟩
  · intro p hp
    simp only [List.mem_cons, List.not_mem_nil, or_false] at hp
    rcases hp with rfl; rfl
  · intro x hx
    simp only [List.mem_cons, List.not_mem_nil, or_false] at hx
    rcases hx with rfl; exact .inl rfl
end Mine
end

section
set_option maxRecDepth 100000
namespace Mine
open PySem PyProof.Rows

/-- every second number from the a-th on -/
def everyI (ns : List Int) (a : Int) : List Int := (sliceRange (sliceBounds (some a) none (some 2) ns.length).1 (sliceBounds (some a) none (some 2) ns.length).2.1 (sliceBounds (some a) none (some 2) ns.length).2.2).filterMap (ns[·]?)
theorem Ints.pick {vs : List Value} {ns : List Int} (h : Ints vs ns) : ∀ (is : List Nat), Ints (is.filterMap (vs.toArray[·]?)) (is.filterMap (ns[·]?))
  | [] => .nil
  | i :: r => by
    have ih := h.pick r
    by_cases hi : i < ns.length
    · obtain ⟨t, ht⟩ := h.2 i ns[i] (by simp [hi])
      have e1 : vs.toArray[i]? = some (.int ns[i] t) := by simpa using ht
      have e2 : ns[i]? = some ns[i] := by simp [hi]
      rw [List.filterMap_cons_some e1, List.filterMap_cons_some e2]
      exact (Ints.one _ t).append ih
    · have e1 : vs.toArray[i]? = none := by simp; rw [h.1]; (first | lia | omega)
      have e2 : ns[i]? = none := by simp; (first | lia | omega)
      rw [List.filterMap_cons_none e1, List.filterMap_cons_none e2]
      exact ih

section
variable {prog : Program} {w : World} {A : Around} {env : Env} {fs : List Addr} {s₀ s : Shared} {m : Str → Option Value} {O : List (Addr × Ky)} {E : Value → Shared → Prop}
/-- x[a::2] -/
theorem w_step {value lower : Expr} {p p2 pos : Pos} {k₀ : Nat} {l : Addr} {vs : List Value} {ns : List Int} {a : Int} {Q : Value → Shared → Prop} (S : St fs s₀ env.locals m O s) (x : EvV prog w A env s.heap value (.ref l)) (y : EvI prog w A env s.heap lower a)
    (hl : s.heap.IsList l vs.toArray) (hi : Ints vs ns) (hz : ns.length ≤ 1000) (k : ∀ D zs s', St fs s₀ env.locals m ((D, .list zs) :: O) s' → Ints zs (everyI ns a) → Q (.ref D) s')
    (ht : ∀ o r, letTemporaryGo value o r = pure () := by intro _ _; rfl) : wpAny (model prog w) A (eval (.Subscript value (.Slice (some lower) none (some (.Constant (.int 2) k₀ p2)) p) pos) env) Q E s := by
  refine wpAny_Subscript_Slice_step (T := "list") list_getitem_lookup (x.go fun tk => wpAny_Slice ?_) ht
  rw [evalPart_none, evalPart_some, evalPart_some]
  refine EvI.go (s := { s with toks := tk }) y fun t tk' => wpAny_pure (wpAny_Constant_int ?_)
  have S₁ := (S.tok (tk' + 1)).push (o := { cls := .type "slice", data := .fields #[.int a t, .none, .int 2 tk'] }) (k := .pred fun _ => True) trivial
  refine ⟨(hl.push _).typeIs, wpAny_getItem_list_slice (hl.push _) (Heap.IsSliceOf.new ..) (.int _ _) .none (.int _ _) (by simp) ?_ (by rw [List.size_toArray, hi.1, sizeLine_eq]; (first | lia | omega))⟩
  have S₂ := S₁.push (o := { cls := .type "list", data := .seq (slicePick vs.toArray (some a) none (some 2)) }) (k := .list (slicePick vs.toArray (some a) none (some 2)).toList) ⟨rfl, rfl, 0, by simp⟩
  refine k _ _ _ (S₂.drop 1) ?_
  unfold slicePick everyI
  rw [List.size_toArray, hi.1]
  exact hi.pick _

/-- a for by an invariant over the names and the ledger; no way leaves early -/
theorem for_run {Q : Flow → Shared → Prop} {target : Expr} {body : List Stmt} {I : Addr} {n : Nat} {P : Nat → Value → Prop} {K : Nat → Ky} {H : Heap → Prop} (IT : Iter prog w A I n P K H) (J : Nat → (Str → Option Value) → List (Addr × Ky) → Prop)
    (S : St fs s₀ env.locals m ((I, K 0) :: O) s) (h0 : J 0 m O) (hH : ∀ j j' m' O' s', St fs s₀ env.locals m' ((I, K j) :: O') s' → J j' m' O' → H s'.heap)
    (turn : ∀ j v m' O' s' (E' : Value → Shared → Prop), j < n → P j v → J j m' O' → St fs s₀ env.locals m' ((I, K (j + 1)) :: O') s' →
      wpAny (model prog w) A (assign target env v) (fun _ s₁ => wpAny (model prog w) A (execs body env) (fun f s₂ => f = .next ∧ ∃ m₂ O₂, St fs s₀ env.locals m₂ ((I, K (j + 1)) :: O₂) s₂ ∧ J (j + 1) m₂ O₂) E' s₁) E' s')
    (fin : ∀ m' O' s', St fs s₀ env.locals m' O' s' → J n m' O' → Q .next s') (ht : ∀ v, letOwnedTupleGo target (.ref I) v = pure () := by intro _; rfl) :
    codeAny (model prog w) A (.forLoop target (.ref I) body [] env) (fun r s' => match r with | .ok f => Q f s' | .error e => cameBackBy (model prog w) A env E e s') s := by
  refine codeAny_forLoop_any (fun k s' => ∃ j m' O', k = n - j ∧ j ≤ n ∧ St fs s₀ env.locals m' ((I, K j) :: O') s' ∧ J j m' O') ?_ (n - 0) ⟨0, m, O, rfl, Nat.zero_le _, S, h0⟩
  rintro k s' ⟨j, m', O', rfl, hj, S', hJ⟩
  have hH' := hH j j m' O' s' S' hJ
  by_cases hlt : j < n
  · refine IT.item j s' _ _ hlt (S'.nth 0 rfl) hH' fun v h' tk hv hs' hk' => ?_
    have S₁ := S'.upd 0 (t := tk) rfl hs' hk'
    refine wpAny_of_eq (ht v) ?_
    refine wpAny_mono (turn j v m' O' _ _ hlt hv hJ S₁) (fun _ s₁ h₁ => wpAny_mono h₁ (fun f s₂ h₂ => ?_) fun _ _ e => e) fun _ _ e => e
    obtain ⟨rfl, m₂, O₂, S₂, J₂⟩ := h₂
    exact ⟨_, by (first | lia | omega), j + 1, m₂, O₂, rfl, hlt, S₂, J₂⟩
  · obtain rfl : j = n := by (first | lia | omega)
    refine IT.done s' _ _ (S'.nth 0 rfl) hH' fun h' tk hx => ?_
    exact wpAny_execs_nil (fin _ _ _ (S'.ext (t := tk) fun b o q z => hx b o q z) hJ)
theorem for_list {Q : Flow → Shared → Prop} {target : Expr} {body : List Stmt} {l : Addr} {items : List Value} (hh : A.handled = none) (J : Nat → (Str → Option Value) → List (Addr × Ky) → Prop)
    (S : St fs s₀ env.locals m O s) (hl₀ : s.heap.IsList l items.toArray) (h0 : J 0 m O) (hH : ∀ I j j' m' O' s', St fs s₀ env.locals m' ((I, itr l j) :: O') s' → J j' m' O' → s'.heap.IsList l items.toArray)
    (turn : ∀ I j v m' O' s' (E' : Value → Shared → Prop), j < items.length → items[j]? = some v → J j m' O' → St fs s₀ env.locals m' ((I, itr l (j + 1)) :: O') s' →
      wpAny (model prog w) A (assign target env v) (fun _ s₁ => wpAny (model prog w) A (execs body env) (fun f s₂ => f = .next ∧ ∃ m₂ O₂, St fs s₀ env.locals m₂ ((I, itr l (j + 1)) :: O₂) s₂ ∧ J (j + 1) m₂ O₂) E' s₁) E' s')
    (fin : ∀ m' O' s', St fs s₀ env.locals m' O' s' → J items.length m' O' → Q .next s') (ht : ∀ it v, letOwnedTupleGo target it v = pure () := by intro _ _; rfl) :
    wpAny (model prog w) A (pyIter (.ref l)) (fun it s₂ => codeAny (model prog w) A (.forLoop target it body [] env) (fun r s' => match r with | .ok f => Q f s' | .error e => cameBackBy (model prog w) A env E e s') s₂) E s := by
  refine wpAny_pyIter_list hl₀ ?_
  have S₀ := S.push (o := { cls := .type "list_iterator", data := .fields #[.ref l, .int 0 0] }) (k := itr l 0) ⟨rfl, rfl⟩
  exact for_run (iter_list hh _ l items) J S₀ h0 (fun j j' m' O' s' S' J' => hH _ j j' m' O' s' S' J') (fun j v m' O' s' E' hj hv hJ S' => turn _ j v m' O' s' E' hj hv hJ S') fin (ht _)
end

/-- the bits of a number, and the same with one turned; the places of the ones -/
def rowOf (n : Int) : List Int := (List.range 16).map fun p => (n.fdiv (2 ^ (15 - p))).fmod 2
def nearOf (n : Int) : Nat := (n.fdiv 65536).toNat
def altOf (n : Int) : List Int := (rowOf n).take (nearOf n) ++ [1 - (rowOf n).getD (nearOf n) 0] ++ (rowOf n).drop (nearOf n + 1)
def twoOf (n : Int) : List (List Int) := [rowOf n, altOf n]
def placesOf (b : List Int) : List Int := ((List.range 16).filter fun p => b.getD p 0 == 1).map fun (p : Nat) => (p : Int)
def fourOf (ns : List Int) : List Int := [(everyI ns 0).sum.fmod 1048576, (everyI ns 1).sum.fmod 1048576, 633805, 830448]
def rowsOf (ns : List Int) : List (List Int) := (fourOf ns).flatMap twoOf
theorem fourOf_lt (ns : List Int) : ∀ n ∈ fourOf ns, 0 ≤ n ∧ n < 1048576 := by
  intro n hn
  simp only [fourOf, List.mem_cons, List.not_mem_nil, or_false] at hn
  rcases hn with rfl | rfl | rfl | rfl
  · exact ⟨Int.fmod_nonneg_of_pos _ (by decide), Int.fmod_lt_of_pos _ (by decide)⟩
  · exact ⟨Int.fmod_nonneg_of_pos _ (by decide), Int.fmod_lt_of_pos _ (by decide)⟩
  · decide
  · decide
theorem rowOf_len (n : Int) : (rowOf n).length = 16 := by simp [rowOf]
theorem nearOf_lt {n : Int} (h : 0 ≤ n ∧ n < 1048576) : nearOf n < 16 ∧ n.fdiv 65536 = (nearOf n : Int) := by
  unfold nearOf
  rw [Int.fdiv_eq_ediv_of_nonneg _ (by decide)]
  (first | lia | omega)
theorem altOf_len {n : Int} (h : 0 ≤ n ∧ n < 1048576) : (altOf n).length = 16 := by
  have := (nearOf_lt h).1
  simp [altOf, rowOf_len]; (first | lia | omega)

/-- things in a ledger -/
def ThgsIn (R : List (Addr × Ky)) (as : List Addr) (rows : List (List Int)) : Prop := as.length = rows.length ∧ ∀ (i : Nat) a b, as[i]? = some a → rows[i]? = some b →
  ∃ pa ba vp vb t, (a, Ky.list [.ref pa, .ref ba, .int (i : Int) t]) ∈ R ∧ (pa, Ky.list vp) ∈ R ∧ Ints vp (placesOf b) ∧ (ba, Ky.list vb) ∈ R ∧ Ints vb b
theorem ThgsIn.mono {R R' : List (Addr × Ky)} {as : List Addr} {rows : List (List Int)} (h : ThgsIn R as rows) (hs : ∀ p ∈ R, p ∈ R') : ThgsIn R' as rows :=
  ⟨h.1, fun i a b ha hb => let ⟨pa, ba, vp, vb, t, h1, h2, h3, h4, h5⟩ := h.2 i a b ha hb; ⟨pa, ba, vp, vb, t, hs _ h1, hs _ h2, h3, hs _ h4, h5⟩⟩
theorem ThgsIn.snoc {R : List (Addr × Ky)} {as : List Addr} {rows : List (List Int)} (h : ThgsIn R as rows) {a pa ba : Addr} {vp vb : List Value} {t : Tok} {b : List Int} (h1 : (a, Ky.list [.ref pa, .ref ba, .int (as.length : Int) t]) ∈ R) (h2 : (pa, Ky.list vp) ∈ R) (h3 : Ints vp (placesOf b)) (h4 : (ba, Ky.list vb) ∈ R) (h5 : Ints vb b) :
    ThgsIn R (as ++ [a]) (rows ++ [b]) := by
  refine ⟨by simp [h.1], fun i a' b' ha hb => ?_⟩
  rw [List.getElem?_append] at ha hb
  split at ha
  · rename_i hi
    rw [if_pos (by rw [← h.1]; exact hi)] at hb
    exact h.2 i a' b' ha hb
  · rename_i hi
    rw [if_neg (by rw [← h.1]; exact hi)] at hb
    have : i = as.length := by have := (List.getElem?_eq_some_iff.mp ha).1; simp at this; (first | lia | omega)
    subst this
    rw [h.1] at hb
    simp at ha hb
    subst ha hb
    exact ⟨pa, ba, vp, vb, t, h1, h2, h3, h4, h5⟩
end Mine
end

section
set_option maxRecDepth 100000
namespace Mine
open PySem PyProof.Rows

theorem pow_small : ∀ k, k ≤ 15 → ((2 : Int) ^ k ≠ 0 ∧ ((2 : Int) ^ k).natAbs < 1073741824) := by decide

section
variable {prog : Program} {w : World} {A : Around} {env : Env} {fs : List Addr} {s₀ s : Shared} {m : Str → Option Value} {O : List (Addr × Ky)} {E : Value → Shared → Prop}
theorem ev_Ints {value slice : Expr} {pos : Pos} {h : Heap} {l : Addr} {vs : List Value} {ns : List Int} {k : Nat} (x : EvV prog w A env h value (.ref l)) (y : EvI prog w A env h slice (k : Int)) (hl : h.IsList l vs.toArray) (hi : Ints vs ns) (hk : k < ns.length) (hz : ns.length ≤ 1000)
    (hs : ∀ o i, subscripted slice false o i = operate [o, i] (getItem o i) := by intro _ _; rfl) : EvI prog w A env h (.Subscript value slice pos) (ns.getD k 0) := by
  obtain ⟨t, ht⟩ := hi.2 k ns[k] (by simp [hk])
  have e : ns.getD k 0 = ns[k] := by simp [hk]
  rw [e]
  exact (ev_item x y hl (by (first | lia | omega)) (by (first | lia | omega)) (v := .int ns[k] t) (by simpa using ht) hs).toI
end

set_option maxHeartbeats 1000000 in
theorem things_ok {prog : Program} {w : World} {A : Around} {s : Shared} {E Q : Value → Shared → Prop} {sc : Addr} {vs : List Value} {ns : List Int}
    (T : Txt s.heap) (hroom : A.depth + 1 < recursionLimit) (hh : A.handled = none) (hs : s.heap.IsList sc vs.toArray) (hi : Ints vs ns) (hl : ns.length ≤ 100)
    (k : ∀ TH as R s', Keeps s s' → Made s s' ((TH, .list (as.map .ref)) :: R) → ThgsIn R as (rowsOf ns) → Q (.ref TH) s') :
    wpAny (model prog w) A (call (.ref 79) [.ref sc]) Q E s := by
  refine call_k [] (by simp) [("script", .ref sc)] (m := fun y => if y = "script" then some (.ref sc) else none) (cl := [("bits", s.heap.objs.size + 1 + 1), ("number", s.heap.objs.size + 1)]) (O := [(s.heap.objs.size + 1 + 1, .cell none), (s.heap.objs.size + 1, .cell none)])
    T.f16 T.lim (by (first | lia | omega)) rfl rfl rfl (fun s₁ S => ?_) (fun _ => rfl) ?_ ?_ rfl rfl rfl
  · have G : ∀ {m O s'}, St [] s s.heap.objs.size m O s' → Glb s'.heap := fun S' => S'.upto.glb T.glb
    generalize hcB : s.heap.objs.size + 1 + 1 = cB at S ⊢
    generalize hcN : s.heap.objs.size + 1 = cN at S ⊢
    refine wpAny_execs_cons (wpAny_Assign_Name (w_list0 S fun TH s₂ S => st_store S fun s₃ S => ?_))
    refine wpAny_execs_cons (wpAny_For (List_ (Calls.spliced_cons (wpAny_BinOp (wpAny_Call_NameR ((ev_b (G S) (v := .builtin "sum") rfl).go fun tk => callWith_builtin1 (Calls.spliced_cons ?_)))))))
    have S := S.tok tk
    refine w_step (a := 0) S (ev_local S.ns rfl) ev_int (S.upto.isList hs) hi (by (first | lia | omega)) fun D₁ z₁ s₄ S i₁ => Calls.spliced_nil (c_sum hh (S.nth 0 rfl).isList i₁ fun t₁ s₅ k₁ => ?_)
    have S := (S.kept k₁).drop 0
    refine wpAny_Constant_int (mod_int' (by decide) ?_)
    have S := S.tok (s₅.toks + 1 + 1)
    refine Calls.spliced_cons (wpAny_BinOp (wpAny_Call_NameR ((ev_b (G S) (v := .builtin "sum") rfl).go fun tk => callWith_builtin1 (Calls.spliced_cons ?_))))
    have S := S.tok tk
    refine w_step (a := 1) S (ev_local S.ns rfl) ev_int (S.upto.isList hs) hi (by (first | lia | omega)) fun D₂ z₂ s₆ S i₂ => Calls.spliced_nil (c_sum hh (S.nth 0 rfl).isList i₂ fun t₂ s₇ k₂ => ?_)
    have S := (S.kept k₂).drop 0
    refine wpAny_Constant_int (mod_int' (by decide) ?_)
    have S := S.tok (s₇.toks + 1 + 1)
    refine Calls.spliced_cons (wpAny_Constant_int (k := 0) (pos := default) (Calls.spliced_cons (wpAny_Constant_int (k := 0) (pos := default) (Calls.spliced_nil ?_))))
    have S := S.tok (s₇.toks + 1 + 1 + 1 + 1)
    refine w_newList S (by simp) fun l₁ s₈ S => ?_
    have hfour : ∃ items, Ints items (fourOf ns) ∧ St [] s s.heap.objs.size (fun y => if y = "things" then some (.ref TH) else if y = "script" then some (.ref sc) else none) [(l₁, .list items), (TH, .list []), (cB, .cell none), (cN, .cell none)] s₈ := ⟨_, ((Ints.one _ _).append ((Ints.one _ _).append ((Ints.one _ _).append (Ints.one _ _)))), S⟩
    clear S
    obtain ⟨items, hit, S⟩ := hfour
    have S := ((S.front 3 rfl).front 3 rfl).front 3 rfl
    have hlen4 : items.length = 4 := by rw [hit.1]; rfl
    refine for_list hh (fun k m' O' => m' "script" = some (.ref sc) ∧ m' "things" = some (.ref TH) ∧ ∃ as vB vN R, O' = (TH, .list (as.map .ref)) :: (cB, .cell vB) :: (cN, .cell vN) :: R ∧ (l₁, .list items) ∈ R ∧ ThgsIn R as (((fourOf ns).take k).flatMap twoOf))
      S (S.nth 3 rfl).isList ⟨rfl, rfl, [], none, none, [(l₁, .list items)], rfl, .head _, rfl, fun i a b h => by simp at h⟩ (fun I j j' m' O' s' S' J' => ?_) (fun I j v m' O' s' E' hj hv hJ S => ?_) fun m' O' s' S hJ => ?_
    · obtain ⟨_, _, as, vB, vN, R, rfl, hR, _⟩ := J'
      exact (S'.led (l₁, .list items) (by simp [hR])).isList
    · obtain ⟨hms, hmt, as, vB, vN, R, rfl, hR, hT⟩ := hJ
      have hj4 : j < (fourOf ns).length := by rw [← hit.1]; exact hj
      obtain ⟨tn, htn⟩ := hit.2 j (fourOf ns)[j] (by simp [hj4])
      rw [htn] at hv; cases hv
      have hn := fourOf_lt ns _ (List.getElem_mem hj4)
      have hflat : ((fourOf ns).take (j + 1)).flatMap twoOf = ((fourOf ns).take j).flatMap twoOf ++ twoOf (fourOf ns)[j] := by
        rw [List.take_succ_eq_append_getElem hj4, List.flatMap_append]; simp
      have hle : as.length ≤ 8 := by
        rw [hT.1]
        have : (fourOf ns).length = 4 := rfl
        have h2 : ∀ l : List Int, (l.flatMap twoOf).length = 2 * l.length := fun l => by
          induction l with
          | nil => rfl
          | cons x r ih => rw [List.flatMap_cons, List.length_append, ih]; simp [twoOf]; (first | lia | omega)
        rw [h2, List.length_take]; (first | lia | omega)
      generalize (fourOf ns)[j] = n at hn hflat S ⊢
      generalize ((fourOf ns).take j).flatMap twoOf = pre at hT hflat
      refine wpAny_assign_Name (st_storeC 3 S rfl (fun s₉ S => ?_) rfl)
      refine wpAny_execs_cons (x_assignI S (ev_fdiv (ev_cell (c := cN) rfl (S.nth 3 rfl).isCell).toI ev_int (by decide) (by decide)) fun te s₁₀ S => ?_)
      obtain ⟨hnr, hne⟩ := nearOf_lt hn
      rw [hne] at S
      refine wpAny_execs_cons (x_compR (n := 16) (fun p => (n.fdiv (2 ^ (15 - p))).fmod 2) hh S (ev_b (G S) rfl) ev_int (by decide) (fun C p t mC R' s'' hp hm S' hN => ?_) fun D ys s₁₁ S iy => ?_)
      · have hps := pow_small (15 - p) (by (first | lia | omega))
        refine ev_mod (ev_fdiv (ev_cell (c := cN) rfl (S'.led (cN, .cell (some (.int n tn))) (by simp)).isCell).toI ((ev_pow ev_int (ev_sub ev_int (ev_local hN hm).toI) (by (first | lia | omega)) (by (first | lia | omega)) (by decide)).to (j := 2 ^ (15 - p)) ?_) hps.1 hps.2) ev_int (by decide)
        rw [show ((15 : Int) - (p : Int)).toNat = 15 - p from by (first | lia | omega)]
      have iy : Ints ys (rowOf n) := iy
      have ly : ys.length = 16 := by rw [iy.1, rowOf_len]
      have gD : ∀ {m O s'}, St [] s s.heap.objs.size m O s' → (D, Ky.list ys) ∈ O → s'.heap.IsList D ys.toArray := fun S' h => (S'.led _ h).isList
      refine wpAny_execs_cons (wpAny_For (List_ (Calls.spliced_cons ((ev_local S.ns rfl).go fun tk => Calls.spliced_cons (wpAny_BinOp (wpAny_BinOp ?_))))))
      have S := S.tok tk
      refine w_upto (b := nearOf n) S (ev_local S.ns rfl) (ev_local S.ns rfl).toI (gD S (.head _)) (by (first | lia | omega)) fun D₃ s₁₂ S => ?_
      refine List_ (Calls.spliced_cons (EvI.go (ev_sub ev_int (ev_Ints (k := nearOf n) (ev_local S.ns rfl) (ev_local S.ns rfl).toI (gD S (by simp)) iy (by rw [rowOf_len]; exact hnr) (by rw [rowOf_len]; decide))) fun ti tk => Calls.spliced_nil ?_))
      refine w_newList (S.tok tk) (by simp) fun D₄ s₁₃ S => ?_
      refine c_concat S (S.nth 1 rfl).isList (S.nth 0 rfl).isList (by simp; (first | lia | omega)) fun D₅ s₁₄ S => ?_
      refine w_from (a := nearOf n + 1) S (ev_local S.ns rfl) ((ev_add (ev_local S.ns rfl).toI ev_int).to (by simp)) (gD S (by simp)) (by (first | lia | omega)) fun D₆ s₁₅ S => ?_
      refine c_concat S (S.nth 1 rfl).isList (S.nth 0 rfl).isList (by simp; (first | lia | omega)) fun B₂ s₁₆ S => ?_
      refine Calls.spliced_nil (w_newList S (by simp) fun l₂ s₁₇ S => ?_)
      have iz : Ints (ys.take (nearOf n) ++ [.int (1 - (rowOf n).getD (nearOf n) 0) ti] ++ ys.drop (nearOf n + 1)) (altOf n) := ((iy.take _).append (Ints.one _ _)).append (iy.drop _)
      generalize ys.take (nearOf n) ++ [.int (1 - (rowOf n).getD (nearOf n) 0) ti] ++ ys.drop (nearOf n + 1) = zs at S iz
      have S := (((S.drop 2).drop 2).drop 2).drop 2
      have S := (((S.front 6 rfl).front 6 rfl).front 6 rfl).front 6 rfl
      refine for_list hh (fun q m' O' => m' "script" = some (.ref sc) ∧ m' "things" = some (.ref TH) ∧ ∃ as vB R, O' = (I, itr l₁ (j + 1)) :: (TH, .list (as.map .ref)) :: (cB, .cell vB) :: (cN, .cell (some (.int n tn))) :: R ∧ (l₁, .list items) ∈ R ∧ (l₂, .list [.ref D, .ref B₂]) ∈ R ∧ (D, .list ys) ∈ R ∧ (B₂, .list zs) ∈ R ∧ as.length ≤ 8 + q ∧ ThgsIn R as (pre ++ (twoOf n).take q))
        S (S.nth 4 rfl).isList ⟨hms, hmt, as, vB, (l₂, .list [.ref D, .ref B₂]) :: (B₂, .list zs) :: (D, .list ys) :: R, rfl, by simp [hR], by simp, by simp, by simp, by (first | lia | omega), by simpa using hT.mono fun p hp => by simp [hp]⟩ (fun I₂ q q' m' O' s' S' J' => ?_) (fun I₂ q v m' O' s' E'' hq hv hJ S => ?_) fun m' O' s' S hJ => ?_
      · obtain ⟨_, _, as, vB, R, rfl, _, hR, _⟩ := J'
        exact (S'.led (l₂, .list [.ref D, .ref B₂]) (by simp [hR])).isList
      · obtain ⟨hms, hmt, as, vB, R, rfl, hR1, hR2, hR3, hR4, hle, hT⟩ := hJ
        obtain ⟨b, vb, row, rfl, hb, ib, hrow, lrow⟩ : ∃ b vb row, v = .ref b ∧ (b, Ky.list vb) ∈ R ∧ Ints vb row ∧ (twoOf n)[q]? = some row ∧ row.length = 16 := by
          have hq2 : q = 0 ∨ q = 1 := by have : q < 2 := hq; (first | lia | omega)
          rcases hq2 with rfl | rfl
          · cases hv; exact ⟨D, ys, rowOf n, rfl, hR3, iy, rfl, rowOf_len n⟩
          · cases hv; exact ⟨B₂, zs, altOf n, rfl, hR4, iz, rfl, altOf_len hn⟩
        have hq2 : q < (twoOf n).length := (List.getElem?_eq_some_iff.mp hrow).1
        have htk : (twoOf n).take (q + 1) = (twoOf n).take q ++ [row] := by
          rw [List.take_succ, hrow]; rfl
        have hqle : q ≤ 1 := by simp [twoOf] at hq2; (first | lia | omega)
        refine wpAny_assign_Name (st_storeC 3 S rfl (fun s₁₈ S => ?_) rfl)
        refine wpAny_execs_cons (x_comp (n := 16) (src_range hh S (ev_b (G S) rfl) ev_int (by decide)) (by decide) (fun k ys O' => O' = (I₂, itr l₂ (q + 1)) :: (I, itr l₁ (j + 1)) :: (TH, .list (as.map .ref)) :: (cB, .cell (some (.ref b))) :: (cN, .cell (some (.int n tn))) :: R ∧ Ints ys (((List.range k).filter fun p => row.getD p 0 == 1).map fun (p : Nat) => (p : Int)))
          ⟨rfl, .nil⟩ (fun I D j j' ys F' O' s' S' J' => trivial) (fun I₃ C D₇ p v ws mC O' s' E' hp hv hJ hm S => ?_) fun PL ws O' s₁₉ S hJ _ => ?_)
        · obtain ⟨t, rfl⟩ := hv
          obtain ⟨rfl, hi⟩ := hJ
          refine w_for1 (w_t (wpAny_bind ?_))
          have hN := (S.nth 0 rfl).ns
          refine (et_eq (ev_Ints (k := p) (ev_cell (c := cB) rfl (S.led (cB, .cell (some (.ref b))) (by simp)).isCell) (ev_local hN hm).toI (S.led (b, .list vb) (by simp [hb])).isList ib (by (first | lia | omega)) (by (first | lia | omega))) ev_int) s' _ _ rfl fun tk => wpAny_pure ?_
          have hfl : ((List.range (p + 1)).filter fun p => row.getD p 0 == 1).map (fun (p : Nat) => (p : Int)) = ((List.range p).filter fun p => row.getD p 0 == 1).map (fun (p : Nat) => (p : Int)) ++ (if (row.getD p 0 == 1) = true then [(p : Int)] else []) := by
            rw [List.range_succ, List.filter_append, List.map_append]
            congr 1
            rw [List.filter_cons, List.filter_nil]
            by_cases hc : (row.getD p 0 == 1) = true
            · rw [if_pos hc, if_pos hc]; rfl
            · rw [if_neg hc, if_neg hc]; rfl
          dsimp only
          by_cases hc : (row.getD p 0 == 1) = true
          · rw [if_pos hc]
            refine EvV.go (s := { s' with toks := tk }) (ev_local hN hm) fun tk' => ⟨_, S.tok tk', rfl, ?_⟩
            rw [hfl, if_pos hc]
            exact hi.append (Ints.one _ _)
          · rw [if_neg hc]
            refine ⟨_, S.tok tk, rfl, ?_⟩
            rw [hfl, if_neg hc, List.append_nil]
            exact hi
        obtain ⟨rfl, iw⟩ := hJ
        have iw : Ints ws (placesOf row) := iw
        refine wpAny_execs_cons (wpAny_Expr_any (w_meth (ev_local S.ns (by exact hmt)) (S.nth 3 rfl) F.slot_list_append F.type_list_append (fun tk => List_ (Calls.spliced_cons (EvV.go (s := { s₁₉ with toks := tk }) (ev_local S.ns rfl) fun tk₁ => Calls.spliced_cons (EvV.go (s := { s₁₉ with toks := tk₁ }) (ev_cell (c := cB) rfl (S.nth 4 rfl).isCell) fun tk₂ => Calls.spliced_cons (wpAny_Call_NameR (EvV.go (s := { s₁₉ with toks := tk₂ }) (ev_b (G (S.tok tk₂)) (v := .builtin "len") rfl) fun tk₃ => callWith_builtin1 (Calls.spliced_cons (EvV.go (s := { s₁₉ with toks := tk₃ }) (ev_local S.ns (by exact hmt)) fun tk₄ => Calls.spliced_nil ?_))))))))))
        refine len_list (S.nth 3 rfl).isList (by simp; (first | lia | omega)) (Calls.spliced_nil ?_)
        refine w_newList (S.tok _) (by simp) fun TG s₂₀ S => ?_
        refine c_append 4 S rfl (by simp; (first | lia | omega)) fun s₂₁ S => wpAny_execs_nil ?_
        have S := ((((S.front 6 rfl).front 6 rfl).front 6 rfl).front 6 rfl).front 6 rfl
        have el : ((as.map Value.ref).toArray.size : Int) = (as.length : Int) := by simp
        refine ⟨rfl, _, _, S, hms, hmt, as ++ [TG], _, _, by rw [List.map_append]; rfl, by simp [hR1], by simp [hR2], by simp [hR3], by simp [hR4], by simp; (first | lia | omega), ?_⟩
        rw [htk, ← List.append_assoc]
        exact (hT.mono fun p hp => by simp [hp]).snoc (a := TG) (pa := PL) (ba := b) (vp := ws) (vb := vb) (by rw [← el]; exact .head _) (by simp) iw (by simp [hb]) ib
      · obtain ⟨hms, hmt, as, vB, R, rfl, hR1, hR2, hR3, hR4, hle, hT⟩ := hJ
        refine wpAny_execs_nil ⟨rfl, _, _, S, hms, hmt, as, vB, _, R, rfl, hR1, ?_⟩
        rw [hflat]
        exact hT
    · obtain ⟨_, hmt, as, vB, vN, R, rfl, hR, hT⟩ := hJ
      refine wpAny_execs_cons (x_retV S (ev_local S.ns hmt) fun s'' S => ?_)
      rw [hlen4] at hT
      have S := (S.drop 1).drop 1
      exact k TH as R s'' S.keeps S.made hT
  · intro p hp
    simp only [List.mem_cons, List.not_mem_nil, or_false] at hp
    rcases hp with rfl | rfl <;> rfl
  · intro x hx
    simp only [List.mem_cons, List.not_mem_nil, or_false] at hx
    rcases hx with rfl; exact .inl rfl
end Mine
end

section
set_option maxRecDepth 100000
namespace Mine
open PySem PyProof.Rows

/-- the things lie in a list -/
def ThsAt (h : Heap) (l : Addr) (rows : List (List Int)) : Prop := ∃ as : List Addr, At h l (.list (as.map .ref)) ∧ as.length = rows.length ∧ ∀ (i : Nat) a b, as[i]? = some a → rows[i]? = some b → ThingAt h a (placesOf b) b i
theorem UpTo.ths {h h' : Heap} (k : UpTo h h') {l : Addr} {rows : List (List Int)} (x : ThsAt h l rows) : ThsAt h' l rows :=
  let ⟨as, a, b, c⟩ := x; ⟨as, k.list a, b, fun i x y hx hy => k.thing (c i x y hx hy)⟩
theorem ThsAt.of {fs : List Addr} {s₀ s : Shared} {L : Addr} {m : Str → Option Value} {O R : List (Addr × Ky)} {TH : Addr} {as : List Addr} {rows : List (List Int)} (S : St fs s₀ L m O s) (h1 : (TH, Ky.list (as.map .ref)) ∈ O) (h2 : ∀ p ∈ R, p ∈ O) (h3 : ThgsIn R as rows) : ThsAt s.heap TH rows :=
  ⟨as, S.led _ h1, h3.1, fun i a b ha hb => let ⟨pa, ba, vp, vb, t, p1, p2, p3, p4, p5⟩ := h3.2 i a b ha hb; ⟨pa, ba, vp, vb, t, S.led _ (h2 _ p1), S.led _ (h2 _ p2), p3, S.led _ (h2 _ p4), p5⟩⟩

theorem placesOf_mem {b : List Int} {x : Int} : x ∈ placesOf b ↔ ∃ p : Nat, p < 16 ∧ x = (p : Int) ∧ b.getD p 0 = 1 := by
  unfold placesOf
  simp only [List.mem_map, List.mem_filter, List.mem_range, beq_iff_eq]
  constructor
  · rintro ⟨p, ⟨h1, h2⟩, rfl⟩; exact ⟨p, h1, rfl, h2⟩
  · rintro ⟨p, h1, rfl, h2⟩; exact ⟨p, ⟨h1, h2⟩, rfl⟩
theorem placesOf_inc (b : List Int) : Inc (placesOf b) := by
  unfold placesOf Inc
  refine List.Pairwise.map _ (R := fun a b : Nat => a < b) (fun a b h => by (first | lia | omega)) ?_
  exact (List.pairwise_lt_range (n := 16)).sublist List.filter_sublist
theorem placesOf_len (b : List Int) : (placesOf b).length ≤ 16 := by
  unfold placesOf
  rw [List.length_map]
  exact Nat.le_trans (List.length_filter_le _ _) (by simp)

section
variable {prog : Program} {w : World} {A : Around} {env : Env} {h : Heap}
theorem ev_len {p pos : Pos} {e : Expr} {l : Addr} {items : List Value} (f : EvV prog w A env h (.Name "len" p) (.builtin "len")) (x : EvV prog w A env h e (.ref l)) (hl : h.IsList l items.toArray) (hz : items.length ≤ 1000)
    (htrees : backTo pos (starEach [e] env) = [(false, eval e env)] := by rfl) : EvI prog w A env h (.Call (.Name "len" p) [e] [] pos) (items.length : Int) := by
  intro s Q E hs hQ
  subst hs
  refine wpAny_Call_NameR (f.go fun tk => ?_)
  rw [htrees]
  refine PySem.callWith_builtin1 (EvV.go (s := { s with toks := tk }) x fun tk' => ?_)
  refine len_list (s := { s with toks := tk' }) hl (by simp; (first | lia | omega)) ?_
  have := hQ (tk' + 1) (tk' + 1 + 1)
  simpa using this
theorem et_notin {a b : Expr} {pos : Pos} {k : Int} {l : Addr} {vs : List Value} {ns : List Int} (x : EvI prog w A env h a k) (y : EvV prog w A env h b (.ref l)) (hl : h.IsList l vs.toArray) (hi : Ints vs ns) (hm : behindInMarks .NotIn b = false := by rfl) :
    EvT prog w A env h (.Compare a [.NotIn] [b] pos) (!ns.contains k) := by
  intro s Q E hs hQ
  subst hs
  refine wpAny_isTrue_Compare1 (x.go fun t tk => EvV.go (s := { s with toks := tk }) y fun tk' => notin_list_ints (s := { s with toks := tk' }) hl hi.are (wpAny_truthy_bool ?_)) hm
  have e : (ns.any fun x => x == k) = ns.contains k := by
    rw [List.contains_eq_any_beq]
    congr 1; funext x
    exact Bool.beq_comm
  rw [e]
  exact hQ tk'
end

theorem x_forS {prog : Program} {w : World} {A : Around} {env : Env} {fs : List Addr} {s₀ s : Shared} {m : Str → Option Value} {O : List (Addr × Ky)} {E : Value → Shared → Prop} {Q : Flow → Shared → Prop} {target iter : Expr} {body : List Stmt} {pos : Pos} {n : Nat} {P : Nat → Value → Prop} {K : Nat → Ky} {H : Heap → Prop} (src : Source prog w A env fs s₀ m O s iter n P K H) (J : Nat → (Str → Option Value) → List (Addr × Ky) → Prop)
    (h0 : J 0 m O) (hH : ∀ I j j' m' O' s', St fs s₀ env.locals m' ((I, K j) :: O') s' → J j' m' O' → H s'.heap)
    (turn : ∀ I j v m' O' s' (E' : Value → Shared → Prop), j < n → P j v → J j m' O' → St fs s₀ env.locals m' ((I, K (j + 1)) :: O') s' →
      wpAny (model prog w) A (assign target env v) (fun _ s₁ => wpAny (model prog w) A (execs body env) (fun f s₂ => f = .next ∧ ∃ m₂ O₂, St fs s₀ env.locals m₂ ((I, K (j + 1)) :: O₂) s₂ ∧ J (j + 1) m₂ O₂) E' s₁) E' s')
    (fin : ∀ m' O' s', St fs s₀ env.locals m' O' s' → J n m' O' → Q .next s') (hs : ∀ x, foldedSetIterable iter env x = pure x := by intro _; rfl) (ht : ∀ it v, letOwnedTupleGo target it v = pure () := by intro _ _; rfl) :
    wpAny (model prog w) A (exec (.For target iter body [] pos) env) Q E s :=
  wpAny_For (src _ _ fun I s' IT S => for_run IT J S h0 (hH I) (turn I) fin (ht _)) hs
/-- the ints of a thing's places, at the place -/
theorem ThsAt.at {h : Heap} {l : Addr} {rows : List (List Int)} (x : ThsAt h l rows) : ∃ as : List Addr, At h l (.list (as.map .ref)) ∧ as.length = rows.length ∧ ∀ (i : Nat) (hi : i < rows.length), ∃ a, (as.map Value.ref)[i]? = some (.ref a) ∧ ThingAt h a (placesOf rows[i]) rows[i] i := by
  obtain ⟨as, a, b, c⟩ := x
  refine ⟨as, a, b, fun i hi => ?_⟩
  have hi' : i < as.length := by (first | lia | omega)
  exact ⟨as[i], by simp [hi'], c i _ _ (by simp [hi']) (by simp [hi])⟩

def prevI (n j : Nat) : Nat := if j = 0 then n - 1 else j - 1
theorem ev_prev {prog : Program} {w : World} {A : Around} {env : Env} {h : Heap} {value slice : Expr} {pos : Pos} {l : Addr} {items : List Value} {j : Nat} {v : Value} (x : EvV prog w A env h value (.ref l)) (y : EvI prog w A env h slice ((j : Int) - 1)) (hl : h.IsList l items.toArray)
    (hj : j < items.length) (hz : items.length ≤ 1000) (hv : items[prevI items.length j]? = some v) (hs : ∀ o i, subscripted slice false o i = operate [o, i] (getItem o i) := by intro _ _; rfl) : EvV prog w A env h (.Subscript value slice pos) v := by
  by_cases h0 : j = 0
  · subst h0
    refine ev_item_neg x y hl (by simp) (by simp; (first | lia | omega)) (by decide) ?_ hs
    have e : (((0 : Nat) : Int) - 1 + (items.toArray.size : Int)).toNat = items.length - 1 := by simp; (first | lia | omega)
    rw [e]
    simpa [prevI] using hv
  · refine ev_item x y hl (by (first | lia | omega)) (by (first | lia | omega)) ?_ hs
    have e : ((j : Int) - 1).toNat = j - 1 := by (first | lia | omega)
    rw [e]
    simpa [prevI, h0] using hv

/-- the turns of [item for item in .. if item not in ..] -/
theorem turns_notin {prog : Program} {w : World} {A : Around} {env : Env} {fs : List Addr} {s₀ : Shared} {m : Str → Option Value} {O : List (Addr × Ky)} {scope : Scope} {cl : List (Str × Addr)} {I lB : Addr} {nm : Str} {p1 p2 p3 p4 : Pos} {items vb : List Value} {xs ns : List Int} {K : Nat → Ky} (hi : Ints items xs)
    (hb : ∀ C R s', St fs s₀ env.locals m (R ++ O) s' → EvV prog w A (compEnvC scope cl C env) s'.heap (.Name nm p2) (.ref lB)) (hl : ∀ R s', St fs s₀ env.locals m (R ++ O) s' → s'.heap.IsList lB vb.toArray) (hib : Ints vb ns)
    (hk : ∀ C, (compEnvC scope cl C env).scope.kind = .function := by intro _; rfl) (hx : ∀ C, (compEnvC scope cl C env).kindOf "item" = some .local := by intro _; rfl) :
    Turns prog w A env fs s₀ m scope cl "item" [.Compare (.Name "item" p1) [.NotIn] [.Name nm p2] p3] (.Name "item" p4) I items.length (fun i v => items[i]? = some v) K (fun k ys O' => O' = O ∧ Ints ys ((xs.take k).filter fun x => !ns.contains x)) := by
  intro C D j v ys mC O' s' E' hj hv hJ hm S
  obtain ⟨rfl, hy⟩ := hJ
  have hjx : j < xs.length := by rw [← hi.1]; exact hj
  obtain ⟨t, ht⟩ := hi.2 j xs[j] (by simp [hjx])
  rw [ht] at hv; cases hv
  refine w_for1 (w_t (wpAny_bind ?_))
  have hN := (S.nth 0 rfl).ns
  have S' : St fs s₀ env.locals m ([(C, nmK mC), (D, .list ys), (I, K (j + 1))] ++ O') s' := S
  have hT : EvT prog w A (compEnvC scope cl C env) s'.heap (.Compare (.Name "item" p1) [.NotIn] [.Name nm p2] p3) (!ns.contains xs[j]) := et_notin (ev_local hN hm (hk C) (hx C)).toI (hb C _ s' S') (hl _ s' S') hib
  refine hT s' _ _ rfl fun tk => wpAny_pure ?_
  have hfl : (xs.take (j + 1)).filter (fun x => !ns.contains x) = (xs.take j).filter (fun x => !ns.contains x) ++ (if (!ns.contains xs[j]) = true then [xs[j]] else []) := by
    rw [List.take_succ_eq_append_getElem hjx, List.filter_append, List.filter_cons, List.filter_nil]
  dsimp only
  by_cases hc : (!ns.contains xs[j]) = true
  · rw [if_pos hc]
    refine EvV.go (s := { s' with toks := tk }) (ev_local hN hm (hk C) (hx C)) fun tk' => ⟨_, S.tok tk', rfl, ?_⟩
    rw [hfl, if_pos hc]
    exact hy.append (Ints.one _ _)
  · rw [if_neg hc]
    refine ⟨_, S.tok tk, rfl, ?_⟩
    rw [hfl, if_neg hc, List.append_nil]
    exact hy

theorem ReadsAll.ints {h : Heap} : ∀ {vs : List Value} {ns : List Int}, IntsAre vs ns → ReadsAll h vs (ns.map PyData.int) []
  | _, _, .nil => .nil
  | _, _, .cons n t r => .cons (as := []) (bs := []) (.int n t) (ReadsAll.ints r)
theorem Reads.ints {h : Heap} {l : Addr} {vs : List Value} {ns : List Int} (hl : h.IsList l vs.toArray) (hi : Ints vs ns) : Reads h (.ref l) (.list (ns.map PyData.int)) [l] := by
  obtain ⟨o, ho, hc, n, hd⟩ := hl
  exact .list (as := []) ho hc hd (by simpa using ReadsAll.ints hi.are)

set_option maxHeartbeats 1000000 in
theorem differ_ok {prog : Program} {w : World} {A : Around} {s : Shared} {E Q : Value → Shared → Prop} {th : Addr} {rows : List (List Int)} {outer : List Env}
    (T : Txt s.heap) (hroom : A.depth + 3 < recursionLimit) (hu : A.units + 100 < cLine) (hh : A.handled = none) (B : Frs A s.heap outer) (H : ThsAt s.heap th rows) (hl : 0 < rows.length ∧ rows.length ≤ 100)
    (k : ∀ s', KeepsU (outer.filterMap (·.frame)) s s' → Q (.bool true) s') : wpAny (model prog w) A (call (.ref 103) [.ref th]) Q E s := by
  refine call_k (outer.filterMap (·.frame)) B.old [("things", .ref th)] (m := fun y => if y = "things" then some (.ref th) else none) (cl := [("other", s.heap.objs.size + 1 + 1), ("one", s.heap.objs.size + 1)]) (O := [(s.heap.objs.size + 1 + 1, .cell none), (s.heap.objs.size + 1, .cell none)])
    T.f20 T.lim (by (first | lia | omega)) rfl rfl rfl (fun s₁ S => ?_) (fun _ => rfl) ?_ ?_ rfl rfl rfl
  · have G : ∀ {m O s'}, St (outer.filterMap (·.frame)) s s.heap.objs.size m O s' → Glb s'.heap := fun S' => S'.upto.glb T.glb
    generalize hcT : s.heap.objs.size + 1 + 1 = cT at S ⊢
    generalize hcO : s.heap.objs.size + 1 = cO at S ⊢
    obtain ⟨as, hal, hlen, hth⟩ := H.at
    have lz : (as.map Value.ref).length ≤ 1000 := by simp; (first | lia | omega)
    have hlm : (as.map Value.ref).length = rows.length := by simp [hlen]
    refine wpAny_execs_cons (x_forS (src_range (n := (as.map Value.ref).length) hh S (ev_b (G S) rfl) (ev_len (ev_b (G S) rfl) (ev_local S.ns rfl) (S.upto.list hal).isList lz) lz) (fun j m' O' => m' "things" = some (.ref th) ∧ ∃ vT vO, O' = [(cT, .cell vT), (cO, .cell vO)]) ⟨rfl, none, none, rfl⟩ (fun I j j' m' O' s' S' J' => trivial) (fun I j v m' O' s' E' hj hv hJ S => ?_) fun m' O' s' S hJ => ?_)
    · obtain ⟨t, rfl⟩ := hv
      obtain ⟨hmt, vT, vO, rfl⟩ := hJ
      rw [hlm] at hj
      obtain ⟨a, ha, pa, ba, vp, vb, tt, a1, a2, a3, a4, a5⟩ := hth j hj
      have hpj : prevI rows.length j < rows.length := by unfold prevI; split <;> (first | lia | omega)
      obtain ⟨a', ha', pa', ba', vp', vb', tt', b1, b2, b3, b4, b5⟩ := hth _ hpj
      refine wpAny_assign_Name (st_store S fun s₃ S => ?_)
      refine wpAny_execs_cons (wpAny_Assign_Name (EvV.go (ev_item (ev_item (ev_local S.ns (by exact hmt)) (ev_local S.ns rfl).toI (S.upto.list hal).isList (by (first | lia | omega)) (by (first | lia | omega)) (by simpa using ha)) ev_int (S.upto.list a1).isList (by decide) (by decide) rfl) fun tk => st_storeC 2 (S.tok tk) rfl (fun s₄ S => ?_) rfl))
      refine wpAny_execs_cons (wpAny_Assign_Name (EvV.go (ev_item (ev_prev (ev_local S.ns (by exact hmt)) (ev_sub (ev_local S.ns rfl).toI ev_int) (S.upto.list hal).isList (by (first | lia | omega)) lz (by rw [hlm]; exact ha')) ev_int (S.upto.list b1).isList (by decide) (by decide) rfl) fun tk => st_storeC 1 (S.tok tk) rfl (fun s₅ S => ?_) rfl))
      have S : St (outer.filterMap (·.frame)) s s.heap.objs.size (fun y => if y = "place" then some (.int (j : Int) t) else m' y) [(I, .obj (ritO ((j + 1 : Nat) : Int) (((as.map Value.ref).length : Int) - ((j + 1 : Nat) : Int)))), (cT, .cell (some (.ref pa'))), (cO, .cell (some (.ref pa)))] s₅ := S
      generalize hKI : Ky.obj (ritO ((j + 1 : Nat) : Int) (((as.map Value.ref).length : Int) - ((j + 1 : Nat) : Int))) = KI at S ⊢
      have lvp : vp.length ≤ 1000 := by rw [a3.1]; have := placesOf_len rows[j]; (first | lia | omega)
      have lvp' : vp'.length ≤ 1000 := by rw [b3.1]; have := placesOf_len (rows[prevI rows.length j]'hpj); (first | lia | omega)
      have i1 := placesOf_inc rows[j]
      have i2 := placesOf_inc (rows[prevI rows.length j]'hpj)
      have l1 := placesOf_len rows[j]
      have l2 := placesOf_len (rows[prevI rows.length j]'hpj)
      generalize placesOf rows[j] = xs at a3 i1 l1
      generalize placesOf (rows[prevI rows.length j]'hpj) = ys at b3 i2 l2
      refine wpAny_execs_cons (x_comp (src_list (items := vp) hh S (ev_cell (c := cO) rfl (S.nth 2 rfl).isCell) (S.upto.list a2).isList) lvp (fun k zs O' => O' = [(I, KI), (cT, .cell (some (.ref pa'))), (cO, .cell (some (.ref pa)))] ∧ Ints zs ((xs.take k).filter fun x => !ys.contains x)) ⟨rfl, .nil⟩ (fun I D j j' ys F' O' s' S' J' => (S'.upto.list a2).isList)
        (fun I₂ => turns_notin (lB := pa') (vb := vp') a3 (fun C R s' S' => ev_cell (c := cT) rfl (S'.led (cT, .cell (some (.ref pa'))) (by simp)).isCell) (fun R s' S' => (S'.upto.list b2).isList) b3) fun D₁ z₁ O' s₆ S hJ _ => ?_)
      obtain ⟨rfl, j1⟩ := hJ
      rw [a3.1, List.take_length] at j1
      refine wpAny_execs_cons (x_comp (src_list (items := vp') hh S (ev_cell (c := cT) rfl (S.nth 2 rfl).isCell) (S.upto.list b2).isList) lvp' (fun k zs O' => O' = [(D₁, .list z₁), (I, KI), (cT, .cell (some (.ref pa'))), (cO, .cell (some (.ref pa)))] ∧ Ints zs ((ys.take k).filter fun x => !xs.contains x)) ⟨rfl, .nil⟩ (fun I D j j' ys F' O' s' S' J' => (S'.upto.list b2).isList)
        (fun I₂ => turns_notin (lB := pa) (vb := vp) b3 (fun C R s' S' => ev_cell (c := cO) rfl (S'.led (cO, .cell (some (.ref pa))) (by simp)).isCell) (fun R s' S' => (S'.upto.list a2).isList) a3) fun D₂ z₂ O' s₇ S hJ _ => ?_)
      obtain ⟨rfl, j2⟩ := hJ
      rw [b3.1, List.take_length] at j2
      refine wpAny_execs_cons (wpAny_If (wpAny_isTrue_Compare1 (w_callF (ev_g (G S) (v := .ref 28) rfl) fun tk => Calls.spliced_cons (EvV.go (s := { s₇ with toks := tk }) (ev_cell (c := cO) rfl (S.nth 4 rfl).isCell) fun tk' => Calls.spliced_cons (EvV.go (s := { s₇ with toks := tk' }) (ev_cell (c := cT) rfl (S.nth 3 rfl).isCell) fun tk'' => Calls.spliced_nil ⟨(S.upto.fn T.f2).func, ?_⟩)))))
      have S := S.tok tk''
      refine sld_ok (S.upto.fn T.f2) (S.upto.noLimit T.lim) (by show A.depth + 1 < _; (first | lia | omega)) hh (B.deeper (env := envC (stm 20) (nameOf (stm 20)) (.ref 102) [("other", cT), ("one", cO)] s.heap.objs.size 103) S rfl rfl) (G S) (S.upto.list a2) a3 i1 (S.upto.list b2) b3 i2 (by (first | lia | omega)) (by (first | lia | omega)) fun r p q wp wq s₈ kU ip iq Md => ?_
      have S := S.with (S.keptU kU) Md
      refine Tuple_ (Calls.spliced_cons ((ev_local S.ns rfl).go fun tk => Calls.spliced_cons (EvV.go (s := { s₈ with toks := tk }) (ev_local S.ns rfl) fun tk' => Calls.spliced_nil ?_)))
      refine w_newTuple (S.tok tk') (by simp) fun r₂ s₉ S => ?_
      have rr : ∀ {r : Addr} {p q : Addr} {wp wq : List Value} {m : Str → Option Value} {O : List (Addr × Ky)} {s' : Shared}, St (outer.filterMap (·.frame)) s s.heap.objs.size m O s' → (r, tupK [.ref p, .ref q]) ∈ O → (p, Ky.list wp) ∈ O → (q, Ky.list wq) ∈ O → Ints wp (diff xs ys) → Ints wq (diff ys xs) →
          Reads s'.heap (.ref r) (.tuple [.list ((diff xs ys).map PyData.int), .list ((diff ys xs).map PyData.int)]) ([p] ++ ([q] ++ [])) := fun S' h1 h2 h3 h4 h5 => by
        obtain ⟨o, ho, hc, hd, n, hdd⟩ := S'.led _ h1
        exact .tuple ho hc hdd (.cons (Reads.ints (S'.led _ h2).isList h4) (.cons (Reads.ints (S'.led _ h3).isList h5) .nil))
      have hsh : SeqAt.shaped (.tuple [.list ((diff xs ys).map PyData.int), .list ((diff ys xs).map PyData.int)]) = true := by
        simp [SeqAt.shaped, PyData.canLay0, PyData.canLayAll0, PyData.depth, PyData.depthAll, PySem.W.ke_canLayAll0, PySem.W.ke_depthAll]
      refine ne_dataH (rr S (List.mem_of_getElem? (i := 1) rfl) (List.mem_of_getElem? (i := 3) rfl) (List.mem_of_getElem? (i := 2) rfl) ip iq) (rr S (List.mem_of_getElem? (i := 0) rfl) (List.mem_of_getElem? (i := 5) rfl) (List.mem_of_getElem? (i := 4) rfl) j1 j2) hsh hsh (by show A.units + 3 + 64 < cLine; (first | lia | omega)) (wpAny_truthy_bool ?_)
      rw [SeqAt.eqv_refl _ (SeqAt.canLay_of_shaped hsh)]
      rw [if_neg (by decide)]
      have S := (((((S.drop 0).drop 0).drop 0).drop 0).drop 0).drop 0
      exact wpAny_execs_nil (wpAny_execs_nil ⟨rfl, _, _, S, by exact hmt, _, _, rfl⟩)
    · refine wpAny_execs_cons (x_retV S ev_bool fun s'' S => k s'' S.keepsU)
  · intro p hp
    simp only [List.mem_cons, List.not_mem_nil, or_false] at hp
    rcases hp with rfl | rfl <;> rfl
  · intro x hx
    simp only [List.mem_cons, List.not_mem_nil, or_false] at hx
    rcases hx with rfl; exact .inl rfl
end Mine
end

section
set_option maxRecDepth 100000
namespace Mine
open PySem PyProof.Rows

section
variable {prog : Program} {w : World} {A : Around} {s : Shared} {E Q : Value → Shared → Prop}

/-- three_way_cmp of two keys -/
theorem tw_keys {x y tx ty C cmp fa la : Addr} {xs ys bx by' fl : List Int} {ld : List (List Int)} {nx ny : Int} {outer : List Env} (W : Wld s.heap (outer.filterMap (·.frame)) C cmp fa la fl ld) (hroom : A.depth + 8 < recursionLimit) (hu : A.units + 120 < cLine) (hh : A.handled = none) (B : Frs A s.heap outer)
    (hx : KeyIn s.heap (outer.filterMap (·.frame)) x C (.ref tx)) (hy : KeyIn s.heap (outer.filterMap (·.frame)) y C (.ref ty)) (tX : Thg s.heap tx xs bx nx) (tY : Thg s.heap ty ys by' ny)
    (k : ∀ t s', KeepsU (outer.filterMap (·.frame)) s s' → Q (.int (b2i (decide (cmpOf fl ld xs ys bx > 0)) - b2i (decide (cmpOf fl ld xs ys bx < 0))) t) s') : wpAny (model prog w) A (call (.ref 35) [.ref x, .ref y]) Q E s := by
  refine call_d (outer.filterMap (·.frame)) B.old [("x", .ref x), ("y", .ref y)] W.txt.f3 W.txt.lim (by (first | lia | omega)) (fun s₁ S => ?_) (fun _ => rfl) (by decide) (locs rfl) rfl rfl rfl
  refine wpAny_execs_cons (wpAny_Return_some (wpAny_BinOp (wpAny_Compare1 ((ev_local S.ns rfl).go fun tk => EvV.go (s := { s₁ with toks := tk }) (ev_local S.ns rfl) fun tk' => ?_) (nm _ (by simp) (by simp)))))
  have S := S.tok tk'
  show wpAny _ _ (richCompare .Gt (.ref x) (.ref y)) _ _ _
  refine kgt_rich (outer := outer) (env := envD (stm 3) (.ref 34) s.heap.objs.size 35) S W (by show A.depth + 1 + 6 < _; (first | lia | omega)) (by show A.units + 3 + 110 < cLine; (first | lia | omega)) hh (B.deeper S rfl rfl) rfl (hx.st S) (hy.st S) (S.upto.thg tX) (S.upto.thg tY) fun s₂ kU => ?_
  have S := S.keptU kU
  refine wpAny_Compare1 ((ev_local S.ns rfl).go fun tk => EvV.go (s := { s₂ with toks := tk }) (ev_local S.ns rfl) fun tk' => ?_) (nm _ (by simp) (by simp))
  have S := S.tok tk'
  show wpAny _ _ (richCompare .Lt (.ref x) (.ref y)) _ _ _
  refine klt_rich (outer := outer) (env := envD (stm 3) (.ref 34) s.heap.objs.size 35) S W (by show A.depth + 1 + 6 < _; (first | lia | omega)) (by show A.units + 3 + 110 < cLine; (first | lia | omega)) hh (B.deeper S rfl rfl) rfl (hx.st S) (hy.st S) (S.upto.thg tX) (S.upto.thg tY) fun s₃ kU => ?_
  have S := S.keptU kU
  exact sub_bool (k _ _ (S.tok _).keepsU)

/-- _law_sign -/
theorem sign_ok {a b : Int} {ta tb : Tok} (T : Txt s.heap) (hroom : A.depth < recursionLimit) (k : ∀ t s', Keeps s s' → Q (.int ((if a > b then 1 else 0) - (if a < b then 1 else 0)) t) s') : wpAny (model prog w) A (call (.ref 115) [.int a ta, .int b tb]) Q E s := by
  refine call_d [] (by simp) [("one", .int a ta), ("other", .int b tb)] T.f22 T.lim (by (first | lia | omega)) (fun s₁ S => ?_) (fun _ => rfl) (by decide) (locs rfl) rfl rfl rfl
  refine wpAny_execs_cons (wpAny_Return_some (wpAny_BinOp (wpAny_Call_NameR ((ev_b (S.upto.glb T.glb) (v := .type "int") rfl).go fun tk => callWith_type1 (Calls.spliced_cons (EvV.go (s := { s₁ with toks := tk }) (ev_gt (ev_local S.ns rfl).toI (ev_local S.ns rfl).toI) fun tk' => Calls.spliced_nil (call_int_bool ?_)))))))
  have S := S.tok (tk' + 1)
  refine wpAny_Call_NameR ((ev_b (S.upto.glb T.glb) (v := .type "int") rfl).go fun tk => callWith_type1 (Calls.spliced_cons (EvV.go (s := { s₁ with toks := tk }) (ev_lt (ev_local S.ns rfl).toI (ev_local S.ns rfl).toI) fun tk' => Calls.spliced_nil (call_int_bool (P.sub_int ?_)))))
  have := k (tk' + 1) _ (S.tok (tk' + 1 + 1)).keeps
  simpa using this
end
end Mine
end

section
set_option maxRecDepth 100000
namespace Mine
open PySem PyProof.Rows
open PySem.Builtin.Bytes (hexDigit toUpper)
open Builtin._codecs in
theorem enc_tree (x : Str) (t u : Tok) : Builtin.«str.encode» ⟨[.str x t, .str "ascii" u], []⟩ = (do ret (← encodeRoad "str.encode" (.str x t) x (Str.ofString "ascii") none)) := by first | rfl | kernel_rfl
open Builtin._codecs in
theorem road_ascii (id : String) (self : Value) (x : Str) (errors : Option Str) : encodeRoad id self x (Str.ofString "ascii") errors = (do mkBytes (← encodeNarrow id asciiCodec errors self x)) := by
  first | rfl | (unfold encodeRoad; rfl) | decide | kernel_rfl
theorem loop2 {β : Type} (F : Nat → β → Sem (ForInStep β)) (i0 i1 : β) (h0 : F 0 i0 = pure (.yield i1)) (h1 : F 1 i1 = pure (.done i1)) : (forIn [:4] i0 F : Sem β) = pure i1 := by
  rw [Std.Legacy.Range.forIn_eq_forIn_range']
  show (forIn [0, 1, 2, 3] i0 F : Sem β) = _
  rw [List.forIn_cons, h0]
  show (forIn [1, 2, 3] i1 F : Sem β) = _
  rw [List.forIn_cons, h1]
  rfl
open Builtin._codecs in
theorem narrow4 (a b c d : Nat) (t : Tok) (ha : a < 128) (hb : b < 128) (hc : c < 128) (hd : d < 128) : encodeNarrow "str.encode" asciiCodec none (.str ⟨#[a, b, c, d]⟩ t) ⟨#[a, b, c, d]⟩ = pure #[a.toUInt8, b.toUInt8, c.toUInt8, d.toUInt8] := by
  have h1 : asciiCodec.bad a = false := by simp [asciiCodec, ha]
  have h2 : asciiCodec.bad b = false := by simp [asciiCodec, hb]
  have h3 : asciiCodec.bad c = false := by simp [asciiCodec, hc]
  have h4 : asciiCodec.bad d = false := by simp [asciiCodec, hd]
  unfold encodeNarrow
  refine (congrArg (· >>= fun (s : Nat × Array UInt8 × Faults) => pure s.2.1) (loop2 _ ((0 : Nat), (#[] : Array UInt8), ({} : Faults)) (4, #[a.toUInt8, b.toUInt8, c.toUInt8, d.toUInt8], {}) ?_ ?_)).trans rfl
  · dsimp only
    rw [if_neg (by decide)]
    show (if (!asciiCodec.bad a) = true then _ else _) = _
    rw [h1, if_pos (by decide)]
    have e : (Array.findIdx? asciiCodec.bad (#[a, b, c, d].extract 0)).getD (#[a, b, c, d].extract 0).size = 4 := by
      have : (#[a, b, c, d].extract 0) = #[a, b, c, d] := by simp
      rw [this]
      simp [Array.findIdx?, Array.findIdx?.loop, h1, h2, h3, h4]
    rw [e]
    rfl
  · dsimp only
    rw [if_neg (by simp [sizeLine_eq])]
    rfl
theorem hex_tree (x y : UInt8) (t : Tok) : Builtin.«bytes.hex» ⟨[.bytes #[x, y] t], []⟩ = retStr ⟨#[hexDigit (x.toNat / 16), hexDigit (x.toNat % 16), hexDigit (y.toNat / 16), hexDigit (y.toNat % 16)]⟩ := by first | rfl | kernel_rfl
theorem up_tree (b : Array UInt8) (t : Tok) : Builtin.«bytes.upper» ⟨[.bytes b t], []⟩ = (do ret (← mkBytes (b.toList.map toUpper).toArray)) := by first | rfl | kernel_rfl
end Mine
end

section
set_option maxRecDepth 100000
namespace Mine
open PySem PyProof.Rows
open PySem.Builtin.Bytes (hexDigit toUpper)

theorem slot_hex : Slot "bytes" "hex" "bytes.hex" := .of (owner := "bytes") (n := "hex") (by rw [typeLookup_type, builtinLookup_eq_fast]; kernel_rfl) (by decide +kernel) (by decide +kernel) (by decide +kernel) (by first | exact .inl (by decide +kernel) | exact .inr (by decide +kernel)) (by rw [isSubtype_type]; kernel_rfl)
theorem type_hex : typeOf (.builtin "bytes.hex") = pure (.type "method_descriptor") := by show builtinType _ = _; rw [builtinType_eq_fast]; kernel_rfl
theorem entry_hex : entryFor table "bytes.hex" = some Builtin.«bytes.hex» := entryFor_of_tree (by kernel_rfl)
theorem args_hex (a : Value) : argsOk "bytes.hex" ⟨[a], []⟩ := by unfold argsOk; kernel_rfl
theorem slot_upper : Slot "bytes" "upper" "bytes.upper" := .of (owner := "bytes") (n := "upper") (by rw [typeLookup_type, builtinLookup_eq_fast]; kernel_rfl) (by decide +kernel) (by decide +kernel) (by decide +kernel) (by first | exact .inl (by decide +kernel) | exact .inr (by decide +kernel)) (by rw [isSubtype_type]; kernel_rfl)
theorem type_upper : typeOf (.builtin "bytes.upper") = pure (.type "method_descriptor") := by show builtinType _ = _; rw [builtinType_eq_fast]; kernel_rfl
theorem entry_upper : entryFor table "bytes.upper" = some Builtin.«bytes.upper» := entryFor_of_tree (by kernel_rfl)
theorem args_upper (a : Value) : argsOk "bytes.upper" ⟨[a], []⟩ := by unfold argsOk; kernel_rfl
theorem slot_blt : Slot "bytes" (cmpInfo .Lt).2.1 "bytes.__lt__" := .of (owner := "bytes") (n := "__lt__") (by rw [typeLookup_type, builtinLookup_eq_fast]; kernel_rfl) (by decide +kernel) (by decide +kernel) (by decide +kernel) (by first | exact .inl (by decide +kernel) | exact .inr (by decide +kernel)) (by rw [isSubtype_type]; kernel_rfl)
theorem entry_blt : entryFor table "bytes.__lt__" = some Builtin.«bytes.__lt__» := entryFor_of_tree (by kernel_rfl)
theorem args_blt (a b : Value) : argsOk "bytes.__lt__" ⟨[a, b], []⟩ := by unfold argsOk; kernel_rfl
theorem slot_bgt : Slot "bytes" (cmpInfo .Gt).2.1 "bytes.__gt__" := .of (owner := "bytes") (n := "__gt__") (by rw [typeLookup_type, builtinLookup_eq_fast]; kernel_rfl) (by decide +kernel) (by decide +kernel) (by decide +kernel) (by first | exact .inl (by decide +kernel) | exact .inr (by decide +kernel)) (by rw [isSubtype_type]; kernel_rfl)
theorem entry_bgt : entryFor table "bytes.__gt__" = some Builtin.«bytes.__gt__» := entryFor_of_tree (by kernel_rfl)
theorem args_bgt (a b : Value) : argsOk "bytes.__gt__" ⟨[a, b], []⟩ := by unfold argsOk; kernel_rfl
theorem gives_blt (b c : Array UInt8) (t u : Tok) : Gives (Builtin.«bytes.__lt__» ⟨[.bytes b t, .bytes c u], []⟩) (.val (.bool (Builtin.Bytes.order b.toList c.toList == .lt))) := by
  refine .of_wp fun M A E s Q hq => ?_
  show wpAny M A (isInstance (.bytes c u) (.type "bytes") >>= fun r => _) _ E s
  refine wpAny_bind (wpAny_isInstance (PySem.W.typeIs_bytes s c u) F.sub_bytes_bytes ?_)
  exact wpAny_pure ⟨_, rfl, hq⟩
theorem gives_bgt (b c : Array UInt8) (t u : Tok) : Gives (Builtin.«bytes.__gt__» ⟨[.bytes b t, .bytes c u], []⟩) (.val (.bool (Builtin.Bytes.order b.toList c.toList == .gt))) := by
  refine .of_wp fun M A E s Q hq => ?_
  show wpAny M A (isInstance (.bytes c u) (.type "bytes") >>= fun r => _) _ E s
  refine wpAny_bind (wpAny_isInstance (PySem.W.typeIs_bytes s c u) F.sub_bytes_bytes ?_)
  exact wpAny_pure ⟨_, rfl, hq⟩
section
variable {prog : Program} {w : World} {A : Around} {env : Env} {s : Shared} {E : Value → Shared → Prop}
theorem lt_bytes {b c : Array UInt8} {t u : Tok} {Q : Value → Shared → Prop} (h : Q (.bool (Builtin.Bytes.order b.toList c.toList == .lt)) s) : wpAny (model prog w) A (compareOp .Lt (.bytes b t) (.bytes c u)) Q E s :=
  compareOp_gives (op := .Lt) (PySem.W.typeIs_bytes s b t) (PySem.W.typeIs_bytes s c u) slot_blt entry_blt (args_blt _ _) (gives_blt b c t u) (fun e => nomatch e) h
theorem gt_bytes {b c : Array UInt8} {t u : Tok} {Q : Value → Shared → Prop} (h : Q (.bool (Builtin.Bytes.order b.toList c.toList == .gt)) s) : wpAny (model prog w) A (compareOp .Gt (.bytes b t) (.bytes c u)) Q E s :=
  compareOp_gives (op := .Gt) (PySem.W.typeIs_bytes s b t) (PySem.W.typeIs_bytes s c u) slot_bgt entry_bgt (args_bgt _ _) (gives_bgt b c t u) (fun e => nomatch e) h

theorem tw_bytes {Q : Value → Shared → Prop} {b c : Array UInt8} {tb tc : Tok} (T : Txt s.heap) (hroom : A.depth < recursionLimit)
    (k : ∀ t s', Keeps s s' → Q (.int (b2i (Builtin.Bytes.order b.toList c.toList == .gt) - b2i (Builtin.Bytes.order b.toList c.toList == .lt)) t) s') : wpAny (model prog w) A (call (.ref 35) [.bytes b tb, .bytes c tc]) Q E s := by
  refine call_d [] (by simp) [("x", .bytes b tb), ("y", .bytes c tc)] T.f3 T.lim (by omega) (fun s₁ S => ?_) (fun _ => rfl) (by decide) (locs rfl) rfl rfl rfl
  refine wpAny_execs_cons (wpAny_Return_some (wpAny_BinOp (wpAny_Compare1 ((ev_local S.ns rfl).go fun tk => EvV.go (s := { s₁ with toks := tk }) (ev_local S.ns rfl) fun tk' => gt_bytes ?_) (nm _ (by simp) (by simp)))))
  have S := S.tok tk'
  refine wpAny_Compare1 ((ev_local S.ns rfl).go fun tk => EvV.go (s := { s₁ with toks := tk }) (ev_local S.ns rfl) fun tk' => lt_bytes ?_) (nm _ (by simp) (by simp))
  exact sub_bool (k _ _ (S.tok _).keeps)

/-- type(v) of a plain value -/
theorem type_of {v : Value} {T : String} {Q : Value → Shared → Prop} (hT : shownTypeOf v = pure (.type T)) (hv : (v == .builtin "__main__.__loader__#opaque") = false) (k : Q (.type T) s) : wpAny (model prog w) A (call (.type "type") [v]) Q E s := by
  refine wpAny_call (codeAny_of_tree ?_)
  show wpAny _ _ (callAny (.type "type") _) _ _ _
  refine wpAny_pure ⟨Code.quiet_builtin _ (by decide +kernel), codeAny_builtin F.entry_type_call ?_⟩
  unfold Builtin.«type.__call__»
  try wp_delta
  refine w_t ?_
  try wp_delta
  refine w_t ?_
  try wp_delta
  refine wpAny_ite_false rfl ?_
  try wp_delta
  refine wpAny_ite_false (by show decide ((v == .builtin "__main__.__loader__#opaque") = true) = false; rw [hv]; rfl) ?_
  try wp_delta
  refine wpAny_bind (wpAny_of_eq hT ?_)
  exact wpAny_pure k
end
end Mine
end

section
set_option maxRecDepth 100000
namespace Mine
open PySem PyProof.Rows
open PySem.Builtin.Bytes (hexDigit toUpper)

section
variable {prog : Program} {w : World} {A : Around} {env : Env} {s : Shared} {E Q : Value → Shared → Prop}
theorem buffer_ok {b : Array UInt8} {t : Tok} (T : Txt s.heap) (hroom : A.depth < recursionLimit) (k : ∀ s', Keeps s s' → Q (.bytes b t) s') : wpAny (model prog w) A (call (.ref 42) [.bytes b t]) Q E s := by
  refine call_d [] (by simp) [("data", .bytes b t)] T.f5 T.lim (by (first | lia | omega)) (fun s₁ S => ?_) (fun _ => rfl) (by decide) (locs rfl) rfl rfl rfl
  refine wpAny_execs_cons (wpAny_Assign_Name (wpAny_Call_NameR ((ev_b (S.upto.glb T.glb) (v := .type "type") rfl).go fun tk => callWith_type1 (Calls.spliced_cons (EvV.go (s := { s₁ with toks := tk }) (ev_local S.ns rfl) fun tk' => Calls.spliced_nil (type_of (T := "bytes") rfl rfl (st_store (S.tok tk') fun s₂ S => ?_)))))))
  refine wpAny_execs_cons (wpAny_If (wpAny_isTrue_Compare1 ((ev_local S.ns rfl).go fun tk => EvV.go (s := { s₂ with toks := tk }) (ev_b (S.upto.glb T.glb) (v := .type "bytes") rfl) fun tk' => wpAny_is_self rfl (wpAny_truthy_bool ?_))))
  rw [if_pos rfl]
  exact wpAny_execs_cons (x_retV (S.tok _) (ev_local S.ns rfl) fun s₃ S => k s₃ S.keeps)

/-- a method of a plain value, no argument -/
theorem w_meth0 {o : Expr} {name : Str} {T id : String} {apos pos : Pos} (pa : PlainAttrs T) (slot : Slot T name id) (hty : typeOf (.builtin id) = pure (.type "method_descriptor"))
    (h : wpAny (model prog w) A (eval o env) (fun ov s₁ => (∀ a, ov ≠ .ref a) ∧ s₁.TypeIs ov T ∧ wpAny (model prog w) A (call (.builtin id) [ov]) Q E s₁) E s)
    (hbase : attributeBase o name env (eval o env) = eval o env := by rfl) (hline : (apos.endLine == pos.line) = true := by rfl) : wpAny (model prog w) A (eval (.Call (.Attribute o name apos) [] [] pos) env) Q E s := by
  refine wpAny_Call_method0_late hbase hline (wpAny_mono h (fun ov s₁ h₁ => ?_) fun _ _ e => e)
  obtain ⟨hn, hT, hc⟩ := h₁
  exact ⟨T, id, pa, slot, hty, hT, fun a e => (hn a e).elim, Calls.callWith_builtin rfl (evalArgs_nil3 hc)⟩
theorem w_meth1 {o e : Expr} {name : Str} {T id : String} {apos pos : Pos} (pa : PlainAttrs T) (slot : Slot T name id) (hty : typeOf (.builtin id) = pure (.type "method_descriptor"))
    (h : wpAny (model prog w) A (eval o env) (fun ov s₁ => (∀ a, ov ≠ .ref a) ∧ s₁.TypeIs ov T ∧ wpAny (model prog w) A (eval e env) (fun u s₂ => wpAny (model prog w) A (call (.builtin id) [ov, u]) Q E s₂) E s₁) E s)
    (hbase : attributeBase o name env (eval o env) = eval o env := by rfl) (hline : (apos.endLine == pos.line) = true := by rfl) (htrees : backTo pos (starEach [e] env) = [(false, eval e env)] := by rfl) : wpAny (model prog w) A (eval (.Call (.Attribute o name apos) [e] [] pos) env) Q E s := by
  refine wpAny_Call_method1_late hbase hline htrees (wpAny_mono h (fun ov s₁ h₁ => ?_) fun _ _ e => e)
  obtain ⟨hn, hT, hc⟩ := h₁
  exact ⟨T, id, pa, slot, hty, hT, fun a e => (hn a e).elim, Calls.callWith_builtin rfl (Calls.evalArgs_plain (Calls.spliced_cons (wpAny_mono hc (fun u s₂ h₂ => Calls.spliced_nil h₂) fun _ _ e => e)))⟩

/-- encode('ascii') of four signs -/
theorem c_enc4 {a b c d : Nat} {t u : Tok} (ha : a < 128) (hb : b < 128) (hc : c < 128) (hd : d < 128) (k : ∀ t s', Keeps s s' → Q (.bytes #[a.toUInt8, b.toUInt8, c.toUInt8, d.toUInt8] t) s') : wpAny (model prog w) A (call (.builtin "str.encode") [.str ⟨#[a, b, c, d]⟩ t, .str "ascii" u]) Q E s := by
  refine wpAny_call_entry F.slot_str_encode (typeIs_str s _ t) F.entry_str_encode ?_ (F.args_str_encode_2 _ _)
  show wpAny _ _ (Builtin.«str.encode» _) _ _ _
  rw [enc_tree, road_ascii, narrow4 a b c d t ha hb hc hd]
  exact wpAny_bind (wpAny_bind (wpAny_pure (wpAny_mkBytes (wpAny_pure ⟨_, rfl, k _ _ ⟨s.heap, _, rfl, fun _ _ e => e⟩⟩) (by simp [sizeLine_eq]))))

theorem hexDigit_lt (n : Nat) (h : n < 16) : hexDigit n < 128 := by unfold hexDigit; split <;> (first | lia | omega)
/-- what b16encode writes of two bytes -/
def hex4 (x y : UInt8) : Array UInt8 := #[(hexDigit (x.toNat / 16)).toUInt8, (hexDigit (x.toNat % 16)).toUInt8, (hexDigit (y.toNat / 16)).toUInt8, (hexDigit (y.toNat % 16)).toUInt8]
def b16 (x y : UInt8) : Array UInt8 := ((hex4 x y).toList.map toUpper).toArray
theorem b2a_ok {x y : UInt8} {t : Tok} (T : Txt s.heap) (hroom : A.depth + 1 < recursionLimit) (k : ∀ t s', Keeps s s' → Q (.bytes (hex4 x y) t) s') : wpAny (model prog w) A (call (.ref 51) [.bytes #[x, y] t]) Q E s := by
  obtain ⟨oT, nT, tT, hT, hTd⟩ := T.d7
  refine call_c [] (by simp) [("data", .bytes #[x, y] t), ("sep", .ref 43), ("bytes_per_sep", .int 1 tT)] T.f7 T.lim (by (first | lia | omega)) (fun s₁ S => ?_) (fun _ _ _ => .of_defaults rfl hT hTd rfl rfl) (by decide) (locs rfl) rfl rfl rfl
  have G : ∀ {m O s'}, St [] s s.heap.objs.size m O s' → Glb s'.heap := fun S' => S'.upto.glb T.glb
  refine wpAny_execs_cons (wpAny_Assign_Name (w_callF (ev_g (G S) (v := .ref 42) rfl) fun tk => Calls.spliced_cons (EvV.go (s := { s₁ with toks := tk }) (ev_local S.ns rfl) fun tk' => Calls.spliced_nil ⟨(S.upto.fn T.f5).func, ?_⟩)))
  have S := S.tok tk'
  refine buffer_ok (S.upto.txt T) (by show A.depth + 1 < _; exact hroom) fun s₂ k₂ => st_store (S.kept k₂) fun s₃ S => ?_
  refine wpAny_execs_cons (wpAny_If (isTrue_or (wpAny_isTrue_Compare1 (wpAny_Call_NameR ((ev_b (G S) (v := .type "type") rfl).go fun tk => callWith_type1 (Calls.spliced_cons (EvV.go (s := { s₃ with toks := tk }) (ev_local S.ns rfl) fun tk' => Calls.spliced_nil (type_of (T := "int") rfl rfl ?_))))))))
  have S := S.tok tk'
  refine (ev_b (G S) (v := .type "int") rfl).go fun tk => wpAny_isNot_self rfl (wpAny_truthy_bool ?_)
  rw [if_neg (by decide)]
  have S := S.tok tk
  refine isTrue_or (wpAny_isTrue_Compare1 ((ev_local S.ns rfl).go fun tk => UnaryOp_ (wpAny_Constant_int (neg_int (P.lt_int (wpAny_truthy_bool ?_))))))
  rw [if_neg (by decide)]
  have S := S.tok (tk + 1 + 1)
  refine isTrue_or ((et_gt (ev_local S.ns rfl).toI ev_int) _ _ _ rfl fun tk => ?_)
  rw [if_neg (by decide)]
  refine isTrue_or_nil ?_
  rw [if_neg (by decide)]
  have S := S.tok tk
  refine wpAny_execs_nil ?_
  refine wpAny_execs_cons (wpAny_If (wpAny_isTrue_Compare1 ((ev_local S.ns rfl).go fun tk => ?_)))
  have S := S.tok tk
  refine (ev_g (G S) (v := .ref 43) rfl).go fun tk => wpAny_is_ref_self (wpAny_truthy_bool ?_)
  rw [if_pos rfl]
  have S := S.tok tk
  refine wpAny_execs_cons (wpAny_Return_some ?_)
  refine w_meth1 F.plainAttrs_str F.slot_str_encode F.type_str_encode ?_
  refine w_meth0 PySem.W.FB.plainAttrs_bytes slot_hex type_hex ((ev_local S.ns rfl).go fun tk => ⟨fun a e => (nomatch e), rfl, ?_⟩)
  refine wpAny_call_entry slot_hex rfl entry_hex ?_ (args_hex _)
  show wpAny _ _ (Builtin.«bytes.hex» _) _ _ _
  rw [hex_tree]
  refine wpAny_bind (wpAny_mkStr (wpAny_pure ⟨_, rfl, fun a e => (nomatch e), rfl, ?_⟩) (by simp [Str.length, sizeLine_eq]))
  refine wpAny_Constant_str ?_
  have S := S.tok (tk + 1 + 1)
  refine c_enc4 (hexDigit_lt _ (by have := x.toNat_lt; (first | lia | omega))) (hexDigit_lt _ (by (first | lia | omega))) (hexDigit_lt _ (by have := y.toNat_lt; (first | lia | omega))) (hexDigit_lt _ (by (first | lia | omega))) fun t' s' k' => ?_
  exact k t' s' (S.kept k').keeps
theorem b16_ok {x y : UInt8} {t : Tok} (T : Txt s.heap) (hroom : A.depth + 2 < recursionLimit) (k : ∀ t s', Keeps s s' → Q (.bytes (b16 x y) t) s') : wpAny (model prog w) A (call (.ref 58) [.bytes #[x, y] t]) Q E s := by
  refine call_d [] (by simp) [("s", .bytes #[x, y] t)] T.f10 T.lim (by (first | lia | omega)) (fun s₁ S => ?_) (fun _ => rfl) (by decide) (locs rfl) rfl rfl rfl
  refine wpAny_execs_cons (wpAny_Return_some ?_)
  refine w_meth0 PySem.W.FB.plainAttrs_bytes slot_upper type_upper (w_callF (ev_g (S.upto.glb T.glb) (v := .ref 51) rfl) fun tk => Calls.spliced_cons (EvV.go (s := { s₁ with toks := tk }) (ev_local S.ns rfl) fun tk' => Calls.spliced_nil ⟨(S.upto.fnC T.f7).func, ?_⟩))
  have S := S.tok tk'
  refine b2a_ok (S.upto.txt T) (by show A.depth + 1 + 1 < _; (first | lia | omega)) fun t₁ s₂ k₂ => ⟨fun a e => (nomatch e), rfl, ?_⟩
  have S := S.kept k₂
  refine wpAny_call_entry slot_upper rfl entry_upper ?_ (args_upper _)
  show wpAny _ _ (Builtin.«bytes.upper» _) _ _ _
  rw [up_tree]
  exact wpAny_bind (wpAny_mkBytes (wpAny_pure ⟨_, rfl, k _ _ (S.tok _).keeps⟩) (by simp [sizeLine_eq, hex4]))
end
end Mine
end

section
set_option maxRecDepth 100000
namespace Mine
open PySem PyProof.Rows

/-- a figure's code, and the writing of a number -/
def figC (i : Nat) : Nat := if i < 10 then 48 + i else 55 + i
def digOf (n : Int) (p : Nat) : Nat := ((n.fdiv (16 ^ (3 - p))).fmod 16).toNat
def wr (n : Int) : Array UInt8 := #[(figC (digOf n 0)).toUInt8, (figC (digOf n 1)).toUInt8, (figC (digOf n 2)).toUInt8, (figC (digOf n 3)).toUInt8]
theorem figs_at : ∀ i, i < 16 → (("0123456789ABCDEF" : Str).cps)[i]? = some (figC i) := by decide
theorem figC_lt (i : Nat) (h : i < 16) : figC i < 128 := by unfold figC; split <;> (first | lia | omega)
theorem digOf_lt (n : Int) (p : Nat) : digOf n p < 16 ∧ ((n.fdiv (16 ^ (3 - p))).fmod 16) = (digOf n p : Int) := by
  have h1 := Int.fmod_nonneg_of_pos (n.fdiv (16 ^ (3 - p))) (b := 16) (by decide)
  have h2 := Int.fmod_lt_of_pos (n.fdiv (16 ^ (3 - p))) (b := 16) (by decide)
  unfold digOf; (first | lia | omega)
theorem pow16 : ∀ k, k ≤ 3 → ((16 : Int) ^ k ≠ 0 ∧ ((16 : Int) ^ k).natAbs < 1073741824) := by decide
theorem join4 (a b c d : Nat) : Txt.join "" [⟨#[a]⟩, ⟨#[b]⟩, ⟨#[c]⟩, ⟨#[d]⟩] = ⟨#[a, b, c, d]⟩ := by rfl
theorem joinOk4 (a b c d : Nat) : JoinOk "" [⟨#[a]⟩, ⟨#[b]⟩, ⟨#[c]⟩, ⟨#[d]⟩] = true := by rfl

set_option maxHeartbeats 2000000 in
theorem written_ok {prog : Program} {w : World} {A : Around} {s : Shared} {E Q : Value → Shared → Prop} {n : Int} {tn : Tok} (T : Txt s.heap) (hroom : A.depth + 1 < recursionLimit) (hh : A.handled = none) (k : ∀ t s', Keeps s s' → Q (.bytes (wr n) t) s') :
    wpAny (model prog w) A (call (.ref 108) [.int n tn]) Q E s := by
  refine call_k [] (by simp) [("number", .int n tn)] (m := fun _ => none) (cl := [("figures", s.heap.objs.size + 1 + 1), ("number", s.heap.objs.size + 1)]) (O := [(s.heap.objs.size + 1 + 1, .cell none), (s.heap.objs.size + 1, .cell (some (.int n tn)))])
    T.f21 T.lim (by (first | lia | omega)) rfl rfl rfl (fun s₁ S => ?_) (fun _ => rfl) ?_ ?_ rfl rfl rfl
  · have G : ∀ {m O s'}, St [] s s.heap.objs.size m O s' → Glb s'.heap := fun S' => S'.upto.glb T.glb
    generalize hcF : s.heap.objs.size + 1 + 1 = cF at S ⊢
    generalize hcN : s.heap.objs.size + 1 = cN at S ⊢
    refine wpAny_execs_cons (wpAny_Assign_Name (wpAny_Constant_str (st_storeC 0 (S.tok _) rfl (fun s₂ S => ?_) rfl)))
    obtain ⟨FG, hFG, tf, S⟩ : ∃ FG : Str, FG = "0123456789ABCDEF" ∧ ∃ tf, St [] s s.heap.objs.size (fun _ => none) [(cF, .cell (some (.str FG tf))), (cN, .cell (some (.int n tn)))] s₂ := ⟨_, rfl, _, S⟩
    refine wpAny_execs_cons (wpAny_Return_some (w_meth1 F.plainAttrs_str F.slot_str_encode F.type_str_encode (w_meth1 F.plainAttrs_str F.slot_str_join F.type_str_join (wpAny_Constant_str ⟨fun a e => (nomatch e), rfl, ?_⟩))))
    have S := S.tok (s₂.toks + 1)
    refine w_comp (n := 4) (src_range hh S (ev_b (G S) rfl) ev_int (by decide)) (by decide) (fun k ys O' => O' = [(cF, .cell (some (.str FG tf))), (cN, .cell (some (.int n tn)))] ∧ ∃ l : List (Str × Tok), ys = strValues l ∧ l.map (·.1) = (List.range k).map fun p => (⟨#[figC (digOf n p)]⟩ : Str))
      ⟨rfl, [], rfl, rfl⟩ (fun I D j j' ys F' O' s' S' J' => trivial) (fun I C D j v ys mC O' s' E' hj hv hJ hm S => ?_) fun D ys O' s₃ S hJ _ => ?_
    · obtain ⟨t, rfl⟩ := hv
      obtain ⟨rfl, l, rfl, hl⟩ := hJ
      rw [List.forIn_nil]
      refine wpAny_pure ?_
      rw [if_pos rfl]
      have hN := (S.nth 0 rfl).ns
      obtain ⟨hd, he⟩ := digOf_lt n j
      have hp := pow16 (3 - j) (by (first | lia | omega))
      have hF : s'.heap.IsCell cF (some (.str FG tf)) := (S.led (cF, .cell (some (.str FG tf))) (by simp)).isCell
      have hNn : s'.heap.IsCell cN (some (.int n tn)) := (S.led (cN, .cell (some (.int n tn))) (by simp)).isCell
      refine Subscript_ ((ev_cell (c := cF) rfl hF).go fun tk => ?_)
      refine EvI.go (s := { s' with toks := tk }) ((ev_mod (ev_fdiv (ev_cell (c := cN) rfl hNn).toI ((ev_pow ev_int (ev_sub ev_int (ev_local hN hm).toI) (by (first | lia | omega)) (by (first | lia | omega)) (by decide)).to (j := 16 ^ (3 - j)) (by rw [show ((3 : Int) - (j : Int)).toNat = 3 - j from by (first | lia | omega)])) hp.1 hp.2) ev_int (by decide)).to he) fun ti tk' => ?_
      refine tail_any (s := { s' with toks := tk' }) (typeIs_str _ _ _) F.slot_str_getitem.lookup (P.getItem_str (c := figC (digOf n j)) ?_ ?_ ⟨_, S.tok _, rfl, l ++ [(⟨#[figC (digOf n j)]⟩, tk')], ?_, ?_⟩) (by rfl)
      · simp; (first | lia | omega)
      · rw [hFG]
        have : seqIndex? (digOf n j : Int) (Str.length "0123456789ABCDEF") = some (digOf n j) := by
          have hlen : Str.length "0123456789ABCDEF" = 16 := by decide
          rw [hlen]
          simp [seqIndex?]
          (first | lia | omega)
        rw [this]
        exact figs_at _ hd
      · simp [strValues]
      · rw [List.map_append, hl, List.range_succ, List.map_append]; rfl
    · obtain ⟨rfl, l, rfl, hl⟩ := hJ
      refine SC.join (texts := [⟨#[figC (digOf n 0)]⟩, ⟨#[figC (digOf n 1)]⟩, ⟨#[figC (digOf n 2)]⟩, ⟨#[figC (digOf n 3)]⟩]) (S.nth 0 rfl).isList hl (joinOk4 _ _ _ _) fun t' k' => ⟨fun a e => (nomatch e), rfl, ?_⟩
      rw [join4]
      refine wpAny_Constant_str ?_
      have S := S.tok (k' + 1)
      exact c_enc4 (figC_lt _ (digOf_lt _ _).1) (figC_lt _ (digOf_lt _ _).1) (figC_lt _ (digOf_lt _ _).1) (figC_lt _ (digOf_lt _ _).1) fun t'' s' k'' => k t'' s' (S.kept k'').keeps
  · intro p hp
    simp only [List.mem_cons, List.not_mem_nil, or_false] at hp
    rcases hp with rfl | rfl <;> rfl
  · intro x hx
    simp only [List.mem_cons, List.not_mem_nil, or_false] at hx
    rcases hx with rfl; exact .inr ⟨rfl, rfl⟩
end Mine
end

section
namespace Mine
open PySem

theorem fmod2 (x : Int) : 0 ≤ x.fmod 2 ∧ x.fmod 2 ≤ 1 := by
  have h1 := Int.fmod_nonneg_of_pos x (b := 2) (by decide)
  have h2 := Int.fmod_lt_of_pos x (b := 2) (by decide)
  (first | lia | omega)
/-- the number lies between -/
theorem num_bounds (fl : List Int) (ld : List (List Int)) : ∀ (row : List Int) (p : Int × Int), p.1 * 2 ^ row.length ≤ (row.foldl (numStep fl ld) p).1 ∧ (row.foldl (numStep fl ld) p).1 < (p.1 + 1) * 2 ^ row.length
  | [], p => by simp; (first | lia | omega)
  | b :: r, p => by
    have ih := num_bounds fl ld r (numStep fl ld p b)
    have h := fmod2 (b + flip fl p.2)
    have e : (numStep fl ld p b).1 = p.1 * 2 + (b + flip fl p.2).fmod 2 := rfl
    rw [List.foldl_cons, List.length_cons]
    rw [e] at ih
    generalize (b + flip fl p.2).fmod 2 = x at h ih
    have hp : (0 : Int) < 2 ^ r.length := Int.pow_pos (by decide)
    have e2 : (2 : Int) ^ (r.length + 1) = 2 * 2 ^ r.length := by rw [Int.pow_succ, Int.mul_comm]
    rw [e2]
    generalize (2 : Int) ^ r.length = P at ih hp ⊢
    have hx : x = 0 ∨ x = 1 := by (first | lia | omega)
    rcases hx with rfl | rfl
    · constructor
      · have := ih.1
        have e3 : (p.1 * 2 + 0) * P = p.1 * (2 * P) := by rw [Int.add_zero, Int.mul_assoc]
        (first | lia | omega)
      · have := ih.2
        have e3 : (p.1 * 2 + 0 + 1) * P = p.1 * (2 * P) + P := by rw [Int.add_zero, Int.add_mul, Int.mul_assoc, Int.one_mul]
        have e4 : (p.1 + 1) * (2 * P) = p.1 * (2 * P) + 2 * P := by rw [Int.add_mul, Int.one_mul]
        (first | lia | omega)
    · constructor
      · have := ih.1
        have e3 : (p.1 * 2 + 1) * P = p.1 * (2 * P) + P := by rw [Int.add_mul, Int.mul_assoc, Int.one_mul]
        (first | lia | omega)
      · have := ih.2
        have e3 : (p.1 * 2 + 1 + 1) * P = p.1 * (2 * P) + 2 * P := by rw [Int.add_assoc, Int.add_mul, Int.mul_assoc]; rfl
        have e4 : (p.1 + 1) * (2 * P) = p.1 * (2 * P) + 2 * P := by rw [Int.add_mul, Int.one_mul]
        (first | lia | omega)
theorem numOf_lt (fl : List Int) (ld : List (List Int)) (row : List Int) (h : row.length = 16) : 0 ≤ numOf fl ld row ∧ numOf fl ld row < 65536 := by
  have := num_bounds fl ld row (0, 0)
  unfold numOf
  rw [h] at this
  simpa using this
theorem numStep_state (fl : List Int) (ld : List (List Int)) : ∀ (row : List Int) (p : Int × Int), (row.foldl (numStep fl ld) p).2 = row.foldl (lead ld) p.2
  | [], _ => rfl
  | b :: r, p => by rw [List.foldl_cons, List.foldl_cons, numStep_state fl ld r]; rfl

/-- two rows of bits part at a first place -/
theorem part_at : ∀ (a b : List Int), a.length = b.length → a ≠ b → ∃ p, ∃ (h1 : p < a.length) (h2 : p < b.length), a.take p = b.take p ∧ a[p] ≠ b[p]
  | [], [], _, h => absurd rfl h
  | [], _ :: _, h, _ => by simp at h
  | _ :: _, [], h, _ => by simp at h
  | x :: a, y :: b, hl, hne => by
    by_cases hxy : x = y
    · subst hxy
      obtain ⟨p, h1, h2, e, n⟩ := part_at a b (by simpa using hl) (fun e => hne (by rw [e]))
      exact ⟨p + 1, by simpa using h1, by simpa using h2, by simpa using e, by simpa using n⟩
    · exact ⟨0, by simp, by simp, rfl, by simpa using hxy⟩
theorem take1_of {l : List Int} {p : Int} (h : Inc l) (hm : p ∈ l) (hle : ∀ x ∈ l, p ≤ x) : l.take 1 = [p] := by
  cases l with
  | nil => cases hm
  | cons x r =>
    have := hle x (.head _)
    rcases List.mem_cons.mp hm with rfl | hr
    · rfl
    · have h2 := (List.pairwise_cons.mp h).1 p hr
      (first | lia | omega)
theorem diff_inc {a b : List Int} (h : Inc a) : Inc (diff a b) := h.sublist List.filter_sublist
theorem diff_mem {a b : List Int} {x : Int} : x ∈ diff a b ↔ x ∈ a ∧ x ∉ b := by simp [diff]

/-- what compare tells where the first row has the place -/
theorem cmp_parts {fl : List Int} {ld : List (List Int)} {a b : List Int} (la : a.length = 16) (lb : b.length = 16) {p : Nat} (h1 : p < a.length) (h2 : p < b.length) (e : a.take p = b.take p) :
    (a[p] = 1 → b[p] ≠ 1 → cmpOf fl ld (placesOf a) (placesOf b) a = ((p : Int) + 1) * (1 - 2 * flip fl (stateOf ld (a.take p)))) ∧
    (a[p] ≠ 1 → b[p] = 1 → cmpOf fl ld (placesOf a) (placesOf b) a = ((p : Int) + 1) * (2 * flip fl (stateOf ld (a.take p)) - 1)) := by
  have below : ∀ q, q < p → a.getD q 0 = b.getD q 0 := fun q hq => by
    have := congrArg (fun l => l.getD q 0) e
    simpa [List.getD, List.getElem?_take, hq] using this
  have ge : ∀ {a b : List Int}, (∀ q, q < p → a.getD q 0 = b.getD q 0) → ∀ x ∈ diff (placesOf a) (placesOf b), (p : Int) ≤ x := fun {a b} hb x hx => by
    obtain ⟨hx1, hx2⟩ := diff_mem.mp hx
    obtain ⟨q, hq, rfl, hq1⟩ := placesOf_mem.mp hx1
    by_cases hqp : q < p
    · exact absurd (placesOf_mem.mpr ⟨q, hq, rfl, by rw [← hb q hqp]; exact hq1⟩) hx2
    · (first | lia | omega)
  have ha : a.getD p 0 = a[p] := by simp [h1]
  have hb : b.getD p 0 = b[p] := by simp [h2]
  have gp : ∀ {a b : List Int}, a.getD p 0 = 1 → b.getD p 0 ≠ 1 → (p : Int) ∈ diff (placesOf a) (placesOf b) := fun {a b} h h' => by
    refine diff_mem.mpr ⟨placesOf_mem.mpr ⟨p, by (first | lia | omega), rfl, h⟩, fun z => ?_⟩
    obtain ⟨q, _, e, hq⟩ := placesOf_mem.mp z
    have : q = p := by (first | lia | omega)
    subst this
    exact h' hq
  have np : ∀ {a b : List Int}, a.getD p 0 ≠ 1 → (p : Int) ∉ diff (placesOf a) (placesOf b) := fun {a b} h z => by
    obtain ⟨q, _, e, hq⟩ := placesOf_mem.mp (diff_mem.mp z).1
    have : q = p := by (first | lia | omega)
    subst this
    exact h hq
  have mn : ∀ l : List Int, (p : Int) ∈ l → (∀ x ∈ l, (p : Int) ≤ x) → l.min?.getD 0 = (p : Int) := fun l h h' => by
    rw [List.min?_eq_some_iff.mpr ⟨h, h'⟩]; rfl
  constructor
  · intro h h'
    rw [← ha] at h
    rw [← hb] at h'
    have t1 := take1_of (diff_inc (placesOf_inc a)) (gp h h') (ge below)
    have hh : heads (placesOf a) (placesOf b) = (p : Int) :: (diff (placesOf b) (placesOf a)).take 1 := by unfold heads; rw [t1]; rfl
    have hmin := mn (heads (placesOf a) (placesOf b)) (by rw [hh]; exact .head _) (fun x hx => by
      rw [hh] at hx
      rcases List.mem_cons.mp hx with rfl | hx
      · exact Int.le_refl _
      · exact ge (fun q hq => (below q hq).symm) x (List.mem_of_mem_take hx))
    unfold cmpOf
    rw [if_neg (by rw [hh]; simp)]
    simp only [hmin, t1, if_true, Int.toNat_natCast]
  · intro h h'
    rw [← ha] at h
    rw [← hb] at h'
    have t2 := take1_of (diff_inc (placesOf_inc b)) (gp h' h) (ge fun q hq => (below q hq).symm)
    have hh : heads (placesOf a) (placesOf b) = (diff (placesOf a) (placesOf b)).take 1 ++ [(p : Int)] := by unfold heads; rw [t2]
    have hmin := mn (heads (placesOf a) (placesOf b)) (by rw [hh]; simp) (fun x hx => by
      rw [hh] at hx
      rcases List.mem_append.mp hx with hx | hx
      · exact ge below x (List.mem_of_mem_take hx)
      · simp at hx; (first | lia | omega))
    have hne : (diff (placesOf a) (placesOf b)).take 1 ≠ [(p : Int)] := fun z => np h (List.mem_of_mem_take (i := 1) (by rw [z]; exact .head _))
    unfold cmpOf
    rw [if_neg (by rw [hh]; simp)]
    simp only [hmin, hne, if_false, Int.toNat_natCast]
end Mine
end

section
namespace Mine
open PySem

theorem cmp_same (fl : List Int) (ld : List (List Int)) (a : List Int) : cmpOf fl ld (placesOf a) (placesOf a) a = 0 := by
  have : diff (placesOf a) (placesOf a) = [] := by
    unfold diff
    rw [List.filter_eq_nil_iff]
    intro x hx
    simp [hx]
  unfold cmpOf heads
  simp [this]
theorem num_parts (fl : List Int) (ld : List (List Int)) {a b : List Int} {p : Nat} (h1 : p < a.length) (h2 : p < b.length) (hl : a.length = b.length) (e : a.take p = b.take p) (hx : (b[p] + flip fl (stateOf ld (a.take p))).fmod 2 < (a[p] + flip fl (stateOf ld (a.take p))).fmod 2) : numOf fl ld b < numOf fl ld a := by
  have ea : a = a.take p ++ a[p] :: a.drop (p + 1) := by rw [← List.drop_eq_getElem_cons h1]; simp
  have eb : b = a.take p ++ b[p] :: b.drop (p + 1) := by rw [e, ← List.drop_eq_getElem_cons h2]; simp
  have fa : numOf fl ld a = ((a.drop (p + 1)).foldl (numStep fl ld) (numStep fl ld ((a.take p).foldl (numStep fl ld) (0, 0)) a[p])).1 := by
    unfold numOf
    conv => lhs; rw [ea, List.foldl_append, List.foldl_cons]
  have fb : numOf fl ld b = ((b.drop (p + 1)).foldl (numStep fl ld) (numStep fl ld ((a.take p).foldl (numStep fl ld) (0, 0)) b[p])).1 := by
    unfold numOf
    conv => lhs; rw [eb, List.foldl_append, List.foldl_cons]
  have hst : ((a.take p).foldl (numStep fl ld) (0, 0)).2 = stateOf ld (a.take p) := numStep_state fl ld _ _
  have ba := num_bounds fl ld (a.drop (p + 1)) (numStep fl ld ((a.take p).foldl (numStep fl ld) (0, 0)) a[p])
  have bb := num_bounds fl ld (b.drop (p + 1)) (numStep fl ld ((a.take p).foldl (numStep fl ld) (0, 0)) b[p])
  rw [← fa] at ba
  rw [← fb] at bb
  have la : (a.drop (p + 1)).length = (b.drop (p + 1)).length := by simp [hl]
  rw [la] at ba
  have sa : (numStep fl ld ((a.take p).foldl (numStep fl ld) (0, 0)) a[p]).1 = ((a.take p).foldl (numStep fl ld) (0, 0)).1 * 2 + (a[p] + flip fl (stateOf ld (a.take p))).fmod 2 := by rw [← hst]; rfl
  have sb : (numStep fl ld ((a.take p).foldl (numStep fl ld) (0, 0)) b[p]).1 = ((a.take p).foldl (numStep fl ld) (0, 0)).1 * 2 + (b[p] + flip fl (stateOf ld (a.take p))).fmod 2 := by rw [← hst]; rfl
  rw [sa] at ba
  rw [sb] at bb
  have hP : (0 : Int) < 2 ^ (b.drop (p + 1)).length := Int.pow_pos (by decide)
  generalize (2 : Int) ^ (b.drop (p + 1)).length = P at *
  generalize ((a.take p).foldl (numStep fl ld) (0, 0)).1 = N at *
  have f1 := fmod2 (a[p] + flip fl (stateOf ld (a.take p)))
  have f2 := fmod2 (b[p] + flip fl (stateOf ld (a.take p)))
  generalize (a[p] + flip fl (stateOf ld (a.take p))).fmod 2 = x at *
  generalize (b[p] + flip fl (stateOf ld (a.take p))).fmod 2 = y at *
  have hx1 : x = 1 := by (first | lia | omega)
  have hy0 : y = 0 := by (first | lia | omega)
  subst hx1 hy0
  have : (N * 2 + 0 + 1) * P = (N * 2 + 1) * P := by rw [Int.add_zero]
  (first | lia | omega)

/-- compare tells how the numbers stand -/
theorem cmp_num {fl : List Int} {ld : List (List Int)} (M : MachOk fl ld) {a b : List Int} (la : a.length = 16) (lb : b.length = 16) (ha : Bits a) (hb : Bits b) :
    (cmpOf fl ld (placesOf a) (placesOf b) a < 0 ↔ numOf fl ld a < numOf fl ld b) ∧ (cmpOf fl ld (placesOf a) (placesOf b) a > 0 ↔ numOf fl ld a > numOf fl ld b) := by
  by_cases hab : a = b
  · subst hab
    rw [cmp_same]
    (first | lia | omega)
  obtain ⟨p, h1, h2, e, hne⟩ := part_at a b (by (first | lia | omega)) hab
  have hs := stateOf_lt M (a.take p) 0 (fun x hx => ha x (List.mem_of_mem_take hx)) (by decide)
  have hf := flip_bit M (q := stateOf ld (a.take p)) hs
  obtain ⟨c1, c2⟩ := cmp_parts (fl := fl) (ld := ld) la lb h1 h2 e
  have n1 := num_parts fl ld h1 h2 (by (first | lia | omega)) e
  have n2 := num_parts fl ld h2 h1 (by (first | lia | omega)) e.symm
  rw [← e] at n2
  have hap := ha _ (List.getElem_mem h1)
  have hbp := hb _ (List.getElem_mem h2)
  generalize flip fl (stateOf ld (a.take p)) = f at *
  have pos : ∀ x : Int, x = ((p : Int) + 1) * 1 → x > 0 := fun x hx => by (first | lia | omega)
  have neg : ∀ x : Int, x = ((p : Int) + 1) * (-1) → x < 0 := fun x hx => by (first | lia | omega)
  rcases hap with ea | ea <;> rcases hbp with eb | eb
  · exact absurd (ea.trans eb.symm) hne
  · have c := c2 (by rw [ea]; decide) eb
    rw [ea, eb] at n1 n2
    rcases hf with rfl | rfl
    · have := neg _ c
      have := n2 (by decide)
      (first | lia | omega)
    · have := pos _ c
      have := n1 (by decide)
      (first | lia | omega)
  · have c := c1 ea (by rw [eb]; decide)
    rw [ea, eb] at n1 n2
    rcases hf with rfl | rfl
    · have := pos _ c
      have := n1 (by decide)
      (first | lia | omega)
    · have := neg _ c
      have := n2 (by decide)
      (first | lia | omega)
  · exact absurd (ea.trans eb.symm) hne

theorem fmod_bit (x : Int) : x.fmod 2 = 0 ∨ x.fmod 2 = 1 := by have := fmod2 x; (first | lia | omega)
theorem rowOf_bits (n : Int) : Bits (rowOf n) := by
  intro x hx
  obtain ⟨p, _, rfl⟩ := List.mem_map.mp hx
  exact fmod_bit _
theorem altOf_bits {n : Int} (h : 0 ≤ n ∧ n < 1048576) : Bits (altOf n) := by
  intro x hx
  have hn := (nearOf_lt h).1
  unfold altOf at hx
  rcases List.mem_append.mp hx with hx | hx
  · rcases List.mem_append.mp hx with hx | hx
    · exact rowOf_bits n x (List.mem_of_mem_take hx)
    · simp only [List.mem_cons, List.not_mem_nil, or_false] at hx
      have hlt : nearOf n < (rowOf n).length := by rw [rowOf_len]; exact hn
      have e : (rowOf n).getD (nearOf n) 0 = (rowOf n)[nearOf n] := by simp [hlt]
      have := rowOf_bits n _ (List.getElem_mem hlt)
      rw [e] at hx
      (first | lia | omega)
  · exact rowOf_bits n x (List.mem_of_mem_drop hx)
theorem rowsOf_ok (ns : List Int) : (rowsOf ns).length = 8 ∧ ∀ b ∈ rowsOf ns, b.length = 16 ∧ Bits b := by
  refine ⟨rfl, fun b hb => ?_⟩
  obtain ⟨n, hn, hb⟩ := List.mem_flatMap.mp hb
  have h := fourOf_lt ns n hn
  simp only [twoOf, List.mem_cons, List.not_mem_nil, or_false] at hb
  rcases hb with rfl | rfl
  · exact ⟨rowOf_len n, rowOf_bits n⟩
  · exact ⟨altOf_len h, altOf_bits h⟩
theorem machOk (told : Int) : MachOk (flipsOf told) (leadsOf told) := by
  refine ⟨by simp [flipsOf], by simp [leadsOf], fun x hx => ?_, fun l hl => ?_⟩
  · obtain ⟨k, _, rfl⟩ := List.mem_map.mp hx
    exact fmod_bit _
  · obtain ⟨k, _, rfl⟩ := List.mem_map.mp hl
    refine ⟨by simp, fun x hx => ?_⟩
    obtain ⟨b, _, rfl⟩ := List.mem_map.mp hx
    exact ⟨Int.fmod_nonneg_of_pos _ (by decide), Int.fmod_lt_of_pos _ (by decide)⟩
end Mine
end

section
namespace Mine
open PySem PySem.W PyProof.Rows

/-- the questions that are asked under these answers lie below n, and the end is P -/
noncomputable def kall {α : Type} (n : Nat) (lt : Nat → Nat → Bool) (P : α → Prop) : KasT α → Prop
  | .ret a => P a
  | .ask i j k => i < n ∧ j < n ∧ kall n lt P (k (lt i j))
theorem kall_mono {α : Type} {n : Nat} {lt : Nat → Nat → Bool} {P P' : α → Prop} (h : ∀ a, P a → P' a) : ∀ {t : KasT α}, kall n lt P t → kall n lt P' t
  | .ret a, x => h a x
  | .ask i j k, x => ⟨x.1, x.2.1, kall_mono h x.2.2⟩
theorem kall_bind {α β : Type} {n : Nat} {lt : Nat → Nat → Bool} {P : β → Prop} {f : α → KasT β} : ∀ {t : KasT α}, kall n lt (fun a => kall n lt P (f a)) t → kall n lt P (t.bind f)
  | .ret a, x => x
  | .ask i j k, x => ⟨x.1, x.2.1, kall_bind (t := k (lt i j)) x.2.2⟩
theorem kall_wp {α : Type} {n : Nat} {lt : Nat → Nat → Bool} {P : α → Prop} {cmp : Nat → Nat → (Bool → Shared → Prop) → Shared → Prop} {Inv : Shared → Prop} {Q : α → Shared → Prop}
    (h : ∀ i j C s, i < n → j < n → Inv s → (∀ s', Inv s' → C (lt i j) s') → cmp i j C s) (hQ : ∀ a s', P a → Inv s' → Q a s') : ∀ (t : KasT α) (s : Shared), kall n lt P t → Inv s → t.kasWp cmp Q s
  | .ret a, s, x, hs => hQ a s x hs
  | .ask i j k, s, x, hs => h i j _ s x.1 x.2.1 hs fun s' hs' => kall_wp h hQ (k (lt i j)) s' x.2.2 hs'

def gd (p : Array Nat) (k : Nat) : Nat := p.getD k 0
theorem gd_rev {p : Array Nat} {i j : Nat} (hj : j ≤ p.size) (k : Nat) : gd (kas_rev p i j) k = if i ≤ k ∧ k < j then gd p (i + j - 1 - k) else gd p k := by
  unfold gd
  rw [Array.getD_eq_getD_getElem?, Array.getD_eq_getD_getElem?, Array.getD_eq_getD_getElem?]
  unfold kas_rev
  rw [getElem?_mirror_all hj]
  split <;> rfl
theorem gd_bubble {p : Array Nat} {k d : Nat} (hk : k < p.size) (hd : d ≤ k) (q : Nat) : gd (bubble p k d) q = if q = k - d then gd p k else if k - d < q ∧ q ≤ k then gd p (q - 1) else gd p q := by
  unfold gd
  rw [Array.getD_eq_getD_getElem?, Array.getD_eq_getD_getElem?, Array.getD_eq_getD_getElem?, Array.getD_eq_getD_getElem?]
  rw [getElem?_bubble hk d hd]
  split
  · rfl
  · split <;> rfl

section
variable (f : Nat → Int) (n : Nat)
/-- the first m are the first m, the others as they stood -/
structure Pre (p : Array Nat) (m : Nat) : Prop where
  size : p.size = n
  le : m ≤ n
  low : ∀ k, k < m → gd p k < m
  same : ∀ k, m ≤ k → k < n → gd p k = k
def Up (p : Array Nat) (m : Nat) : Prop := ∀ i j, i < j → j < m → f (gd p i) < f (gd p j) ∨ (f (gd p i) = f (gd p j) ∧ gd p i < gd p j)
def Dn (p : Array Nat) (m : Nat) : Prop := ∀ i j, i < j → j < m → f (gd p j) < f (gd p i) ∨ (f (gd p i) = f (gd p j) ∧ gd p j < gd p i)
abbrev ltF (i j : Nat) : Bool := decide (f i < f j)
end

section
variable {f : Nat → Int} {n : Nat}
theorem Pre.rev {p : Array Nat} {m i : Nat} (h : Pre n p m) : Pre n (kas_rev p i m) m := by
  have hm : m ≤ p.size := by rw [h.size]; exact h.le
  refine ⟨by unfold kas_rev; rw [mirror_size]; exact h.size, h.le, fun k hk => ?_, fun k hk hn => ?_⟩
  · rw [gd_rev hm]
    split
    · exact h.low _ (by (first | lia | omega))
    · exact h.low k hk
  · rw [gd_rev hm, if_neg (by (first | lia | omega))]
    exact h.same k hk hn
theorem Pre.succ {p : Array Nat} {m : Nat} (h : Pre n p m) (hm : m < n) : Pre n p (m + 1) := by
  refine ⟨h.size, hm, fun k hk => ?_, fun k hk hn => h.same k (by (first | lia | omega)) hn⟩
  by_cases e : k < m
  · have := h.low k e; (first | lia | omega)
  · have : k = m := by (first | lia | omega)
    subst this
    rw [h.same k (Nat.le_refl _) hm]; (first | lia | omega)
theorem Up.rev {p : Array Nat} {m : Nat} (hm : m ≤ p.size) (h : Up f p m) : Dn f (kas_rev p 0 m) m := by
  intro i j hij hj
  rw [gd_rev hm, gd_rev hm, if_pos ⟨by (first | lia | omega), by (first | lia | omega)⟩, if_pos ⟨by (first | lia | omega), by (first | lia | omega)⟩]
  rcases h (0 + m - 1 - j) (0 + m - 1 - i) (by (first | lia | omega)) (by (first | lia | omega)) with a | ⟨a, b⟩
  · exact .inl a
  · exact .inr ⟨a.symm, b⟩
theorem Dn.rev {p : Array Nat} {m : Nat} (hm : m ≤ p.size) (h : Dn f p m) : Up f (kas_rev p 0 m) m := by
  intro i j hij hj
  rw [gd_rev hm, gd_rev hm, if_pos ⟨by (first | lia | omega), by (first | lia | omega)⟩, if_pos ⟨by (first | lia | omega), by (first | lia | omega)⟩]
  rcases h (0 + m - 1 - j) (0 + m - 1 - i) (by (first | lia | omega)) (by (first | lia | omega)) with a | ⟨a, b⟩
  · exact .inl a
  · exact .inr ⟨a.symm, b⟩
theorem asc_ok {p : Array Nat} : ∀ (fuel k : Nat), Pre n p k → Up f p k → 1 ≤ k → k + fuel ≤ n →
    kall n (ltF f) (fun m => k ≤ m ∧ m ≤ k + fuel ∧ Pre n p m ∧ Up f p m ∧ (m < k + fuel → f (gd p m) < f (gd p (m - 1)))) (kas_asc p fuel k)
  | 0, k, hp, hu, h1, hn => ⟨Nat.le_refl _, Nat.le_refl _, hp, hu, fun h => absurd h (Nat.lt_irrefl _)⟩
  | fuel + 1, k, hp, hu, h1, hn => by
    have hk : gd p k = k := hp.same k (Nat.le_refl _) (by (first | lia | omega))
    have hk1 := hp.low (k - 1) (by (first | lia | omega))
    refine ⟨by show gd p k < n; (first | lia | omega), by show gd p (k - 1) < n; (first | lia | omega), ?_⟩
    show kall n _ _ (if ltF f (gd p k) (gd p (k - 1)) = true then _ else _)
    by_cases hc : f (gd p k) < f (gd p (k - 1))
    · rw [if_pos (by simpa using hc)]
      exact ⟨Nat.le_refl _, by (first | lia | omega), hp, hu, fun _ => hc⟩
    · rw [if_neg (by simpa using hc)]
      have hu' : Up f p (k + 1) := fun i j hij hj => by
        by_cases e : j < k
        · exact hu i j hij e
        · have : j = k := by (first | lia | omega)
          subst this
          have hi := hp.low i hij
          have hle : f (gd p i) ≤ f (gd p (j - 1)) := by
            by_cases e2 : i = j - 1
            · rw [e2]; exact Int.le_refl _
            · rcases hu i (j - 1) (by (first | lia | omega)) (by (first | lia | omega)) with a | ⟨a, _⟩ <;> (first | lia | omega)
          (first | lia | omega)
      exact kall_mono (fun m h => ⟨by (first | lia | omega), by (first | lia | omega), h.2.2.1, h.2.2.2.1, fun hm => h.2.2.2.2 (by (first | lia | omega))⟩) (asc_ok fuel (k + 1) (hp.succ (by (first | lia | omega))) hu' (by (first | lia | omega)) (by (first | lia | omega)))

/-- a falling run whose last q + 1 are alike and stand as they stood -/
structure DD (f : Nat → Int) (n : Nat) (p : Array Nat) (m q : Nat) : Prop where
  pre : Pre n p m
  qm : q + 1 ≤ m
  blk : ∀ i j, m - 1 - q ≤ i → i < j → j < m → f (gd p i) = f (gd p j) ∧ gd p i < gd p j
  out : ∀ i j, i < m - 1 - q → m - 1 - q ≤ j → j < m → f (gd p j) < f (gd p i)
  dn : ∀ i j, i < j → j < m - 1 - q → f (gd p j) < f (gd p i) ∨ (f (gd p i) = f (gd p j) ∧ gd p j < gd p i)
theorem DD.last {p : Array Nat} {m q : Nat} (h : DD f n p m q) : ∀ i, i < m → f (gd p (m - 1)) ≤ f (gd p i) := fun i hi => by
  by_cases e : m - 1 - q ≤ i
  · by_cases e2 : i = m - 1
    · rw [e2]; exact Int.le_refl _
    · have := (h.blk i (m - 1) e (by (first | lia | omega)) (by have := h.qm; (first | lia | omega))).1; (first | lia | omega)
  · have := h.out i (m - 1) (by (first | lia | omega)) (by (first | lia | omega)) (by have := h.qm; (first | lia | omega)); (first | lia | omega)
theorem DD.turn {p : Array Nat} {m q : Nat} (h : DD f n p m q) : Dn f (kas_rev p (m - (q + 1)) m) m := by
  have hm : m ≤ p.size := by rw [h.pre.size]; exact h.pre.le
  have hq := h.qm
  intro i j hij hj
  have ei := gd_rev (i := m - (q + 1)) hm i
  have ej := gd_rev (i := m - (q + 1)) hm j
  by_cases e : m - (q + 1) ≤ i
  · rw [if_pos ⟨e, by (first | lia | omega)⟩] at ei
    rw [if_pos ⟨by (first | lia | omega), hj⟩] at ej
    rw [ei, ej]
    have := h.blk (m - (q + 1) + m - 1 - j) (m - (q + 1) + m - 1 - i) (by (first | lia | omega)) (by (first | lia | omega)) (by (first | lia | omega))
    exact .inr ⟨this.1.symm, this.2⟩
  · rw [if_neg (by (first | lia | omega))] at ei
    by_cases e2 : m - (q + 1) ≤ j
    · rw [if_pos ⟨e2, hj⟩] at ej
      rw [ei, ej]
      exact .inl (h.out i _ (by (first | lia | omega)) (by (first | lia | omega)) (by (first | lia | omega)))
    · rw [if_neg (by (first | lia | omega))] at ej
      rw [ei, ej]
      exact h.dn i j hij (by (first | lia | omega))
theorem DD.plain {p : Array Nat} {m : Nat} (h : DD f n p m 0) : Dn f p m := by
  have hq := h.qm
  intro i j hij hj
  by_cases e : j < m - 1
  · exact h.dn i j hij (by (first | lia | omega))
  · exact .inl (h.out i j (by (first | lia | omega)) (by (first | lia | omega)) hj)
theorem DD.of {p : Array Nat} {m : Nat} (hp : Pre n p m) (hm : m < n) (hd : Dn f p m) (hl : ∀ i, i < m → f (gd p m) < f (gd p i)) : DD f n p (m + 1) 0 :=
  ⟨hp.succ hm, by (first | lia | omega), fun i j h1 h2 h3 => by (first | lia | omega), fun i j h1 h2 h3 => by
    have : j = m := by (first | lia | omega)
    subst this; exact hl i (by (first | lia | omega)), fun i j h1 h2 => hd i j h1 (by (first | lia | omega))⟩

theorem desc_ok : ∀ (fuel : Nat) (p : Array Nat) (m q : Nat), DD f n p m q → m + fuel ≤ n → kall n (ltF f) (fun r => DD f n r.1 r.2.1 r.2.2 ∧ m ≤ r.2.1 ∧ r.2.1 ≤ m + fuel) (kas_desc fuel p m q)
  | 0, p, m, q, h, hn => ⟨h, Nat.le_refl _, Nat.le_refl _⟩
  | fuel + 1, p, m, q, h, hn => by
    have hq := h.qm
    have hm : gd p m = m := h.pre.same m (Nat.le_refl _) (by (first | lia | omega))
    have hm1 := h.pre.low (m - 1) (by (first | lia | omega))
    have hsz : m ≤ p.size := by rw [h.pre.size]; (first | lia | omega)
    refine ⟨by show gd p m < n; (first | lia | omega), by show gd p (m - 1) < n; (first | lia | omega), ?_⟩
    show kall n _ _ (if ltF f (gd p m) (gd p (m - 1)) = true then _ else _)
    have mono : ∀ {P : Array Nat × Nat × Nat}, (DD f n P.1 P.2.1 P.2.2 ∧ m + 1 ≤ P.2.1 ∧ P.2.1 ≤ m + 1 + fuel) → (DD f n P.1 P.2.1 P.2.2 ∧ m ≤ P.2.1 ∧ P.2.1 ≤ m + (fuel + 1)) := fun x => ⟨x.1, by (first | lia | omega), by (first | lia | omega)⟩
    by_cases hc : f (gd p m) < f (gd p (m - 1))
    · rw [if_pos (by simpa using hc)]
      by_cases hq0 : q > 0
      · rw [if_pos hq0]
        have hD := h.turn
        have hP := h.pre.rev (i := m - (q + 1))
        refine kall_mono (fun _ => mono) (desc_ok fuel _ (m + 1) 0 (DD.of hP (by (first | lia | omega)) hD fun i hi => ?_) (by (first | lia | omega)))
        have e1 : gd (kas_rev p (m - (q + 1)) m) m = gd p m := by rw [gd_rev hsz, if_neg (by (first | lia | omega))]
        rw [e1, gd_rev hsz]
        split
        · have := h.last (m - (q + 1) + m - 1 - i) (by (first | lia | omega)); (first | lia | omega)
        · have := h.last i hi; (first | lia | omega)
      · rw [if_neg hq0]
        have : q = 0 := by (first | lia | omega)
        subst this
        exact kall_mono (fun _ => mono) (desc_ok fuel p (m + 1) 0 (DD.of h.pre (by (first | lia | omega)) h.plain fun i hi => by have := h.last i hi; (first | lia | omega)) (by (first | lia | omega)))
    · rw [if_neg (by simpa using hc)]
      refine ⟨by show gd p (m - 1) < n; (first | lia | omega), by show gd p m < n; (first | lia | omega), ?_⟩
      show kall n _ _ (if ltF f (gd p (m - 1)) (gd p m) = true then _ else _)
      by_cases hd : f (gd p (m - 1)) < f (gd p m)
      · rw [if_pos (by simpa using hd)]
        exact ⟨h, Nat.le_refl _, Nat.le_add_right _ _⟩
      · rw [if_neg (by simpa using hd)]
        have he : f (gd p (m - 1)) = f (gd p m) := by (first | lia | omega)
        refine kall_mono (fun _ => mono) (desc_ok fuel p (m + 1) (q + 1) ⟨h.pre.succ (by (first | lia | omega)), by (first | lia | omega), fun i j h1 h2 h3 => ?_, fun i j h1 h2 h3 => ?_, fun i j h1 h2 => h.dn i j h1 (by (first | lia | omega))⟩ (by (first | lia | omega)))
        · by_cases e : j < m
          · exact h.blk i j (by (first | lia | omega)) h2 e
          · have : j = m := by (first | lia | omega)
            subst this
            have hi := h.pre.low i h2
            refine ⟨?_, by (first | lia | omega)⟩
            by_cases e2 : i = j - 1
            · rw [e2]; exact he
            · rw [(h.blk i (j - 1) (by (first | lia | omega)) (by (first | lia | omega)) (by (first | lia | omega))).1]; exact he
        · by_cases e : j < m
          · exact h.out i j (by (first | lia | omega)) (by (first | lia | omega)) e
          · have : j = m := by (first | lia | omega)
            subst this
            rw [← he]
            exact h.out i (j - 1) (by (first | lia | omega)) (by (first | lia | omega)) (by (first | lia | omega))
end
end Mine
end

section
namespace Mine
open PySem PySem.W PyProof.Rows

section
variable {f : Nat → Int} {n : Nat}
abbrev Run (f : Nat → Int) (n : Nat) (r : Nat × Array Nat) : Prop := 1 ≤ r.1 ∧ Pre n r.2 r.1 ∧ Up f r.2 r.1
theorem tail3_ok {p : Array Nat} {m : Nat} (hp : Pre n p m) (hd : Dn f p m) (h1 : 1 ≤ m) : kall n (ltF f) (Run f n) (kas_tail3 m n p) := by
  have hm : m ≤ p.size := by rw [hp.size]; exact hp.le
  have hle := hp.le
  unfold kas_tail3
  exact kall_bind (kall_mono (fun r h => ⟨by (first | lia | omega), h.2.2.1, h.2.2.2.1⟩) (asc_ok (n - m) m hp.rev (hd.rev hm) h1 (by (first | lia | omega))))
theorem descPart_ok {p : Array Nat} {m : Nat} (hp : Pre n p m) (hm : m < n) (hd : Dn f p m) (hl : ∀ i, i < m → f (gd p m) < f (gd p i)) : kall n (ltF f) (Run f n) (kas_descPart m n p) := by
  unfold kas_descPart
  refine kall_bind (kall_mono (fun r h => ?_) (desc_ok (n - (m + 1)) p (m + 1) 0 (DD.of hp hm hd hl) (by (first | lia | omega))))
  obtain ⟨p', m', q'⟩ := r
  obtain ⟨h, h1, h2⟩ := h
  simp only at h h1 h2 ⊢
  by_cases hq : q' > 0
  · rw [if_pos hq]
    exact tail3_ok h.pre.rev h.turn (by (first | lia | omega))
  · rw [if_neg hq]
    have : q' = 0 := by (first | lia | omega)
    subst this
    exact tail3_ok h.pre h.plain (by (first | lia | omega))
theorem gd_range (k : Nat) (h : k < n) : gd (List.toArray (List.range n)) k = k := by
  unfold gd
  simp [Array.getD, h]
theorem pre_range (h : 1 ≤ n) : Pre n (List.toArray (List.range n)) 1 := by
  refine ⟨by simp, h, fun k hk => ?_, fun k h1 h2 => gd_range k h2⟩
  rw [gd_range k (by (first | lia | omega))]; exact hk
theorem count_ok (hn : 1 ≤ n) : kall n (ltF f) (Run f n) (kas_count n (List.toArray (List.range n))) := by
  unfold kas_count
  have hp := pre_range hn
  generalize List.toArray (List.range n) = p at hp
  refine kall_bind (kall_mono (fun m h => ?_) (asc_ok (n - 1) 1 hp (fun i j h1 h2 => by (first | lia | omega)) (Nat.le_refl _) (by (first | lia | omega))))
  obtain ⟨h1, h2, hpm, hum, hlast⟩ := h
  by_cases e1 : (m == n) = true
  · rw [if_pos e1]; exact ⟨h1, hpm, hum⟩
  rw [if_neg e1]
  have hmn : m < n := by have : m ≠ n := fun z => e1 (by simp [z]); (first | lia | omega)
  have hl := hlast (by (first | lia | omega))
  have hsz : m ≤ p.size := by rw [hpm.size]; (first | lia | omega)
  by_cases e2 : m > 1
  · rw [if_pos e2]
    have l0 := hpm.low 0 (by (first | lia | omega))
    have l1 := hpm.low (m - 1) (by (first | lia | omega))
    refine ⟨by show gd p 0 < n; (first | lia | omega), by show gd p (m - 1) < n; (first | lia | omega), ?_⟩
    show kall n _ _ (if ltF f (gd p 0) (gd p (m - 1)) = true then _ else _)
    by_cases hc : f (gd p 0) < f (gd p (m - 1))
    · rw [if_pos (by simpa using hc)]; exact ⟨h1, hpm, hum⟩
    · rw [if_neg (by simpa using hc)]
      refine descPart_ok hpm.rev hmn (hum.rev hsz) fun i hi => ?_
      have ei := gd_rev (i := 0) hsz i
      rw [if_pos ⟨by (first | lia | omega), hi⟩] at ei
      have em := gd_rev (i := 0) hsz m
      rw [if_neg (by (first | lia | omega))] at em
      rw [ei, em]
      have a : f (gd p (0 + m - 1 - i)) ≥ f (gd p 0) := by
        by_cases z : 0 + m - 1 - i = 0
        · rw [z]; exact Int.le_refl _
        · rcases hum 0 (0 + m - 1 - i) (by (first | lia | omega)) (by (first | lia | omega)) with a | ⟨a, _⟩ <;> (first | lia | omega)
      (first | lia | omega)
  · rw [if_neg e2]
    have : m = 1 := by (first | lia | omega)
    subst this
    refine descPart_ok hpm hmn (fun i j h1 h2 => by (first | lia | omega)) fun i hi => ?_
    have : i = 0 := by (first | lia | omega)
    subst this
    exact hl
theorem place_ok {p : Array Nat} {k : Nat} (hp : Pre n p k) (hk : k < n) (hu : Up f p k) : ∀ (fuel l r : Nat), l ≤ r → r ≤ k → r - l ≤ fuel → (∀ i, i < l → f (gd p i) ≤ f (gd p k)) → (∀ i, r ≤ i → i < k → f (gd p k) < f (gd p i)) →
    kall n (ltF f) (fun x => x ≤ k ∧ (∀ i, i < x → f (gd p i) ≤ f (gd p k)) ∧ ∀ i, x ≤ i → i < k → f (gd p k) < f (gd p i)) (kas_place p k fuel l r)
  | 0, l, r, h1, h2, h3, a, b => ⟨by (first | lia | omega), a, fun i hi => b i (by (first | lia | omega))⟩
  | fuel + 1, l, r, h1, h2, h3, a, b => by
    unfold kas_place
    by_cases e : l ≥ r
    · rw [if_pos e]; exact ⟨by (first | lia | omega), a, fun i hi => b i (by (first | lia | omega))⟩
    rw [if_neg e]
    have hkk : gd p k = k := hp.same k (Nat.le_refl _) hk
    have lm := hp.low ((l + r) / 2) (by (first | lia | omega))
    refine ⟨by show gd p k < n; (first | lia | omega), by show gd p ((l + r) / 2) < n; (first | lia | omega), ?_⟩
    show kall n _ _ (if ltF f (gd p k) (gd p ((l + r) / 2)) = true then _ else _)
    by_cases hc : f (gd p k) < f (gd p ((l + r) / 2))
    · rw [if_pos (by simpa using hc)]
      refine place_ok hp hk hu fuel l ((l + r) / 2) (by (first | lia | omega)) (by (first | lia | omega)) (by (first | lia | omega)) a fun i hi hi2 => ?_
      by_cases z : i = (l + r) / 2
      · rw [z]; exact hc
      · rcases hu ((l + r) / 2) i (by (first | lia | omega)) hi2 with x | ⟨x, _⟩ <;> (first | lia | omega)
    · rw [if_neg (by simpa using hc)]
      refine place_ok hp hk hu fuel ((l + r) / 2 + 1) r (by (first | lia | omega)) h2 (by (first | lia | omega)) (fun i hi => ?_) b
      by_cases z : i = (l + r) / 2
      · rw [z]; (first | lia | omega)
      · rcases hu i ((l + r) / 2) (by (first | lia | omega)) (by (first | lia | omega)) with x | ⟨x, _⟩ <;> (first | lia | omega)
theorem bubble_ok {p : Array Nat} {k x : Nat} (hp : Pre n p k) (hk : k < n) (hu : Up f p k) (hx : x ≤ k) (a : ∀ i, i < x → f (gd p i) ≤ f (gd p k)) (b : ∀ i, x ≤ i → i < k → f (gd p k) < f (gd p i)) : Pre n (bubble p k (k - x)) (k + 1) ∧ Up f (bubble p k (k - x)) (k + 1) := by
  have hs : k < p.size := by rw [hp.size]; exact hk
  have hkk : gd p k = k := hp.same k (Nat.le_refl _) hk
  have g : ∀ q, gd (bubble p k (k - x)) q = if q = x then k else if x < q ∧ q ≤ k then gd p (q - 1) else gd p q := fun q => by
    rw [gd_bubble hs (by (first | lia | omega))]
    have : k - (k - x) = x := by (first | lia | omega)
    rw [this, hkk]
  constructor
  · refine ⟨by rw [bubble_size]; exact hp.size, hk, fun q hq => ?_, fun q h1 h2 => ?_⟩
    · rw [g]
      split
      · (first | lia | omega)
      · split
        · have := hp.low (q - 1) (by (first | lia | omega)); (first | lia | omega)
        · have := hp.low q (by (first | lia | omega)); (first | lia | omega)
    · rw [g, if_neg (by (first | lia | omega)), if_neg (by (first | lia | omega))]
      exact hp.same q (by (first | lia | omega)) h2
  · intro i j hij hj
    have gi := g i
    have gj := g j
    rw [gi, gj]
    rw [hkk] at a b
    by_cases ei : i = x
    · rw [if_pos ei, if_neg (by (first | lia | omega)), if_pos ⟨by (first | lia | omega), by (first | lia | omega)⟩]
      exact .inl (b (j - 1) (by (first | lia | omega)) (by (first | lia | omega)))
    · rw [if_neg ei]
      by_cases ei2 : x < i
      · rw [if_pos ⟨ei2, by (first | lia | omega)⟩, if_neg (by (first | lia | omega)), if_pos ⟨by (first | lia | omega), by (first | lia | omega)⟩]
        exact hu (i - 1) (j - 1) (by (first | lia | omega)) (by (first | lia | omega))
      · rw [if_neg (by (first | lia | omega))]
        by_cases ej : j = x
        · rw [if_pos ej]
          have := a i (by (first | lia | omega))
          have := hp.low i (by (first | lia | omega))
          (first | lia | omega)
        · rw [if_neg ej]
          by_cases ej2 : x < j
          · rw [if_pos ⟨ej2, by (first | lia | omega)⟩]
            exact hu i (j - 1) (by (first | lia | omega)) (by (first | lia | omega))
          · rw [if_neg (by (first | lia | omega))]
            exact hu i j hij (by (first | lia | omega))
theorem bin_ok : ∀ (fuel : Nat) (p : Array Nat) (k : Nat), Pre n p k → Up f p k → 1 ≤ k → k + fuel = n → kall n (ltF f) (fun p => Pre n p n ∧ Up f p n) (kas_bin fuel p k)
  | 0, p, k, hp, hu, h1, e => by
    have : k = n := by (first | lia | omega)
    subst this
    exact ⟨hp, hu⟩
  | fuel + 1, p, k, hp, hu, h1, e => by
    unfold kas_bin
    refine kall_bind (kall_mono (fun x h => ?_) (place_ok hp (by (first | lia | omega)) hu k 0 k (by (first | lia | omega)) (Nat.le_refl _) (by (first | lia | omega)) (fun i hi => by (first | lia | omega)) (fun i h1 h2 => by (first | lia | omega))))
    obtain ⟨hx, a, b⟩ := h
    obtain ⟨hp', hu'⟩ := bubble_ok hp (by (first | lia | omega)) hu hx a b
    exact bin_ok fuel _ (k + 1) hp' hu' (by (first | lia | omega)) (by (first | lia | omega))
/-- the sort gives the stable order -/
theorem sort_ok (f : Nat → Int) (hn : 1 ≤ n) : kall n (ltF f) (fun p => Pre n p n ∧ Up f p n) (kas_sort n) := by
  unfold kas_sort
  refine kall_bind (kall_mono (fun r h => ?_) (count_ok hn))
  obtain ⟨m, p⟩ := r
  obtain ⟨h1, hp, hu⟩ := h
  simp only at h1 hp hu ⊢
  have hle := hp.le
  by_cases e : m < n
  · rw [if_pos e]
    have : max m 1 = m := by (first | lia | omega)
    rw [this]
    exact bin_ok (n - m) p m hp hu h1 (by (first | lia | omega))
  · rw [if_neg e]
    have : m = n := by (first | lia | omega)
    subst this
    exact ⟨hp, hu⟩
end
end Mine
end

section
namespace Mine
open PySem PySem.W PyProof.Rows

theorem len_le : ∀ (n : Nat) (l : List Nat), l.Nodup → (∀ x ∈ l, x < n) → l.length ≤ n
  | 0, l, _, h => by
    cases l with
    | nil => simp
    | cons x r => exact absurd (h x (.head _)) (Nat.not_lt_zero _)
  | n + 1, l, hd, h => by
    have ih := len_le n (l.erase n) (hd.erase n) (fun x hx => by
      obtain ⟨h1, h2⟩ := (List.Nodup.mem_erase_iff hd).mp hx
      have := h x h2
      (first | lia | omega))
    rw [List.length_erase] at ih
    split at ih <;> (first | lia | omega)
theorem perm_range : ∀ (n : Nat) (l : List Nat), l.Nodup → (∀ x ∈ l, x < n) → l.length = n → l.Perm (List.range n)
  | 0, l, _, _, hl => by
    have : l = [] := List.length_eq_zero_iff.mp hl
    subst this; exact .refl _
  | n + 1, l, hd, h, hl => by
    have hm : n ∈ l := Classical.byContradiction fun hm => by
      have := len_le n l hd (fun x hx => by
        have := h x hx
        have : x ≠ n := fun z => hm (z ▸ hx)
        (first | lia | omega))
      (first | lia | omega)
    have ih := perm_range n (l.erase n) (hd.erase n) (fun x hx => by
      obtain ⟨h1, h2⟩ := (List.Nodup.mem_erase_iff hd).mp hx
      have := h x h2
      (first | lia | omega)) (by rw [List.length_erase, if_pos hm]; (first | lia | omega))
    rw [List.range_succ]
    exact (List.perm_cons_erase hm).trans ((ih.cons n).trans (List.perm_append_singleton n _).symm)

section
variable {n : Nat}
theorem lt_code {a b : Int} {i j : Nat} (hi : i < n) (hj : j < n) : a * (n : Int) + i < b * (n : Int) + j ↔ a < b ∨ (a = b ∧ i < j) := by
  have hn : (0 : Int) < n := by (first | lia | omega)
  constructor
  · intro h
    rcases Int.lt_trichotomy a b with l | l | l
    · exact .inl l
    · subst l; exact .inr ⟨rfl, by (first | lia | omega)⟩
    · have : (b + 1) * (n : Int) ≤ a * n := Int.mul_le_mul_of_nonneg_right (by (first | lia | omega)) (by (first | lia | omega))
      rw [Int.add_mul, Int.one_mul] at this
      (first | lia | omega)
  · rintro (h | ⟨rfl, h⟩)
    · have : (a + 1) * (n : Int) ≤ b * n := Int.mul_le_mul_of_nonneg_right (by (first | lia | omega)) (by (first | lia | omega))
      rw [Int.add_mul, Int.one_mul] at this
      (first | lia | omega)
    · (first | lia | omega)
theorem gd_get {p : Array Nat} {k : Nat} (h : k < p.size) : gd p k = p[k] := by unfold gd; simp [Array.getD, h]
/-- the list that rises strictly by its code is the only one -/
theorem rises {f : Nat → Int} {p : Array Nat} (hp : Pre n p n) (hr : ∀ i j, i < j → j < n → f (gd p i) * (n : Int) + gd p i < f (gd p j) * (n : Int) + gd p j) : (p.toList.map fun i => f i * (n : Int) + i).Pairwise (· < ·) ∧ p.toList.Perm (List.range n) := by
  have hpw : (p.toList.map fun i => f i * (n : Int) + i).Pairwise (· < ·) := by
    rw [List.pairwise_iff_getElem]
    intro i j hi hj hij
    simp only [List.length_map, Array.length_toList] at hi hj
    simp only [List.getElem_map, Array.getElem_toList]
    have := hr i j hij (by rw [← hp.size]; exact hj)
    rw [gd_get hi, gd_get hj] at this
    exact this
  refine ⟨hpw, perm_range n _ ?_ (fun x hx => ?_) (by rw [Array.length_toList]; exact hp.size)⟩
  · have := List.pairwise_map.mp hpw
    exact this.imp fun h e => by rw [e] at h; exact absurd h (Int.lt_irrefl _)
  · obtain ⟨i, hi, rfl⟩ := List.mem_iff_getElem.mp hx
    simp only [Array.length_toList] at hi
    rw [Array.getElem_toList, ← gd_get hi]
    exact hp.low i (by rw [← hp.size]; exact hi)
theorem map_inj {α β : Type} {g : α → β} : ∀ {l m : List α}, (∀ x ∈ l, ∀ y ∈ m, g x = g y → x = y) → l.map g = m.map g → l = m
  | [], [], _, _ => rfl
  | [], _ :: _, _, h => by simp at h
  | _ :: _, [], _, h => by simp at h
  | x :: l, y :: m, hi, h => by
    simp only [List.map_cons, List.cons.injEq] at h
    rw [hi x (.head _) y (.head _) h.1, map_inj (fun a ha b hb => hi a (.tail _ ha) b (.tail _ hb)) h.2]
theorem sort_eq {f : Nat → Int} {p q : Array Nat} (hp : Pre n p n) (hu : Up f p n) (hq : Pre n q n) (hv : Up (fun i => f i * (n : Int) + i) q n) : p.toList = q.toList := by
  have r1 := rises (f := f) hp fun i j hij hj => (lt_code (hp.low i (by (first | lia | omega))) (hp.low j hj)).mpr (hu i j hij hj)
  have r2 := rises (f := f) hq fun i j hij hj => by
    rcases hv i j hij hj with a | ⟨a, b⟩
    · exact a
    · have hi := hq.low i (by (first | lia | omega))
      have hj' := hq.low j hj
      have h1 := (lt_code (a := f (gd q i)) (b := f (gd q j)) hi hj')
      have h2 := (lt_code (a := f (gd q j)) (b := f (gd q i)) hj' hi)
      simp only at a
      rcases Int.lt_trichotomy (f (gd q i)) (f (gd q j)) with l | l | l
      · exact h1.mpr (.inl l)
      · exact h1.mpr (.inr ⟨l, b⟩)
      · have := h2.mpr (.inl l); (first | lia | omega)
  have e := lks_uniq ((r1.2.trans r2.2.symm).map fun i => f i * (n : Int) + i) (r1.1.imp Int.le_of_lt) (r2.1.imp Int.le_of_lt)
  refine map_inj (fun x hx y hy h => ?_) e
  have hx' : x < n := List.mem_range.mp (r1.2.subset hx)
  have hy' : y < n := List.mem_range.mp (r2.2.subset hy)
  have h1 := (lt_code (a := f x) (b := f y) hx' hy')
  have h2 := (lt_code (a := f y) (b := f x) hy' hx')
  rcases Nat.lt_trichotomy x y with l | l | l
  · rcases Int.lt_trichotomy (f x) (f y) with z | z | z
    · have := h1.mpr (.inl z); (first | lia | omega)
    · have := h1.mpr (.inr ⟨z, l⟩); (first | lia | omega)
    · have := h2.mpr (.inl z); (first | lia | omega)
  · exact l
  · rcases Int.lt_trichotomy (f x) (f y) with z | z | z
    · have := h1.mpr (.inl z); (first | lia | omega)
    · have := h2.mpr (.inr ⟨z.symm, l⟩); (first | lia | omega)
    · have := h2.mpr (.inl z); (first | lia | omega)
end
end Mine
end

section
set_option maxRecDepth 100000
namespace Mine
open PySem PyProof.Rows
open PySem.Builtin.Bytes (hexDigit toUpper)

theorem up_fig : ∀ d, d < 16 → toUpper (hexDigit d).toUInt8 = (figC d).toUInt8 := by decide
theorem fig_lt : ∀ d, d < 16 → ∀ e, e < 16 → ((figC d).toUInt8 < (figC e).toUInt8 ↔ d < e) := by decide
theorem digs {n : Int} (h : 0 ≤ n ∧ n < 65536) : digOf n 0 = n.toNat / 4096 ∧ digOf n 1 = n.toNat / 256 % 16 ∧ digOf n 2 = n.toNat / 16 % 16 ∧ digOf n 3 = n.toNat % 16 := by
  obtain ⟨m, rfl⟩ := Int.eq_ofNat_of_zero_le h.1
  have f : ∀ (a b : Nat), ((a : Int)).fdiv (b : Int) = ((a / b : Nat) : Int) := fun a b => by rw [Int.fdiv_eq_ediv_of_nonneg _ (by omega)]; rfl
  have g : ∀ (a b : Nat), ((a : Int)).fmod (b : Int) = ((a % b : Nat) : Int) := fun a b => by rw [Int.fmod_eq_emod_of_nonneg _ (by omega)]; rfl
  have g16 : ∀ a : Nat, ((a : Int)).fmod 16 = ((a % 16 : Nat) : Int) := fun a => g a 16
  have hm : m < 65536 := by omega
  unfold digOf
  have e0 : ((16 : Int) ^ (3 - 0)) = ((4096 : Nat) : Int) := by decide
  have e1 : ((16 : Int) ^ (3 - 1)) = ((256 : Nat) : Int) := by decide
  have e2 : ((16 : Int) ^ (3 - 2)) = ((16 : Nat) : Int) := by decide
  have e3 : ((16 : Int) ^ (3 - 3)) = ((1 : Nat) : Int) := by decide
  rw [e0, e1, e2, e3, f, f, f, f, g16, g16, g16, g16]
  simp only [Int.toNat_natCast]
  refine ⟨?_, ?_, ?_, ?_⟩
  · rw [Nat.mod_eq_of_lt (by omega)]
  · trivial
  · trivial
  · rw [Nat.div_one]
theorem low256 (x : Nat) (h : x < 256) : x.toUInt8.toNat = x := by
  rw [Nat.toUInt8_eq, UInt8.toNat_ofNat']; exact Nat.mod_eq_of_lt h
theorem b16_wr {n : Int} (h : 0 ≤ n ∧ n < 65536) : b16 (n.fdiv 256).toNat.toUInt8 (n.fmod 256).toNat.toUInt8 = wr n := by
  obtain ⟨d0, d1, d2, d3⟩ := digs h
  obtain ⟨m, rfl⟩ := Int.eq_ofNat_of_zero_le h.1
  have hm : m < 65536 := Int.ofNat_lt.mp h.2
  clear h
  have e1 : (((m : Int)).fdiv 256).toNat = m / 256 := by rw [Int.fdiv_eq_ediv_of_nonneg _ (by decide)]; rfl
  have e2 : (((m : Int)).fmod 256).toNat = m % 256 := by rw [Int.fmod_eq_emod_of_nonneg _ (by decide)]; rfl
  simp only [Int.toNat_natCast] at d0 d1 d2 d3
  unfold b16 hex4 wr
  rw [e1, e2, d0, d1, d2, d3]
  rw [low256 (m / 256) (Nat.div_lt_of_lt_mul hm), low256 (m % 256) (Nat.mod_lt _ (by decide))]
  have y0 : m / 256 / 16 = m / 4096 := Nat.div_div_eq_div_mul m 256 16
  have y1 : m % 256 / 16 = m / 16 % 16 := Nat.mod_mul_right_div_self m 16 16
  have y2 : m % 256 % 16 = m % 16 := Nat.mod_mod_of_dvd m (by decide)
  rw [y0, y1, y2]
  simp only [List.map_cons, List.map_nil]
  rw [up_fig _ (Nat.div_lt_of_lt_mul hm), up_fig _ (Nat.mod_lt _ (by decide)), up_fig _ (Nat.mod_lt _ (by decide)), up_fig _ (Nat.mod_lt _ (by decide))]
def cmp3 (x y : Nat) (e : Ordering) : Ordering := if x < y then .lt else if y < x then .gt else e
theorem cmp3_step {q q' r r' : Nat} (hr : r < 16) (hr' : r' < 16) (e : Ordering) : cmp3 q q' (cmp3 r r' e) = cmp3 (q * 16 + r) (q' * 16 + r') e := by
  unfold cmp3
  by_cases h1 : q < q'
  · rw [if_pos h1, if_pos (by lia)]
  · rw [if_neg h1]
    by_cases h2 : q' < q
    · rw [if_pos h2, if_neg (by lia), if_pos (by lia)]
    · have : q = q' := by lia
      subst this
      simp only [if_neg h2, Nat.add_lt_add_iff_left]
theorem ord_fig {d e : Nat} (hd : d < 16) (he : e < 16) (r t : List UInt8) : Builtin.Bytes.order ((figC d).toUInt8 :: r) ((figC e).toUInt8 :: t) = cmp3 d e (Builtin.Bytes.order r t) := by
  have h1 := fig_lt d hd e he
  have h2 := fig_lt e he d hd
  simp only [Builtin.Bytes.order, gt_iff_lt, h1, h2, cmp3]
theorem ord_nat (a b : Nat) (ha : a / 4096 < 16) (hb : b / 4096 < 16) : Builtin.Bytes.order [(figC (a / 4096)).toUInt8, (figC (a / 256 % 16)).toUInt8, (figC (a / 16 % 16)).toUInt8, (figC (a % 16)).toUInt8] [(figC (b / 4096)).toUInt8, (figC (b / 256 % 16)).toUInt8, (figC (b / 16 % 16)).toUInt8, (figC (b % 16)).toUInt8] = cmp3 a b .eq := by
  have k : ∀ x : Nat, x % 16 < 16 := fun x => Nat.mod_lt _ (by decide)
  rw [ord_fig ha hb, ord_fig (k _) (k _), ord_fig (k _) (k _), ord_fig (k _) (k _), cmp3_step (k _) (k _), cmp3_step (k _) (k _), cmp3_step (k _) (k _)]
  have e (x : Nat) : ((x / 4096 * 16 + x / 256 % 16) * 16 + x / 16 % 16) * 16 + x % 16 = x := by
    rw [show x / 4096 = x / 256 / 16 from (Nat.div_div_eq_div_mul x 256 16).symm, Nat.div_add_mod', show x / 256 = x / 16 / 16 from (Nat.div_div_eq_div_mul x 16 16).symm, Nat.div_add_mod', Nat.div_add_mod']
  rw [e, e]
  rfl
theorem ord_wr {a b : Int} (ha : 0 ≤ a ∧ a < 65536) (hb : 0 ≤ b ∧ b < 65536) : Builtin.Bytes.order (wr a).toList (wr b).toList = if a < b then .lt else if b < a then .gt else .eq := by
  obtain ⟨a0, a1, a2, a3⟩ := digs ha
  obtain ⟨b0, b1, b2, b3⟩ := digs hb
  show Builtin.Bytes.order [_, _, _, _] [_, _, _, _] = _
  rw [a0, a1, a2, a3, b0, b1, b2, b3]
  obtain ⟨m, rfl⟩ := Int.eq_ofNat_of_zero_le ha.1
  obtain ⟨k, rfl⟩ := Int.eq_ofNat_of_zero_le hb.1
  refine (ord_nat m k (Nat.div_lt_of_lt_mul (Int.ofNat_lt.mp ha.2)) (Nat.div_lt_of_lt_mul (Int.ofNat_lt.mp hb.2))).trans ?_
  simp only [cmp3, Int.ofNat_lt]
end Mine
end

section
set_option maxRecDepth 100000
namespace Mine
open PySem PyProof.Rows
open PySem.W (hideAll of_hideAll hideAll_get hideAll_none hideAll_size)

theorem objs_of {h : Heap} : ∀ (l : List Addr), (∀ a ∈ l, ∃ o, h.get? a = some o) → ∃ news : List (Addr × Obj), news.map (·.1) = l ∧ ∀ p ∈ news, h.get? p.1 = some p.2
  | [], _ => ⟨[], rfl, fun p hp => (nomatch hp)⟩
  | a :: l, hl => by
    obtain ⟨o, ho⟩ := hl a (.head _)
    obtain ⟨news, h1, h2⟩ := objs_of l fun b hb => hl b (.tail _ hb)
    refine ⟨(a, o) :: news, by rw [List.map_cons, h1], fun p hp => ?_⟩
    rcases List.mem_cons.mp hp with rfl | hp
    · exact ho
    · exact h2 p hp

section
variable {fs : List Addr} {s₀ s : Shared} {L : Addr} {m : Str → Option Value} {O : List (Addr × Ky)}
/-- the state as the library's frames and ledgers tell it, and back -/
theorem St.bridge (S : St fs s₀ L m O s) (hL : s₀.heap.objs.size ≤ L) : Fr (hideAll s₀.heap fs) L s.heap m ∧ ∃ news : List (Addr × Obj), news.map (·.1) = O.map (·.1) ++ fs ∧ News (hideAll s₀.heap fs) L s.heap news ∧
    ∀ s', (∃ h tk, s' = { s with heap := h, toks := tk }) → Fr (hideAll s₀.heap fs) L s'.heap m → News (hideAll s₀.heap fs) L s'.heap news → St fs s₀ L m O s' := by
  refine ⟨⟨S.ns, fun b o e => S.keep b o (of_hideAll _ e) (fun z => by rw [hideAll_none _ z] at e; cases e), by rw [hideAll_size]; exact hL⟩, ?_⟩
  obtain ⟨news, h1, h2⟩ := objs_of (h := s.heap) (O.map (·.1) ++ fs) (fun a ha => by
    rcases List.mem_append.mp ha with ha | ha
    · obtain ⟨p, hp, rfl⟩ := List.mem_map.mp ha
      obtain ⟨o, ho, _⟩ := S.led p hp
      exact ⟨o, ho⟩
    · obtain ⟨o, ho⟩ := S.fsOld a ha
      obtain ⟨sl, e⟩ := S.upto a o ho
      exact ⟨_, e⟩)
  have get : ∀ a ∈ O.map (·.1) ++ fs, ∃ o, (a, o) ∈ news ∧ s.heap.get? a = some o := fun a ha => by
    rw [← h1] at ha
    obtain ⟨p, hp, rfl⟩ := List.mem_map.mp ha
    exact ⟨p.2, hp, h2 p hp⟩
  refine ⟨news, h1, fun p hp => ⟨h2 p hp, ?_, ?_⟩, ?_⟩
  · have : p.1 ∈ O.map (·.1) ++ fs := by rw [← h1]; exact List.mem_map_of_mem hp
    rcases List.mem_append.mp this with ha | ha
    · obtain ⟨q, hq, e⟩ := List.mem_map.mp ha
      rw [← e]; exact (S.fresh q hq).2
    · intro z
      obtain ⟨o, ho⟩ := S.fsOld _ ha
      rw [z, S.above] at ho; cases ho
  · have : p.1 ∈ O.map (·.1) ++ fs := by rw [← h1]; exact List.mem_map_of_mem hp
    rcases List.mem_append.mp this with ha | ha
    · obtain ⟨q, hq, e⟩ := List.mem_map.mp ha
      cases z : (hideAll s₀.heap fs).get? p.1 with
      | none => rfl
      | some o => have := (S.fresh q hq).1; rw [e, of_hideAll _ z] at this; cases this
    · exact hideAll_none _ ha
  · rintro s' ⟨h', tk, rfl⟩ F N
    have same : ∀ a ∈ O.map (·.1) ++ fs, ∀ o, s.heap.get? a = some o → h'.get? a = some o := fun a ha o ho => by
      obtain ⟨o', hm, ho'⟩ := get a ha
      rw [ho] at ho'; cases ho'
      exact (N _ hm).1
    obtain ⟨⟨h, tk₀, rfl⟩, a, b, c, d, e, f, g, i⟩ := S
    refine ⟨⟨h', tk, rfl⟩, F.ns, fun b' o q n => F.keep b' o (hideAll_get _ q n), fun b' o q => ?_, fun p hp => (d p hp).keeps fun o ho => same p.1 (List.mem_append_left _ (List.mem_map_of_mem hp)) o ho, e, f, g, i⟩
    by_cases hb : b' ∈ fs
    · obtain ⟨sl, z⟩ := c b' o q
      exact ⟨sl, same b' (List.mem_append_right _ hb) _ z⟩
    · exact ⟨o.slots, F.keep b' o (hideAll_get _ q hb)⟩
end
end Mine
end

section
set_option maxRecDepth 100000
namespace Mine
open PySem PyProof.Rows
open PySem.W (hideAll of_hideAll hideAll_get hideAll_none hideAll_size Frag isFn ifBound_K)

section
variable {prog : Program} {w : World} {A : Around} {env : Env} {s₀ s : Shared} {m : Str → Option Value} {O : List (Addr × Ky)} {E : Value → Shared → Prop} {Q : Bool → Shared → Prop} {x y tx ty C cmp fa la : Addr} {xs ys bx by' fl : List Int} {ld : List (List Int)} {nx ny : Int} {outer : List Env}
/-- two keys compared by the sort -/
theorem klt_sort (S : St (outer.filterMap (·.frame)) s₀ s₀.heap.objs.size m O s) (W : Wld s₀.heap (outer.filterMap (·.frame)) C cmp fa la fl ld) (hroom : A.depth + 6 < recursionLimit) (hu : A.units + 110 < cLine) (hh : A.handled = none) (B : Frs A s.heap (env :: outer)) (hf : env.frame = some s₀.heap.objs.size)
    (hx : KeyIn s.heap (s₀.heap.objs.size :: outer.filterMap (·.frame)) x C (.ref tx)) (hy : KeyIn s.heap (s₀.heap.objs.size :: outer.filterMap (·.frame)) y C (.ref ty)) (tX : Thg s.heap tx xs bx nx) (tY : Thg s.heap ty ys by' ny)
    (k : ∀ s', KeepsU (s₀.heap.objs.size :: outer.filterMap (·.frame)) s s' → Q (decide (cmpOf fl ld xs ys bx < 0)) s') : wpAny (model prog w) A (keyLt' oneType' (.ref x) (.ref y)) Q E s := by
  obtain ⟨K, d, fI, fL, fG, fE, mc, cI, cL, cG, cE, X, Y, hK, hc, FI, FL, FG, FE⟩ := id W.key
  have efs : (env :: outer).filterMap (·.frame) = s₀.heap.objs.size :: outer.filterMap (·.frame) := by rw [List.filterMap_cons, hf]
  have X₁ : Frag.In K s.heap := fun a o e => S.keep _ _ (X a o e) (hK a o e)
  obtain ⟨dx, Ix⟩ := hx.at_.inst
  rw [keyLt'_oneType, oneLt'_eq]
  simp only [if_true]
  refine wpAny_bind (wpAny_cRoomFor (by (first | lia | omega)) ?_)
  refine wpAny_bind (ifBound_K (K := K) (C := C) (f := fL) X₁ Ix Y.lt (by unfold isFn; rw [Y.tL]; rfl) ?_)
  refine klt_ok (outer := env :: outer) X₁ Y (fun a o e => ?_) (S.upto.isCell hc) (S.upto.fnC FL) (S.upto.txt W.txt) (S.upto.cmp W.cmp) (S.upto.mach W.mach) W.ok hroom hu hh B (by rw [efs]; exact hx) (by rw [efs]; exact hy) tX tY fun s' kU => ?_
  · rw [efs]
    intro z
    rcases List.mem_cons.mp z with rfl | z
    · have := X _ _ e
      rw [S.above] at this; cases this
    · exact hK a o e z
  · rw [efs] at kU
    exact wpAny_truthy_bool (k s' kU)
end
end Mine
end

section
set_option maxRecDepth 100000
namespace Mine
open PySem PyProof.Rows
open PySem.W (hideAll of_hideAll hideAll_get hideAll_none hideAll_size UpdF)

section
variable {fs : List Addr} {s₀ s : Shared} {L : Addr} {m : Str → Option Value} {O : List (Addr × Ky)}
theorem St.bridge1 {a : Addr} {o : Obj} (S : St fs s₀ L m ((a, .obj o) :: O) s) (hL : s₀.heap.objs.size ≤ L) : Fr (hideAll s₀.heap fs) L s.heap m ∧ ∃ news : List (Addr × Obj), News (hideAll s₀.heap fs) L s.heap ((a, o) :: news) ∧ (∀ p ∈ news, p.1 ≠ a) ∧ (∀ f ∈ fs, ∃ o, (f, o) ∈ news) ∧ (∀ p ∈ O, ∃ o, (p.1, o) ∈ news) ∧
    ∀ s' o', (∃ h tk, s' = { s with heap := h, toks := tk }) → Fr (hideAll s₀.heap fs) L s'.heap m → News (hideAll s₀.heap fs) L s'.heap ((a, o') :: news) → St fs s₀ L m ((a, .obj o') :: O) s' := by
  have ap := S.apart
  rw [List.map_cons, List.nodup_cons] at ap
  have hf := S.fresh _ (.head _)
  obtain ⟨F, news, h1, N, back⟩ := (show St fs s₀ L m O s from S.drop 0).bridge hL
  have hne : ∀ p ∈ news, p.1 ≠ a := fun p hp z => by
    have : p.1 ∈ O.map (·.1) ++ fs := by rw [← h1]; exact List.mem_map_of_mem hp
    rw [z] at this
    rcases List.mem_append.mp this with q | q
    · exact ap.1 q
    · obtain ⟨o', ho'⟩ := S.fsOld _ q
      rw [hf.1] at ho'; cases ho'
  have inN : ∀ b ∈ O.map (·.1) ++ fs, ∃ o, (b, o) ∈ news := fun b hb => by
    rw [← h1] at hb
    obtain ⟨p, hp, rfl⟩ := List.mem_map.mp hb
    exact ⟨p.2, hp⟩
  refine ⟨F, news, fun p hp => ?_, hne, fun f hf => inN f (List.mem_append_right _ hf), fun p hp => inN p.1 (List.mem_append_left _ (List.mem_map_of_mem hp)), fun s' o' hs F' N' => ?_⟩
  · rcases List.mem_cons.mp hp with rfl | hp
    · refine ⟨(S.nth 0 rfl).get, hf.2, ?_⟩
      cases z : (hideAll s₀.heap fs).get? a with
      | none => rfl
      | some o => have := hf.1; rw [of_hideAll _ z] at this; cases this
    · exact N p hp
  · have S' := back s' hs F' fun p hp => N' p (.tail _ hp)
    exact S'.more (.of_get (N' (a, o') (.head _)).1) hf.1 hf.2 fun p hp z => ap.1 (List.mem_map.mpr ⟨p, hp, z⟩)
end
end Mine
end

section
set_option maxRecDepth 100000
namespace Mine
open PySem PyProof.Rows
open PySem.W

section
variable {prog : Program} {w : World} {A : Around} {fs : List Addr} {s₀ s : Shared} {m : Str → Option Value} {O : List (Addr × Ky)} {E : Value → Shared → Prop}

/-- the keys that the sort has made so far -/
def KeysIn (KP : Nat → Value → List (Addr × Ky) → Prop) (ks : List Value) (KO : List (Addr × Ky)) : Prop := ∀ i k, ks[i]? = some k → ∃ M, KP i k M ∧ ∀ p ∈ M, p ∈ KO

/-- the keys are made, one after the other -/
theorem keys_go {L : Addr} {f : Value} {D kS : Addr} {e1 : Nat} (hL : s₀.heap.objs.size ≤ L) (KP : Nat → Value → List (Addr × Ky) → Prop) {Fin : List Value → Nat → Shared → Prop} {vs : List Value}
    (hkey : ∀ i v O' s', vs[i]? = some v → St fs s₀ L m (O' ++ O) s' → wpAny (model prog w) A (call f [v]) (fun kv s'' => ∃ M, St fs s₀ L m (M ++ (O' ++ O)) s'' ∧ KP i kv M ∧ ∃ h tk, s'' = { s' with heap := h, toks := tk }) (fun _ _ => False) s')
    (hfin : ∀ ks KO e s', ks.length = vs.length → KeysIn KP ks KO → St fs s₀ L m ((kS, .obj (seqObj "list" ks.toArray e)) :: (D, .obj (seqObj "list" #[] e1)) :: (KO ++ O)) s' → Fin ks e s') :
    ∀ (r ks : List Value) (KO : List (Addr × Ky)) (e : Nat) (s' : Shared), (∀ i, r[i]? = vs[ks.length + i]?) → ks.length + r.length = vs.length → KeysIn KP ks KO → St fs s₀ L m ((kS, .obj (seqObj "list" ks.toArray e)) :: (D, .obj (seqObj "list" #[] e1)) :: (KO ++ O)) s' →
      KatKeys prog w A (hideAll s₀.heap fs) L m kS f Fin r ks e s'
  | [], ks, KO, e, s', _, hl, hk, S => hfin ks KO e s' (by simpa using hl) hk S
  | v :: r, ks, KO, e, s', hr, hl, hk, S => by
    refine KatKeys.cons ?_
    have hv : vs[ks.length]? = some v := by have := hr 0; simpa using this.symm
    have S₁ : St fs s₀ L m (((kS, .obj (seqObj "list" ks.toArray e)) :: (D, .obj (seqObj "list" #[] e1)) :: KO) ++ O) s' := S
    refine wpAny_mono (hkey ks.length v _ s' hv S₁) (fun kv s'' h => ?_) fun _ _ z => z
    obtain ⟨M, S₂, hKP, hs⟩ := h
    have S₃ : St fs s₀ L m ((kS, .obj (seqObj "list" ks.toArray e)) :: (D, .obj (seqObj "list" #[] e1)) :: ((M ++ KO) ++ O)) s'' := by
      refine S₂.perm ?_
      simp only [List.cons_append, List.append_assoc]
      exact (List.perm_middle.trans ((List.perm_middle).cons _)).symm
    obtain ⟨F, news, N, hne, _, _, back⟩ := S₃.bridge1 hL
    refine KatBack.intro F N (UpdF.head hne) fun h' c F' N' => ?_
    have S₄ := back { s'' with heap := h' } _ ⟨h', s''.toks, rfl⟩ F' N'
    refine keys_go hL KP hkey hfin r (ks ++ [kv]) (M ++ KO) c _ (fun i => ?_) (by simp at hl ⊢; (first | lia | omega)) (fun i k hi => ?_) S₄
    · have := hr (i + 1)
      simp only [List.getElem?_cons_succ] at this
      rw [this]
      congr 1
      simp; (first | lia | omega)
    · rw [List.getElem?_append] at hi
      split at hi
      · obtain ⟨M', h1, h2⟩ := hk i k hi
        exact ⟨M', h1, fun p hp => List.mem_append_right _ (h2 p hp)⟩
      · have : i = ks.length := by have := (List.getElem?_eq_some_iff.mp hi).1; simp at this; (first | lia | omega)
        subst this
        simp at hi
        subst hi
        exact ⟨M, hKP, fun p hp => List.mem_append_left _ hp⟩
end
end Mine
end

section
set_option maxRecDepth 100000
namespace Mine
open PySem PyProof.Rows
open PySem.W

section
variable {prog : Program} {w : World} {A : Around} {fs : List Addr} {s₀ s : Shared} {m : Str → Option Value} {O : List (Addr × Ky)} {E : Value → Shared → Prop}
/-- sorted(xs, key=f), f a def, a lambda or a class -/
theorem sorted_gen {L l q : Addr} {vs : List Value} {Q : Value → Shared → Prop} (hL : s₀.heap.objs.size ≤ L) (S : St fs s₀ L m O s) (hl : s.heap.IsList l vs.toArray) (h2 : 2 ≤ vs.length) (h64 : vs.length < 64)
    (KP : Nat → Value → List (Addr × Ky) → Prop) (g : Nat → Int) (κ : SortKind)
    (hkey : ∀ i v O' s', vs[i]? = some v → St fs s₀ L m (O' ++ O) s' → wpAny (model prog w) A.in1.in1 (call (.ref q) [v]) (fun kv s'' => ∃ M, St fs s₀ L m (M ++ (O' ++ O)) s'' ∧ KP i kv M ∧ ∃ h tk, s'' = { s' with heap := h, toks := tk }) (fun _ _ => False) s')
    (hkind : ∀ ks KO R s', ks.length = vs.length → KeysIn KP ks KO → St fs s₀ L m (R ++ (KO ++ O)) s' → ∀ (Q' : SortKind → Shared → Prop), Q' κ s' → wpAny (model prog w) A.in1.in1 (keyKind' ks.toArray) Q' (fun _ _ => False) s')
    (hlt : ∀ ks KO R s', ks.length = vs.length → KeysIn KP ks KO → St fs s₀ L m (R ++ (KO ++ O)) s' → ∀ i j, i < vs.length → j < vs.length → ∀ (C : Bool → Shared → Prop),
      (∀ s'', St fs s₀ L m (R ++ (KO ++ O)) s'' → C (decide (g i < g j)) s'') → wpAny (model prog w) A.in1.in1 (keyLt' κ (ks.getD i Value.none) (ks.getD j Value.none)) C (fun _ _ => False) s')
    (k : ∀ D p s', Pre vs.length p vs.length → Up g p vs.length → St fs s₀ L m ((D, .list (p.toList.map fun i => vs.getD i Value.none)) :: O) s' → Q (.ref D) s') :
    wpAny (model prog w) A (call (.builtin "sorted") [.ref l] [(Str.ofString "key", .ref q)]) Q E s := by
  obtain ⟨F, news, h1, N, back⟩ := S.bridge hL
  refine kat_sortedK (b := false) F N hl h2 h64 (ksk_s1 _ _) (fun x => ksk_l1 _ _) (fun x => ksk_t1 _ _) fun D kS e1 h' F' N' hDk hD => ?_
  have S₀ := back { s with heap := h' } ⟨h', s.toks, rfl⟩ F' fun p hp => N' p (.tail _ (.tail _ hp))
  have inN : ∀ b ∈ O.map (·.1) ++ fs, b < D := fun b hb => by
    rw [← h1] at hb
    obtain ⟨p, hp, rfl⟩ := List.mem_map.mp hb
    exact hD p hp
  have fresh : ∀ b, b ∉ fs → (hideAll s₀.heap fs).get? b = none → s₀.heap.get? b = none := fun b hb hz => by
    cases z : s₀.heap.get? b with
    | none => rfl
    | some o => rw [hideAll_get _ z hb] at hz; cases hz
  have nD := N' (D, seqObj "list" #[] e1) (.tail _ (.head _))
  have nK := N' (kS, seqObj "list" #[] 0) (.head _)
  have S₁ : St fs s₀ L m ((D, .obj (seqObj "list" #[] e1)) :: O) { s with heap := h' } :=
    S₀.more (.of_get nD.1) (fresh D (fun z => Nat.lt_irrefl _ (inN D (List.mem_append_right _ z))) nD.2.2) nD.2.1 fun p hp z => by have := inN p.1 (List.mem_append_left _ (List.mem_map_of_mem hp)); rw [z] at this; exact Nat.lt_irrefl _ this
  have S₂ : St fs s₀ L m ((kS, .obj (seqObj "list" ([] : List Value).toArray 0)) :: (D, .obj (seqObj "list" #[] e1)) :: ([] ++ O)) { s with heap := h' } :=
    S₁.more (.of_get nK.1) (fresh kS (fun z => Nat.lt_asymm hDk (inN kS (List.mem_append_right _ z))) nK.2.2) nK.2.1 fun p hp z => by
      rcases List.mem_cons.mp hp with rfl | hp
      · simp only at z; rw [z] at hDk; exact Nat.lt_irrefl _ hDk
      · have := inN p.1 (List.mem_append_left _ (List.mem_map_of_mem hp)); rw [z] at this; exact Nat.lt_asymm hDk this
  refine keys_go hL KP hkey (fun ks KO e s' hlen hK S => ?_) vs [] [] 0 _ (fun i => by simp) (by simp) (fun i k h => by simp at h) S₂
  refine hkind ks KO [(kS, .obj (seqObj "list" ks.toArray e)), (D, .obj (seqObj "list" #[] e1))] s' hlen hK S _ ?_
  refine kall_wp (n := vs.length) (lt := ltF g) (P := fun p => Pre vs.length p vs.length ∧ Up g p vs.length) (Inv := fun s' => St fs s₀ L m ((kS, .obj (seqObj "list" ks.toArray e)) :: (D, .obj (seqObj "list" #[] e1)) :: (KO ++ O)) s')
    (fun i j C s' hi hj S' hC => ?_) (fun p s' hp S' => ?_) _ s' (sort_ok g (by (first | lia | omega))) S
  · exact hlt ks KO [(kS, .obj (seqObj "list" ks.toArray e)), (D, .obj (seqObj "list" #[] e1))] s' hlen hK S' i j hi hj C fun s'' S'' => hC s'' S''
  · obtain ⟨F, news, N, hne, _, _, back⟩ := S'.bridge1 hL
    refine KatFin.intro F N (UpdF.head hne) fun h'' c F'' N'' => ?_
    have S₅ := (back { s' with heap := h'' } _ ⟨h'', s'.toks, rfl⟩ F'' N'').drop 0
    obtain ⟨F, news, N, hne, _, _, back⟩ := St.bridge1 (show St fs s₀ L m ((D, .obj (seqObj "list" #[] e1)) :: (KO ++ O)) _ from S₅) hL
    refine KasFin.intro F N (UpdF.head hne) fun h3 c F3 N3 => ?_
    have S₆ := back { s' with heap := h3 } _ ⟨h3, s'.toks, rfl⟩ F3 N3
    refine k D p _ hp.1 hp.2 ?_
    have S₇ := S₆.weaken 0 rfl (k' := .list (p.toList.map fun i => vs.getD i Value.none)) (fun o ho => ?_)
    · exact S₇.sub (by simp)
    · subst ho
      exact ⟨rfl, rfl, _, rfl⟩
end
end Mine
end

section
set_option maxRecDepth 100000
namespace Mine
open PySem PyProof.Rows
open PySem.W (emptyDict kas_kind Looks)

section
variable {prog : Program} {w : World} {A : Around} {env : Env} {s₀ s : Shared} {m : Str → Option Value} {O : List (Addr × Ky)} {E : Value → Shared → Prop} {C cmp fa la : Addr} {fl : List Int} {ld : List (List Int)} {outer : List Env}
/-- the things sorted by their keys -/
theorem sorted_keys {th : Addr} {as : List Addr} {rows : List (List Int)} {Q : Value → Shared → Prop} (S : St (outer.filterMap (·.frame)) s₀ s₀.heap.objs.size m O s) (W : Wld s₀.heap (outer.filterMap (·.frame)) C cmp fa la fl ld) (hroom : A.depth + 8 < recursionLimit) (hu : A.units + 120 < cLine) (hh : A.handled = none)
    (B : ∀ {m O s'}, St (outer.filterMap (·.frame)) s₀ s₀.heap.objs.size m O s' → Frs A s'.heap (env :: outer)) (hf : env.frame = some s₀.heap.objs.size)
    (hal : At s₀.heap th (.list (as.map .ref))) (hlen : as.length = rows.length) (hth : ∀ (i : Nat) a b, as[i]? = some a → rows[i]? = some b → ThingAt s₀.heap a (placesOf b) b i) (hr : ∀ b ∈ rows, b.length = 16 ∧ Bits b) (h2 : 2 ≤ rows.length) (h64 : rows.length < 64)
    (k : ∀ D p s', Pre rows.length p rows.length → Up (fun i => numOf fl ld (rows.getD i [])) p rows.length → St (outer.filterMap (·.frame)) s₀ s₀.heap.objs.size m ((D, .list (p.toList.map fun i => (as.map Value.ref).getD i Value.none)) :: O) s' → Q (.ref D) s') :
    wpAny (model prog w) A (call (.builtin "sorted") [.ref th] [(Str.ofString "key", .ref C)]) Q E s := by
  have hlm : (as.map Value.ref).length = rows.length := by simp [hlen]
  have thg : ∀ {s' : Shared} (u : UpTo s₀.heap s'.heap) (i : Nat) (hi : i < rows.length), ∃ a, as[i]? = some a ∧ Thg s'.heap a (placesOf rows[i]) rows[i] i := fun {s'} u i hi => by
    have hi' : i < as.length := by (first | lia | omega)
    have hb := hr _ (List.getElem_mem hi)
    refine ⟨as[i], by simp [hi'], u.thing (hth i _ _ (by simp [hi']) (by simp [hi])), placesOf_inc _, Nat.le_trans (placesOf_len _) (by decide), by (first | lia | omega), hb.2, fun p hp => ?_⟩
    obtain ⟨q, _, rfl, _⟩ := placesOf_mem.mp hp
    (first | lia | omega)
  rw [← hlm] at k
  refine sorted_gen (q := C) (vs := as.map Value.ref) (Nat.le_refl _) S (S.upto.list hal).isList (by (first | lia | omega)) (by (first | lia | omega)) (fun i kv M => ∃ x dx a, kv = .ref x ∧ as[i]? = some a ∧ M = [(x, .obj (keyO C dx (.ref a))), (dx, .obj emptyDict)]) (fun i => numOf fl ld (rows.getD i [])) oneType'
    (fun i v O' s' hv S' => ?_) (fun ks KO R s' hl hK S' Q' hQ => ?_) (fun ks KO R s' hl hK S' i j hi hj Cc hC => ?_) k
  · rw [List.getElem?_map] at hv
    obtain ⟨a, ha, rfl⟩ := Option.map_eq_some_iff.mp hv
    refine key_ok (W.key.st S') (S'.upto.noLimit W.txt.lim) (by show A.depth + 1 < _; (first | lia | omega)) fun x dx s'' kk Md => ?_
    obtain ⟨h, tk, rfl, _⟩ := id kk
    exact ⟨_, S'.with (S'.kept kk) Md, ⟨x, dx, a, rfl, ha, rfl⟩, h, tk, rfl⟩
  · refine kas_kind (T := .ref C) (by (first | lia | omega)) (fun v hv => ?_) (by simp) (by simp) hQ
    obtain ⟨i, hi⟩ := List.mem_iff_getElem?.mp hv
    obtain ⟨M, ⟨x, dx, a, rfl, ha, rfl⟩, hM⟩ := hK i v hi
    have k1 := KeyIn.led S' (x := x) (dx := dx) (C := C) (v := .ref a) (List.mem_append_right _ (List.mem_append_left _ (hM _ (.head _)))) (List.mem_append_right _ (List.mem_append_left _ (hM _ (.tail _ (.head _)))))
    obtain ⟨dx', I⟩ := k1.at_.inst
    exact I.type
  · rw [hlm] at hi hj
    have one : ∀ i, i < rows.length → ∃ x a, ks.getD i Value.none = .ref x ∧ as[i]? = some a ∧ KeyIn s'.heap (s₀.heap.objs.size :: outer.filterMap (·.frame)) x C (.ref a) := fun i hi => by
      have hki : i < ks.length := by (first | lia | omega)
      obtain ⟨M, ⟨x, dx, a, e, ha, rfl⟩, hM⟩ := hK i ks[i] (by simp [hki])
      refine ⟨x, a, by simp [hki, e], ha, KeyIn.led S' (dx := dx) (List.mem_append_right _ (List.mem_append_left _ (hM _ (.head _)))) (List.mem_append_right _ (List.mem_append_left _ (hM _ (.tail _ (.head _)))))⟩
    obtain ⟨x, a, ex, ha, kx⟩ := one i hi
    obtain ⟨y, b, ey, hb, ky⟩ := one j hj
    obtain ⟨a', ha', tX⟩ := thg S'.upto i hi
    obtain ⟨b', hb', tY⟩ := thg S'.upto j hj
    rw [ha] at ha'; cases ha'
    rw [hb] at hb'; cases hb'
    rw [ex, ey]
    have Bs := B S'
    refine klt_sort (A := A.in1.in1) (outer := outer) (env := env) S' W (by show A.depth + 6 < _; (first | lia | omega)) (by show A.units + 1 + 1 + 110 < cLine; (first | lia | omega)) hh ⟨Bs.hfr, Bs.hff⟩ hf kx ky tX tY fun s'' kU => ?_
    have hc := (cmp_num W.ok (hr _ (List.getElem_mem hi)).1 (hr _ (List.getElem_mem hj)).1 (hr _ (List.getElem_mem hi)).2 (hr _ (List.getElem_mem hj)).2).1
    have := hC s'' (S'.keptU kU)
    have e1 : rows.getD i [] = rows[i] := by simp [hi]
    have e2 : rows.getD j [] = rows[j] := by simp [hj]
    rw [e1, e2] at this
    have e : decide (cmpOf fl ld (placesOf rows[i]) (placesOf rows[j]) rows[i] < 0) = decide (numOf fl ld rows[i] < numOf fl ld rows[j]) := by simp only [hc]
    rw [e]
    exact this
end
end Mine
end

section
set_option maxRecDepth 100000
namespace Mine
open PySem PyProof.Rows
open PySem.W (tabObj CodeHd kla_obj)

section
variable {prog : Program} {w : World} {A : Around} {env : Env} {fs : List Addr} {s₀ s : Shared} {L : Addr} {m : Str → Option Value} {O : List (Addr × Ky)} {E : Value → Shared → Prop}
/-- a lambda is made; its code's place is noted in the table P -/
theorem w_lam {name qual : Str} {params : Arguments} {body : Expr} {scope : Scope} {c P : Addr} {ps : Array Value} {pos : Pos} {firstLine : Nat} {clos : List (Str × Addr)} {Q : Value → Shared → Prop}
    (S : St fs s₀ L m ((P, .obj (tabObj ps)) :: O) s) (hcl : closureFor scope env = pure clos) (hge : env.globals = 3) (G : Glb s.heap) (hcode : env.code = .ref c) (C : CodeHd s.heap c P) (ht : TriplesOk ps.toList) (hnf : codeAmong pos ps.toList = none)
    (k : ∀ f c' ctv pm s', St fs s₀ L m ((f, .obj (kla_obj name qual params body scope clos pm c' ctv)) :: (c', codeK qual) :: (P, .obj (tabObj (ps ++ #[rawInt pos.line, rawInt pos.col, .ref c']))) :: O) s' → Q (.ref f) s') :
    wpAny (model prog w) A (makeFunction name qual params (.expr body) scope env [] [] [] pos firstLine) Q E s := by
  obtain ⟨mg, mb, bm, ob, tn, K⟩ := G
  have hP := (S.get (.head _)).get
  have hlt : ∀ p ∈ (P, Ky.obj (tabObj ps)) :: O, p.1 < s.heap.objs.size := fun p hp => (S.led p hp).lt
  have hbP : bm ≠ P := fun z => by have := K.og; rw [z, hP] at this; cases this; cases K.op
  have h3P : (3 : Nat) ≠ P := fun z => by obtain ⟨o, es, ep, ho, hd, _⟩ := K.g; rw [z, hP] at ho; cases ho; cases hd
  refine PySem.W.kla_makeFunction hcl hge K.g hcode C hP ht hnf h3P ⟨bm, ob, K.bi, K.b0, K.b3, hbP, K.og, K.oc, K.od, K.op⟩ fun c' ctv h' tk hx hge' hlt' hrec hP' => ?_
  have hc'n : s.heap.get? c' = none := Heap.get?_none_of_le hge'
  have S₁ := S.extPut (t := tk) (fun b o hb q => hx b o hb q) (At.of_get hP')
  have S₂ : St fs s₀ L m ((c', codeK qual) :: (P, .obj (tabObj (ps ++ #[rawInt pos.line, rawInt pos.col, .ref c']))) :: O) { s with heap := h', toks := tk } := by
    refine S₁.more ?_ (S.new hc'n) (fun z => ?_) fun p hp z => ?_
    · obtain ⟨c₁, o, vs, t, e, ho, hd, hv⟩ := hrec
      cases e
      exact ⟨o, ho, vs, t, hd, hv⟩
    · exact absurd (z ▸ S.size_le) (Nat.not_lt.mpr hge')
    · have : p.1 < s.heap.objs.size := by
        rcases List.mem_cons.mp hp with rfl | hp
        · exact hlt (P, .obj (tabObj ps)) (.head _)
        · exact hlt p (.tail _ hp)
      exact absurd (z ▸ this) (Nat.not_lt.mpr hge')
  exact k _ _ _ _ _ (S₂.push (o := kla_obj name qual params body scope clos ((mg "__name__").getD .none) c' ctv) (k := .obj (kla_obj name qual params body scope clos ((mg "__name__").getD .none) c' ctv)) rfl)
end
end Mine
end

section
set_option maxRecDepth 100000
namespace Mine
open PySem PyProof.Rows
open PySem.W (tabObj CodeHd kla_obj kla_fn kla_callFunE kla_codeExpr)

/-- the frame of a lambda -/
def envL (scope : Scope) (qual : Str) (c' : Addr) (cl : List (Str × Addr)) (L a : Addr) : Env :=
  { scope := scope, locals := L, globals := 3, cells := cl, qual := qual ++ ".<locals>.", func := some a, code := .ref c', frame := some L, builtins := 0 }
section
variable {prog : Program} {w : World} {A : Around} {s : Shared} {E Q : Value → Shared → Prop}
/-- a lambda is called -/
theorem call_lam {name qual : Str} {params : Arguments} {body : Expr} {scope : Scope} {cl : List (Str × Addr)} {pm ctv : Value} {c' a : Addr} {args : List Value} (binds : List (Str × Value))
    (ho : s.heap.get? a = some (kla_obj name qual params body scope cl pm c' ctv)) (hcd : s.heap.CodeRec (.ref c') qual) (hlim : s.heap.NoLimit) (hroom : A.depth < recursionLimit)
    (k : ∀ s₁, St [] s s.heap.objs.size (fun x => binds.reverse.lookup x) [] s₁ → wpAny (model prog w) (A.deeper (envL scope qual c' cl s.heap.objs.size a)) (eval body (envL scope qual c' cl s.heap.objs.size a)) Q (fun _ _ => False) s₁)
    (hbind : bindArgs (kla_fn name qual params body scope cl pm (.ref c') ctv) ⟨args, []⟩ = pure binds) (hloc : ∀ y ∈ binds, scope.names.lookup y.1 = some .local) (hcell : ∀ x ∈ scope.names, x.2 ≠ .cell)
    (hco : scope.isCoroutine = false) (hgen : scope.isGenerator = false) (hk : scope.kind = .function) : wpAny (model prog w) A (call (.ref a) args) Q E s := by
  refine wpAny_call (kla_callFunE hroom ho rfl hco hgen rfl hcd ?_)
  rw [hbind]
  refine wpAny_pure (wpAny_newFunctionEnv hcell hloc (fun h₁ hns hsb => ⟨hlim.fresh _ hsb, ?_⟩) hk)
  have hk₁ : ∀ b o, s.heap.get? b = some o → h₁.get? b = some o := fun b o e => hsb.extBut b o (Nat.ne_of_lt (Heap.lt_size e)) (Heap.get?_push_of_some _ e)
  refine kla_codeExpr (wpAny_mono (k { s with heap := h₁, toks := s.toks + binds.length } ⟨⟨_, _, rfl⟩, hns, fun b o q _ => hk₁ b o q, fun b o q => ⟨o.slots, hk₁ b o q⟩, fun p hp => (nomatch hp), fun p hp => (nomatch hp), by simp, Heap.get?_none_of_le (Nat.le_refl _), by simp⟩) (fun _ _ q => q) fun _ _ q => q.elim)
end
end Mine
end

section
set_option maxRecDepth 100000
namespace Mine
open PySem PyProof.Rows

section
variable {prog : Program} {w : World} {A : Around} {s : Shared} {E : Value → Shared → Prop}
/-- the ints of a range, collected -/
theorem collect_range {r : Addr} {n : Nat} {t u v : Tok} {Q : List Value → Shared → Prop} (hh : A.handled = none) (hr : IsRange s.heap r 0 (n : Int) 1 t u v) (hn : n ≤ 1000)
    (k : ∀ vs s', Keeps s s' → Ints vs ((List.range n).map fun (i : Nat) => (i : Int)) → Q vs s') : wpAny (model prog w) A (collect (.ref r)) Q E s := by
  have hS₁ : (s.heap.push { cls := .type "list", data := .seq ([] : List Value).toArray }).get? s.heap.objs.size = some { cls := .type "list", data := .seq ([] : List Value).toArray } := Heap.get?_push_size _ rfl
  have hr₁ : IsRange (s.heap.push { cls := .type "list", data := .seq ([] : List Value).toArray }) r 0 (n : Int) 1 t u v := Heap.get?_push_of_some _ hr
  have hsz : Builtin.Range.rangeSize 0 (n : Int) 1 = n := by rw [rangeSize_one]; split <;> (first | lia | omega)
  have key : wpAny (model prog w) A (runValue (.builtin "proto.collect" ⟨[.ref r], []⟩)) (fun v s' => v = .ref s.heap.objs.size ∧ Keeps s s' ∧ ∃ acc c', s'.heap.get? s.heap.objs.size = some { cls := .type "list", dict := none, data := .seq acc c', slots := #[] } ∧ ItemsOf (fun i v => ∃ t, v = .int (0 + (i : Int) * 1) t) acc n) E s := by
    refine wpAny_runValue (codeAny_builtin F.entry_proto_collect ?_)
    rw [Around.under_plainId F.plain_proto_collect _]
    show wpAny _ A.in1 (newList [] >>= fun l => again (.builtin "list.__iadd__" ⟨[l, .ref r], []⟩)) _ _ s
    refine wpAny_bind (wpAny_newObj_type ?_)
    refine wpAny_pure ⟨plainId_quiet F.plain_list_iadd _, codeAny_builtin F.entry_list_iadd ?_⟩
    rw [Around.under_plainId F.plain_list_iadd _]
    show wpAny _ A.in1 (Builtin.List.listExtendWith (.ref s.heap.objs.size) (.ref r) (.ref s.heap.objs.size)) _ _ _
    refine wpAny_extend_range (R := fun r' s' => match r' with | .ok (.ret v) => v = .ref s.heap.objs.size ∧ Keeps s s' ∧ ∃ acc c', s'.heap.get? s.heap.objs.size = some { cls := .type "list", dict := none, data := .seq acc c', slots := #[] } ∧ ItemsOf (fun i v => ∃ t, v = .int (0 + (i : Int) * 1) t) acc n | .ok _ => False | .error e => E e s') (s := { s with heap := s.heap.push { cls := .type "list", data := .seq ([] : List Value).toArray } }) hh hr₁ (small_one (by decide) (by decide) (by (first | lia | omega)) (by (first | lia | omega))) hsz (by (first | lia | omega)) s.heap.objs.size (.ref s.heap.objs.size) 0 hS₁ fun h' tk acc' c' hx hS' hacc => ?_
    exact ⟨rfl, ⟨h', tk, rfl, fun b o e => hx b o (Nat.ne_of_lt (Heap.lt_size e)) (Heap.get?_push_of_some _ e)⟩, acc', c', hS', hacc⟩
  unfold collect
  refine wpAny_bind (wpAny_mono key (fun v s' h => ?_) fun _ _ e => e)
  obtain ⟨rfl, kk, acc, c', ho, hacc⟩ := h
  refine wpAny_bind (wpAny_load ho ?_)
  refine wpAny_pure (k _ _ kk ⟨by simp [hacc.1], fun i x hx => ?_⟩)
  rw [List.getElem?_map] at hx
  obtain ⟨j, hj, rfl⟩ := Option.map_eq_some_iff.mp hx
  have hin : i < n := by have := (List.getElem?_eq_some_iff.mp hj).1; simpa using this
  have hji : j = i := by rw [List.getElem?_range hin] at hj; cases hj; rfl
  subst hji
  have hlt : j < acc.size := by rw [hacc.1]; exact hin
  obtain ⟨t, ht⟩ := hacc.2 j acc[j] (by simp [hlt])
  refine ⟨t, ?_⟩
  simp [hlt, ht]
end
end Mine
end

section
set_option maxRecDepth 100000
namespace Mine
open PySem PyProof.Rows
open PySem.W

section
variable {prog : Program} {w : World} {A : Around} {fs : List Addr} {s₀ s : Shared} {m : Str → Option Value} {O : List (Addr × Ky)} {E : Value → Shared → Prop}
/-- D.sort(key=f) -/
theorem sort_tree {L D q : Addr} {vs : List Value} {n₀ : Nat} {P : PySem.Fin → Shared → Prop} (hL : s₀.heap.objs.size ≤ L) (S : St fs s₀ L m ((D, .obj (seqObj "list" vs.toArray n₀)) :: O) s) (h2 : 2 ≤ vs.length) (h64 : vs.length < 64)
    (KP : Nat → Value → List (Addr × Ky) → Prop) (g : Nat → Int) (κ : SortKind)
    (hkey : ∀ i v O' s', vs[i]? = some v → St fs s₀ L m (O' ++ O) s' → wpAny (model prog w) A (call (.ref q) [v]) (fun kv s'' => ∃ M, St fs s₀ L m (M ++ (O' ++ O)) s'' ∧ KP i kv M ∧ ∃ h tk, s'' = { s' with heap := h, toks := tk }) (fun _ _ => False) s')
    (hkind : ∀ ks KO R s', ks.length = vs.length → KeysIn KP ks KO → St fs s₀ L m (R ++ (KO ++ O)) s' → ∀ (Q' : SortKind → Shared → Prop), Q' κ s' → wpAny (model prog w) A (keyKind' ks.toArray) Q' (fun _ _ => False) s')
    (hlt : ∀ ks KO R s', ks.length = vs.length → KeysIn KP ks KO → St fs s₀ L m (R ++ (KO ++ O)) s' → ∀ i j, i < vs.length → j < vs.length → ∀ (C : Bool → Shared → Prop),
      (∀ s'', St fs s₀ L m (R ++ (KO ++ O)) s'' → C (decide (g i < g j)) s'') → wpAny (model prog w) A (keyLt' κ (ks.getD i Value.none) (ks.getD j Value.none)) C (fun _ _ => False) s')
    (k : ∀ p s', Pre vs.length p vs.length → Up g p vs.length → St fs s₀ L m ((D, .list (p.toList.map fun i => vs.getD i Value.none)) :: O) s' → P (.done (.ret .none)) s') :
    wpAny (model prog w) A (ksk_tree D (.ref q) false) P E s := by
  obtain ⟨F, news, N, hne, hfsN, hON, back⟩ := S.bridge1 hL
  have nD := N (D, _) (.head _)
  refine kat_keyed F (fun p hp => N p (.tail _ hp)) nD.1 nD.2.1 nD.2.2 hne h2 h64 fun kS e1 h' F' N' hDk hlow => ?_
  have S₁ := back { s with heap := h' } _ ⟨h', s.toks, rfl⟩ F' fun p hp => N' p (.tail _ hp)
  have nK := N' (kS, seqObj "list" #[] 0) (.head _)
  have hkfs : kS ∉ fs := fun z => by obtain ⟨o, ho⟩ := hfsN kS z; exact Nat.lt_irrefl _ (hlow _ ho)
  have hk0 : s₀.heap.get? kS = none := by
    cases z : s₀.heap.get? kS with
    | none => rfl
    | some o => have := nK.2.2; rw [hideAll_get _ z hkfs] at this; cases this
  have S₂ : St fs s₀ L m ((kS, .obj (seqObj "list" ([] : List Value).toArray 0)) :: (D, .obj (seqObj "list" #[] e1)) :: ([] ++ O)) { s with heap := h' } :=
    S₁.more (.of_get nK.1) hk0 nK.2.1 fun p hp z => by
      rcases List.mem_cons.mp hp with rfl | hp
      · simp only at z; rw [z] at hDk; exact Nat.lt_irrefl _ hDk
      · obtain ⟨o, ho⟩ := hON p hp
        have := hlow _ ho
        simp only at this
        rw [z] at this
        exact Nat.lt_irrefl _ this
  refine keys_go hL KP hkey (fun ks KO e s' hlen hK S => ?_) vs [] [] 0 _ (fun i => by simp) (by simp) (fun i k h => by simp at h) S₂
  refine hkind ks KO [(kS, .obj (seqObj "list" ks.toArray e)), (D, .obj (seqObj "list" #[] e1))] s' hlen hK S _ ?_
  refine kall_wp (n := vs.length) (lt := ltF g) (P := fun p => Pre vs.length p vs.length ∧ Up g p vs.length) (Inv := fun s' => St fs s₀ L m ((kS, .obj (seqObj "list" ks.toArray e)) :: (D, .obj (seqObj "list" #[] e1)) :: (KO ++ O)) s')
    (fun i j C s' hi hj S' hC => ?_) (fun p s' hp S' => ?_) _ s' (sort_ok g (by (first | lia | omega))) S
  · exact hlt ks KO [(kS, .obj (seqObj "list" ks.toArray e)), (D, .obj (seqObj "list" #[] e1))] s' hlen hK S' i j hi hj C fun s'' S'' => hC s'' S''
  · obtain ⟨F, news, N, hne, _, _, back⟩ := S'.bridge1 hL
    refine KatFin.intro F N (UpdF.head hne) fun h'' c F'' N'' => ?_
    have S₅ := (back { s' with heap := h'' } _ ⟨h'', s'.toks, rfl⟩ F'' N'').drop 0
    obtain ⟨F, news, N, hne, _, _, back⟩ := St.bridge1 (show St fs s₀ L m ((D, .obj (seqObj "list" #[] e1)) :: (KO ++ O)) _ from S₅) hL
    refine KasFin.intro F N (UpdF.head hne) fun h3 c F3 N3 => ?_
    have S₆ := back { s' with heap := h3 } _ ⟨h3, s'.toks, rfl⟩ F3 N3
    refine k p _ hp.1 hp.2 ?_
    have S₇ := S₆.weaken 0 rfl (k' := .list (p.toList.map fun i => vs.getD i Value.none)) (fun o ho => ?_)
    · exact S₇.sub (by simp)
    · subst ho
      exact ⟨rfl, rfl, _, rfl⟩
end
end Mine
end

section
set_option maxRecDepth 100000
namespace Mine
open PySem PySem.Calls PyProof.Rows
open PySem.W

section
variable {prog : Program} {w : World} {A : Around} {fs : List Addr} {s₀ s : Shared} {m : Str → Option Value} {O : List (Addr × Ky)} {E : Value → Shared → Prop}
/-- sorted(range(n), key=f) -/
theorem sorted_range {L r q : Addr} {n : Nat} {t u v : Tok} {Q : Value → Shared → Prop} (hL : s₀.heap.objs.size ≤ L) (S : St fs s₀ L m O s) (hh : A.handled = none) (hr : IsRange s.heap r 0 (n : Int) 1 t u v) (h2 : 2 ≤ n) (h64 : n < 64)
    (KP : Nat → Value → List (Addr × Ky) → Prop) (g : Nat → Int) (κ : SortKind)
    (hkey : ∀ i t O' s', i < n → St fs s₀ L m (O' ++ O) s' → wpAny (model prog w) A.in1.in1 (call (.ref q) [.int (i : Int) t]) (fun kv s'' => ∃ M, St fs s₀ L m (M ++ (O' ++ O)) s'' ∧ KP i kv M ∧ ∃ h tk, s'' = { s' with heap := h, toks := tk }) (fun _ _ => False) s')
    (hkind : ∀ ks KO R s', ks.length = n → KeysIn KP ks KO → St fs s₀ L m (R ++ (KO ++ O)) s' → ∀ (Q' : SortKind → Shared → Prop), Q' κ s' → wpAny (model prog w) A.in1.in1 (keyKind' ks.toArray) Q' (fun _ _ => False) s')
    (hlt : ∀ ks KO R s', ks.length = n → KeysIn KP ks KO → St fs s₀ L m (R ++ (KO ++ O)) s' → ∀ i j, i < n → j < n → ∀ (C : Bool → Shared → Prop),
      (∀ s'', St fs s₀ L m (R ++ (KO ++ O)) s'' → C (decide (g i < g j)) s'') → wpAny (model prog w) A.in1.in1 (keyLt' κ (ks.getD i Value.none) (ks.getD j Value.none)) C (fun _ _ => False) s')
    (k : ∀ D p ws s', Pre n p n → Up g p n → Ints ws (p.toList.map fun (i : Nat) => (i : Int)) → St fs s₀ L m ((D, .list ws) :: O) s' → Q (.ref D) s') :
    wpAny (model prog w) A (call (.builtin "sorted") [.ref r] [(Str.ofString "key", .ref q)]) Q E s := by
  refine call_function_entry_kw kind_sorted plain_sorted entry_sorted (ksk_s1 _ _) ?_
  unfold Builtin.«sorted»
  refine wpAny_bind (m := checkCount "sorted" 1 1 _) (wpAny_pure ?_)
  refine wpAny_bind (collect_range (A := A.in1) hh hr (by (first | lia | omega)) fun vs s₁ k₁ hi => ?_)
  have S := S.kept k₁
  have hvl : vs.length = n := by rw [hi.1]; simp
  refine wpAny_bind (wpAny_newList ?_ (by rw [sizeLine_eq]; (first | lia | omega)))
  have S := S.push (o := seqObj "list" vs.toArray 0) (k := .obj (seqObj "list" vs.toArray 0)) rfl
  have hD := (S.nth 0 rfl).get
  refine wpAny_bind (wpAny_holding (wpAny_call_entry_kw slot_list_sort ⟨_, hD, rfl⟩ entry_list_sort ?_ (ksk_l1 _ _)))
  show wpAny (model prog w) A.in1.in1 (Builtin.«list.sort» ⟨[.ref s₁.heap.objs.size], [(Str.ofString "key", .ref q)]⟩) _ _ _
  rw [ksk_t1]
  refine sort_tree hL S (by (first | lia | omega)) (by (first | lia | omega)) KP g κ (fun i v O' s' hv S' => ?_) (fun ks KO R s' hl => hkind ks KO R s' (by (first | lia | omega))) (fun ks KO R s' hl hK S' i j hi hj => hlt ks KO R s' (by (first | lia | omega)) hK S' i j (by (first | lia | omega)) (by (first | lia | omega))) fun p s' hp hu S' => ?_
  · have hin : i < n := by have := (List.getElem?_eq_some_iff.mp hv).1; (first | lia | omega)
    obtain ⟨t, ht⟩ := hi.2 i (i : Int) (by simp [hin])
    rw [ht] at hv; cases hv
    exact hkey i t O' s' hin S'
  · rw [hvl] at hp hu
    refine ⟨_, rfl, wpAny_pure ⟨_, rfl, k _ p _ s' hp hu ?_ S'⟩⟩
    refine ⟨by simp, fun j x hx => ?_⟩
    rw [List.getElem?_map] at hx
    obtain ⟨i, hij, rfl⟩ := Option.map_eq_some_iff.mp hx
    have hin : i < n := by
      obtain ⟨hj, e⟩ := List.getElem?_eq_some_iff.mp hij
      simp only [Array.length_toList] at hj
      have := hp.low j (by rw [← hp.size]; exact hj)
      rw [gd_get hj] at this
      rw [Array.getElem_toList] at e
      (first | lia | omega)
    obtain ⟨t, ht⟩ := hi.2 i (i : Int) (by simp [hin])
    exact ⟨t, by rw [List.getElem?_map, hij]; simp [List.getD, ht]⟩
end
end Mine
end

section
set_option maxRecDepth 100000
namespace Mine
open PySem PyProof.Rows
open PySem.W (tabObj CodeHd kla_obj kla_fn kla_eval KatTups kat_kind kat_lt kat_cons kat_go kat_yes kat_no kat_nil kat_one Looks KatLex)

/-- the lambda of _law_ordered -/
def lamOf : Stmt → Expr
  | .Assign _ (.Call _ _ [k] _) _ => k.value
  | _ => default
def lamArgs : Expr → Arguments
  | .Lambda a .. => a
  | _ => default
def lamBody : Expr → Expr
  | .Lambda _ b .. => b
  | _ => default
def lamScope : Expr → Scope
  | .Lambda _ _ sc _ => sc
  | _ => default
abbrev lamX : Expr := lamOf (subStm 23 1)

section
variable {prog : Program} {w : World} {A : Around} {s : Shared} {E Q : Value → Shared → Prop}
/-- the lambda's call -/
theorem lam_key {name qual : Str} {pm ctv : Value} {c' a cN nb : Addr} {vs : List Value} {nums : List Int} {i : Nat} {t : Tok}
    (ho : s.heap.get? a = some (kla_obj name qual (lamArgs lamX) (lamBody lamX) (lamScope lamX) [("numbers", cN)] pm c' ctv)) (hcd : s.heap.CodeRec (.ref c') qual) (hlim : s.heap.NoLimit) (hroom : A.depth < recursionLimit)
    (hc : s.heap.IsCell cN (some (.ref nb))) (hl : At s.heap nb (.list vs)) (hi : Ints vs nums) (hin : i < nums.length) (hz : nums.length ≤ 1000)
    (k : ∀ D t' s', Keeps s s' → Made s s' [(D, tupK [.int (nums.getD i 0) t', .int (i : Int) t])] → Q (.ref D) s') :
    wpAny (model prog w) A (call (.ref a) [.int (i : Int) t]) Q E s := by
  refine call_lam [("place", .int (i : Int) t)] ho hcd hlim hroom (fun s₁ S => ?_) rfl (locs rfl) (by decide) rfl rfl rfl
  refine Tuple_ (Calls.spliced_cons (EvI.go (ev_Ints (k := i) (ev_free (c := cN) rfl (S.upto.isCell hc)) (ev_local S.ns rfl).toI (S.upto.list hl).isList hi hin hz) fun t' tk => Calls.spliced_cons (EvV.go (s := { s₁ with toks := tk }) (ev_local S.ns rfl) fun tk' => Calls.spliced_nil ?_)))
  exact w_newTuple (env := envL (lamScope lamX) qual c' [("numbers", cN)] s.heap.objs.size a) (S.tok tk') (by simp) fun D s₂ S => k D t' s₂ S.keeps S.made
end

theorem katTups_of {h : Heap} : ∀ {ks : List Value}, (∀ v ∈ ks, ∃ a o xs n i t, v = Value.ref a ∧ h.get? a = some o ∧ o.cls = .type "tuple" ∧ o.data = .seq xs n ∧ xs[0]? = some (Value.int i t)) → ∃ fs, KatTups h ks fs ∧ fs.length = ks.length ∧ ∀ f ∈ fs, ∃ i t, f = Value.int i t
  | [], _ => ⟨[], trivial, rfl, fun _ h => nomatch h⟩
  | v :: ks, h => by
    obtain ⟨a, o, xs, n, i, t, rfl, ho, hc, hd, hx⟩ := h v (.head _)
    obtain ⟨fs, h1, h2, h3⟩ := katTups_of fun v hv => h v (.tail _ hv)
    refine ⟨.int i t :: fs, .cons ho hc hd hx h1, by simp [h2], fun f hf => ?_⟩
    rcases List.mem_cons.mp hf with rfl | hf
    · exact ⟨i, t, rfl⟩
    · exact h3 f hf

section
variable {prog : Program} {w : World} {A : Around} {fs : List Addr} {s₀ s : Shared} {m : Str → Option Value} {O : List (Addr × Ky)} {E : Value → Shared → Prop}
/-- the places sorted by the numbers, then by themselves -/
theorem sorted_places {L r q c' cN nb : Addr} {name qual : Str} {pm ctv : Value} {nums : List Int} {vs : List Value} {t u v : Tok} {Q : Value → Shared → Prop} (hL : s₀.heap.objs.size ≤ L) (S : St fs s₀ L m O s) (hh : A.handled = none) (hr : IsRange s.heap r 0 (nums.length : Int) 1 t u v)
    (h2 : 2 ≤ nums.length) (h64 : nums.length < 64) (hroom : A.depth < recursionLimit) (hlim : s₀.heap.NoLimit)
    (hq : (q, .obj (kla_obj name qual (lamArgs lamX) (lamBody lamX) (lamScope lamX) [("numbers", cN)] pm c' ctv)) ∈ O) (hcd : (c', codeK qual) ∈ O) (hc : (cN, .cell (some (.ref nb))) ∈ O) (hl : At s₀.heap nb (.list vs)) (hi : Ints vs nums)
    (k : ∀ D p ws s', Pre nums.length p nums.length → Up (fun i => nums.getD i 0 * (nums.length : Int) + i) p nums.length → Ints ws (p.toList.map fun (i : Nat) => (i : Int)) → St fs s₀ L m ((D, .list ws) :: O) s' → Q (.ref D) s') :
    wpAny (model prog w) A (call (.builtin "sorted") [.ref r] [(Str.ofString "key", .ref q)]) Q E s := by
  refine sorted_range hL S hh hr h2 h64 (fun i kv M => ∃ D t1 t2, kv = .ref D ∧ M = [(D, tupK [.int (nums.getD i 0) t1, .int (i : Int) t2])]) (fun i => nums.getD i 0 * (nums.length : Int) + i) (tuples' true)
    (fun i t O' s' hin S' => ?_) (fun ks KO R s' hkl hK S' Q' hQ => ?_) (fun ks KO R s' hkl hK S' i j hin hjn C hC => ?_) k
  · refine lam_key (A := A.in1.in1) (S'.led _ (List.mem_append_right _ hq)).get (S'.led _ (List.mem_append_right _ hcd)).codeRec (S'.upto.noLimit hlim) hroom (S'.led _ (List.mem_append_right _ hc)).isCell (S'.upto.list hl) hi hin (by (first | lia | omega)) fun D t' s'' kk Md => ?_
    obtain ⟨h, tk, rfl, _⟩ := id kk
    exact ⟨_, S'.with (S'.kept kk) Md, ⟨D, t', t, rfl, rfl⟩, h, tk, rfl⟩
  · obtain ⟨fs', h1, h2', h3⟩ := katTups_of (h := s'.heap) (ks := ks) fun v hv => by
      obtain ⟨i, hi'⟩ := List.mem_iff_getElem?.mp hv
      obtain ⟨M, ⟨D, t1, t2, rfl, rfl⟩, hM⟩ := hK i v hi'
      obtain ⟨o, ho, hoc, hod, n, hd⟩ := S'.led _ (List.mem_append_right _ (List.mem_append_left _ (hM _ (.head _))))
      exact ⟨D, o, _, n, _, t1, rfl, ho, hoc, hd, rfl⟩
    refine kat_kind (T := .type "int") h1 (by (first | lia | omega)) (fun f hf => ?_) (by decide) hQ
    obtain ⟨i, t, rfl⟩ := h3 f hf
    exact .now
  · have one : ∀ i, i < nums.length → ∃ D t1 t2 o n, ks.getD i Value.none = .ref D ∧ s'.heap.get? D = some o ∧ o.data = .seq [Value.int (nums.getD i 0) t1, .int (i : Int) t2].toArray n := fun i hi => by
      have hki : i < ks.length := by (first | lia | omega)
      obtain ⟨M, ⟨D, t1, t2, e, rfl⟩, hM⟩ := hK i ks[i] (by simp [hki])
      obtain ⟨o, ho, hoc, hod, n, hd⟩ := S'.led _ (List.mem_append_right _ (List.mem_append_left _ (hM _ (.head _))))
      exact ⟨D, t1, t2, o, n, by simp [hki, e], ho, hd⟩
    obtain ⟨x, t1, t2, ox, nx, ex, hx, dx⟩ := one i hin
    obtain ⟨y, u1, u2, oy, ny, ey, hy, dy⟩ := one j hjn
    rw [ex, ey]
    have hlt := lt_code (a := nums.getD i 0) (b := nums.getD j 0) hin hjn
    have hC' := hC s' S'
    generalize nums.getD i 0 = a at *
    generalize nums.getD j 0 = b at *
    refine kat_lt hx dx hy dy ?_
    show KatLex (model prog w |> fun _ => prog) w A.in1.in1 true _ C [(Value.int a t1, Value.int b u1), (Value.int (i : Int) t2, Value.int (j : Int) u2)] 0 s'
    refine kat_cons (wpAny_eqBool_int (kat_go (fun e => kat_yes (kat_cons (wpAny_eqBool_int (kat_go (fun e' => kat_yes (kat_nil ?_)) (fun e' => kat_no (kat_one _ _ (P.lt_int ?_))))))) (fun e => kat_no (oneLt_int ?_))))
    · have e1 : a = b := by simpa using e
      have e2 : i = j := by have : (i : Int) = (j : Int) := by simpa using e'
                            (first | lia | omega)
      subst e1 e2
      simpa using hC'
    · have e1 : a = b := by simpa using e
      subst e1
      show C _ s'
      have : decide ((i : Int) < (j : Int)) = decide (a * (nums.length : Int) + i < a * (nums.length : Int) + j) := by
        apply decide_eq_decide.mpr
        (first | lia | omega)
      rw [this]; exact hC'
    · have e1 : a ≠ b := by simpa using e
      have : decide (a < b) = decide (a * (nums.length : Int) + i < b * (nums.length : Int) + j) := by
        apply decide_eq_decide.mpr
        rw [hlt]
        constructor
        · exact .inl
        · rintro (h | h)
          · exact h
          · exact absurd h.1 e1
      rw [this]; exact hC'
end
end Mine
end

section
set_option maxRecDepth 100000
namespace Mine
open PySem PyProof.Rows
open PySem.W (tabObj CodeHd Frag makesIn keepIn keeps_K callWith_K)

/-- these values are the writings of these numbers -/
def Wrs (vs : List Value) (ns : List Int) : Prop := vs.length = ns.length ∧ ∀ (k : Nat) (n : Int), ns[k]? = some n → ∃ t, vs[k]? = some (Value.bytes (wr n) t)
theorem Wrs.nil : Wrs [] [] := ⟨rfl, fun k n h => by simp at h⟩
theorem Wrs.snoc {vs : List Value} {ns : List Int} (h : Wrs vs ns) (n : Int) (t : Tok) : Wrs (vs ++ [.bytes (wr n) t]) (ns ++ [n]) := by
  refine ⟨by simp [h.1], fun k x hx => ?_⟩
  rw [List.getElem?_append] at hx ⊢
  rw [h.1]
  split at hx
  · rename_i hk; rw [if_pos hk]; exact h.2 k x hx
  · rename_i hk
    rw [if_neg hk]
    have : k - ns.length = 0 := by have := (List.getElem?_eq_some_iff.mp hx).1; simp at this; omega
    rw [this] at hx ⊢
    simp at hx ⊢
    subst hx; rfl

theorem keepIn_of {K : Frag} {C : Addr} (e : makesIn K C = true) : keepIn K (.ref C) = true := by
  unfold makesIn at e
  unfold keepIn
  dsimp only
  split at e
  · rename_i q
    rw [q]
    simp only [Bool.and_eq_true] at e
    exact e.1.2
  · cases e

section
variable {prog : Program} {w : World} {A : Around} {env : Env} {fs : List Addr} {s₀ s : Shared} {m : Str → Option Value} {O : List (Addr × Ky)} {E Q : Value → Shared → Prop}
/-- range(e) -/
theorem w_range {p pos : Pos} {e : Expr} {n : Nat} (S : St fs s₀ env.locals m O s) (f : EvV prog w A env s.heap (.Name "range" p) (.type "range")) (x : EvI prog w A env s.heap e (n : Int))
    (k : ∀ r t u v s', St fs s₀ env.locals m ((r, .obj { cls := .type "range", data := .fields #[.int 0 t, .int (n : Int) u, .int 1 v] }) :: O) s' → Q (.ref r) s')
    (htrees : backTo pos (starEach [e] env) = [(false, eval e env)] := by rfl) : wpAny (model prog w) A (eval (.Call (.Name "range" p) [e] [] pos) env) Q E s := by
  refine wpAny_Call_NameR (f.go fun tk => ?_)
  rw [htrees]
  refine PySem.callWith_type1 (EvI.go (s := { s with toks := tk }) x fun t tk' => ?_)
  refine call_range_1 ?_
  exact k _ _ _ _ _ ((S.tok (tk' + 1 + 1)).push (o := { cls := .type "range", data := .fields #[.int 0 tk', .int n t, .int 1 (tk' + 1)] }) rfl)

/-- a key is made by the name of the class -/
theorem w_key {f : Str} {p pos : Pos} {e : Expr} {C cmp tx : Addr} (S : St fs s₀ env.locals m O s) (W : KAt s₀.heap fs C cmp) (hlim : s₀.heap.NoLimit) (hroom : A.depth + 1 < recursionLimit) (x : EvV prog w A env s.heap (.Name f p) (.ref C)) (y : EvV prog w A env s.heap e (.ref tx))
    (k : ∀ q dx s', St fs s₀ env.locals m ((q, .obj (keyO C dx (.ref tx))) :: (dx, .obj PySem.W.emptyDict) :: O) s' → Q (.ref q) s')
    (he : starEach [e] env = (false, eval e env) :: starEach [] env := by rfl) : wpAny (model prog w) A (eval (.Call (.Name f p) [e] [] pos) env) Q E s := by
  have W' := W.st S
  obtain ⟨K, d, fI, fL, fG, fE, mc, cI, cL, cG, cE, X, Y, hK, -⟩ := id W
  have X₁ : Frag.In K s.heap := fun a o e => S.keep _ _ (X a o e) (hK a o e)
  refine wpAny_Call_NameR (x.go fun tk => ?_)
  refine callWith_K (first := []) (h₀ := s.heap) X₁ (keepIn_of Y.makes) ?_ he rfl
  rw [he]
  refine Calls.spliced_cons (EvV.go (s := { s with toks := tk }) y fun tk' => Calls.spliced_nil ⟨X₁, ?_⟩)
  have S := S.tok tk'
  refine key_ok (W.st S) (S.upto.noLimit hlim) hroom fun q dx s' kk Md => ?_
  exact k q dx s' (S.with (S.kept kk) Md)

/-- two lists of the same ints are not unlike -/
theorem ne_ints {a b : Addr} {va vb : List Value} {ns : List Int} (ha : s.heap.IsList a va.toArray) (hb : s.heap.IsList b vb.toArray) (ia : Ints va ns) (ib : Ints vb ns) (hu : A.units + 64 < cLine) (k : Q (.bool false) s) : wpAny (model prog w) A (compareOp .NotEq (.ref a) (.ref b)) Q E s := by
  have hsh : SeqAt.shaped (.list (ns.map PyData.int)) = true := by
    simp [SeqAt.shaped, PyData.canLay0, PyData.canLayAll0, PyData.depth, PyData.depthAll, PySem.W.ke_canLayAll0, PySem.W.ke_depthAll]
  refine ne_dataH (Reads.ints ha ia) (Reads.ints hb ib) hsh hsh hu ?_
  rw [SeqAt.eqv_refl _ (SeqAt.canLay_of_shaped hsh)]
  exact k
end
end Mine
end

section
set_option maxRecDepth 100000
namespace Mine
open PySem PyProof.Rows

section
variable {prog : Program} {w : World} {A : Around} {env : Env} {fs : List Addr} {s₀ s : Shared} {m : Str → Option Value} {O : List (Addr × Ky)} {E : Value → Shared → Prop}
/-- a list comprehension over a list that is made ahead of it -/
theorem w_compL {elt iter : Expr} {x : Str} {px pos : Pos} {ifs : List Expr} {scope : Scope} {cl : List (Str × Addr)} {Q : Value → Shared → Prop} (hh : A.handled = none)
    (ev : wpAny (model prog w) A (eval iter env) (fun xv s₁ => ∃ (l : Addr) (items : List Value) (O₁ : List (Addr × Ky)) (J : Nat → List Value → List (Addr × Ky) → Prop), xv = .ref l ∧ St fs s₀ env.locals m O₁ s₁ ∧ s₁.heap.IsList l items.toArray ∧ items.length ≤ 1000 ∧ J 0 [] O₁ ∧
      (∀ I, Holds env fs s₀ m I (fun i => itr l i) (fun h => h.IsList l items.toArray) J) ∧ (∀ I, Turns prog w A env fs s₀ m scope cl x ifs elt I items.length (fun i v => items[i]? = some v) (fun i => itr l i) J) ∧
      (∀ D ys O' s', St fs s₀ env.locals m ((D, .list ys) :: O') s' → J items.length ys O' → ys.length ≤ items.length → Q (.ref D) s')) E s)
    (hclos : closureFor scope env = pure cl := by rfl) (hcell : ∀ y ∈ scope.names, y.2 ≠ .cell := by decide) (hkind : scope.kind = .function := by rfl) (hnames : ∀ y ∈ scope.names, y.2 = .local → scope.names.lookup y.1 = some .local := by decide) (hx : scope.names.lookup x = some .local := by rfl)
    (hs : ∀ x, foldedSetIterable iter env x = pure x := by intro _; rfl) : wpAny (model prog w) A (eval (.ListComp elt [⟨.Name x px, iter, ifs, 0⟩] scope pos) env) Q E s := by
  rw [eval_ListComp]
  refine wpAny_comprehension_free (use := none) rfl hs hclos hkind hnames (wpAny_mono ev (fun xv s₁ h => ?_) fun _ _ e => e)
  obtain ⟨l, items, O₁, J, rfl, S, hl, hn, hJ, hH, turn, fin⟩ := h
  refine wpAny_pyIter_list hl ?_
  have S₂ := S.push (o := { cls := .type "list_iterator", data := .fields #[.ref l, .int 0 0] }) (k := itr l 0) ⟨rfl, rfl⟩
  refine comp_block (RR := fun acc C => compPost (model prog w) A E none Q acc C) (iter_list hh _ l items) hn hcell hkind hx J S₂ hJ (hH _) (turn _) fun C D mC ys O' s' S' hJ' hl => ?_
  exact ⟨mC, (S'.nth 0 rfl).ns, fun h' hs' => fin D ys O' _ (S'.ext (t := s'.toks) fun b o hb q => hs'.extBut b o hb q) hJ' hl⟩
end
end Mine
end

section
set_option maxRecDepth 100000
namespace Mine
open PySem PyProof.Rows
open PySem.W (tabObj CodeHd kla_eval)

abbrev envO (cN L : Addr) : Env := envC (stm 23) (nameOf (stm 23)) (.ref 119) [("numbers", cN)] L 120

section
variable {prog : Program} {w : World} {A : Around} {s₀ s : Shared} {m : Str → Option Value} {O : List (Addr × Ky)} {fs : List Addr}
/-- the writings -/
theorem ord_writ {E : Value → Shared → Prop} {Q : Flow → Shared → Prop} {nb cN : Addr} {vs : List Value} {nums : List Int}
    (S : St fs s₀ (envO cN s₀.heap.objs.size).locals m O s) (T : Txt s₀.heap) (hroom : A.depth + 3 < recursionLimit) (hh : A.handled = none) (hc : (cN, .cell (some (.ref nb))) ∈ O)
    (hn : At s₀.heap nb (.list vs)) (hi : Ints vs nums) (hz : nums.length ≤ 100) (hb : ∀ n ∈ nums, 0 ≤ n ∧ n < 65536)
    (k : ∀ wl ws s', St fs s₀ (envO cN s₀.heap.objs.size).locals (fun z => if z = "writings" then some (.ref wl) else m z) ((wl, .list ws) :: O) s' → Wrs ws nums → Q .next s') :
    wpAny (model prog w) (A.deeper (envO cN s₀.heap.objs.size)) (exec (subStm 23 0) (envO cN s₀.heap.objs.size)) Q E s := by
  have G : ∀ {m O s'}, St fs s₀ s₀.heap.objs.size m O s' → Glb s'.heap := fun S' => S'.upto.glb T.glb
  refine x_comp (src_list (items := vs) hh S (ev_cell (c := cN) rfl (S.led _ hc).isCell) (S.upto.list hn).isList) (by rw [hi.1]; (first | lia | omega)) (fun k ys O' => O' = O ∧ Wrs ys (nums.take k)) ⟨rfl, Wrs.nil⟩ (fun I D j j' ys F' O' s' S' J' => (S'.upto.list hn).isList) (fun I C D j v ys mC O' s' E' hj hv hJ hm S₁ => ?_) fun wl ws O' s₁ S₁ hJ _ => ?_
  · obtain ⟨rfl, hw⟩ := hJ
    have S := S₁
    have hjn : j < nums.length := by rw [← hi.1]; exact hj
    obtain ⟨t, ht⟩ := hi.2 j nums[j] (by simp [hjn])
    rw [ht] at hv; cases hv
    have hr := hb _ (List.getElem_mem hjn)
    rw [List.forIn_nil]
    refine wpAny_pure ?_
    rw [if_pos rfl]
    have hN := (S.nth 0 rfl).ns
    refine w_callF (ev_g (G S) (v := .ref 58) rfl) fun tk => Calls.spliced_cons (wpAny_Call_NameR (EvV.go (s := { s' with toks := tk }) (ev_b (G (S.tok tk)) (v := .type "bytes") rfl) fun tk₁ => callWith_type1 (Calls.spliced_cons (List_ (Calls.spliced_cons (EvI.go (s := { s' with toks := tk₁ }) (ev_fdiv (ev_local hN hm).toI ev_int (by decide) (by decide)) fun t₁ tk₂ => Calls.spliced_cons (EvI.go (s := { s' with toks := tk₂ }) (ev_mod (ev_local hN hm).toI ev_int (by decide)) fun t₂ tk₃ => Calls.spliced_nil ?_)))))))
    refine w_newList (env := envO cN s₀.heap.objs.size) (S.tok tk₃) (by simp) fun l s₂ S => Calls.spliced_nil ?_
    refine call_bytes_ints (ns := [nums[j].fdiv 256, nums[j].fmod 256]) (S.nth 0 rfl).isList (.cons _ _ (.cons _ _ .nil)) (fun n hn => ?_) (by rw [sizeLine_eq]; simp) hh fun h' t' k' hk => Calls.spliced_nil ?_
    · simp only [List.mem_cons, List.not_mem_nil, or_false] at hn
      rcases hn with rfl | rfl
      · rw [Int.fdiv_eq_ediv_of_nonneg _ (by decide)]; (first | lia | omega)
      · rw [Int.fmod_eq_emod_of_nonneg _ (by decide)]; (first | lia | omega)
    have S := (S.kept ⟨h', k', rfl, hk⟩).drop 0
    refine ⟨(S.upto.fn T.f10).func, ?_⟩
    refine b16_ok (x := (nums[j].fdiv 256).toNat.toUInt8) (y := (nums[j].fmod 256).toNat.toUInt8) (S.upto.txt T) (by show A.depth + 1 + 2 < _; (first | lia | omega)) fun t'' s₃ kk => ⟨_, S.kept kk, rfl, ?_⟩
    rw [b16_wr hr, List.take_succ_eq_append_getElem hjn]
    exact hw.snoc _ _
  · obtain ⟨rfl, hw⟩ := hJ
    rw [hi.1, List.take_length] at hw
    exact k wl ws s₁ S₁ hw

theorem ord1_eq : subStm 23 1 = .Assign [.Name "order" ⟨161, 4, 161, 9⟩] (.Call (.Name "sorted" ⟨161, 12, 161, 18⟩) [.Call (.Name "range" ⟨161, 19, 161, 24⟩) [.Call (.Name "len" ⟨161, 25, 161, 28⟩) [.Name "things" ⟨161, 29, 161, 35⟩] [] ⟨161, 25, 161, 36⟩] [] ⟨161, 19, 161, 37⟩]
    [⟨some "key", .Lambda (lamArgs lamX) (lamBody lamX) (lamScope lamX) ⟨161, 43, 161, 80⟩, ⟨161, 39, 161, 80⟩⟩] ⟨161, 12, 161, 81⟩) ⟨161, 4, 161, 81⟩ := rfl
/-- the order of the places -/
theorem ord_order {E : Value → Shared → Prop} {Q : Flow → Shared → Prop} {nb cN th : Addr} {vs : List Value} {nums : List Int} {as : List Addr}
    (S : St fs s₀ (envO cN s₀.heap.objs.size).locals m ((117, .obj (tabObj #[])) :: O) s) (T : Txt s₀.heap) (CH : CodeHd s₀.heap 119 117) (hroom : A.depth + 3 < recursionLimit) (hh : A.handled = none) (hc : (cN, .cell (some (.ref nb))) ∈ O)
    (hn : At s₀.heap nb (.list vs)) (hi : Ints vs nums) (h2 : 2 ≤ nums.length) (h64 : nums.length < 64) (hm : m "things" = some (.ref th)) (hal : At s₀.heap th (.list (as.map .ref))) (hlen : as.length = nums.length)
    (k : ∀ D ps p ws s', Pre nums.length p nums.length → Up (fun i => nums.getD i 0 * (nums.length : Int) + i) p nums.length → Ints ws (p.toList.map fun (i : Nat) => (i : Int)) → St fs s₀ (envO cN s₀.heap.objs.size).locals (fun z => if z = "order" then some (.ref D) else m z) ((D, .list ws) :: (117, .obj (tabObj ps)) :: O) s' → Q .next s') :
    wpAny (model prog w) (A.deeper (envO cN s₀.heap.objs.size)) (exec (subStm 23 1) (envO cN s₀.heap.objs.size)) Q E s := by
  have G : ∀ {m O s'}, St fs s₀ s₀.heap.objs.size m O s' → Glb s'.heap := fun S' => S'.upto.glb T.glb
  rw [ord1_eq]
  refine wpAny_Assign_Name ?_
  refine wpAny_Call_Name_kw ?_
  refine EvV.go (ev_b (G S) (v := .builtin "sorted") rfl) fun tk => ?_
  refine callWith_kw ?_
  refine Calls.spliced_cons ?_
  have S := S.tok tk
  refine w_range (n := nums.length) S (ev_b (G S) rfl) ((ev_len (ev_b (G S) rfl) (ev_local S.ns hm) (S.upto.list hal).isList (by simp; (first | lia | omega))).to (by simp [hlen])) fun r t u v s₂ S => Calls.spliced_nil (kws_cons (kla_eval rfl ?_))
  refine w_lam (P := 117) (c := 119) (S.front 1 rfl) rfl rfl (G S) rfl (CodeHd.upto S.upto CH) trivial rfl fun f c' ctv pm s₃ S => kws_nil ?_
  show wpAny _ _ (call (.builtin "sorted") [.ref r] [(Str.ofString "key", .ref f)]) _ _ _
  refine sorted_places (nums := nums) (cN := cN) (nb := nb) (Nat.le_refl _) S hh (S.nth 3 rfl).get h2 h64 (by show A.depth + 1 < _; (first | lia | omega)) T.lim (.head _) (.tail _ (.head _)) (by simp [hc]) hn hi fun D p ws s₄ hp hu hw S => ?_
  have S := ((S.drop 1).drop 1).drop 2
  exact st_store S fun s₅ S => k D _ p ws s₅ hp hu hw S
end
end Mine
end

section
set_option maxRecDepth 100000
namespace Mine
open PySem PyProof.Rows
open PySem.W (tabObj CodeHd kla_eval)

section
variable {prog : Program} {w : World} {A : Around} {s₀ s : Shared} {m : Str → Option Value} {O : List (Addr × Ky)} {outer : List Env}
/-- the things sorted stand in the order of the places -/
theorem ord_test {E : Value → Shared → Prop} {Q : Flow → Shared → Prop} {cN th C cmp fa la oa : Addr} {fl : List Int} {ld : List (List Int)} {as : List Addr} {rows : List (List Int)} {ws : List Value} {q : Array Nat}
    (S : St (outer.filterMap (·.frame)) s₀ (envO cN s₀.heap.objs.size).locals m O s) (W : Wld s₀.heap (outer.filterMap (·.frame)) C cmp fa la fl ld) (hroom : A.depth + 10 < recursionLimit) (hu : A.units + 150 < cLine) (hh : A.handled = none) (B : Frs A s₀.heap outer)
    (hmt : m "things" = some (.ref th)) (hmk : m "key" = some (.ref C)) (hmo : m "order" = some (.ref oa)) (ho : (oa, .list ws) ∈ O)
    (hal : At s₀.heap th (.list (as.map .ref))) (hlen : as.length = rows.length) (hth : ∀ (i : Nat) a b, as[i]? = some a → rows[i]? = some b → ThingAt s₀.heap a (placesOf b) b i) (hr : ∀ b ∈ rows, b.length = 16 ∧ Bits b) (h2 : 2 ≤ rows.length) (h64 : rows.length < 64)
    (hq : Pre rows.length q rows.length) (huq : Up (fun i => (rows.map (numOf fl ld)).getD i 0 * (rows.length : Int) + i) q rows.length) (iw : Ints ws (q.toList.map fun (i : Nat) => (i : Int)))
    (k : ∀ s', St (outer.filterMap (·.frame)) s₀ (envO cN s₀.heap.objs.size).locals m O s' → Q .next s') :
    wpAny (model prog w) (A.deeper (envO cN s₀.heap.objs.size)) (exec (subStm 23 2) (envO cN s₀.heap.objs.size)) Q E s := by
  have G : ∀ {m O s'}, St (outer.filterMap (·.frame)) s₀ s₀.heap.objs.size m O s' → Glb s'.heap := fun S' => S'.upto.glb W.txt.glb
  refine wpAny_If (wpAny_isTrue_Compare1 (w_compL (m := m) (fs := outer.filterMap (·.frame)) (s₀ := s₀) hh ?_))
  refine wpAny_Call_Name_kw ?_
  refine EvV.go (ev_b (G S) (v := .builtin "sorted") rfl) fun tk => ?_
  refine callWith_kw ?_
  refine Calls.spliced_cons (EvV.go (s := { s with toks := tk }) (ev_local S.ns hmt) fun tk₁ => Calls.spliced_nil (kws_cons (EvV.go (s := { s with toks := tk₁ }) (ev_local S.ns hmk) fun tk₂ => kws_nil ?_)))
  have S := S.tok tk₂
  show wpAny _ _ (call (.builtin "sorted") [.ref th] [(Str.ofString "key", .ref C)]) _ _ _
  refine sorted_keys (outer := outer) (env := envO cN s₀.heap.objs.size) S W (by show A.depth + 1 + 8 < _; (first | lia | omega)) (by show A.units + 3 + 120 < cLine; (first | lia | omega)) hh (fun S' => B.deeper (env := envO cN s₀.heap.objs.size) S' rfl rfl) rfl hal hlen hth hr h2 h64 fun D p s₁ hp hup S => ?_
  have hpq : p.toList = q.toList := sort_eq (f := fun i => (rows.map (numOf fl ld)).getD i 0) hp (fun i j hij hj => ?_) hq huq
  · have hlow : ∀ x ∈ p.toList, x < rows.length := fun x hx => by
      obtain ⟨i, hi, rfl⟩ := List.mem_iff_getElem.mp hx
      simp only [Array.length_toList] at hi
      rw [Array.getElem_toList, ← gd_get hi]
      exact hp.low i (by rw [← hp.size]; exact hi)
    have lp : p.toList.length = rows.length := by rw [Array.length_toList]; exact hp.size
    refine ⟨D, _, _, fun k ys O' => O' = (D, .list (p.toList.map fun i => (as.map Value.ref).getD i Value.none)) :: O ∧ Ints ys ((p.toList.take k).map fun (i : Nat) => (i : Int)), rfl, S, (S.nth 0 rfl).isList, by simp [hp.size]; (first | lia | omega), ⟨rfl, .nil⟩, fun I D' j j' ys F' O' s' S' J' => ?_, fun I => turns_ev fun C' D' j v ys mC O' s' hj hv hJ hm S' hN => ?_, fun D' ys O' s' S' hJ _ => ?_⟩
    · obtain ⟨rfl, _⟩ := J'
      exact (S'.led (D, .list (p.toList.map fun i => (as.map Value.ref).getD i Value.none)) (by simp)).isList
    · obtain ⟨rfl, hy⟩ := hJ
      have hjl : j < p.toList.length := by simpa using hj
      rw [List.getElem?_map, List.getElem?_eq_getElem hjl, Option.map_some] at hv
      have hx := hlow _ (List.getElem_mem hjl)
      generalize hx' : p.toList[j] = x at hx hv
      have hxa : x < as.length := by (first | lia | omega)
      have hv' : v = .ref as[x] := by simpa [hxa] using (Option.some.inj hv).symm
      subst hv'
      obtain ⟨pa, ba, vp, vb, t, a1, -⟩ := hth x as[x] rows[x] (by simp [hxa]) (by simp [hx])
      refine ⟨(x : Int), (ev_item (ev_local hN hm) ev_int (S'.upto.list a1).isList (by decide) (by decide) rfl).toI, fun t => ⟨rfl, ?_⟩⟩
      rw [List.take_succ_eq_append_getElem hjl, List.map_append, hx']
      exact hy.append (Ints.one _ _)
    · obtain ⟨rfl, hy⟩ := hJ
      rw [List.length_map, List.take_length, hpq] at hy
      refine EvV.go (ev_local S'.ns hmo) fun tk => ?_
      have S' := S'.tok tk
      refine ne_ints (S'.nth 0 rfl).isList (S'.led (oa, .list ws) (by simp [ho])).isList hy iw (by show A.units + 3 + 64 < cLine; (first | lia | omega)) (wpAny_truthy_bool ?_)
      rw [if_neg (by decide)]
      exact wpAny_execs_nil (k _ ((S'.drop 0).drop 0))
  · have e : ∀ a, a < rows.length → (rows.map (numOf fl ld)).getD a 0 = numOf fl ld (rows.getD a []) := fun a ha => by simp [ha]
    have hi' := hp.low i (by (first | lia | omega))
    have hj' := hp.low j (by (first | lia | omega))
    have := hup i j hij hj
    simp only at this ⊢
    rw [e _ hi', e _ hj']
    exact this
end
end Mine
end

section
set_option maxRecDepth 100000
namespace Mine
open PySem PyProof.Rows
open PySem.W (tabObj CodeHd kla_eval emptyDict)

theorem sign_eq {a b c : Int} (h1 : c < 0 ↔ a < b) (h2 : c > 0 ↔ a > b) : b2i (decide (c > 0)) - b2i (decide (c < 0)) = (if a > b then 1 else 0) - (if a < b then 1 else 0) := by
  have e1 : b2i (decide (c > 0)) = if a > b then 1 else 0 := by
    unfold b2i
    by_cases h : a > b
    · rw [if_pos h, if_pos (by simpa using h2.mpr h)]
    · rw [if_neg h, if_neg (by simpa using fun z => h (h2.mp z))]
  have e2 : b2i (decide (c < 0)) = if a < b then 1 else 0 := by
    unfold b2i
    by_cases h : a < b
    · rw [if_pos h, if_pos (by simpa using h1.mpr h)]
    · rw [if_neg h, if_neg (by simpa using fun z => h (h1.mp z))]
  rw [e1, e2]
theorem sign_wr {a b : Int} (ha : 0 ≤ a ∧ a < 65536) (hb : 0 ≤ b ∧ b < 65536) : b2i (Builtin.Bytes.order (wr a).toList (wr b).toList == .gt) - b2i (Builtin.Bytes.order (wr a).toList (wr b).toList == .lt) = (if a > b then 1 else 0) - (if a < b then 1 else 0) := by
  rw [ord_wr ha hb]
  rcases Int.lt_trichotomy a b with h | h | h
  · rw [if_pos h, if_pos h, if_neg (by (first | lia | omega))]; rfl
  · subst h; simp [b2i]
  · rw [if_neg (by (first | lia | omega)), if_pos h, if_pos (by (first | lia | omega)), if_neg (by (first | lia | omega))]; rfl

section
variable {prog : Program} {w : World} {A : Around} {s₀ s : Shared} {m : Str → Option Value} {O : List (Addr × Ky)} {outer : List Env}
set_option maxHeartbeats 1000000 in
/-- the neighbours -/
theorem ord_for {E : Value → Shared → Prop} {Q : Flow → Shared → Prop} {cN th nb C cmp fa la wl : Addr} {fl : List Int} {ld : List (List Int)} {as : List Addr} {rows : List (List Int)} {vs ws : List Value}
    (S : St (outer.filterMap (·.frame)) s₀ (envO cN s₀.heap.objs.size).locals m O s) (W : Wld s₀.heap (outer.filterMap (·.frame)) C cmp fa la fl ld) (hroom : A.depth + 12 < recursionLimit) (hu : A.units + 150 < cLine) (hh : A.handled = none) (B : Frs A s₀.heap outer)
    (hmt : m "things" = some (.ref th)) (hmk : m "key" = some (.ref C)) (hmw : m "writings" = some (.ref wl)) (hw : (wl, .list ws) ∈ O) (iw : Wrs ws (rows.map (numOf fl ld))) (hc : (cN, .cell (some (.ref nb))) ∈ O) (hn : At s₀.heap nb (.list vs)) (hi : Ints vs (rows.map (numOf fl ld)))
    (hal : At s₀.heap th (.list (as.map .ref))) (hlen : as.length = rows.length) (hth : ∀ (i : Nat) a b, as[i]? = some a → rows[i]? = some b → ThingAt s₀.heap a (placesOf b) b i) (hr : ∀ b ∈ rows, b.length = 16 ∧ Bits b) (h2 : 0 < rows.length) (h64 : rows.length < 64)
    (k : ∀ m' s', m' "things" = some (.ref th) → m' "key" = some (.ref C) → St (outer.filterMap (·.frame)) s₀ (envO cN s₀.heap.objs.size).locals m' O s' → Q .next s') :
    wpAny (model prog w) (A.deeper (envO cN s₀.heap.objs.size)) (exec (subStm 23 3) (envO cN s₀.heap.objs.size)) Q E s := by
  have G : ∀ {m O s'}, St (outer.filterMap (·.frame)) s₀ s₀.heap.objs.size m O s' → Glb s'.heap := fun S' => S'.upto.glb W.txt.glb
  have hlm : (as.map Value.ref).length = rows.length := by simp [hlen]
  have hnl : (rows.map (numOf fl ld)).length = rows.length := by simp
  have hvl : vs.length = rows.length := by rw [hi.1, hnl]
  have hwl : ws.length = rows.length := by rw [iw.1, hnl]
  have thg : ∀ {s' : Shared} (u : UpTo s₀.heap s'.heap) (i : Nat) (hi : i < rows.length), ∃ a, (as.map Value.ref)[i]? = some (.ref a) ∧ Thg s'.heap a (placesOf rows[i]) rows[i] i := fun {s'} u i hi => by
    have hi' : i < as.length := by (first | lia | omega)
    have hb := hr _ (List.getElem_mem hi)
    refine ⟨as[i], by simp [hi'], u.thing (hth i _ _ (by simp [hi']) (by simp [hi])), placesOf_inc _, Nat.le_trans (placesOf_len _) (by decide), by (first | lia | omega), hb.2, fun p hp => ?_⟩
    obtain ⟨q, _, rfl, _⟩ := placesOf_mem.mp hp
    (first | lia | omega)
  refine x_forS (src_range (n := rows.length) hh S (ev_b (G S) rfl) ((ev_len (ev_b (G S) rfl) (ev_local S.ns hmt) (S.upto.list hal).isList (by (first | lia | omega))).to (by rw [hlm])) (by (first | lia | omega))) (fun j m' O' => m' "things" = some (.ref th) ∧ m' "key" = some (.ref C) ∧ m' "writings" = some (.ref wl) ∧ O' = O) ⟨hmt, hmk, hmw, rfl⟩ (fun I j j' m' O' s' S' J' => trivial) (fun I j v m' O' s' E' hj hv hJ S₀ => ?_) fun m' O' s' S₀ hJ => ?_
  · obtain ⟨t, rfl⟩ := hv
    obtain ⟨hmt, hmk, hmw, rfl⟩ := hJ
    have hpj : prevI rows.length j < rows.length := by unfold prevI; split <;> (first | lia | omega)
    obtain ⟨tj, hvj⟩ := hi.2 j (numOf fl ld rows[j]) (by simp [hj])
    obtain ⟨tp, hvp⟩ := hi.2 (prevI rows.length j) (numOf fl ld (rows[prevI rows.length j]'hpj)) (by simp [hpj])
    obtain ⟨uj, hwj⟩ := iw.2 j (numOf fl ld rows[j]) (by simp [hj])
    obtain ⟨up, hwp⟩ := iw.2 (prevI rows.length j) (numOf fl ld (rows[prevI rows.length j]'hpj)) (by simp [hpj])
    have bj := hr _ (List.getElem_mem hj)
    have bp := hr _ (List.getElem_mem hpj)
    have nj := numOf_lt fl ld rows[j] bj.1
    have np := numOf_lt fl ld (rows[prevI rows.length j]'hpj) bp.1
    have hcn := cmp_num W.ok bp.1 bj.1 bp.2 bj.2
    obtain ⟨aj, haj, -⟩ := thg (s' := s₀) (.refl _) j hj
    obtain ⟨ap, hap, -⟩ := thg (s' := s₀) (.refl _) _ hpj
    have cell : ∀ {m s' R}, St (outer.filterMap (·.frame)) s₀ s₀.heap.objs.size m (R ++ O') s' → s'.heap.IsCell cN (some (.ref nb)) := fun S' => (S'.led _ (List.mem_append_right _ hc)).isCell
    have wri : ∀ {m s' R}, St (outer.filterMap (·.frame)) s₀ s₀.heap.objs.size m (R ++ O') s' → s'.heap.IsList wl ws.toArray := fun S' => (S'.led _ (List.mem_append_right _ hw)).isList
    generalize hKI : Ky.obj (ritO ((j + 1 : Nat) : Int) ((rows.length : Int) - ((j + 1 : Nat) : Int))) = KI at S₀ ⊢
    refine wpAny_assign_Name (st_store S₀ fun s₁ S₁ => ?_)
    -- due
    refine wpAny_execs_cons (wpAny_Assign_Name (w_callF (ev_g (G S₁) (v := .ref 115) rfl) fun tk => Calls.spliced_cons (EvV.go (s := { s₁ with toks := tk }) (ev_prev (ev_cell (c := cN) rfl (cell (R := [(I, KI)]) (S₁.tok tk))) (ev_sub (ev_local S₁.ns rfl).toI ev_int) (S₁.upto.list hn).isList (by (first | lia | omega)) (by (first | lia | omega)) (by rw [hvl]; exact hvp)) fun tk' => Calls.spliced_cons (EvV.go (s := { s₁ with toks := tk' }) (ev_item (ev_cell (c := cN) rfl (cell (R := [(I, KI)]) (S₁.tok tk'))) (ev_local S₁.ns rfl).toI (S₁.upto.list hn).isList (by (first | lia | omega)) (by (first | lia | omega)) (by simpa using hvj)) fun tk'' => Calls.spliced_nil ⟨(S₁.upto.fn W.txt.f22).func, ?_⟩))))
    have S₂ := S₁.tok tk''
    refine sign_ok (S₂.upto.txt W.txt) (by show A.depth + 1 < _; (first | lia | omega)) fun td s₃ k₃ => st_store (S₂.kept k₃) fun s₄ S₄ => ?_
    -- told
    refine wpAny_execs_cons (wpAny_Assign_Name (w_callF (ev_g (G S₄) (v := .ref 35) rfl) fun tk => Calls.spliced_cons ?_))
    have S₅ := S₄.tok tk
    refine w_key S₅ W.key W.txt.lim (by show A.depth + 1 + 1 < _; (first | lia | omega)) (ev_local S₅.ns (by exact hmk)) (ev_prev (ev_local S₅.ns (by exact hmt)) (ev_sub (ev_local S₅.ns rfl).toI ev_int) (S₅.upto.list hal).isList (by (first | lia | omega)) (by (first | lia | omega)) (by rw [hlm]; exact hap)) fun q₁ d₁ s₆ S₆ => Calls.spliced_cons ?_
    refine w_key S₆ W.key W.txt.lim (by show A.depth + 1 + 1 < _; (first | lia | omega)) (ev_local S₆.ns (by exact hmk)) (ev_item (ev_local S₆.ns (by exact hmt)) (ev_local S₆.ns rfl).toI (S₆.upto.list hal).isList (by (first | lia | omega)) (by (first | lia | omega)) (by simpa using haj)) fun q₂ d₂ s₇ S₇ => Calls.spliced_nil ⟨(S₇.upto.fn W.txt.f3).func, ?_⟩
    obtain ⟨aj', haj', tJ⟩ := thg S₇.upto j hj
    obtain ⟨ap', hap', tP⟩ := thg S₇.upto _ hpj
    rw [haj] at haj'; cases haj'
    rw [hap] at hap'; cases hap'
    refine tw_keys (outer := envO cN s₀.heap.objs.size :: outer) (W.st S₇) (by show A.depth + 1 + 8 < _; (first | lia | omega)) (by show A.units + 3 + 120 < cLine; (first | lia | omega)) hh (B.deeper (env := envO cN s₀.heap.objs.size) S₇ rfl rfl) (KeyIn.led S₇ (x := q₁) (dx := d₁) (by simp) (by simp)) (KeyIn.led S₇ (x := q₂) (dx := d₂) (by simp) (by simp)) tP tJ fun tt s₈ kU => ?_
    have S₈ := ((((S₇.keptU kU).drop 0).drop 0).drop 0).drop 0
    rw [sign_eq hcn.1 hcn.2]
    refine st_store S₈ fun s₉ S₉ => ?_
    generalize hdue : ((if numOf fl ld (rows[prevI rows.length j]'hpj) > numOf fl ld rows[j] then (1 : Int) else 0) - (if numOf fl ld (rows[prevI rows.length j]'hpj) < numOf fl ld rows[j] then 1 else 0)) = due at S₉
    refine wpAny_execs_cons (wpAny_If (isTrue_or (wpAny_isTrue_Compare1 (wpAny_Call_NameR ((ev_b (G S₉) (v := .type "type") rfl).go fun tk => callWith_type1 (Calls.spliced_cons (EvV.go (s := { s₉ with toks := tk }) (ev_local S₉.ns rfl) fun tk' => Calls.spliced_nil (type_of (T := "int") rfl rfl ?_))))))))
    have S₁₀ := S₉.tok tk'
    refine (ev_b (G S₁₀) (v := .type "int") rfl).go fun tk => wpAny_isNot_self rfl (wpAny_truthy_bool ?_)
    rw [if_neg (by decide)]
    have S₁₁ := S₁₀.tok tk
    refine isTrue_or ((et_ne (i := due) (j := due) (ev_local S₁₁.ns rfl).toI (ev_local S₁₁.ns rfl).toI) _ _ _ rfl fun tk => ?_)
    rw [if_neg (by simp)]
    refine isTrue_or_nil ?_
    rw [if_neg (by decide)]
    have S₁₂ := S₁₁.tok tk
    refine wpAny_execs_nil ?_
    -- the writing
    refine wpAny_execs_cons (wpAny_If (isTrue_or (wpAny_isTrue_Compare1 (wpAny_Call_NameR ((ev_b (G S₁₂) (v := .type "type") rfl).go fun tk => callWith_type1 (Calls.spliced_cons (EvV.go (s := { s₉ with toks := tk }) (ev_item (ev_local S₁₂.ns (by exact hmw)) (ev_local S₁₂.ns rfl).toI (wri (R := [(I, KI)]) (S₁₂.tok tk)) (by (first | lia | omega)) (by (first | lia | omega)) (by simpa using hwj)) fun tk' => Calls.spliced_nil (type_of (T := "bytes") rfl rfl ?_))))))))
    have S₁₃ := S₁₂.tok tk'
    refine (ev_b (G S₁₃) (v := .type "bytes") rfl).go fun tk => wpAny_isNot_self rfl (wpAny_truthy_bool ?_)
    rw [if_neg (by decide)]
    have S₁₄ := S₁₃.tok tk
    refine isTrue_or (wpAny_isTrue_Compare1 ((ev_item (ev_local S₁₄.ns (by exact hmw)) (ev_local S₁₄.ns rfl).toI (wri (R := [(I, KI)]) S₁₄) (by (first | lia | omega)) (by (first | lia | omega)) (by simpa using hwj)).go fun tk => ?_))
    have S₁₅ := S₁₄.tok tk
    refine w_callF (ev_g (G S₁₅) (v := .ref 108) rfl) fun tk => Calls.spliced_cons ?_
    have S₁₆ := S₁₅.tok tk
    refine EvV.go (ev_item (ev_cell (c := cN) rfl (cell (R := [(I, KI)]) S₁₆)) (ev_local S₁₆.ns rfl).toI (S₁₆.upto.list hn).isList (by (first | lia | omega)) (by (first | lia | omega)) (by simpa using hvj)) fun tk => Calls.spliced_nil ⟨(S₁₆.upto.fn W.txt.f21).func, ?_⟩
    have S₁₇ := S₁₆.tok tk
    refine written_ok (S₁₇.upto.txt W.txt) (by show A.depth + 1 + 1 < _; (first | lia | omega)) hh fun tw s₁₈ k₁₈ => PySem.W.ne_bytes (wpAny_truthy_bool ?_)
    have S₁₈ := S₁₇.kept k₁₈
    rw [if_neg (by simp)]
    refine isTrue_or_nil ?_
    rw [if_neg (by decide)]
    refine wpAny_execs_nil ?_
    -- the writings compared
    refine wpAny_execs_cons (wpAny_If (wpAny_isTrue_Compare1 (w_callF (ev_g (G S₁₈) (v := .ref 35) rfl) fun tk => Calls.spliced_cons ?_)))
    have S₁₉ := S₁₈.tok tk
    refine EvV.go (ev_prev (ev_local S₁₉.ns (by exact hmw)) (ev_sub (ev_local S₁₉.ns rfl).toI ev_int) (wri (R := [(I, KI)]) S₁₉) (by (first | lia | omega)) (by (first | lia | omega)) (by rw [hwl]; exact hwp)) fun tk => Calls.spliced_cons ?_
    have S₂₀ := S₁₉.tok tk
    refine EvV.go (ev_item (ev_local S₂₀.ns (by exact hmw)) (ev_local S₂₀.ns rfl).toI (wri (R := [(I, KI)]) S₂₀) (by (first | lia | omega)) (by (first | lia | omega)) (by simpa using hwj)) fun tk => Calls.spliced_nil ⟨(S₂₀.upto.fn W.txt.f3).func, ?_⟩
    have S₂₁ := S₂₀.tok tk
    refine tw_bytes (S₂₁.upto.txt W.txt) (by show A.depth + 1 < _; (first | lia | omega)) fun tb s₂₂ k₂₂ => ?_
    have S₂₂ := S₂₁.kept k₂₂
    rw [sign_wr np nj, hdue]
    refine EvI.go (i := due) (ev_local S₂₂.ns rfl).toI fun t' tk => P.ne_int (wpAny_truthy_bool ?_)
    rw [if_neg (by simp)]
    exact wpAny_execs_nil (wpAny_execs_nil ⟨rfl, _, _, S₂₂.tok tk, hmt, hmk, hmw, rfl⟩)
  · obtain ⟨hmt, hmk, hmw, rfl⟩ := hJ
    exact k m' s' hmt hmk S₀
end
end Mine
end

section
set_option maxRecDepth 100000
namespace Mine
open PySem PyProof.Rows
open PySem.W (tabObj CodeHd kla_eval emptyDict hideAll hideAll_size hideAll_get of_hideAll hideAll_none)

section
variable {prog : Program} {w : World} {A : Around} {s₀ s : Shared} {m : Str → Option Value} {O : List (Addr × Ky)} {outer : List Env}
set_option maxHeartbeats 1000000 in
/-- the keys of the first and the third thing -/
theorem ord_last {E : Value → Shared → Prop} {Q : Flow → Shared → Prop} {cN th nb C cmp fa la : Addr} {fl : List Int} {ld : List (List Int)} {as : List Addr} {rows : List (List Int)} {vs : List Value}
    (S : St (outer.filterMap (·.frame)) s₀ (envO cN s₀.heap.objs.size).locals m O s) (W : Wld s₀.heap (outer.filterMap (·.frame)) C cmp fa la fl ld) (hroom : A.depth + 12 < recursionLimit) (hu : A.units + 150 < cLine) (hh : A.handled = none) (B : Frs A s₀.heap outer)
    (hmt : m "things" = some (.ref th)) (hmk : m "key" = some (.ref C)) (hc : (cN, .cell (some (.ref nb))) ∈ O) (hn : At s₀.heap nb (.list vs)) (hi : Ints vs (rows.map (numOf fl ld)))
    (hal : At s₀.heap th (.list (as.map .ref))) (hlen : as.length = rows.length) (hth : ∀ (i : Nat) a b, as[i]? = some a → rows[i]? = some b → ThingAt s₀.heap a (placesOf b) b i) (hr : ∀ b ∈ rows, b.length = 16 ∧ Bits b) (h2 : 2 < rows.length)
    (k : ∀ m' s', St (outer.filterMap (·.frame)) s₀ (envO cN s₀.heap.objs.size).locals m' O s' → Q (.ret (.bool true)) s') :
    wpAny (model prog w) (A.deeper (envO cN s₀.heap.objs.size)) (execs [subStm 23 4, subStm 23 5] (envO cN s₀.heap.objs.size)) Q E s := by
  have G : ∀ {m O s'}, St (outer.filterMap (·.frame)) s₀ s₀.heap.objs.size m O s' → Glb s'.heap := fun S' => S'.upto.glb W.txt.glb
  have thg : ∀ {s' : Shared} (u : UpTo s₀.heap s'.heap) (i : Nat) (hi : i < rows.length), ∃ a, (as.map Value.ref)[i]? = some (.ref a) ∧ Thg s'.heap a (placesOf rows[i]) rows[i] i := fun {s'} u i hi => by
    have hi' : i < as.length := by (first | lia | omega)
    have hb := hr _ (List.getElem_mem hi)
    refine ⟨as[i], by simp [hi'], u.thing (hth i _ _ (by simp [hi']) (by simp [hi])), placesOf_inc _, Nat.le_trans (placesOf_len _) (by decide), by (first | lia | omega), hb.2, fun p hp => ?_⟩
    obtain ⟨q, _, rfl, _⟩ := placesOf_mem.mp hp
    (first | lia | omega)
  have h0 : 0 < rows.length := by (first | lia | omega)
  obtain ⟨t0, hv0⟩ := hi.2 0 (numOf fl ld rows[0]) (by simp [h0])
  obtain ⟨t2, hv2⟩ := hi.2 2 (numOf fl ld rows[2]) (by simp [h2])
  have b0 := hr _ (List.getElem_mem h0)
  have b2 := hr _ (List.getElem_mem h2)
  have hcn := cmp_num W.ok b0.1 b2.1 b0.2 b2.2
  obtain ⟨a0, ha0, -⟩ := thg (s' := s₀) (.refl _) 0 h0
  obtain ⟨a2, ha2, -⟩ := thg (s' := s₀) (.refl _) 2 h2
  refine wpAny_execs_cons (wpAny_Assign_Name (wpAny_Compare1 (w_key S W.key W.txt.lim (by show A.depth + 1 + 1 < _; (first | lia | omega)) (ev_local S.ns hmk) (ev_item (ev_local S.ns hmt) ev_int (S.upto.list hal).isList (by decide) (by decide) (by simpa using ha0)) fun q₁ d₁ s₁ S₁ => w_key S₁ W.key W.txt.lim (by show A.depth + 1 + 1 < _; (first | lia | omega)) (ev_local S₁.ns hmk) (ev_item (ev_local S₁.ns hmt) ev_int (S₁.upto.list hal).isList (by decide) (by decide) (by simpa using ha2)) fun q₂ d₂ s₂ S₂ => ?_) (nm _ (by simp) (by simp))))
  obtain ⟨a0', ha0', tX⟩ := thg S₂.upto 0 h0
  obtain ⟨a2', ha2', tY⟩ := thg S₂.upto 2 h2
  rw [ha0] at ha0'; cases ha0'
  rw [ha2] at ha2'; cases ha2'
  show wpAny _ _ (richCompare .Eq (.ref q₁) (.ref q₂)) _ _ _
  refine keq_rich (outer := outer) (env := envO cN s₀.heap.objs.size) S₂ W (by show A.depth + 1 + 6 < _; (first | lia | omega)) (by show A.units + 3 + 110 < cLine; (first | lia | omega)) hh (B.deeper (env := envO cN s₀.heap.objs.size) S₂ rfl rfl) rfl (KeyIn.led S₂ (x := q₁) (dx := d₁) (by simp) (by simp)) (KeyIn.led S₂ (x := q₂) (dx := d₂) (by simp) (by simp)) tX tY fun s₃ kU => ?_
  have S₃ := ((((S₂.keptU kU).drop 0).drop 0).drop 0).drop 0
  have hb : (cmpOf fl ld (placesOf rows[0]) (placesOf rows[2]) rows[0] == 0) = (numOf fl ld rows[0] == numOf fl ld rows[2]) := by
    rw [Bool.eq_iff_iff, beq_iff_eq, beq_iff_eq]
    (first | lia | omega)
  rw [hb]
  refine st_store S₃ fun s₄ S₄ => ?_
  refine wpAny_execs_cons (wpAny_Return_some (BoolOp_and (wpAny_Compare1 (wpAny_Call_NameR ((ev_b (G S₄) (v := .type "type") rfl).go fun tk => callWith_type1 (Calls.spliced_cons (EvV.go (s := { s₄ with toks := tk }) (ev_local S₄.ns rfl) fun tk' => Calls.spliced_nil (type_of (T := "bool") rfl rfl ?_))))) (nm _ (by simp) (by simp)))))
  have S₅ := S₄.tok tk'
  refine (ev_b (G S₅) (v := .type "bool") rfl).go fun tk => wpAny_is_self rfl (wpAny_truthy_bool ?_)
  rw [if_pos rfl]
  have S₆ := S₅.tok tk
  refine BoolOp_one (wpAny_Compare1 ((ev_local S₆.ns rfl).go fun tk => ?_) (nm _ (by simp) (by simp)))
  have S₇ := S₆.tok tk
  have hcell := (S₇.led _ hc).isCell
  refine EvV.go (ev_eq (i := numOf fl ld rows[0]) (j := numOf fl ld rows[2]) (ev_item (ev_cell (c := cN) rfl hcell) ev_int (S₇.upto.list hn).isList (by decide) (by decide) (by simpa using hv0)).toI (ev_item (ev_cell (c := cN) rfl hcell) ev_int (S₇.upto.list hn).isList (by decide) (by decide) (by simpa using hv2)).toI) fun tk => eq_bool ?_
  have := k _ _ (S₇.tok tk)
  simpa using this

/-- the body of _law_ordered -/
theorem ordered_body {Q : Flow → Shared → Prop} {E : Value → Shared → Prop} {cN th nb C cmp fa la : Addr} {fl : List Int} {ld : List (List Int)} {rows : List (List Int)} {vs : List Value}
    (S : St (outer.filterMap (·.frame)) s₀ (envO cN s₀.heap.objs.size).locals (fun y => if y = "key" then some (.ref C) else if y = "things" then some (.ref th) else none) [(117, .obj (tabObj #[])), (cN, .cell (some (.ref nb)))] s) (W : Wld s₀.heap (outer.filterMap (·.frame)) C cmp fa la fl ld) (hroom : A.depth + 12 < recursionLimit) (hu : A.units + 150 < cLine) (hh : A.handled = none) (B : Frs A s₀.heap outer) (CH : CodeHd s₀.heap 119 117)
    (H : ThsAt s₀.heap th rows) (hr : ∀ b ∈ rows, b.length = 16 ∧ Bits b) (h2 : 2 < rows.length) (h64 : rows.length < 64) (hn : At s₀.heap nb (.list vs)) (hi : Ints vs (rows.map (numOf fl ld)))
    (k : ∀ m' O' ps s', St (outer.filterMap (·.frame)) s₀ (envO cN s₀.heap.objs.size).locals m' ((117, .obj (tabObj ps)) :: O') s' → Q (.ret (.bool true)) s') :
    wpAny (model prog w) (A.deeper (envO cN s₀.heap.objs.size)) (execs (bodyOf (stm 23)) (envO cN s₀.heap.objs.size)) Q E s := by
  obtain ⟨as, hal, hlen, hth⟩ := H
  have hnl : (rows.map (numOf fl ld)).length = rows.length := by simp
  show wpAny _ _ (execs [subStm 23 0, subStm 23 1, subStm 23 2, subStm 23 3, subStm 23 4, subStm 23 5] _) _ _ _
  refine wpAny_execs_cons (ord_writ S W.txt (by (first | lia | omega)) hh (by simp) hn hi (by (first | lia | omega)) (fun n hn => ?_) fun wl ws s₁ S iw => ?_)
  · obtain ⟨b, hb, rfl⟩ := List.mem_map.mp hn
    exact numOf_lt fl ld b (hr b hb).1
  have S := S.front 1 rfl
  refine wpAny_execs_cons (ord_order S W.txt CH (by (first | lia | omega)) hh (by simp) hn hi (by (first | lia | omega)) (by (first | lia | omega)) rfl hal (by (first | lia | omega)) fun D ps p zs s₂ hp hup iz S => ?_)
  rw [hnl] at hp hup
  refine wpAny_execs_cons (ord_test S W (by (first | lia | omega)) hu hh B rfl rfl rfl (.head _) hal hlen hth hr (by (first | lia | omega)) h64 hp hup iz fun s₃ S => ?_)
  refine wpAny_execs_cons (ord_for S W hroom hu hh B rfl rfl rfl (by simp) iw (by simp) hn hi hal hlen hth hr (by (first | lia | omega)) h64 fun m' s₄ hmt hmk S => ?_)
  refine ord_last S W hroom hu hh B hmt hmk (by simp) hn hi hal hlen hth hr h2 fun m'' s₅ S => ?_
  exact k _ _ _ _ (S.front 1 rfl)
end
end Mine
end

section
set_option maxRecDepth 100000
namespace Mine
open PySem PyProof.Rows
open PySem.W (tabObj CodeHd kla_eval emptyDict hideAll hideAll_size hideAll_get of_hideAll hideAll_none Frag)

section
variable {fs : List Addr} {s₀ s s' : Shared} {L : Addr} {m : Str → Option Value} {O : List (Addr × Ky)}
theorem upto_hide (h : Heap) (hs : List Addr) : UpTo (hideAll h hs) h := fun b o e => ⟨o.slots, of_hideAll _ e⟩
/-- the base is put where the run stands now; of the ledger these stay -/
theorem St.rebase (S : St [] s₀ L m O s) {O' : List (Addr × Ky)} (hO : O'.Sublist O) : St [] { s with heap := hideAll s.heap (L :: O'.map (·.1)) } L m O' s := by
  refine ⟨⟨s.heap, s.toks, rfl⟩, S.ns, fun b o q _ => of_hideAll _ q, fun b o q => ⟨o.slots, of_hideAll _ q⟩, fun p hp => S.led p (hO.subset hp), fun p hp => ⟨hideAll_none _ (.tail _ (List.mem_map_of_mem hp)), (S.fresh p (hO.subset hp)).2⟩, S.apart.sublist (hO.map _), hideAll_none _ (.head _), fun f hf => (nomatch hf)⟩
/-- what the old base holds, the new one holds -/
theorem St.rebased (S : St [] s₀ L m O s) {O' : List (Addr × Ky)} (hO : O'.Sublist O) : ∀ b o, s₀.heap.get? b = some o → (hideAll s.heap (L :: O'.map (·.1))).get? b = some o := fun b o q => by
  refine hideAll_get _ (S.keepsAll b o q) fun z => ?_
  rcases List.mem_cons.mp z with rfl | z
  · rw [S.above] at q; cases q
  · obtain ⟨p, hp, rfl⟩ := List.mem_map.mp z
    rw [(S.fresh p (hO.subset hp)).1] at q; cases q
/-- what the ledger speaks of and does not keep -/
theorem St.rebasedL (S : St [] s₀ L m O s) {O' : List (Addr × Ky)} (hO : O'.Sublist O) {a : Addr} {k : Ky} (h : (a, k) ∈ O) (hn : a ∉ O'.map (·.1)) : At (hideAll s.heap (L :: O'.map (·.1))) a k := by
  obtain ⟨o, ho, hk⟩ := S.led _ h
  refine ⟨o, hideAll_get _ ho fun z => ?_, hk⟩
  rcases List.mem_cons.mp z with z | z
  · exact (S.fresh _ h).2 z
  · exact hn z

/-- a dull object: a namespace or an empty table -/
def Dull (o : Obj) : Prop := (∃ es ep, o.data = .dict es ep) ∨ o.data = .fields #[]
def DullAt (h : Heap) (hs : List Addr) : Prop := ∀ p ∈ hs, ∀ o, h.get? p = some o → Dull o
section
variable {h : Heap} {hs : List Addr} (D : DullAt h hs)
include D
theorem dull_get {b : Addr} {o : Obj} (e : h.get? b = some o) (hn : ¬ Dull o) : (hideAll h hs).get? b = some o := hideAll_get _ e fun z => hn (D b z o e)
theorem dull_list {a : Addr} {vs : List Value} (x : At h a (.list vs)) : At (hideAll h hs) a (.list vs) := by
  obtain ⟨o, ho, hc, hn, n, hd⟩ := x
  refine ⟨o, dull_get D ho ?_, hc, hn, n, hd⟩
  rintro (⟨es, ep, z⟩ | z) <;> rw [hd] at z <;> cases z
theorem dull_cell {a : Addr} {v : Option Value} (x : h.IsCell a v) : (hideAll h hs).IsCell a v := by
  obtain ⟨o, ho, hd⟩ := x
  refine ⟨o, dull_get D ho ?_, hd⟩
  rintro (⟨es, ep, z⟩ | z) <;> rw [hd] at z <;> cases z
theorem dull_code {cd : Value} {q : Str} (x : h.CodeRec cd q) : (hideAll h hs).CodeRec cd q := by
  obtain ⟨c, o, vs, t, rfl, ho, hd, hv⟩ := x
  refine ⟨c, o, vs, t, rfl, dull_get D ho ?_, hd, hv⟩
  rintro (⟨es, ep, z⟩ | z)
  · rw [hd] at z; cases z
  · rw [hd] at z; cases z; simp at hv
theorem dull_fnC {a : Addr} {st : Stmt} {qn : Str} {c dV : Value} {cl : List (Str × Addr)} (x : FnC h a st qn c dV cl) : FnC (hideAll h hs) a st qn c dV cl := by
  obtain ⟨⟨o, pm, ct, doc, ho, hd⟩, hc⟩ := x
  refine ⟨⟨o, pm, ct, doc, dull_get D ho ?_, hd⟩, dull_code D hc⟩
  rintro (⟨es, ep, z⟩ | z) <;> rw [hd] at z <;> cases z
theorem dull_cmp {a fa la : Addr} (x : CmpAt h a fa la) : CmpAt (hideAll h hs) a fa la :=
  let ⟨qn, c, cS, cF, cL, st, qs, cs, p, q, r, u, v⟩ := x; ⟨qn, c, cS, cF, cL, st, qs, cs, dull_fnC D p, dull_cell D q, dull_cell D r, dull_fnC D u, dull_cell D v⟩
theorem dull_mach {fa la : Addr} {fl : List Int} {ld : List (List Int)} (x : MachAt h fa la fl ld) : MachAt (hideAll h hs) fa la fl ld := by
  obtain ⟨⟨vs, a, b⟩, as, c, d, e⟩ := x
  refine ⟨⟨vs, dull_list D a, b⟩, as, dull_list D c, d, fun i a' l p q => ?_⟩
  obtain ⟨vs, f, g⟩ := e i a' l p q
  exact ⟨vs, dull_list D f, g⟩
theorem dull_k {fs : List Addr} {C cmp : Addr} (x : KAt h fs C cmp) (hf : ∀ p ∈ hs, p ∈ fs) (fs' : List Addr) (hf' : ∀ p ∈ fs', p ∈ fs) : KAt (hideAll h hs) fs' C cmp := by
  obtain ⟨K, d, fI, fL, fG, fE, mc, cI, cL, cG, cE, a, b, c, e, f, g, i, j⟩ := x
  exact ⟨K, d, fI, fL, fG, fE, mc, cI, cL, cG, cE, fun p o q => hideAll_get _ (a p o q) fun z => c p o q (hf p z), b, fun p o q z => c p o q (hf' p z), dull_cell D e, dull_fnC D f, dull_fnC D g, dull_fnC D i, dull_fnC D j⟩
end

/-- a call that may turn the object P -/
theorem St.afterU {P : Addr} {k k' : Ky} (S : St fs s₀ L m ((P, k) :: O) s) (x : KeepsU (L :: fs) { s with heap := hideAll s.heap [P] } s') (hk : At s'.heap P k') : St fs s₀ L m ((P, k') :: O) s' := by
  have hP := S.fresh _ (.head _)
  have ap := S.apart
  rw [List.map_cons, List.nodup_cons] at ap
  obtain ⟨⟨h, tk, rfl⟩, a, b, c, d, e, f, g, i⟩ := S
  obtain ⟨h', tk', rfl, u, x⟩ := x
  have hid : ∀ b o, b ≠ P → h.get? b = some o → (hideAll h [P]).get? b = some o := fun b o n q => hideAll_get _ q (by simpa using n)
  have old : ∀ b o, s₀.heap.get? b = some o → b ≠ P := fun b o q z => by rw [z, hP.1] at q; cases q
  have nfs : ∀ x, s₀.heap.get? x = none → x ∉ fs := fun x q z => by obtain ⟨o, r⟩ := i x z; rw [q] at r; cases r
  refine ⟨⟨h', tk', rfl⟩, u.ns ?_, fun b' o q n => x _ _ (fun z => ?_) (hid _ _ (old _ _ q) (b b' o q n)), fun b' o q => ?_, fun p hp => ?_, fun p hp => ?_, f, g, i⟩
  · obtain ⟨oL, es, ep, ho, r⟩ := a
    exact ⟨oL, es, ep, hid _ _ (Ne.symm hP.2) ho, r⟩
  · rcases List.mem_cons.mp z with z | z
    · rw [z, g] at q; cases q
    · exact n z
  · obtain ⟨sl, y⟩ := c b' o q
    obtain ⟨sl', z⟩ := u _ _ (hid _ _ (old _ _ q) y)
    exact ⟨sl', z⟩
  · rcases List.mem_cons.mp hp with rfl | hp
    · exact hk
    · refine (d p (.tail _ hp)).keeps fun o q => x _ _ (fun z => ?_) (hid _ _ (fun z => ap.1 (List.mem_map.mpr ⟨p, hp, z⟩)) q)
      rcases List.mem_cons.mp z with z | z
      · exact (e p (.tail _ hp)).2 z
      · exact nfs _ (e p (.tail _ hp)).1 z
  · rcases List.mem_cons.mp hp with rfl | hp
    · exact hP
    · exact e p (.tail _ hp)
end

section
variable {prog : Program} {w : World} {A : Around} {s : Shared} {outer : List Env} {E Q : Value → Shared → Prop}
theorem ordered_ok {th nb C cmp fa la : Addr} {fl : List Int} {ld : List (List Int)} {rows : List (List Int)} {vs : List Value} (hP : s.heap.get? 117 = some (tabObj #[])) (h117 : 117 ∉ outer.filterMap (·.frame))
    (W : Wld (hideAll s.heap [117]) (outer.filterMap (·.frame)) C cmp fa la fl ld) (hroom : A.depth + 12 < recursionLimit) (hu : A.units + 150 < cLine) (hh : A.handled = none) (B : Frs A (hideAll s.heap [117]) outer) (CH : CodeHd (hideAll s.heap [117]) 119 117)
    (H : ThsAt (hideAll s.heap [117]) th rows) (hr : ∀ b ∈ rows, b.length = 16 ∧ Bits b) (h2 : 2 < rows.length) (h64 : rows.length < 64) (hn : At (hideAll s.heap [117]) nb (.list vs)) (hi : Ints vs (rows.map (numOf fl ld)))
    (k : ∀ ps s', KeepsU (outer.filterMap (·.frame)) { s with heap := hideAll s.heap [117] } s' → s'.heap.get? 117 = some (tabObj ps) → Q (.bool true) s') :
    wpAny (model prog w) A (call (.ref 120) [.ref th, .ref nb, .ref C]) Q E s := by
  have U := upto_hide s.heap [117]
  refine call_k (outer.filterMap (·.frame)) (fun f hf => let ⟨o, ho⟩ := B.old f hf; ⟨o, of_hideAll _ ho⟩) [("things", .ref th), ("numbers", .ref nb), ("key", .ref C)] (m := fun y => if y = "key" then some (.ref C) else if y = "things" then some (.ref th) else none) (cl := [("numbers", s.heap.objs.size + 1)]) (O := [(s.heap.objs.size + 1, .cell (some (.ref nb)))])
    (U.fn W.txt.f23) (U.noLimit W.txt.lim) (by (first | lia | omega)) rfl rfl rfl (fun s₁ S => ?_) (fun _ => rfl) ?_ ?_ rfl rfl rfl
  · have S := S.hide hP h117
    generalize s.heap.objs.size + 1 = cN at S ⊢
    have e : s.heap.objs.size = ({ s with heap := hideAll s.heap [117] } : Shared).heap.objs.size := (hideAll_size _ _).symm
    rw [e] at S ⊢
    refine ordered_body S W hroom hu hh B CH H hr h2 h64 hn hi fun m' O' ps s₂ S => ?_
    exact k ps s₂ S.keepsU (S.nth 0 rfl).get
  · intro p hp
    simp only [List.mem_cons, List.not_mem_nil, or_false] at hp
    rcases hp with rfl; rfl
  · intro x hx
    simp only [List.mem_cons, List.not_mem_nil, or_false] at hx
    rcases hx with rfl | rfl | rfl
    · exact .inl rfl
    · exact .inr ⟨rfl, rfl⟩
    · exact .inl rfl
end
end Mine
end

section
set_option maxRecDepth 100000
namespace Mine
open PySem PyProof.Rows

/-- the things as data -/
def thD (i : Int) (b : List Int) : PyData := .list [.list ((placesOf b).map PyData.int), .list (b.map PyData.int), .int i]
noncomputable def thsD : Nat → List (List Int) → List PyData
  | _, [] => []
  | k, b :: r => thD (k : Int) b :: thsD (k + 1) r
theorem thing_reads {h : Heap} {a : Addr} {b : List Int} {i : Int} (x : ThingAt h a (placesOf b) b i) : ∃ ad, Reads h (.ref a) (thD i b) ad := by
  obtain ⟨pa, ba, vp, vb, t, ⟨o, ho, hc, -, n, hd⟩, p2, p3, p4, p5⟩ := x
  exact ⟨_, .list ho hc hd (.cons (Reads.ints p2.isList p3) (.cons (Reads.ints p4.isList p5) (.cons (.int i t) .nil)))⟩
theorem things_reads {h : Heap} : ∀ (k : Nat) (as : List Addr) (rows : List (List Int)), as.length = rows.length → (∀ (i : Nat) a b, as[i]? = some a → rows[i]? = some b → ThingAt h a (placesOf b) b ((k + i : Nat) : Int)) → ∃ ad, ReadsAll h (as.map .ref) (thsD k rows) ad
  | k, [], [], _, _ => ⟨_, .nil⟩
  | k, [], _ :: _, h, _ => by simp at h
  | k, _ :: _, [], h, _ => by simp at h
  | k, a :: as, b :: rows, hl, hx => by
    obtain ⟨ad, h1⟩ := thing_reads (hx 0 a b rfl rfl)
    obtain ⟨bd, h2⟩ := things_reads (k + 1) as rows (by simpa using hl) (fun i a' b' ha hb => by
      have := hx (i + 1) a' b' (by simpa using ha) (by simpa using hb)
      rwa [show k + (i + 1) = k + 1 + i from by (first | lia | omega)] at this)
    exact ⟨_, .cons h1 h2⟩
theorem ThsAt.reads {h : Heap} {l : Addr} {rows : List (List Int)} (x : ThsAt h l rows) : ∃ ad, Reads h (.ref l) (.list (thsD 0 rows)) ad := by
  obtain ⟨as, ⟨o, ho, hc, -, n, hd⟩, hl, hx⟩ := x
  obtain ⟨ad, h1⟩ := things_reads 0 as rows hl (fun i a b ha hb => by simpa using hx i a b ha hb)
  exact ⟨_, .list ho hc hd (by simpa using h1)⟩
theorem thD_lay (i : Int) (b : List Int) : (thD i b).canLay0 = true := by
  simp [thD, PyData.canLay0, PyData.canLayAll0, PySem.W.ke_canLayAll0]
theorem thD_depth (i : Int) (b : List Int) : (thD i b).depth ≤ 2 := by
  simp [thD, PyData.depth, PyData.depthAll, PySem.W.ke_depthAll]
theorem thsD_lay : ∀ (rows : List (List Int)) (k : Nat), PyData.canLayAll0 (thsD k rows) = true
  | [], _ => rfl
  | b :: r, k => by simp [thsD, PyData.canLayAll0, thD_lay, thsD_lay r]
theorem thsD_depth : ∀ (rows : List (List Int)) (k : Nat), PyData.depthAll (thsD k rows) ≤ 2
  | [], _ => by simp [thsD, PyData.depthAll]
  | b :: r, k => by
    have h1 := thD_depth (k : Int) b
    have h2 := thsD_depth r (k + 1)
    simp only [thsD, PyData.depthAll]
    (first | lia | omega)
theorem thsD_shaped (rows : List (List Int)) : SeqAt.shaped (.list (thsD 0 rows)) = true := by
  have := thsD_depth rows 0
  simp [SeqAt.shaped, PyData.canLay0, PyData.depth, thsD_lay]
  (first | lia | omega)

section
variable {prog : Program} {w : World} {A : Around} {env : Env} {fs : List Addr} {s₀ s : Shared} {m : Str → Option Value} {O : List (Addr × Ky)} {E : Value → Shared → Prop}
/-- the same things are equal -/
theorem eq_things {a b : Addr} {rows : List (List Int)} {Q : Value → Shared → Prop} (ha : ThsAt s.heap a rows) (hb : ThsAt s.heap b rows) (hu : A.units + 64 < cLine) (k : Q (.bool true) s) : wpAny (model prog w) A (compareOp .Eq (.ref a) (.ref b)) Q E s := by
  obtain ⟨ad, ra⟩ := ha.reads
  obtain ⟨bd, rb⟩ := hb.reads
  have hsh := thsD_shaped rows
  refine eq_dataH ra rb hsh hsh hu ?_
  rw [SeqAt.eqv_refl _ (SeqAt.canLay_of_shaped hsh)]
  exact k

/-- two cells are set from a tuple -/
theorem x_unpack2C (i j : Nat) {n₁ n₂ : Str} {p₁ p₂ p₃ : Pos} {k₀} {t c₁ c₂ : Addr} {v₁ v₂ : Value} {u₁ u₂ : Option Value} {Q : Unit → Shared → Prop} (hh : A.handled = none) (S : St fs s₀ env.locals m O s) (ht : s.heap.IsTuple t #[v₁, v₂]) (hi : O[i]? = some (c₁, .cell u₁)) (hj : (O.set i (c₁, .cell (some v₁)))[j]? = some (c₂, .cell u₂))
    (k : ∀ s', St fs s₀ env.locals m ((O.set i (c₁, .cell (some v₁))).set j (c₂, .cell (some v₂))) s' → Q () s') (hc₁ : env.cells.lookup n₁ = some c₁) (hc₂ : env.cells.lookup n₂ = some c₂)
    (hk : env.scope.kind = .function := by rfl) (h₁ : env.kindOf n₁ = some .cell := by rfl) (h₂ : env.kindOf n₂ = some .cell := by rfl) :
    wpAny (model prog w) A (assign (.Tuple [.Name n₁ p₁, .Name n₂ p₂] k₀ p₃) env (.ref t)) Q E s := by
  refine wpAny_assign_Tuple hh ht rfl rfl fun h' hx => ?_
  have S' : St fs s₀ env.locals m O { s with heap := h' } := S.kept ⟨h', s.toks, rfl, fun b o q => hx b o (Nat.ne_of_lt (Heap.lt_size q)) q⟩
  show wpAny _ _ (assignInOrder [assign (.Name n₁ p₁) env, assign (.Name n₂ p₂) env] [v₁, v₂]) _ _ _
  refine wpAny_bind (wpAny_holding (wpAny_assign_Name (st_storeC i S' hi (fun s₁ S₁ => ?_) hc₁ hk h₁)))
  refine wpAny_bind (wpAny_holding (wpAny_assign_Name (st_storeC j S₁ hj (fun s₂ S₂ => ?_) hc₂ hk h₂)))
  exact wpAny_pure (k s₂ S₂)
end
end Mine
end

section
set_option maxRecDepth 100000
namespace Mine
open PySem PyProof.Rows
open PySem.W (tabObj CodeHd emptyDict hideAll hideAll_size hideAll_get of_hideAll hideAll_none Frag)

/-- none of these is a list -/
def NotL (h : Heap) (hs : List Addr) : Prop := ∀ p ∈ hs, ∀ o, h.get? p = some o → ∀ xs n, o.data ≠ .seq xs n
section
variable {h : Heap} {hs : List Addr} (D : NotL h hs)
include D
theorem notL_list {a : Addr} {vs : List Value} (x : At h a (.list vs)) : At (hideAll h hs) a (.list vs) := by
  obtain ⟨o, ho, hc, hn, n, hd⟩ := x
  exact ⟨o, hideAll_get _ ho fun z => D a z o ho _ _ hd, hc, hn, n, hd⟩
theorem notL_thing {a : Addr} {xs bits : List Int} {n : Int} (x : ThingAt h a xs bits n) : ThingAt (hideAll h hs) a xs bits n :=
  let ⟨pa, ba, vp, vb, t, p, q, r, u, v⟩ := x; ⟨pa, ba, vp, vb, t, notL_list D p, notL_list D q, r, notL_list D u, v⟩
theorem notL_ths {l : Addr} {rows : List (List Int)} (x : ThsAt h l rows) : ThsAt (hideAll h hs) l rows :=
  let ⟨as, a, b, c⟩ := x; ⟨as, notL_list D a, b, fun i x y hx hy => notL_thing D (c i x y hx hy)⟩
theorem notL_mach {fa la : Addr} {fl : List Int} {ld : List (List Int)} (x : MachAt h fa la fl ld) : MachAt (hideAll h hs) fa la fl ld := by
  obtain ⟨⟨vs, a, b⟩, as, c, d, e⟩ := x
  refine ⟨⟨vs, notL_list D a, b⟩, as, notL_list D c, d, fun i a' l p q => ?_⟩
  obtain ⟨vs, f, g⟩ := e i a' l p q
  exact ⟨vs, notL_list D f, g⟩
end
theorem St.rebaseK {s₀ s : Shared} {L : Addr} {m : Str → Option Value} {O : List (Addr × Ky)} (S : St [] s₀ L m O s) {O' : List (Addr × Ky)} (hO : O'.Sublist O) : Keeps s₀ { s with heap := hideAll s.heap (L :: O'.map (·.1)) } := by
  have := S.rebased hO
  obtain ⟨h, tk, rfl⟩ := S.same
  exact ⟨_, tk, rfl, this⟩
theorem Keeps.upto {s s' : Shared} (k : Keeps s s') : UpTo s.heap s'.heap := by
  obtain ⟨h, tk, rfl, x⟩ := k
  exact .of_keeps x

abbrev envW (c : Value) (cF cL L a : Addr) : Env := envC (stm 24) (nameOf (stm 24)) c [("leads", cL), ("flips", cF)] L a
abbrev T0 : Ky := .obj (tabObj #[])

section
variable {prog : Program} {w : World} {A : Around} {s₀ s : Shared} {m : Str → Option Value} {cF cL L a sc : Addr} {c : Value} {vs : List Value} {ns : List Int} {Q : Flow → Shared → Prop} {E : Value → Shared → Prop}
theorem law_A (S : St [] s₀ L m [(cL, .cell none), (cF, .cell none), (117, T0), (93, T0), (60, T0)] s) (hm : m "script" = some (.ref sc)) (T : Txt s₀.heap) (hroom : A.depth + 4 < recursionLimit) (hh : A.handled = none) (hs : s₀.heap.IsList sc vs.toArray) (hi : Ints vs ns) (hl : ns.length ≤ 100)
    (k : ∀ TH fa la m' s₁ s', Keeps s₀ s₁ → m' "script" = some (.ref sc) → m' "things" = some (.ref TH) → St [] s₁ L m' [(cL, .cell (some (.ref la))), (cF, .cell (some (.ref fa))), (117, T0), (93, T0), (60, T0)] s' → ThsAt s₁.heap TH (rowsOf ns) → MachAt s₁.heap fa la (flipsOf (toldOf ns)) (leadsOf (toldOf ns)) →
      wpAny (model prog w) (A.deeper (envW c cF cL L a)) (execs [subStm 24 2, subStm 24 3, subStm 24 4, subStm 24 5] (envW c cF cL L a)) Q E s') :
    wpAny (model prog w) (A.deeper (envW c cF cL L a)) (execs (bodyOf (stm 24)) (envW c cF cL L a)) Q E s := by
  show wpAny _ _ (execs [subStm 24 0, subStm 24 1, subStm 24 2, subStm 24 3, subStm 24 4, subStm 24 5] _) _ _ _
  have S : St [] s₀ (envW c cF cL L a).locals m [(cL, .cell none), (cF, .cell none), (117, T0), (93, T0), (60, T0)] s := S
  have G : ∀ {m O s'}, St [] s₀ L m O s' → Glb s'.heap := fun S' => S'.upto.glb T.glb
  refine wpAny_execs_cons (wpAny_Assign_Name (w_callF (ev_g (G S) (v := .ref 79) rfl) fun tk => Calls.spliced_cons (EvV.go (s := { s with toks := tk }) (ev_local S.ns hm) fun tk' => Calls.spliced_nil ⟨(S.upto.fn T.f16).func, ?_⟩)))
  have S := S.tok tk'
  refine things_ok (S.upto.txt T) (by show A.depth + 1 + 1 < _; (first | lia | omega)) hh (S.upto.isList hs) hi hl fun TH as R s₁ kk Md hT => ?_
  have S := S.with (S.kept kk) Md
  refine st_store S fun s₂ S => ?_
  refine wpAny_execs_cons (Assign_Tuple (w_callF (ev_g (G S) (v := .ref 84) rfl) fun tk => Calls.spliced_cons (EvV.go (s := { s₂ with toks := tk }) (ev_local S.ns (by exact hm)) fun tk' => Calls.spliced_nil ⟨(S.upto.fn T.f17).func, ?_⟩)))
  have S := S.tok tk'
  refine machine_ok (S.upto.txt T) (by show A.depth + 1 + 1 < _; (first | lia | omega)) hh (S.upto.isList hs) hi hl fun r fa la s₃ kk Md _ M => ?_
  have S := S.with (S.kept kk) Md
  have H : ThsAt s₃.heap TH (rowsOf ns) := ThsAt.of S (R := R) (by simp) (fun p hp => by simp [hp]) hT
  have ht : s₃.heap.IsTuple r #[.ref fa, .ref la] := by
    obtain ⟨o, ho, hc, hd, n, hdd⟩ := S.led _ (.head _)
    exact ⟨o, ho, hc, n, hdd⟩
  have hO : List.Sublist [(cL, Ky.cell none), (cF, .cell none), (117, T0), (93, T0), (60, T0)] ([(r, tupK [.ref fa, .ref la])] ++ ((TH, .list (as.map .ref)) :: R ++ [(cL, Ky.cell none), (cF, .cell none), (117, T0), (93, T0), (60, T0)])) := (List.sublist_append_right _ _).trans (List.sublist_append_right _ _)
  have D : NotL s₃.heap (L :: [(cL, Ky.cell none), (cF, .cell none), (117, T0), (93, T0), (60, T0)].map (·.1)) := fun p hp o ho xs n z => by
    have led := fun q hq => S.led q (hO.subset hq)
    rcases List.mem_cons.mp hp with rfl | hp
    · obtain ⟨oL, es, ep, hoL, hd, _⟩ := S.ns
      rw [show s₃.heap.get? p = some oL from hoL] at ho; cases ho
      rw [hd] at z; cases z
    · simp only [List.map_cons, List.map_nil, List.mem_cons, List.not_mem_nil, or_false] at hp
      rcases hp with rfl | rfl | rfl | rfl | rfl
      · obtain ⟨o', ho', hd⟩ := led (p, .cell none) (by simp)
        rw [show s₃.heap.get? p = some o' from ho'] at ho; cases ho
        rw [show o.data = .cell none from hd] at z; cases z
      · obtain ⟨o', ho', hd⟩ := led (p, .cell none) (by simp)
        rw [show s₃.heap.get? p = some o' from ho'] at ho; cases ho
        rw [show o.data = .cell none from hd] at z; cases z
      · have := (led (117, T0) (by simp)).get; rw [this] at ho; cases ho; cases z
      · have := (led (93, T0) (by simp)).get; rw [this] at ho; cases ho; cases z
      · have := (led (60, T0) (by simp)).get; rw [this] at ho; cases ho; cases z
  have S' := S.rebase hO
  have KK := S.rebaseK hO
  have H' := notL_ths D H
  have M' := notL_mach D M
  refine x_unpack2C 1 0 hh S' ht rfl rfl (fun s₄ S₄ => ?_) rfl rfl
  exact k TH fa la _ _ s₄ KK (by exact hm) rfl S₄ H' M'
end
end Mine
end

section
set_option maxRecDepth 100000
namespace Mine
open PySem PyProof.Rows
open PySem.W (tabObj CodeHd emptyDict hideAll hideAll_size hideAll_get of_hideAll hideAll_none Frag)

section
variable {prog : Program} {w : World} {A : Around} {s₁ s : Shared} {m : Str → Option Value} {cF cL L a sc TH fa la : Addr} {c : Value} {fl : List Int} {ld : List (List Int)} {rows : List (List Int)} {Q : Flow → Shared → Prop} {E : Value → Shared → Prop}
theorem law_B (S : St [] s₁ L m [(cL, .cell (some (.ref la))), (cF, .cell (some (.ref fa))), (117, T0), (93, T0), (60, T0)] s) (hms : m "script" = some (.ref sc)) (hmt : m "things" = some (.ref TH)) (T : Txt s₁.heap) (N : NoOpq s₁.heap) (C97 : CodeHd s₁.heap 97 93) (C64 : CodeHd s₁.heap 64 60) (hroom : A.depth + 4 < recursionLimit) (hh : A.handled = none)
    (H : ThsAt s₁.heap TH rows) (hr : ∀ b ∈ rows, b.length = 16 ∧ Bits b) (hl : rows.length ≤ 100) (M : MachAt s₁.heap fa la fl ld) (Ko : MachOk fl ld)
    (k : ∀ nl nv C cmp m' s₂ s', Keeps s₁ s₂ → m' "script" = some (.ref sc) → m' "things" = some (.ref TH) → m' "numbers" = some (.ref nl) → m' "key" = some (.ref C) → St [] s₂ L m' [(117, T0)] s' → Wld s₂.heap [] C cmp fa la fl ld → At s₂.heap nl (.list nv) → Ints nv (rows.map (numOf fl ld)) →
      (∃ ps, s₂.heap.get? 93 = some (tabObj ps)) → (∃ ps, s₂.heap.get? 60 = some (tabObj ps)) → wpAny (model prog w) (A.deeper (envW c cF cL L a)) (execs [subStm 24 4, subStm 24 5] (envW c cF cL L a)) Q E s') :
    wpAny (model prog w) (A.deeper (envW c cF cL L a)) (execs [subStm 24 2, subStm 24 3, subStm 24 4, subStm 24 5] (envW c cF cL L a)) Q E s := by
  have S : St [] s₁ (envW c cF cL L a).locals m [(cL, .cell (some (.ref la))), (cF, .cell (some (.ref fa))), (117, T0), (93, T0), (60, T0)] s := S
  have G : ∀ {m O s'}, St [] s₁ L m O s' → Glb s'.heap := fun S' => S'.upto.glb T.glb
  obtain ⟨as, hal, hlen, hth⟩ := id H
  have hlm : (as.map Value.ref).length = rows.length := by simp [hlen]
  refine wpAny_execs_cons (x_comp (src_list (items := as.map .ref) hh S (ev_local S.ns hmt) (S.upto.list hal).isList) (by (first | lia | omega)) (fun k ys O' => O' = [(cL, .cell (some (.ref la))), (cF, .cell (some (.ref fa))), (117, T0), (93, T0), (60, T0)] ∧ Ints ys ((rows.take k).map (numOf fl ld))) ⟨rfl, .nil⟩ (fun I D j j' ys F' O' s' S' J' => (S'.upto.list hal).isList) (fun I C D j v ys mC O' s' E' hj hv hJ hm S => ?_) fun nl nv O' s₂ S hJ _ => ?_)
  · obtain ⟨rfl, hy⟩ := hJ
    rw [hlm] at hj
    have hja : j < as.length := by (first | lia | omega)
    have hv' : v = .ref as[j] := by simpa [hja] using hv.symm
    subst hv'
    obtain ⟨pa, ba, vp, vb, t, a1, a2, a3, a4, a5⟩ := hth j as[j] rows[j] (by simp [hja]) (by simp [hj])
    have hb := hr _ (List.getElem_mem hj)
    rw [List.forIn_nil]
    refine wpAny_pure ?_
    rw [if_pos rfl]
    have hN := (S.nth 0 rfl).ns
    refine w_callF (ev_g (G S) (v := .ref 91) rfl) fun tk => Calls.spliced_cons (EvV.go (s := { s' with toks := tk }) (ev_item (ev_local hN hm) ev_int (S.upto.list a1).isList (by decide) (by decide) rfl) fun tk₁ => Calls.spliced_cons (EvV.go (s := { s' with toks := tk₁ }) (ev_cell (c := cF) rfl (S.led (cF, .cell (some (.ref fa))) (by simp)).isCell) fun tk₂ => Calls.spliced_cons (EvV.go (s := { s' with toks := tk₂ }) (ev_cell (c := cL) rfl (S.led (cL, .cell (some (.ref la))) (by simp)).isCell) fun tk₃ => Calls.spliced_nil ⟨(S.upto.fn T.f18).func, ?_⟩)))
    have S := S.tok tk₃
    refine number_ok (S.upto.fn T.f18) (S.upto.noLimit T.lim) (by show A.depth + 1 < _; (first | lia | omega)) hh (S.upto.list a4) a5 hb.2 (S.upto.mach M) Ko fun t s'' kk => ⟨_, S.kept kk, rfl, ?_⟩
    rw [List.take_succ_eq_append_getElem hj, List.map_append]
    exact hy.append (Ints.one _ _)
  obtain ⟨rfl, iy⟩ := hJ
  rw [hlm, List.take_length] at iy
  refine wpAny_execs_cons (wpAny_Assign_Name (w_callF (ev_g (G S) (v := .ref 65) rfl) fun tk => Calls.spliced_cons ?_))
  have S := S.tok tk
  refine w_callF (ev_g (G S) (v := .ref 98) rfl) fun tk => Calls.spliced_cons ?_
  have S := S.tok tk
  refine EvV.go (ev_cell (c := cF) rfl (S.led (cF, .cell (some (.ref fa))) (by simp)).isCell) fun tk => Calls.spliced_cons ?_
  have S := S.tok tk
  refine EvV.go (ev_cell (c := cL) rfl (S.led (cL, .cell (some (.ref la))) (by simp)).isCell) fun tk => Calls.spliced_nil ⟨(S.upto.fn T.f19).func, ?_⟩
  have S := (S.tok tk).front 4 rfl
  refine comparison_ok (fa := fa) (la := la) (S.upto.txt T) (by show A.depth + 1 < _; (first | lia | omega)) (CodeHd.upto S.upto C97) (S.nth 0 rfl).get fun cmp s₃ k₃ hnew Hc ⟨ps₁, hps₁⟩ => ?_
  have S := (S.after k₃ (.of_get hps₁)).front 5 rfl
  refine Calls.spliced_nil ⟨(S.upto.fn T.f12).func, ?_⟩
  have h60 : s₃.heap.get? 60 = some (tabObj #[]) := (S.nth 0 rfl).get
  refine ctk_ok (cmp := cmp) (S.upto.txt T) (S.upto.opq N) (by show A.depth + 1 + 1 < _; (first | lia | omega)) (CodeHd.upto S.upto C64) h60 fun C s₄ k₄ _ HK ⟨ps₂, hps₂⟩ => ?_
  have HK := HK [L, 117] fun f hf => by
    simp only [List.mem_cons, List.not_mem_nil, or_false] at hf
    rcases hf with rfl | rfl
    · obtain ⟨oL, es, ep, hoL, _⟩ := S.ns
      exact ⟨oL, hoL⟩
    · exact ⟨_, (S.led (117, T0) (by simp)).get⟩
  have D60 : DullAt s₃.heap [60] := fun p hp o ho => by
    simp only [List.mem_cons, List.not_mem_nil, or_false] at hp
    subst hp
    rw [h60] at ho; cases ho
    exact .inr rfl
  have Hc : CmpAt s₄.heap cmp fa la := by
    refine UpTo.cmp (UpTo.of_keeps fun b o e => ?_) (dull_cmp D60 Hc)
    obtain ⟨h', tk', rfl, kx⟩ := k₄
    refine kx b o (fun z => ?_) (of_hideAll _ e)
    rw [z, hideAll_none _ (.head _)] at e; cases e
  have S := S.after k₄ (.of_get hps₂)
  have hO : List.Sublist [(117, T0)] ((60, Ky.obj (tabObj ps₂)) :: (93, .obj (tabObj ps₁)) :: (nl, .list nv) :: (cL, .cell (some (.ref la))) :: (cF, .cell (some (.ref fa))) :: [(117, T0)]) := by simp
  have S : St [] s₁ (envW c cF cL L a).locals _ ((60, Ky.obj (tabObj ps₂)) :: (93, .obj (tabObj ps₁)) :: (nl, .list nv) :: (cL, .cell (some (.ref la))) :: (cF, .cell (some (.ref fa))) :: [(117, T0)]) s₄ := S
  have D : DullAt s₄.heap (L :: [(117, T0)].map (·.1)) := fun p hp o ho => by
    simp only [List.map_cons, List.map_nil, List.mem_cons, List.not_mem_nil, or_false] at hp
    rcases hp with rfl | rfl
    · obtain ⟨oL, es, ep, hoL, hd, _⟩ := S.ns
      rw [show s₄.heap.get? p = some oL from hoL] at ho; cases ho
      exact .inl ⟨es, ep, hd⟩
    · have := (S.led (117, T0) (by simp)).get; rw [this] at ho; cases ho
      exact .inr rfl
  have ne : ∀ i {b : Addr} {kk : Ky}, ((60, Ky.obj (tabObj ps₂)) :: (93, .obj (tabObj ps₁)) :: (nl, .list nv) :: (cL, .cell (some (.ref la))) :: (cF, .cell (some (.ref fa))) :: [(117, T0)])[i]? = some (b, kk) → i ≠ 5 → b ∉ [(117, T0)].map (·.1) := fun i b kk hb h5 z => by
    simp only [List.map_cons, List.map_nil, List.mem_cons, List.not_mem_nil, or_false] at z
    exact S.ne i 5 hb rfl h5 z
  have S' := S.rebase hO
  have KK := S.rebaseK hO
  have U := Keeps.upto KK
  have W' : Wld (hideAll s₄.heap (L :: [(117, T0)].map (·.1))) [] C cmp fa la fl ld :=
    ⟨U.txt T, dull_k D HK (by simp) [] (by simp), dull_cmp D Hc, U.mach M, Ko⟩
  have hnl := S.rebasedL hO (a := nl) (k := .list nv) (by simp) (ne 2 rfl (by decide))
  have h93 := (S.rebasedL hO (a := 93) (k := .obj (tabObj ps₁)) (by simp) (ne 1 rfl (by decide))).get
  have h60' := (S.rebasedL hO (a := 60) (k := .obj (tabObj ps₂)) (by simp) (ne 0 rfl (by decide))).get
  refine st_store S' fun s₅ S₅ => ?_
  exact k nl nv C cmp _ _ s₅ KK (by exact hms) (by exact hmt) rfl rfl S₅ W' hnl iy ⟨_, h93⟩ ⟨_, h60'⟩
end
end Mine
end

section
set_option maxRecDepth 100000
namespace Mine
open PySem PyProof.Rows
open PySem.W (tabObj CodeHd emptyDict hideAll hideAll_size hideAll_get of_hideAll hideAll_none Frag)

section
variable {prog : Program} {w : World} {A : Around} {s₂ s : Shared} {m : Str → Option Value} {cF cL L a sc TH fa la nl C cmp : Addr} {c : Value} {fl : List Int} {ld : List (List Int)} {vs nv : List Value} {ns : List Int} {Q : Flow → Shared → Prop} {E : Value → Shared → Prop}
theorem law_C (S : St [] s₂ L m [(117, T0)] s) (hms : m "script" = some (.ref sc)) (hmt : m "things" = some (.ref TH)) (hmn : m "numbers" = some (.ref nl)) (hmk : m "key" = some (.ref C)) (W : Wld s₂.heap [] C cmp fa la fl ld) (CH : CodeHd s₂.heap 119 117)
    (hroom : A.depth + 20 < recursionLimit) (hu : A.units + 200 < cLine) (hh : A.handled = none) (hfr : A.frames = some [])
    (H : ThsAt s₂.heap TH (rowsOf ns)) (hn : At s₂.heap nl (.list nv)) (ni : Ints nv ((rowsOf ns).map (numOf fl ld))) (hs : s₂.heap.IsList sc vs.toArray) (hi : Ints vs ns) (hl : ns.length ≤ 100)
    (k : ∀ m' O' ps s', St [] s₂ L m' ((117, .obj (tabObj ps)) :: O') s' → Q (.ret (.bool true)) s') :
    wpAny (model prog w) (A.deeper (envW c cF cL L a)) (execs [subStm 24 4, subStm 24 5] (envW c cF cL L a)) Q E s := by
  have S : St [] s₂ (envW c cF cL L a).locals m [(117, T0)] s := S
  have G : ∀ {m O s'}, St [] s₂ L m O s' → Glb s'.heap := fun S' => S'.upto.glb W.txt.glb
  obtain ⟨hr8, hr⟩ := rowsOf_ok ns
  have B₀ : Frs A s₂.heap [] := ⟨hfr, trivial⟩
  refine wpAny_execs_cons (wpAny_Assign_Name (BoolOp_and (w_callF (ev_g (G S) (v := .ref 103) rfl) fun tk => Calls.spliced_cons (EvV.go (s := { s with toks := tk }) (ev_local S.ns hmt) fun tk' => Calls.spliced_nil ⟨(S.upto.fn W.txt.f20).func, ?_⟩))))
  have S := S.tok tk'
  refine differ_ok (outer := [envW c cF cL L a]) (S.upto.txt W.txt) (by show A.depth + 1 + 3 < _; (first | lia | omega)) (by show A.units + 3 + 100 < cLine; (first | lia | omega)) hh (B₀.deeper (env := envW c cF cL L a) S rfl rfl) (S.upto.ths H) (by (first | lia | omega)) fun s₃ kU => wpAny_truthy_bool ?_
  rw [if_pos rfl]
  have S := S.keptU kU
  refine BoolOp_one (w_callF (ev_g (G S) (v := .ref 120) rfl) fun tk => Calls.spliced_cons (EvV.go (s := { s₃ with toks := tk }) (ev_local S.ns hmt) fun tk₁ => Calls.spliced_cons (EvV.go (s := { s₃ with toks := tk₁ }) (ev_local S.ns hmn) fun tk₂ => Calls.spliced_cons (EvV.go (s := { s₃ with toks := tk₂ }) (ev_local S.ns hmk) fun tk₃ => Calls.spliced_nil ⟨(S.upto.fn W.txt.f23).func, ?_⟩))))
  have S := S.tok tk₃
  have up : ∀ b o, s₂.heap.get? b = some o → (hideAll s₃.heap [117]).get? b = some o := fun b o q => hideAll_get _ (S.keepsAll b o q) fun z => by
    simp only [List.mem_cons, List.not_mem_nil, or_false] at z
    rw [z, (S.fresh (117, T0) (.head _)).1] at q; cases q
  have U : UpTo s₂.heap (hideAll s₃.heap [117]) := .of_keeps up
  have h117L : (117 : Nat) ≠ L := (S.fresh (117, T0) (.head _)).2
  have W' : Wld (hideAll s₃.heap [117]) [L] C cmp fa la fl ld := by
    refine ⟨U.txt W.txt, ?_, U.cmp W.cmp, U.mach W.mach, W.ok⟩
    obtain ⟨K, d, fI, fL, fG, fE, mc, cI, cL, cG, cE, x1, x2, x3, x4, x5, x6, x7, x8⟩ := W.key
    refine ⟨K, d, fI, fL, fG, fE, mc, cI, cL, cG, cE, fun p o q => up _ _ (x1 p o q), x2, fun p o q z => ?_, U.isCell x4, U.fnC x5, U.fnC x6, U.fnC x7, U.fnC x8⟩
    simp only [List.mem_cons, List.not_mem_nil, or_false] at z
    have := x1 p o q
    rw [z, show s₂.heap.get? L = none from S.above] at this; cases this
  have Bd := B₀.deeper (env := envW c cF cL L a) S rfl rfl
  have B' : Frs (A.deeper (envW c cF cL L a)) (hideAll s₃.heap [117]) [envW c cF cL L a] := by
    refine ⟨Bd.hfr, Bd.hff.of_keeps fun b o e hd => ⟨o, ?_, rfl⟩⟩
    refine hideAll_get _ e fun z => ?_
    simp only [List.mem_cons, List.not_mem_nil, or_false] at z
    subst z
    have := (S.nth 0 rfl).get
    rw [show s₃.heap.get? 117 = some (tabObj #[]) from this] at e; cases e
    exact hd _ rfl
  refine ordered_ok (outer := [envW c cF cL L a]) (S.nth 0 rfl).get (by show 117 ∉ [L]; simpa using h117L) W' (by show A.depth + 1 + 12 < _; (first | lia | omega)) (by show A.units + 3 + 150 < cLine; (first | lia | omega)) hh B' (CodeHd.upto U CH) (U.ths H) hr (by (first | lia | omega)) (by (first | lia | omega)) (U.list hn) ni fun ps s₄ kU' hps => ?_
  have S := S.afterU (k' := .obj (tabObj ps)) kU' (.of_get hps)
  refine st_store S fun s₅ S => ?_
  refine wpAny_execs_cons (wpAny_Return_some (BoolOp_and ((ev_local S.ns rfl).go fun tk => wpAny_truthy_bool ?_)))
  rw [if_pos rfl]
  have S := S.tok tk
  refine BoolOp_one (wpAny_Compare1 ((ev_local S.ns (by exact hmt)).go fun tk => ?_) (nm _ (by simp) (by simp)))
  have S := S.tok tk
  refine w_callF (ev_g (G S) (v := .ref 79) rfl) fun tk => Calls.spliced_cons ?_
  have S := S.tok tk
  refine EvV.go (ev_local S.ns (by exact hms)) fun tk => Calls.spliced_nil ⟨(S.upto.fn W.txt.f16).func, ?_⟩
  have S := S.tok tk
  refine things_ok (S.upto.txt W.txt) (by show A.depth + 1 + 1 < _; (first | lia | omega)) hh (S.upto.isList hs) hi hl fun T2 as R s₆ kk Md hT => ?_
  have S := S.with (S.kept kk) Md
  have H2 : ThsAt s₆.heap T2 (rowsOf ns) := ThsAt.of S (R := R) (by simp) (fun p hp => by simp [hp]) hT
  refine eq_things (S.upto.ths H) H2 (by show A.units + 3 + 64 < cLine; (first | lia | omega)) ?_
  exact k _ _ ps _ (S.sub (O' := [(117, .obj (tabObj ps))]) (List.sublist_append_right _ _))
end
end Mine
end

section
set_option maxRecDepth 100000
namespace Mine
open PySem PyProof.Rows
open PySem.W (tabObj CodeHd)

theorem Keeps.both {s₁ s₂ s₃ : Shared} (a : Keeps s₁ s₂) (b : Keeps s₂ s₃) : Keeps s₁ s₃ := by
  obtain ⟨h, tk, rfl, x⟩ := a
  obtain ⟨h', tk', rfl, y⟩ := b
  exact ⟨h', tk', rfl, fun b o e => y b o (x b o e)⟩

/-- the law's body -/
theorem law_ok {prog : Program} {w : World} {A : Around} {s₀ s : Shared} {m : Str → Option Value} {cF cL L a sc : Addr} {c : Value} {vs : List Value} {ns : List Int} {Q : Flow → Shared → Prop} {E : Value → Shared → Prop}
    (S : St [] s₀ L m [(cL, .cell none), (cF, .cell none), (117, T0), (93, T0), (60, T0)] s) (hm : m "script" = some (.ref sc)) (T : Txt s₀.heap) (N : NoOpq s₀.heap) (C119 : CodeHd s₀.heap 119 117) (C97 : CodeHd s₀.heap 97 93) (C64 : CodeHd s₀.heap 64 60)
    (hroom : A.depth + 20 < recursionLimit) (hu : A.units + 200 < cLine) (hh : A.handled = none) (hfr : A.frames = some []) (hs : s₀.heap.IsList sc vs.toArray) (hi : Ints vs ns) (hl : ns.length ≤ 100)
    (k : ∀ s', Keeps s₀ s' → (∃ ps, s'.heap.get? 117 = some (tabObj ps)) → (∃ ps, s'.heap.get? 93 = some (tabObj ps)) → (∃ ps, s'.heap.get? 60 = some (tabObj ps)) → Q (.ret (.bool true)) s') :
    wpAny (model prog w) (A.deeper (envW c cF cL L a)) (execs (bodyOf (stm 24)) (envW c cF cL L a)) Q E s := by
  obtain ⟨hr8, hr⟩ := rowsOf_ok ns
  refine law_A S hm T (by (first | lia | omega)) hh hs hi hl fun TH fa la m₁ s₁ s₂ K₁ hms hmt S₁ H M => ?_
  have U₁ := Keeps.upto K₁
  refine law_B S₁ hms hmt (U₁.txt T) (U₁.opq N) (CodeHd.upto U₁ C97) (CodeHd.upto U₁ C64) (by (first | lia | omega)) hh H hr (by (first | lia | omega)) M (machOk _) fun nl nv C cmp m₂ s₃ s₄ K₂ hms hmt hmn hmk S₂ W hn ni h93 h60 => ?_
  have U₂ := Keeps.upto K₂
  refine law_C S₂ hms hmt hmn hmk W (CodeHd.upto U₂ (CodeHd.upto U₁ C119)) hroom hu hh hfr (U₂.ths H) hn ni (U₂.isList (U₁.isList hs)) hi hl fun m' O' ps s' S₃ => ?_
  obtain ⟨p93, h93⟩ := h93
  obtain ⟨p60, h60⟩ := h60
  exact k s' (Keeps.both (Keeps.both K₁ K₂) S₃.keeps) ⟨ps, (S₃.nth 0 rfl).get⟩ ⟨p93, S₃.keepsAll _ _ h93⟩ ⟨p60, S₃.keepsAll _ _ h60⟩
end Mine
end

section
set_option maxRecDepth 100000
set_option maxHeartbeats 8000000
namespace Mine
open PySem PySem.W PyProof.Rows

/-- what of the top the law's proof looks at, by address -/
def kent (P : Params) (x : Str) (t : Tok) (v : Value) : DictEntry := { hash := PyData.keyHash P x, key := .str x t, val := v }
def kents (P : Params) : Array DictEntry := #[kent P "__name__" 165 (.str "law_nq0035_01" 274), kent P "__doc__" 166 (.none), kent P "__package__" 167 (.none), kent P "__loader__" 168 (.builtin "__main__.__loader__#opaque"), kent P "__spec__" 169 (.none), kent P "__annotations__" 170 (.ref 6), kent P "__builtins__" 171 (.ref 4), kent P "__file__" 173 (.str "/claim/cut.py" 172), kent P "__cached__" 174 (.none), kent P "_wall" 193 (.ref 21), kent P "sorted_list_difference" 209 (.ref 28), kent P "three_way_cmp" 217 (.ref 35), kent P "_buffer" 227 (.ref 42), kent P "_NO_SEP" 228 (.ref 43), kent P "b2a_hex" 239 (.ref 51), kent P "hexlify" 240 (.ref 51), kent P "b16encode" 249 (.ref 58), kent P "cmp_to_key" 260 (.ref 65), kent P "_initial_missing" 261 (.ref 66), kent P "reduce" 273 (.ref 74), kent P "_law_things" 281 (.ref 79), kent P "_law_machine" 287 (.ref 84), kent P "_law_number" 299 (.ref 91), kent P "_law_comparison" 311 (.ref 98), kent P "_law_differ" 317 (.ref 103), kent P "_law_written" 323 (.ref 108), kent P "_law_sign" 331 (.ref 115), kent P "_law_ordered" 337 (.ref 120), kent P "law" 343 (.ref 125)]
def kglob (P : Params) : Obj := { cls := .type "dict", data := .dict (kents P) 29 }
def kfn (n : Nat) (c : Addr) (md : Str) (t : Tok) (d : Value) : Obj := { cls := .type "function", data := .func { fdOf (stm n) (.ref c) (.str md t) with defaults := d } }
def kco (x : Str) (t : Tok) (ln na : Int) (r : Addr) (v v' : Value) (c : Addr) (u : Tok) : Obj :=
  { cls := .type "code", data := .fields #[.str x t, .str x (t + 1), .str "/claim/cut.py" (t + 2), .int ln 0, .int na 0, .int 0 0, .int 0 0, .int 3 0, .ref r, .bool true, .int 181 0, .ref (r + 1), .none, v, v', .ref c, .int u 0, .int ln 0, .str "/claim/cut.py" (u + 1)] }
def kk (P : Params) : Frag := (nat_lit 2, { cls := .none, data := .dict #[] 0 }) ::
  (nat_lit 3, kglob P) ::
  (nat_lit 27, kco "sorted_list_difference" 196 5 2 22 (.ref 24) (.ref 25) 26 207) ::
  (nat_lit 28, kfn 2 27 "cpy313.unittest.util" 194 (.none)) ::
  (nat_lit 34, kco "three_way_cmp" 210 37 2 29 (.ref 31) (.ref 32) 33 215) ::
  (nat_lit 35, kfn 3 34 "cpy313.unittest.util" 194 (.none)) ::
  (nat_lit 41, kco "_buffer" 220 40 1 36 (.ref 38) (.ref 39) 40 225) ::
  (nat_lit 42, kfn 5 41 "binascii" 218 (.none)) ::
  (nat_lit 44, { cls := .type "tuple", data := .seq #[.ref 43, .int 1 229] 0 }) ::
  (nat_lit 50, kco "b2a_hex" 230 48 3 45 (.ref 47) (.ref 48) 49 237) ::
  (nat_lit 51, kfn 7 50 "binascii" 218 (.ref 44)) ::
  (nat_lit 57, kco "b16encode" 243 66 1 52 (.ref 54) (.ref 55) 56 247) ::
  (nat_lit 58, kfn 10 57 "cpy313.base64" 241 (.none)) ::
  (nat_lit 64, kco "cmp_to_key" 252 69 1 59 (.ref 61) (.ref 62) 63 258) ::
  (nat_lit 65, kfn 12 64 "cpy313.functools" 250 (.none)) ::
  (nat_lit 67, { cls := .type "tuple", data := .seq #[.ref 66] 0 }) ::
  (nat_lit 73, kco "reduce" 262 95 3 68 (.ref 70) (.ref 71) 72 271) ::
  (nat_lit 74, kfn 14 73 "cpy313.functools" 250 (.ref 67)) ::
  (nat_lit 78, kco "_law_things" 276 108 1 75 (.none) (.none) 77 279) ::
  (nat_lit 79, kfn 16 78 "law_nq0035_01" 274 (.none)) ::
  (nat_lit 83, kco "_law_machine" 282 117 1 80 (.none) (.none) 82 285) ::
  (nat_lit 84, kfn 17 83 "law_nq0035_01" 274 (.none)) ::
  (nat_lit 90, kco "_law_number" 288 122 3 85 (.ref 87) (.ref 88) 89 297) ::
  (nat_lit 91, kfn 18 90 "law_nq0035_01" 274 (.none)) ::
  (nat_lit 97, kco "_law_comparison" 300 129 2 92 (.ref 94) (.ref 95) 96 309) ::
  (nat_lit 98, kfn 19 97 "law_nq0035_01" 274 (.none)) ::
  (nat_lit 102, kco "_law_differ" 312 145 1 99 (.none) (.none) 101 315) ::
  (nat_lit 103, kfn 20 102 "law_nq0035_01" 274 (.none)) ::
  (nat_lit 107, kco "_law_written" 318 154 1 104 (.none) (.none) 106 321) ::
  (nat_lit 108, kfn 21 107 "law_nq0035_01" 274 (.none)) ::
  (nat_lit 114, kco "_law_sign" 324 157 2 109 (.ref 111) (.ref 112) 113 329) ::
  (nat_lit 115, kfn 22 114 "law_nq0035_01" 274 (.none)) ::
  (nat_lit 119, kco "_law_ordered" 332 159 3 116 (.none) (.none) 118 335) ::
  (nat_lit 120, kfn 23 119 "law_nq0035_01" 274 (.none)) ::
  (nat_lit 125, kfn 24 124 "law_nq0035_01" 274 (.none)) :: []
def kas : List Addr := [2, 3, 27, 28, 34, 35, 41, 42, 44, 50, 51, 57, 58, 64, 65, 67, 73, 74, 78, 79, 83, 84, 90, 91, 97, 98, 102, 103, 107, 108, 114, 115, 119, 120, 125]
theorem kas_eq : ∀ P, kas = (kk P).map (·.1) := fun _ => by kernel_rfl
end Mine
end

section
set_option maxRecDepth 100000
set_option maxHeartbeats 4000000
namespace Mine
open PySem PyProof.Rows
open PySem.W (tabObj CodeHd Frag)

theorem lookup_mem {α : Type} : ∀ {l : List (Str × α)} {x : Str} {v : α}, l.lookup x = some v → (x, v) ∈ l
  | [], _, _, h => by cases h
  | (y, u) :: r, x, v, h => by
    rw [List.lookup_cons] at h
    by_cases e : x = y
    · subst e; simp at h; subst h; exact .head _
    · have e' : (x == y) = false := by simpa using e
      rw [e'] at h
      exact .tail _ (lookup_mem h)

theorem f3_of {P : Params} {h : Heap} {mg : Str → Option Value} (X : (kk P).In h) (g : h.Ns 3 mg) : ∀ x, nsFind (kents P) x = mg x := by
  obtain ⟨o3, es, ep, e3, d3, k3, f3⟩ := g
  rw [show h.get? 3 = some (kglob P) from X 3 _ rfl] at e3
  obtain rfl := Option.some.inj e3
  have d : Data.dict (kents P) 29 = .dict es ep := d3
  cases d
  exact f3
theorem gs_of {P : Params} {mg : Str → Option Value} (f3 : ∀ x, nsFind (kents P) x = mg x) : ∀ p ∈ globs, mg p.1 = some p.2 := by
  unfold globs
  iterate 19 refine List.forall_mem_cons.mpr ⟨(f3 _).symm.trans rfl, ?_⟩
  exact fun _ h => nomatch h
theorem bs_of {P : Params} {mg mb : Str → Option Value} (f3 : ∀ x, nsFind (kents P) x = mg x) (bb : ∀ x : Str, x ≠ "__name__" → mb x = bootBuiltins x) : ∀ p ∈ blts, mg p.1 = none ∧ mb p.1 = some p.2 := by
  unfold blts
  iterate 14 refine List.forall_mem_cons.mpr ⟨⟨(f3 _).symm.trans rfl, (bb _ (by decide)).trans (by kernel_rfl)⟩, ?_⟩
  exact fun _ h => nomatch h

/-- the text stands in the heap -/
theorem txt_of {P : Params} {h : Heap} {mg mb : Str → Option Value} {p : Program} {loose : List Str} {mean : ExcName → Option Value} (X : (kk P).In h) (T : Top p loose mean mg mb h) (hsm : ∃ o, h.get? 1 = some o ∧ o.data ≠ .fields #[]) : Txt h ∧ NoOpq h := by
  have f3 := f3_of X T.g
  obtain ⟨bm, ob, b1, b2, b3, b4, b5, b6⟩ := T.bmain
  have hbm : bm = 4 := by
    have z : some (Value.ref 4) = some (Value.ref bm) := (f3 "__builtins__").trans b1
    cases z; rfl
  have G : GlbF h mg mb bm ob 274 := 
    ⟨T.g, T.b, fun x v hx => gs_of f3 _ (lookup_mem hx), fun x v hx => bs_of f3 T.builtins _ (lookup_mem hx), (f3 "__name__").symm.trans rfl, b1, b2, by rw [hbm]; decide, b3, b4, b5, b6, hsm⟩
  refine ⟨⟨⟨mg, mb, bm, ob, 274, G⟩, T.nolimit, ?_, ?_, ?_, ?_, ?_, ?_, ?_, ?_, ?_, ?_, ?_, ?_, ?_, ?_, ?_, ?_, ?_⟩, ?_⟩
  · exact ⟨⟨_, _, X 28 _ rfl, rfl⟩, 27, _, _, _, rfl, X 27 _ rfl, rfl, rfl⟩
  · exact ⟨⟨_, _, X 35 _ rfl, rfl⟩, 34, _, _, _, rfl, X 34 _ rfl, rfl, rfl⟩
  · exact ⟨⟨_, _, X 42 _ rfl, rfl⟩, 41, _, _, _, rfl, X 41 _ rfl, rfl, rfl⟩
  · exact ⟨⟨_, _, _, _, X 51 _ rfl, rfl⟩, 50, _, _, _, rfl, X 50 _ rfl, rfl, rfl⟩
  · exact ⟨_, _, _, X 44 _ rfl, rfl⟩
  · exact ⟨⟨_, _, X 58 _ rfl, rfl⟩, 57, _, _, _, rfl, X 57 _ rfl, rfl, rfl⟩
  · exact ⟨⟨_, _, X 65 _ rfl, rfl⟩, 64, _, _, _, rfl, X 64 _ rfl, rfl, rfl⟩
  · exact ⟨⟨_, _, _, _, X 74 _ rfl, rfl⟩, 73, _, _, _, rfl, X 73 _ rfl, rfl, rfl⟩
  · exact ⟨_, _, X 67 _ rfl, rfl⟩
  · exact ⟨⟨_, _, X 79 _ rfl, rfl⟩, 78, _, _, _, rfl, X 78 _ rfl, rfl, rfl⟩
  · exact ⟨⟨_, _, X 84 _ rfl, rfl⟩, 83, _, _, _, rfl, X 83 _ rfl, rfl, rfl⟩
  · exact ⟨⟨_, _, X 91 _ rfl, rfl⟩, 90, _, _, _, rfl, X 90 _ rfl, rfl, rfl⟩
  · exact ⟨⟨_, _, X 98 _ rfl, rfl⟩, 97, _, _, _, rfl, X 97 _ rfl, rfl, rfl⟩
  · exact ⟨⟨_, _, X 103 _ rfl, rfl⟩, 102, _, _, _, rfl, X 102 _ rfl, rfl, rfl⟩
  · exact ⟨⟨_, _, X 108 _ rfl, rfl⟩, 107, _, _, _, rfl, X 107 _ rfl, rfl, rfl⟩
  · exact ⟨⟨_, _, X 115 _ rfl, rfl⟩, 114, _, _, _, rfl, X 114 _ rfl, rfl, rfl⟩
  · exact ⟨⟨_, _, X 120 _ rfl, rfl⟩, 119, _, _, _, rfl, X 119 _ rfl, rfl, rfl⟩
  · exact ⟨fun _ => none, ⟨_, _, _, X 2 _ rfl, rfl, fun e he => by simp at he, fun _ => rfl⟩, rfl⟩
end Mine
end

section
set_option maxRecDepth 100000
set_option maxHeartbeats 4000000
namespace Mine
open PySem PyProof.Rows
open PySem.W (tabObj CodeHd Frag GoodW GrownAll ghostOf ofPy)

abbrev tabs : List (Addr × Addr) := [(119, 117), (97, 93), (64, 60)]
theorem law_end {w : World} {s₁ : Shared} {h₁ : Heap} {tk₁ : Nat} {m mg mb : Str → Option Value} {sc fa : Addr} {cd : Value} {vs : List Value} {ns : List Int} {o1 o2 : Obj} {p p' : Program} {loose loose' : List Str} {mean mean' : ExcName → Option Value} {mg' mb' : Str → Option Value} {P : Params} {cl : Str → Option Addr} {mn : ExcName → Option Value} {E : Value → Shared → Prop}
    (F : Fr (ghostOf s₁.heap tabs) s₁.heap.objs.size h₁ m) (N : News (ghostOf s₁.heap tabs) s₁.heap.objs.size h₁ [(s₁.heap.objs.size + 1 + 1, o1), (s₁.heap.objs.size + 1, o2), (117, tabObj #[]), (93, tabObj #[]), (60, tabObj #[])])
    (c1 : o1.data = .cell none) (c2 : o2.data = .cell none) (hm : m "script" = some (.ref sc)) (X : (kk P).In (ghostOf s₁.heap tabs)) (T : Top p loose mean mg mb (ghostOf s₁.heap tabs)) (TT : Top p' loose' mean' mg' mb' s₁.heap) (hp : importsNone p' = true)
    (C119 : CodeHd (ghostOf s₁.heap tabs) 119 117) (C97 : CodeHd (ghostOf s₁.heap tabs) 97 93) (C64 : CodeHd (ghostOf s₁.heap tabs) 64 60) (l0 : 117 < s₁.heap.objs.size ∧ 93 < s₁.heap.objs.size ∧ 60 < s₁.heap.objs.size) (hg : s₁.gens = #[])
    (hl : (ghostOf s₁.heap tabs).IsList sc vs.toArray) (hi : IntsAre vs ns) (hlen : ¬ ((63 : Nat) : Int) < (ns.length : Int)) :
    wpAny (model Challenge.rw_nq0035_01.row.prog w) (callerA.deeper (envW cd (s₁.heap.objs.size + 1) (s₁.heap.objs.size + 1 + 1) s₁.heap.objs.size fa)) (execs (bodyOf (stm 24)) (envW cd (s₁.heap.objs.size + 1) (s₁.heap.objs.size + 1 + 1) s₁.heap.objs.size fa))
      (fun f s' => GoodW Challenge.rw_nq0035_01.row.claim cl mn [ofPy (PyData.list (List.map PyData.int ns))] { s₁ with heap := ghostOf s₁.heap tabs } (.ok (.ret (match f with | .ret v => v | _ => .none))) s' ∧ GrownAll tabs s'.heap) E
      { heap := h₁, gens := s₁.gens, drawn := s₁.drawn, toks := tk₁, os := s₁.os } := by
  obtain ⟨mm, ⟨om, ems, epm, hom, hdm, _⟩, _⟩ := (TT.seer hp).mods
  obtain ⟨Tx, No⟩ := txt_of X T ⟨om, PySem.W.ghost_ne hom (by decide), by rw [hdm]; intro z; cases z⟩
  have nd : ∀ n : Nat, 117 < n → [n + 1 + 1, n + 1, 117, 93, 60].Nodup := fun n h => by
    simp only [List.nodup_cons, List.mem_cons, List.not_mem_nil, or_false, not_false_eq_true, List.nodup_nil, and_true]
    omega
  have S : St [] { s₁ with heap := ghostOf s₁.heap tabs } s₁.heap.objs.size m [(s₁.heap.objs.size + 1 + 1, .cell none), (s₁.heap.objs.size + 1, .cell none), (117, T0), (93, T0), (60, T0)] { heap := h₁, gens := s₁.gens, drawn := s₁.drawn, toks := tk₁, os := s₁.os } := by
    refine ⟨⟨h₁, tk₁, rfl⟩, F.ns, fun b o e _ => F.keep b o e, fun b o e => ⟨o.slots, F.keep b o e⟩, fun p hp => ?_, fun p hp => ?_, ?_, Heap.get?_none_of_le F.above, fun f hf => (nomatch hf)⟩
    · simp only [List.mem_cons, List.not_mem_nil, or_false] at hp
      rcases hp with rfl | rfl | rfl | rfl | rfl
      · exact ⟨o1, (N (s₁.heap.objs.size + 1 + 1, o1) (.head _)).1, c1⟩
      · exact ⟨o2, (N (s₁.heap.objs.size + 1, o2) (.tail _ (.head _))).1, c2⟩
      · exact .of_get (N (117, tabObj #[]) (by simp)).1
      · exact .of_get (N (93, tabObj #[]) (by simp)).1
      · exact .of_get (N (60, tabObj #[]) (by simp)).1
    · simp only [List.mem_cons, List.not_mem_nil, or_false] at hp
      rcases hp with rfl | rfl | rfl | rfl | rfl
      · have := (N (s₁.heap.objs.size + 1 + 1, o1) (.head _)).2; exact ⟨this.2, this.1⟩
      · have := (N (s₁.heap.objs.size + 1, o2) (.tail _ (.head _))).2; exact ⟨this.2, this.1⟩
      · have := (N (117, tabObj #[]) (by simp)).2; exact ⟨this.2, this.1⟩
      · have := (N (93, tabObj #[]) (by simp)).2; exact ⟨this.2, this.1⟩
      · have := (N (60, tabObj #[]) (by simp)).2; exact ⟨this.2, this.1⟩
    · exact nd _ l0.1
  refine law_ok S hm Tx No C119 C97 C64 (by decide) (by decide) rfl rfl hl (.of_are hi) (by omega) fun s' K h117 h93 h60 => ?_
  obtain ⟨h', tk', rfl, kx⟩ := K
  refine ⟨⟨.inl ⟨.bool true, .bool true, [], rfl, fun _ => rfl, .bool true, PySem.W.postW_of (X := true) rfl (PySem.W.w_eq_bool (k := true) (l := true) (PySem.W.w_res rfl) PySem.W.w_lit) rfl, fun _ => ⟨List.nodup_nil, fun a ha => (nomatch ha)⟩⟩, kx, rfl, hg⟩, ?_⟩
  exact ⟨h117, h93, h60, trivial⟩

/-- the text's defs and constants as the head sees them, and the names that it leaves open -/
def vw : Program := { PySem.Challenge.pw_nq0035_01 with main := { PySem.Challenge.pw_nq0035_01.main with body := [stm 0, stm 2, stm 3, stm 5, stm 6, stm 8, stm 10, stm 12, stm 13, stm 16, stm 17, stm 18, stm 19, stm 20, stm 21, stm 22, stm 23, stm 24] } }
def lo : List Str := ["_NO_SEP", "b2a_hex", "hexlify", "_initial_missing", "reduce"]
open PySem.W in
/-- the top ends, and what stands in the heap behind it -/
theorem left : LeftO PySem.Challenge.rw_nq0035_01.row.toRowW.prog vw lo (fun s => xlAt vw [] s && recOk PySem.Challenge.rw_nq0035_01.row.toRowW.records s) (Hook.obs (kmHook kk kas kas_eq [117, 93, 60])) (Hook.val (kmHook kk kas kas_eq [117, 93, 60])) 1364 := fun w => by kernel_rfl

theorem law_holds : PySem.Challenge.rw_nq0035_01.Holds := by
  open PySem.W in
  w_on
  o_law
  refine holds_open (q := vw) (loose := lo) (XP := XL vw []) (YP := Hook.says (kmHook kk kas kas_eq [117, 93, 60])) left (Hook.of (kmHook kk kas kas_eq [117, 93, 60])) (Hook.keeps (kmHook kk kas kas_eq [117, 93, 60])) (fun s e => xl_of s (Bool.and_eq_true_iff.mp e).1) XL.keeps (by rfl) (by rfl) (by rfl) (fun s e => recFacts_of (Bool.and_eq_true_iff.mp e).2) (by rfl) (by assumption) (by decide +kernel) ⟨rfl, rfl, rfl, rfl, rfl, by decide +kernel⟩ ?hw ?hc
  case hw => w_witness2
  w_strict (k_go0; (all_goals try k_fold); exact law_end (by assumption) (by assumption) (by assumption) (by assumption) rfl (by assumption) (by assumption) (by assumption) (by decide) (by assumption) (by assumption) (by assumption) (by assumption) (by assumption) (by assumption) (by assumption) (by assumption))
end Mine
end

theorem PySem.Challenge.cw_nq0035_01_holds : PySem.Challenge.rw_nq0035_01.Holds :=
  Mine.law_holds
