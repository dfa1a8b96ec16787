import PyProof.Rows.All
import Wide.All
import OpenK.AllK
import Wide.FinOn
import PySem.Challenge.RW_us0020_01
set_option Elab.async false
local macro_rules | `(tactic| walk_at "lk") => `(tactic| first | assumption | rfl | (refine (if_neg (by decide)).trans ?_; walk_at "lk"))
section
open PySem PySem.W PyProof.Rows
namespace Mine
set_option maxRecDepth 100000 in
set_option maxHeartbeats 8000000 in
open_top hd for PySem.Challenge.rw_us0020_01
end Mine
end
section
open PySem PySem.W PySem.Spec PySem.Calls PyProof.Rows
namespace Mine
/-- 3 facts at once -/
inductive Al3 (p1 p2 p3 : Prop) : Prop
  | mk (h1 : p1) (h2 : p2) (h3 : p3) : Al3 p1 p2 p3
/-- 4 facts at once -/
inductive Al4 (p1 p2 p3 p4 : Prop) : Prop
  | mk (h1 : p1) (h2 : p2) (h3 : p3) (h4 : p4) : Al4 p1 p2 p3 p4
/-- 5 facts at once -/
inductive Al5 (p1 p2 p3 p4 p5 : Prop) : Prop
  | mk (h1 : p1) (h2 : p2) (h3 : p3) (h4 : p4) (h5 : p5) : Al5 p1 p2 p3 p4 p5
/-- 6 facts at once -/
inductive Al6 (p1 p2 p3 p4 p5 p6 : Prop) : Prop
  | mk (h1 : p1) (h2 : p2) (h3 : p3) (h4 : p4) (h5 : p5) (h6 : p6) : Al6 p1 p2 p3 p4 p5 p6
/-- 7 facts at once -/
inductive Al7 (p1 p2 p3 p4 p5 p6 p7 : Prop) : Prop
  | mk (h1 : p1) (h2 : p2) (h3 : p3) (h4 : p4) (h5 : p5) (h6 : p6) (h7 : p7) : Al7 p1 p2 p3 p4 p5 p6 p7
/-- 8 facts at once -/
inductive Al8 (p1 p2 p3 p4 p5 p6 p7 p8 : Prop) : Prop
  | mk (h1 : p1) (h2 : p2) (h3 : p3) (h4 : p4) (h5 : p5) (h6 : p6) (h7 : p7) (h8 : p8) : Al8 p1 p2 p3 p4 p5 p6 p7 p8
/-- 9 facts at once -/
inductive Al9 (p1 p2 p3 p4 p5 p6 p7 p8 p9 : Prop) : Prop
  | mk (h1 : p1) (h2 : p2) (h3 : p3) (h4 : p4) (h5 : p5) (h6 : p6) (h7 : p7) (h8 : p8) (h9 : p9) : Al9 p1 p2 p3 p4 p5 p6 p7 p8 p9
/-- 10 facts at once -/
inductive Al10 (p1 p2 p3 p4 p5 p6 p7 p8 p9 p10 : Prop) : Prop
  | mk (h1 : p1) (h2 : p2) (h3 : p3) (h4 : p4) (h5 : p5) (h6 : p6) (h7 : p7) (h8 : p8) (h9 : p9) (h10 : p10) : Al10 p1 p2 p3 p4 p5 p6 p7 p8 p9 p10
/-- 11 facts at once -/
inductive Al11 (p1 p2 p3 p4 p5 p6 p7 p8 p9 p10 p11 : Prop) : Prop
  | mk (h1 : p1) (h2 : p2) (h3 : p3) (h4 : p4) (h5 : p5) (h6 : p6) (h7 : p7) (h8 : p8) (h9 : p9) (h10 : p10) (h11 : p11) : Al11 p1 p2 p3 p4 p5 p6 p7 p8 p9 p10 p11
/-- 13 facts at once -/
inductive Al13 (p1 p2 p3 p4 p5 p6 p7 p8 p9 p10 p11 p12 p13 : Prop) : Prop
  | mk (h1 : p1) (h2 : p2) (h3 : p3) (h4 : p4) (h5 : p5) (h6 : p6) (h7 : p7) (h8 : p8) (h9 : p9) (h10 : p10) (h11 : p11) (h12 : p12) (h13 : p13) : Al13 p1 p2 p3 p4 p5 p6 p7 p8 p9 p10 p11 p12 p13
/-- 14 facts at once -/
inductive Al14 (p1 p2 p3 p4 p5 p6 p7 p8 p9 p10 p11 p12 p13 p14 : Prop) : Prop
  | mk (h1 : p1) (h2 : p2) (h3 : p3) (h4 : p4) (h5 : p5) (h6 : p6) (h7 : p7) (h8 : p8) (h9 : p9) (h10 : p10) (h11 : p11) (h12 : p12) (h13 : p13) (h14 : p14) : Al14 p1 p2 p3 p4 p5 p6 p7 p8 p9 p10 p11 p12 p13 p14
/-- 16 facts at once -/
inductive Al16 (p1 p2 p3 p4 p5 p6 p7 p8 p9 p10 p11 p12 p13 p14 p15 p16 : Prop) : Prop
  | mk (h1 : p1) (h2 : p2) (h3 : p3) (h4 : p4) (h5 : p5) (h6 : p6) (h7 : p7) (h8 : p8) (h9 : p9) (h10 : p10) (h11 : p11) (h12 : p12) (h13 : p13) (h14 : p14) (h15 : p15) (h16 : p16) : Al16 p1 p2 p3 p4 p5 p6 p7 p8 p9 p10 p11 p12 p13 p14 p15 p16
/-- 2 things at once -/
inductive Ex2 {α1 α2 : Type} (P : α1 → α2 → Prop) : Prop
  | mk (a1 : α1) (a2 : α2) (h : P a1 a2) : Ex2 P
/-- 3 things at once -/
inductive Ex3 {α1 α2 α3 : Type} (P : α1 → α2 → α3 → Prop) : Prop
  | mk (a1 : α1) (a2 : α2) (a3 : α3) (h : P a1 a2 a3) : Ex3 P
/-- 4 things at once -/
inductive Ex4 {α1 α2 α3 α4 : Type} (P : α1 → α2 → α3 → α4 → Prop) : Prop
  | mk (a1 : α1) (a2 : α2) (a3 : α3) (a4 : α4) (h : P a1 a2 a3 a4) : Ex4 P
/-- 5 things at once -/
inductive Ex5 {α1 α2 α3 α4 α5 : Type} (P : α1 → α2 → α3 → α4 → α5 → Prop) : Prop
  | mk (a1 : α1) (a2 : α2) (a3 : α3) (a4 : α4) (a5 : α5) (h : P a1 a2 a3 a4 a5) : Ex5 P
/-- 6 things at once -/
inductive Ex6 {α1 α2 α3 α4 α5 α6 : Type} (P : α1 → α2 → α3 → α4 → α5 → α6 → Prop) : Prop
  | mk (a1 : α1) (a2 : α2) (a3 : α3) (a4 : α4) (a5 : α5) (a6 : α6) (h : P a1 a2 a3 a4 a5 a6) : Ex6 P
/-- 7 things at once -/
inductive Ex7 {α1 α2 α3 α4 α5 α6 α7 : Type} (P : α1 → α2 → α3 → α4 → α5 → α6 → α7 → Prop) : Prop
  | mk (a1 : α1) (a2 : α2) (a3 : α3) (a4 : α4) (a5 : α5) (a6 : α6) (a7 : α7) (h : P a1 a2 a3 a4 a5 a6 a7) : Ex7 P
/-- 8 things at once -/
inductive Ex8 {α1 α2 α3 α4 α5 α6 α7 α8 : Type} (P : α1 → α2 → α3 → α4 → α5 → α6 → α7 → α8 → Prop) : Prop
  | mk (a1 : α1) (a2 : α2) (a3 : α3) (a4 : α4) (a5 : α5) (a6 : α6) (a7 : α7) (a8 : α8) (h : P a1 a2 a3 a4 a5 a6 a7 a8) : Ex8 P
/-- 9 things at once -/
inductive Ex9 {α1 α2 α3 α4 α5 α6 α7 α8 α9 : Type} (P : α1 → α2 → α3 → α4 → α5 → α6 → α7 → α8 → α9 → Prop) : Prop
  | mk (a1 : α1) (a2 : α2) (a3 : α3) (a4 : α4) (a5 : α5) (a6 : α6) (a7 : α7) (a8 : α8) (a9 : α9) (h : P a1 a2 a3 a4 a5 a6 a7 a8 a9) : Ex9 P
/-- 10 things at once -/
inductive Ex10 {α1 α2 α3 α4 α5 α6 α7 α8 α9 α10 : Type} (P : α1 → α2 → α3 → α4 → α5 → α6 → α7 → α8 → α9 → α10 → Prop) : Prop
  | mk (a1 : α1) (a2 : α2) (a3 : α3) (a4 : α4) (a5 : α5) (a6 : α6) (a7 : α7) (a8 : α8) (a9 : α9) (a10 : α10) (h : P a1 a2 a3 a4 a5 a6 a7 a8 a9 a10) : Ex10 P
/-- 11 things at once -/
inductive Ex11 {α1 α2 α3 α4 α5 α6 α7 α8 α9 α10 α11 : Type} (P : α1 → α2 → α3 → α4 → α5 → α6 → α7 → α8 → α9 → α10 → α11 → Prop) : Prop
  | mk (a1 : α1) (a2 : α2) (a3 : α3) (a4 : α4) (a5 : α5) (a6 : α6) (a7 : α7) (a8 : α8) (a9 : α9) (a10 : α10) (a11 : α11) (h : P a1 a2 a3 a4 a5 a6 a7 a8 a9 a10 a11) : Ex11 P
/-- 12 things at once -/
inductive Ex12 {α1 α2 α3 α4 α5 α6 α7 α8 α9 α10 α11 α12 : Type} (P : α1 → α2 → α3 → α4 → α5 → α6 → α7 → α8 → α9 → α10 → α11 → α12 → Prop) : Prop
  | mk (a1 : α1) (a2 : α2) (a3 : α3) (a4 : α4) (a5 : α5) (a6 : α6) (a7 : α7) (a8 : α8) (a9 : α9) (a10 : α10) (a11 : α11) (a12 : α12) (h : P a1 a2 a3 a4 a5 a6 a7 a8 a9 a10 a11 a12) : Ex12 P

/-- heap grows -/
noncomputable def Kp (h h' : Heap) : Prop := ∀ b o, h.get? b = some o → h'.get? b = some o
theorem Kp.refl (h : Heap) : Kp h h := fun _ _ e => e
theorem Kp.trans {a b c : Heap} (x : Kp a b) (y : Kp b c) : Kp a c := fun _ _ e => y _ _ (x _ _ e)
theorem Kp.push (h : Heap) (o : Obj) : Kp h (h.push o) := fun _ _ e => Heap.get?_push_of_some o e

noncomputable abbrev Led := List (Addr × (Obj → Prop))
structure St (h₀ h : Heap) (led : Led) : Prop where
  keep : Kp h₀ h
  cell : ∀ p ∈ led, ∃ o, h.get? p.1 = some o ∧ p.2 o
  new : ∀ p ∈ led, h₀.get? p.1 = none
  nd : led.Pairwise fun p q => p.1 ≠ q.1

theorem St.ext {h₀ h h' : Heap} {led : Led} (S : St h₀ h led) (k : Kp h h') : St h₀ h' led :=
  ⟨S.keep.trans k, fun p hp => let ⟨o, e, q⟩ := S.cell p hp; ⟨o, k _ _ e, q⟩, S.new, S.nd⟩
theorem St.start (h : Heap) : St h h [] := ⟨Kp.refl _, fun _ hp => (nomatch hp), fun _ hp => (nomatch hp), List.Pairwise.nil⟩
theorem St.none_of_ge {h₀ h : Heap} {led : Led} (S : St h₀ h led) {a : Addr} (ha : h.objs.size ≤ a) : h₀.get? a = none := by
  cases e : h₀.get? a with
  | none => rfl
  | some o => exact absurd (Heap.lt_size (S.keep _ _ e)) (Nat.not_lt.mpr ha)
theorem St.lt {h₀ h : Heap} {led : Led} (S : St h₀ h led) {p : Addr × (Obj → Prop)} (hp : p ∈ led) : p.1 < h.objs.size :=
  let ⟨_, e, _⟩ := S.cell p hp; Heap.lt_size e
theorem St.push {h₀ h : Heap} {led : Led} (S : St h₀ h led) {o : Obj} (P : Obj → Prop) (hp : P o) (hf : o.isFreed = false := by rfl) : St h₀ (h.push o) ((h.objs.size, P) :: led) := by
  refine ⟨S.keep.trans (Kp.push h o), fun p hp' => ?_, fun p hp' => ?_, ?_⟩
  · rcases List.mem_cons.mp hp' with rfl | m
    · exact ⟨o, Heap.get?_push_size _ hf, hp⟩
    · let ⟨o', e, q⟩ := S.cell p m
      exact ⟨o', Heap.get?_push_of_some _ e, q⟩
  · rcases List.mem_cons.mp hp' with rfl | m
    · exact S.none_of_ge (Nat.le_refl _)
    · exact S.new p m
  · exact List.pairwise_cons.mpr ⟨fun q hq e => Nat.lt_irrefl _ (by have := S.lt hq; rw [← e] at this; exact this), S.nd⟩
/-- a new object made inside a step that keeps all: at address a, absent before -/
theorem St.fresh {h₀ h h' : Heap} {led : Led} (S : St h₀ h led) (k : Kp h h') {a : Addr} {P : Obj → Prop} (ha : h.get? a = none) (hp : ∃ o, h'.get? a = some o ∧ P o) : St h₀ h' ((a, P) :: led) := by
  have S' := S.ext k
  refine ⟨S'.keep, fun p hp' => ?_, fun p hp' => ?_, ?_⟩
  · rcases List.mem_cons.mp hp' with rfl | m
    · exact hp
    · exact S'.cell p m
  · rcases List.mem_cons.mp hp' with rfl | m
    · cases e : h₀.get? a with
      | none => rfl
      | some o => have := S.keep _ _ e; rw [ha] at this; cases this
    · exact S.new p m
  · refine List.pairwise_cons.mpr ⟨fun q hq e => ?_, S.nd⟩
    obtain ⟨o, eo, _⟩ := S.cell q hq
    have e' : a = q.1 := e
    rw [← e', ha] at eo; cases eo
theorem St.sub {h₀ h : Heap} {led led' : Led} (S : St h₀ h led) (hs : led'.Sublist led) : St h₀ h led' :=
  ⟨S.keep, fun p hp => S.cell p (hs.subset hp), fun p hp => S.new p (hs.subset hp), S.nd.sublist hs⟩
theorem St.tail {h₀ h : Heap} {p : Addr × (Obj → Prop)} {led : Led} (S : St h₀ h (p :: led)) : St h₀ h led := S.sub (List.sublist_cons_self ..)
theorem St.ne {h₀ h : Heap} {led : Led} (S : St h₀ h led) {i j : Nat} {p q : Addr × (Obj → Prop)} (hi : led[i]? = some p) (hj : led[j]? = some q) (hij : i ≠ j) : p.1 ≠ q.1 := by
  have := S.nd
  rw [List.pairwise_iff_getElem] at this
  obtain ⟨hi', rfl⟩ := List.getElem?_eq_some_iff.mp hi
  obtain ⟨hj', rfl⟩ := List.getElem?_eq_some_iff.mp hj
  rcases Nat.lt_or_gt_of_ne hij with h | h
  · exact this i j hi' hj' h
  · exact (this j i hj' hi' h).symm
theorem St.getL {h₀ h : Heap} {led : Led} (S : St h₀ h led) (i : Nat) {a : Addr} {P : Obj → Prop} (hi : led[i]? = some (a, P)) : ∃ o, h.get? a = some o ∧ P o := S.cell (a, P) (List.mem_of_getElem? hi)
/-- change of one owned object -/
theorem St.upd {h₀ h h' : Heap} {led : Led} (S : St h₀ h led) (i : Nat) {a : Addr} {P P' : Obj → Prop} (hi : led[i]? = some (a, P)) (hs : Heap.ExtBut a h h') (hp : ∃ o, h'.get? a = some o ∧ P' o) : St h₀ h' (led.set i (a, P')) := by
  have ha := S.new (a, P) (List.mem_of_getElem? hi)
  obtain ⟨hi', hi2⟩ := List.getElem?_eq_some_iff.mp hi
  refine ⟨fun b o e => hs b o (fun q => by rw [q, ha] at e; cases e) (S.keep _ _ e), fun p hp' => ?_, fun p hp' => ?_, ?_⟩
  · obtain ⟨j, hj, rfl⟩ := List.getElem_of_mem hp'
    rw [List.length_set] at hj
    by_cases hij : i = j
    · subst hij; simpa using hp
    · rw [List.getElem_set_ne hij]
      obtain ⟨o, e, q⟩ := S.cell led[j] (List.getElem_mem hj)
      exact ⟨o, hs _ _ (S.ne (i := j) (j := i) (List.getElem?_eq_getElem hj) hi (Ne.symm hij)) e, q⟩
  · obtain ⟨j, hj, rfl⟩ := List.getElem_of_mem hp'
    rw [List.length_set] at hj
    by_cases hij : i = j
    · subst hij; simpa using ha
    · rw [List.getElem_set_ne hij]; exact S.new _ (List.getElem_mem hj)
  · rw [List.pairwise_iff_getElem]
    intro x y hx hy hxy
    rw [List.length_set] at hx hy
    have key : ∀ z (hz : z < led.length), ((led.set i (a, P'))[z]'(by rw [List.length_set]; exact hz)).1 = led[z].1 := by
      intro z hz
      by_cases hz' : i = z
      · subst hz'; simp [hi2]
      · rw [List.getElem_set_ne hz']
    rw [key x hx, key y hy]
    exact (List.pairwise_iff_getElem.mp S.nd) x y hx hy hxy

noncomputable def oNs (m : Str → Option Value) (o : Obj) : Prop := ∃ es ep, o.data = .dict es ep ∧ StrKeys es ∧ ∀ name, nsFind es name = m name
noncomputable def oCell (v : Option Value) (o : Obj) : Prop := o.data = .cell v
noncomputable def oList (xs : List Value) (o : Obj) : Prop := ∃ n, o = { cls := .type "list", data := .seq xs.toArray n }
theorem ns_of {h : Heap} {a : Addr} {m} (x : ∃ o, h.get? a = some o ∧ oNs m o) : h.Ns a m := let ⟨o, e, es, ep, r⟩ := x; ⟨o, es, ep, e, r⟩
theorem of_ns {h : Heap} {a : Addr} {m} (x : h.Ns a m) : ∃ o, h.get? a = some o ∧ oNs m o := let ⟨o, es, ep, e, r⟩ := x; ⟨o, e, es, ep, r⟩
theorem cell_of {h : Heap} {a : Addr} {v} (x : ∃ o, h.get? a = some o ∧ oCell v o) : h.IsCell a v := x
theorem list_of {h : Heap} {a : Addr} {xs} (x : ∃ o, h.get? a = some o ∧ oList xs o) : h.IsList a xs.toArray := let ⟨o, e, n, q⟩ := x; ⟨o, e, by rw [q], n, by rw [q]⟩

/-- what stands of the module's names -/
structure TopQ (mg mb : Str → Option Value) (h : Heap) : Prop where
  g : h.Ns mainGlobals mg
  b : h.Ns builtinsNs mb
  nolimit : h.NoLimit
  nodigits : ∃ mc, h.Ns cStatics mc ∧ mc "sys.int_max_str_digits" = none
  builtins : ∀ x : Str, x ≠ "__name__" → mb x = bootBuiltins x
  bmain : ∃ bm ob, mg "__builtins__" = some (.ref bm) ∧ bm ≠ builtinsNs ∧ h.get? bm = some ob ∧ ob.cls = .type "module" ∧ ob.dict = some builtinsNs ∧ ob.data = .plain
theorem topQ_of {p : Program} {loose : List Str} {mean : ExcName → Option Value} {mg mb : Str → Option Value} {h : Heap} (T : Top p loose mean mg mb h) : TopQ mg mb h := ⟨T.g, T.b, T.nolimit, T.nodigits, T.builtins, T.bmain⟩
theorem TopQ.keeps {mg mb : Str → Option Value} {h h' : Heap} (T : TopQ mg mb h) (hk : Kp h h') : TopQ mg mb h' :=
  ⟨T.g.keeps hk, T.b.keeps hk, T.nolimit.keeps hk, let ⟨mc, h1, h2⟩ := T.nodigits; ⟨mc, h1.keeps hk, h2⟩, T.builtins,
    let ⟨bm, ob, a, b, c, d⟩ := T.bmain; ⟨bm, ob, a, b, hk _ _ c, d⟩⟩
/-- the ground: what stands of the top -/
structure Bs (w : World) (h : Heap) : Prop where
  K : (hd.heap_39 w.params).In h
  T : ∃ mg mb, TopQ mg mb h
  cS : CodeHd h 228 224
  cP : CodeHd h 214 212
theorem Bs.ext {w : World} {h h' : Heap} (B : Bs w h) (k : Kp h h') : Bs w h' := ⟨B.K.keeps k, let ⟨mg, mb, T⟩ := B.T; ⟨mg, mb, T.keeps k⟩, B.cS.keeps k, B.cP.keeps k⟩

structure Room (A : Around) (d u : Nat) : Prop where
  hh : A.handled = none
  hd : A.depth + d < recursionLimit
  hu : A.units + u < cLine
theorem Room.deeper {A : Around} {d u : Nat} (r : Room A (d + 1) (u + 3)) (env : Env) : Room (A.deeper env) d u := ⟨r.hh, by have := r.hd; show A.depth + 1 + d < _; omega, by have := r.hu; show A.units + 3 + u < _; omega⟩
theorem Room.in1 {A : Around} {d u : Nat} (r : Room A d (u + 1)) : Room A.in1 d u := ⟨r.hh, r.hd, by have := r.hu; show A.units + 1 + u < _; omega⟩
theorem Room.less {A : Around} {d u d' u' : Nat} (r : Room A d u) (h1 : d' ≤ d := by first | decide | omega) (h2 : u' ≤ u := by first | decide | omega) : Room A d' u' := ⟨r.hh, by have := r.hd; omega, by have := r.hu; omega⟩

noncomputable abbrev PR := Challenge.rw_us0020_01.row.prog

section
variable {w : World} {M : Model} {A : Around} {E : Value → Shared → Prop} {s : Shared} {env : Env} {x : Str} {pos : Pos} {v : Value} {Q : Value → Shared → Prop}
theorem nmL {m : Str → Option Value} (hn : s.heap.Ns env.locals m) (hv : m x = some v) (h : Q v s) (hk : env.scope.kind = .function := by kernel_rfl) (hl : env.kindOf x = some .local := by kernel_rfl) (hd : (x == ("__debug__" : Str)) = false := by kernel_rfl) :
    wpAny M A (eval (.Name x pos) env) Q E s := wpAny_Name (wpAny_loadName_local hk hl hn hv h) hd
theorem nmC {c : Addr} (hc : s.heap.IsCell c (some v)) (h : Q v s) (hk : env.scope.kind = .function := by kernel_rfl) (hl : env.kindOf x = some .cell := by kernel_rfl) (hl2 : env.cells.lookup x = some c := by kernel_rfl) (hd : (x == ("__debug__" : Str)) = false := by kernel_rfl) :
    wpAny M A (eval (.Name x pos) env) Q E s := wpAny_Name (wpAny_loadName_cell hk hl hl2 hc h) hd
theorem nmF {c : Addr} (hc : s.heap.IsCell c (some v)) (h : Q v s) (hk : env.scope.kind = .function := by kernel_rfl) (hl : env.kindOf x = some .free := by kernel_rfl) (hl2 : env.cells.lookup x = some c := by kernel_rfl) (hd : (x == ("__debug__" : Str)) = false := by kernel_rfl) (hcd : (x == ("__classdict__" : Str)) = false := by kernel_rfl) :
    wpAny M A (eval (.Name x pos) env) Q E s := wpAny_Name (wpAny_loadName_free hk hl hl2 hc h hcd) hd
theorem nmG (B : Bs w s.heap) (e : nsIn (hd.heap_39 w.params) mainGlobals x = some (some v)) (h : Q v s) (hk : env.scope.kind = .function := by kernel_rfl) (hl : env.kindOf x = some .globalImplicit := by kernel_rfl) (hg : env.globals = mainGlobals := by kernel_rfl) (hd : (x == ("__debug__" : Str)) = false := by kernel_rfl) :
    wpAny M A (eval (.Name x pos) env) Q E s := by
  obtain ⟨mg, mb, T⟩ := B.T
  exact Name_function_global hk hl (loadGlobal_global (mg := mg) (by rw [hg]; exact T.g) (mg_of B.K T.g e) h) hd
theorem nmB (B : Bs w s.heap) (e : nsIn (hd.heap_39 w.params) mainGlobals x = some none) (hb : bootBuiltins x = some v) (h : Q v s) (hk : env.scope.kind = .function := by kernel_rfl) (hl : env.kindOf x = some .globalImplicit := by kernel_rfl) (hg : env.globals = mainGlobals := by kernel_rfl) (hbb : env.builtins = builtinsNs := by kernel_rfl) (hd : (x == ("__debug__" : Str)) = false := by kernel_rfl) (hn : x ≠ "__name__" := by decide) :
    wpAny M A (eval (.Name x pos) env) Q E s := by
  obtain ⟨mg, mb, T⟩ := B.T
  exact Name_function_global hk hl (loadGlobal_builtin (mg := mg) (mb := mb) (by rw [hg]; exact T.g) (mg_none_of B.K T.g e) (by rw [hbb]; exact T.b) ((T.builtins x hn).trans hb) h) hd
end

theorem fillK (P : Params) : hd.heap_39 P = hd.heap_39 P ∧ Challenge.rw_us0020_01.row.prog = Challenge.rw_us0020_01.row.prog := by
  k_fill
  exact ⟨rfl, rfl⟩

noncomputable abbrev cellsLed (cm : Str → Option Value) (cs : List (Str × Addr)) : Led := cs.map fun p => (p.2, oCell (cm p.1))
theorem lookup_nodup {cs : List (Str × Addr)} (hnd : (cs.map (·.1)).Nodup) {n : Str} {c : Addr} (h : (n, c) ∈ cs) : cs.lookup n = some c := lookup_of_mem_nodup hnd h
theorem enterC {w : World} {A : Around} {R : Result → Shared → Prop} {s : Shared} {f : Addr} {args : Args} {binds : List (Str × Value)} {d u : Nat}
    {name qual : Str} {params : Arguments} {body : List Stmt} {scope : Scope} {dV kV doc pm cdv ct oc : Value} {an od : Option Addr} {osl : Array (Option Value)}
    (r : Room A (d + 1) (u + 3)) (B : Bs w s.heap) (ho : (hd.heap_39 w.params).lookup f = some ⟨oc, od, .func (fnX name qual params body scope [] dV kV doc pm an cdv ct), osl⟩) (hcd : codeIn (hd.heap_39 w.params) cdv qual = true)
    (hbind : ∀ (Q : List (Str × Value) → Shared → Prop) (E : Value → Shared → Prop), Q binds s → wpAny (model PR w) A.in1 (bindArgs (fnX name qual params body scope [] dV kV doc pm an cdv ct) args) Q E s)
    (hkind : ∀ x ∈ binds, scope.names.lookup x.1 = some .local ∨ (scope.names.lookup x.1 = some .cell ∧ ((cellsFrom (s.heap.objs.size + 1) scope.names []).lookup x.1).isSome = true))
    (hnd : ((cellsFrom 0 scope.names []).map (·.1)).Nodup)
    (h : ∀ (L : Addr) (h₁ : Heap) (tk : Nat) (A' : Around), St s.heap h₁ ((L, oNs (bindL (envX qual scope L f cdv (cellsFrom (L + 1) scope.names [])).kindOf binds fun _ => none)) ::
        cellsLed (bindC (envX qual scope L f cdv (cellsFrom (L + 1) scope.names [])).kindOf binds fun _ => none) (cellsFrom (L + 1) scope.names [])) →
        Room A' d u →
      wpAny (model PR w) A' (execs body (envX qual scope L f cdv (cellsFrom (L + 1) scope.names [])))
        (fun fl s' => R (.ok (.ret (match fl with | .ret v => v | _ => .none))) s') (fun _ _ => False) ⟨h₁, s.gens, s.drawn, tk, s.os⟩)
    (hco : scope.isCoroutine = false := by rfl) (hgen : scope.isGenerator = false := by rfl) (hk : scope.kind = .function := by rfl) :
    codeAny (model PR w) A (.call (.ref f) args) R s := by
  obtain ⟨mg, mb, T⟩ := B.T
  refine codeAny_call_function (by have := r.hd; omega) (B.K _ _ ho) rfl hco hgen rfl (codeRec_of B.K hcd) (hbind _ _ ?_)
  refine wpAny_newFunctionEnv_cells hk hkind fun env henv s' X => ?_
  subst henv
  obtain ⟨h₁, tk, rfl⟩ := X.toInCall.same
  have hnd' : ((cellsFrom (s.heap.objs.size + 1) scope.names []).map (·.1)).Nodup := cellsFrom_names scope.names 0 (s.heap.objs.size + 1) [] [] rfl ▸ hnd
  refine ⟨T.nolimit.keeps X.toInCall.keep, codeAny_func (wpAny_mono (h s.heap.objs.size h₁ tk _ ?_ (r.deeper _)) (fun _ _ x => x) (fun _ _ x => x.elim))⟩
  refine ⟨X.toInCall.keep, fun p hp => ?_, fun p hp => ?_, ?_⟩
  · rcases List.mem_cons.mp hp with rfl | hp
    · exact of_ns X.toInCall.ns
    · obtain ⟨q, hq, rfl⟩ := List.mem_map.mp hp
      exact X.cell q.1 q.2 (lookup_nodup hnd' hq)
  · rcases List.mem_cons.mp hp with rfl | hp
    · exact Heap.get?_none_of_le (Nat.le_refl _)
    · obtain ⟨q, hq, rfl⟩ := List.mem_map.mp hp
      exact Heap.get?_none_of_le (Nat.le_of_lt (X.above q.1 q.2 hq))
  · refine List.pairwise_cons.mpr ⟨fun p hp => ?_, ?_⟩
    · obtain ⟨q, hq, rfl⟩ := List.mem_map.mp hp
      exact Nat.ne_of_lt (X.above q.1 q.2 hq)
    · rw [List.pairwise_map]
      exact X.apart
end Mine
end
section
open PySem PySem.W PySem.Spec PySem.Calls PyProof.Rows
namespace Mine
noncomputable def mkS (l : List Nat) : Str := ⟨l.toArray⟩
theorem mkS_inj {a b : List Nat} (h : mkS a = mkS b) : a = b := by
  unfold mkS at h
  have := congrArg (fun x : Str => x.cps.toList) h
  simpa using this
theorem mkS_len (l : List Nat) : (mkS l).length = l.length := by simp [mkS, Str.length]
theorem mkS_beq (a b : List Nat) : (mkS a == mkS b) = decide (a = b) := by
  by_cases h : a = b
  · subst h; simp
  · have : mkS a ≠ mkS b := fun e => h (mkS_inj e)
    rw [decide_eq_false h]; exact beq_eq_false_iff_ne.mpr this
theorem mkS_of (x : Str) : x = mkS x.cps.toList := by cases x; simp [mkS]
theorem mkS_cps (l : List Nat) : (mkS l).cps.toList = l := by simp [mkS]

noncomputable def loN (lo : Option (Int × Tok)) : Nat := match lo with | none => 0 | some p => p.1.toNat
noncomputable def hiN (hi : Option (Int × Tok)) (n : Nat) : Nat := match hi with | none => n | some p => p.1.toNat
noncomputable def nonneg (lo : Option (Int × Tok)) : Prop := ∀ p, lo = some p → 0 ≤ p.1
theorem nonneg_none : nonneg none := fun _ h => nomatch h
theorem nonneg_some {i : Int} {t : Tok} (h : 0 ≤ i) : nonneg (some (i, t)) := fun p e => by cases e; exact h
theorem pick_range (l : List Nat) : ∀ (c a : Nat), a + c ≤ l.length → ((List.range c).map fun k => a + k).filterMap (fun i => l[i]?) = (l.drop a).take c
  | 0, a, _ => by simp
  | c + 1, a, h => by
    rw [List.range_succ, List.map_append, List.filterMap_append, pick_range l c a (by omega)]
    have hlt : a + c < l.length := by omega
    rw [List.take_add_one]
    simp only [List.map_cons, List.map_nil, List.filterMap_cons, List.filterMap_nil, List.getElem?_drop]
    rw [List.getElem?_eq_getElem hlt]
    rfl
theorem picked_eq (l : List Nat) (lo hi : Option (Int × Tok)) (h1 : nonneg lo) (h2 : nonneg hi) :
    slicePicked (mkS l) lo hi none = (List.range (min (hiN hi l.length) l.length - min (loN lo) l.length)).map fun k => min (loN lo) l.length + k := by
  unfold slicePicked Builtin.Str.strSliceIndices sliceRange
  rw [mkS_len]
  have e : ∀ (a b : Int) (x y : Nat), a = (x : Int) → b = (y : Int) →
      (List.map (fun (k : Nat) => (a + 1 * (k : Int)).toNat) (List.range (if (1 : Int) > 0 then (if a < b then (b - a + 1 - 1) / 1 else 0) else (if a > b then (a - b - 1 - 1) / (-1) else 0)).toNat)) = (List.range (y - x)).map fun k => x + k := by
    intro a b x y ha hb
    subst ha hb
    have hc : (if (1 : Int) > 0 then (if (x : Int) < (y : Int) then ((y : Int) - (x : Int) + 1 - 1) / 1 else 0) else (if (x : Int) > (y : Int) then ((x : Int) - (y : Int) - 1 - 1) / (-1) else 0)).toNat = y - x := by
      simp only [show (1 : Int) > 0 by decide, if_true, Int.ediv_one]
      split <;> omega
    rw [hc]
    refine List.map_congr_left fun k _ => ?_
    omega
  simp only [Option.map_none, Option.getD_none]
  refine e _ _ _ _ ?_ ?_
  · cases lo with
    | none => simp [loN]
    | some p =>
      have := h1 p rfl
      simp only [Option.map_some, loN, show (1 : Int) > 0 by decide, if_true]
      split <;> omega
  · cases hi with
    | none => simp [hiN]
    | some p =>
      have := h2 p rfl
      simp only [Option.map_some, hiN, show (1 : Int) > 0 by decide, if_true]
      split <;> omega
noncomputable def sl (l : List Nat) (a b : Nat) : List Nat := (l.take b).drop a
theorem sl_alt (l : List Nat) (a b : Nat) : (l.drop (min a l.length)).take (min b l.length - min a l.length) = sl l a b := by
  unfold sl
  rw [List.drop_take]
  by_cases ha : a ≤ l.length
  · rw [Nat.min_eq_left ha]
    by_cases hb : b ≤ l.length
    · rw [Nat.min_eq_left hb]
    · rw [Nat.min_eq_right (by omega)]
      rw [List.take_of_length_le (by simp), List.take_of_length_le (by simp; omega)]
  · have hz : l.drop a = [] := List.drop_eq_nil_of_le (by omega)
    rw [Nat.min_eq_right (by omega : l.length ≤ a), List.drop_length, hz]; simp
theorem sliceMade_post (l : List Nat) (t : Tok) (lo hi : Option (Int × Tok)) (h1 : nonneg lo) (h2 : nonneg hi) (hs : l.length ≤ 16000000) {Q : Value → Shared → Prop} {s : Shared}
    (h : ∀ t' k, Q (.str (mkS (sl l (loN lo) (hiN hi l.length))) t') { s with toks := k }) : (sliceMade (mkS l) t lo hi none).post Q s := by
  have key : (slicePicked (mkS l) lo hi none).filterMap ((mkS l).cps[·]?) = sl l (loN lo) (hiN hi l.length) := by
    rw [picked_eq l lo hi h1 h2]
    have : (fun i : Nat => (mkS l).cps[i]?) = fun i : Nat => l[i]? := by funext i; simp [mkS]
    rw [this, ← sl_alt]
    by_cases hle : min (loN lo) l.length ≤ min (hiN hi l.length) l.length
    · exact pick_range l _ _ (by omega)
    · rw [Nat.sub_eq_zero_of_le (by omega)]; simp
  unfold sliceMade
  split
  · rename_i hc
    simp only [Option.map_none, Option.getD_none, beq_self_eq_true, Bool.true_and, beq_iff_eq, mkS_len] at hc
    rw [picked_eq l lo hi h1 h2, List.length_map, List.length_range] at hc
    have e : sl l (loN lo) (hiN hi l.length) = l := by
      rw [← sl_alt]
      by_cases hz : l.length = 0
      · have : l = [] := List.length_eq_zero_iff.mp hz
        subst this; simp
      · have e1 : min (loN lo) l.length = 0 := by omega
        rw [e1, List.drop_zero]
        exact List.take_of_length_le (by omega)
    have := h t s.toks
    rw [e] at this
    exact this
  · rw [key]
    refine ⟨?_, h _ _⟩
    show (mkS _).length ≤ _
    rw [mkS_len, sizeLine_eq]
    unfold sl
    rw [List.length_drop, List.length_take]; omega

section
variable {w : World} {prog : Program} {M : Model} {A : Around} {E : Value → Shared → Prop} {s : Shared} {env : Env} {pos p : Pos} {Q : Value → Shared → Prop}
theorem slS {value : Expr} {lower upper : Option Expr}
    (h : wpAny (model prog w) A (eval value env) (fun o s₁ => wpAny (model prog w) A (evalPart lower env) (fun vl s₂ => wpAny (model prog w) A (evalPart upper env) (fun vu s₃ =>
      Ex4 fun l t lo hi => Al7 (o = .str (mkS l) t) (vl = partValue lo) (vu = partValue hi) (nonneg lo) (nonneg hi) (l.length ≤ 16000000) (∀ h' t' k, Kp s₃.heap h' → Q (.str (mkS (sl l (loN lo) (hiN hi l.length))) t') { s₃ with heap := h', toks := k })) E s₂) E s₁) E s)
    (ht : ∀ o r, letTemporaryGo value o r = pure () := by intro _ _; rfl) :
    wpAny (model prog w) A (eval (.Subscript value (.Slice lower upper none p) pos) env) Q E s := by
  refine wpAny_Subscript_str_slice (wpAny_mono h (fun o s₁ h₁ => wpAny_mono h₁ (fun vl s₂ h₂ => wpAny_mono h₂ (fun vu s₃ h₃ => ?_) fun _ _ x => x) fun _ _ x => x) fun _ _ x => x) ht
  obtain ⟨l, t, lo, hi, rfl, rfl, rfl, h1, h2, hs, hq⟩ := h₃
  exact ⟨_, _, lo, hi, rfl, rfl, rfl, sliceMade_post l t lo hi h1 h2 hs fun t' k => hq _ _ _ (Kp.push _ _)⟩
theorem lenS {l : List Nat} {t : Tok} (hl : l.length ≤ 16000000) (h : ∀ t' k, Q (.int l.length t') { s with toks := k }) : wpAny (model prog w) A (call (.builtin "len") [.str (mkS l) t]) Q E s := by
  refine len_str (by rw [mkS_len]; omega) ?_
  rw [mkS_len]; exact h _ _
theorem eqS {a b : List Nat} {t u : Tok} (h : Q (.bool (decide (a = b))) s) : wpAny (model prog w) A (compareOp .Eq (.str (mkS a) t) (.str (mkS b) u)) Q E s := by
  refine eq_str ?_
  rw [mkS_beq]; exact h
end
end Mine
end
section
open PySem PySem.W PySem.Spec PySem.Calls PyProof.Rows
namespace Mine
noncomputable abbrev testsOf (ifs : List Expr) (env : Env) : Sem Bool := forIn ifs true fun c r => if r = true then do let ok ← isTrue c env (eval c env); pure (ForInStep.yield ok) else pure (ForInStep.yield r)

theorem paired_map {α β γ : Type} {F : α → β → Prop} {G : γ → β → Prop} {f : α → γ} (hFG : ∀ a b, F a b → G (f a) b) : ∀ {l : List α} {m : List β}, Paired F l m → Paired G (l.map f) m
  | _, _, .nil => .nil
  | _, _, .cons h t => .cons (hFG _ _ h) (paired_map hFG t)
theorem paired_mono {α β : Type} {F G : α → β → Prop} : ∀ {l : List α} {m : List β}, (∀ a b, a ∈ l → F a b → G a b) → Paired F l m → Paired G l m
  | _, _, _, .nil => .nil
  | _, _, h, .cons x t => .cons (h _ _ (List.mem_cons_self ..) x) (paired_mono (fun a b m => h a b (List.mem_cons_of_mem _ m)) t)
theorem filter_map_idx {α : Type} (f : α → Nat) (tst : Nat → Bool) : ∀ l : List α, (l.filter fun v => tst (f v)).map f = (l.map f).filter tst
  | [] => rfl
  | a :: l => by
    simp only [List.map_cons, List.filter_cons]
    cases tst (f a) <;> simp [filter_map_idx f tst l]

structure RangeAt (h : Heap) (xv : Value) (a : Int) (n : Nat) : Prop where
  ex : Ex5 fun r b t u v => Al5 (xv = .ref r) (IsRange h r a b 1 t u v) (Builtin.Range.small a b 1 = true) (Builtin.Range.rangeSize a b 1 = ((n : Nat) : Int)) (n ≤ sizeLine)

section
variable {prog : Program} {w : World} {A : Around} {E : Value → Shared → Prop} {env : Env} {s : Shared}
theorem comp_range {elt iter : Expr} {x : Str} {px : Pos} {ifs : List Expr} {scope : Scope} {cl : List (Str × Addr)} {pos : Pos} {Q : Value → Shared → Prop} (tst : Nat → Bool) (G : Nat → Value → Prop)
    (hh : A.handled = none) (hclos : closureFor scope env = pure cl) (hcell : ∀ y ∈ scope.names, y.2 ≠ .cell)
    (hnames : ∀ y ∈ scope.names, y.2 = .local → scope.names.lookup y.1 = some .local) (hx : scope.names.lookup x = some .local)
    (h : wpAny (model prog w) A (eval iter env) (fun xv s₁ => Ex2 fun a n => Al4 (RangeAt s₁.heap xv a n) (∀ C i t s₃ m₃ E', i < n → s₃.heap.Ns C m₃ → m₃ x = some (.int (a + (i : Int)) t) → Kp s₁.heap s₃.heap →
        wpAny (model prog w) A (testsOf ifs (compEnvC scope cl C env)) (fun ok s₄ => ok = tst i ∧ Keeps s₃ s₄) E' s₃) (∀ C i t s₃ m₃ E', i < n → tst i = true → s₃.heap.Ns C m₃ → m₃ x = some (.int (a + (i : Int)) t) → Kp s₁.heap s₃.heap →
        wpAny (model prog w) A (eval elt (compEnvC scope cl C env)) (fun y s₄ => G i y ∧ Keeps s₃ s₄) E' s₃) (∀ D h' tk ys, Kp s₁.heap h' → s₁.heap.get? D = none → (∃ o, h'.get? D = some o ∧ oList ys o) → Paired G ((List.range n).filter tst) ys → Q (.ref D) { s₁ with heap := h', toks := tk })) E s)
    (hkind : scope.kind = .function := by rfl) (hs : ∀ x, foldedSetIterable iter env x = pure x := by intro _; rfl) :
    wpAny (model prog w) A (eval (.ListComp elt [⟨.Name x px, iter, ifs, 0⟩] scope pos) env) Q E s := by
  let idx (a : Int) (v : Value) : Nat := match v with | .int i _ => (i - a).toNat | _ => 0
  refine wpAny_mono (M := model prog w) (A := A) (Q := Q) (E := E) ?_ (fun _ _ x => x) fun _ _ x => x
  rw [show eval (.ListComp elt [⟨.Name x px, iter, ifs, 0⟩] scope pos) env = _ from eval_ListComp ..]
  refine wpAny_comprehension_free (use := none) rfl hs hclos hkind hnames (wpAny_mono h (fun xv s₁ h₁ => ?_) fun _ _ e => e)
  obtain ⟨a, n, ⟨r, b, t, u, v, rfl, hr, hsm, hn, hsz⟩, ht, he, hq⟩ := h₁
  refine wpAny_pyIter_range hr hsm ?_
  have hI : ∀ b o, s₁.heap.get? b = some o → b ≠ s₁.heap.objs.size := fun b o e => Nat.ne_of_lt (Heap.lt_size e)
  have hst : IsRangeIter (s₁.heap.push { cls := Value.type "range_iterator", data := Data.fields #[rawInt a, rawInt (Builtin.Range.rangeSize a b 1), rawInt 1] }) s₁.heap.objs.size (a + ((0 : Nat) : Int) * 1) ((n : Int) - ((0 : Nat) : Int)) 1 := by
    have e1 : a + ((0 : Nat) : Int) * 1 = a := by omega
    have e2 : (n : Int) - ((0 : Nat) : Int) = Builtin.Range.rangeSize a b 1 := by rw [hn]; omega
    rw [e1, e2]
    exact Heap.get?_push_size _ rfl
  refine comp_block_walkC (RR := fun acc C => compPost (model prog w) A E none Q acc C) (Walks.range hh s₁.heap.objs.size a 1 n).bound hsz (fun v => tst (idx a v)) (fun v y => G (idx a v) y) hcell hkind hx hst
    (fun b hb => by simp at hb; subst hb; rw [Heap.size_push]; exact Nat.lt_succ_self _) ⟨?_, ?_⟩ ?_
  · intro C i v s₃ m₃ E' _ hP hns hm hk _
    obtain ⟨hlt, t', rfl⟩ := hP
    rw [Int.mul_one] at hm
    have hi : idx a (.int (a + (i : Int) * 1) t') = i := by show (a + (i : Int) * 1 - a).toNat = i; omega
    rw [hi]
    exact ht C i t' s₃ m₃ E' hlt hns hm fun b o e => hk b o (fun hm => by simp at hm; exact hI b o e hm) (Heap.get?_push_of_some _ e)
  · intro C i v s₃ m₃ E' _ hP hp hns hm hk _
    obtain ⟨hlt, t', rfl⟩ := hP
    rw [Int.mul_one] at hm
    have hi : idx a (.int (a + (i : Int) * 1) t') = i := by show (a + (i : Int) * 1 - a).toNat = i; omega
    rw [hi] at hp
    rw [hi]
    exact he C i t' s₃ m₃ E' hlt hp hns hm fun b o e => hk b o (fun hm => by simp at hm; exact hI b o e hm) (Heap.get?_push_of_some _ e)
  · intro D C h' tk m' ys vs hD hC hDC hns hl hpl hlen hP hpair hk
    refine ⟨m', hns, fun h'' hs'' => ?_⟩
    obtain ⟨nn, hpl⟩ := hpl
    have hC1 : s₁.heap.get? C = none := by
      cases e : s₁.heap.get? C with
      | none => rfl
      | some o => have := Heap.get?_push_of_some { cls := Value.type "range_iterator", data := Data.fields #[rawInt a, rawInt (Builtin.Range.rangeSize a b 1), rawInt 1] } e; rw [hC] at this; cases this
    have hD1 : s₁.heap.get? D = none := by
      cases e : s₁.heap.get? D with
      | none => rfl
      | some o => have := Heap.get?_push_of_some { cls := Value.type "range_iterator", data := Data.fields #[rawInt a, rawInt (Builtin.Range.rangeSize a b 1), rawInt 1] } e; rw [hD] at this; cases this
    have hvs : vs.map (idx a) = List.range n := by
      apply List.ext_getElem?
      intro j
      rw [List.getElem?_map]
      by_cases hj : j < n
      · obtain ⟨v, hv⟩ : ∃ v, vs[j]? = some v := ⟨vs[j]'(by omega), List.getElem?_eq_getElem (by omega)⟩
        obtain ⟨_, t', rfl⟩ := hP j v hv
        rw [hv, Option.map_some, List.getElem?_range hj]
        exact congrArg some (show (a + (j : Int) * 1 - a).toNat = j by omega)
      · rw [List.getElem?_eq_none (by omega), List.getElem?_eq_none (by simp; omega)]; rfl
    refine hq D h'' tk ys.toList (fun b o e => ?_) hD1 ⟨_, (hs''.2 D hDC).trans hpl, nn, by simp⟩ ?_
    · refine (hs''.2 b fun q => ?_).trans (hk b o (fun hm => by simp at hm; exact hI b o e hm) (Heap.get?_push_of_some _ e))
      rw [q, hC1] at e; cases e
    · have := paired_map (F := fun v y => G (idx a v) y) (G := G) (f := idx a) (fun _ _ x => x) hpair
      rw [filter_map_idx (idx a) tst, hvs] at this
      exact this
end
end Mine
namespace Mine
noncomputable def IsI (n : Nat) (v : Value) : Prop := ∃ t, v = .int (n : Int) t
theorem paired_len {α β : Type} {F : α → β → Prop} : ∀ {l : List α} {m : List β}, Paired F l m → l.length = m.length
  | _, _, .nil => rfl
  | _, _, .cons _ t => by simp [paired_len t]
theorem paired_ints {ns : List Nat} {ys : List Value} (h : Paired IsI ns ys) : ∃ xs : List (Int × Tok), ys.toArray = intItems xs.toArray ∧ xs.map (·.1) = ns.map (fun n : Nat => (n : Int)) := by
  induction h with
  | nil => exact ⟨[], by simp [intItems], rfl⟩
  | @cons a b _ _ h t ih =>
    obtain ⟨tk, rfl⟩ := h
    obtain ⟨xs, e1, e2⟩ := ih
    refine ⟨((a : Int), tk) :: xs, ?_, by simp [e2]⟩
    simp only [intItems, List.map_toArray] at e1 ⊢
    have := congrArg Array.toList e1
    simp only at this
    simp [this]
theorem numAt_of {xs : List (Int × Tok)} {ns : List Nat} (e : xs.map (·.1) = ns.map (fun n : Nat => (n : Int))) (i : Nat) (hi : i < ns.length) : numAt xs.toArray i = (ns[i] : Int) := by
  have h := congrArg (fun l => l[i]?) e
  simp only [List.getElem?_map, List.getElem?_eq_getElem hi, Option.map_some] at h
  unfold numAt
  simp only [List.getElem?_toArray]
  rw [h]; rfl
section
variable {prog : Program} {w : World} {A : Around} {E : Value → Shared → Prop} {s : Shared} {Q : Value → Shared → Prop}
theorem minN {D : Addr} {ns : List Nat} {ys : List Value} (hh : A.handled = none) (hl : s.heap.IsList D ys.toArray) (hp : Paired IsI ns ys) (hne : ns ≠ [])
    (h : ∀ M h' tk t, M ∈ ns → (∀ a ∈ ns, M ≤ a) → Kp s.heap h' → Q (.int (M : Int) t) { s with heap := h', toks := tk }) : wpAny (model prog w) A (call (.builtin "min") [.ref D]) Q E s := by
  obtain ⟨xs, e1, e2⟩ := paired_ints hp
  have hlen : xs.length = ns.length := by simpa using congrArg List.length e2
  have hpos : 0 < ns.length := List.length_pos_iff.mpr hne
  rw [e1] at hl
  refine min_intList hh hl (by simp; omega) fun v h' tk hv hk => ?_
  obtain ⟨b1, b2⟩ := argBest_lt (numAt xs.toArray) (xs.toArray.size - 1)
  obtain ⟨t, rfl⟩ := intItems_at hv
  simp only [List.size_toArray] at b1 b2 ⊢
  generalize hi : argBest (fun i j => decide (numAt xs.toArray i < numAt xs.toArray j)) (xs.length - 1) = i at b1 b2 ⊢
  have hin : i < ns.length := by omega
  rw [numAt_of e2 i hin]
  refine h _ _ _ _ (List.getElem_mem hin) (fun a ha => ?_) hk
  obtain ⟨j, hj, rfl⟩ := List.getElem_of_mem ha
  have := b2 j (by omega)
  rw [numAt_of e2 i hin, numAt_of e2 j hj] at this
  omega
theorem maxN {D : Addr} {ns : List Nat} {ys : List Value} (hh : A.handled = none) (hl : s.heap.IsList D ys.toArray) (hp : Paired IsI ns ys) (hne : ns ≠ [])
    (h : ∀ M h' tk t, M ∈ ns → (∀ a ∈ ns, a ≤ M) → Kp s.heap h' → Q (.int (M : Int) t) { s with heap := h', toks := tk }) : wpAny (model prog w) A (call (.builtin "max") [.ref D]) Q E s := by
  obtain ⟨xs, e1, e2⟩ := paired_ints hp
  have hlen : xs.length = ns.length := by simpa using congrArg List.length e2
  have hpos : 0 < ns.length := List.length_pos_iff.mpr hne
  rw [e1] at hl
  refine max_intList hh hl (by simp; omega) fun v h' tk hv hk => ?_
  obtain ⟨b1, b2⟩ := argBest_gt (numAt xs.toArray) (xs.toArray.size - 1)
  obtain ⟨t, rfl⟩ := intItems_at hv
  simp only [List.size_toArray] at b1 b2 ⊢
  generalize hi : argBest (fun i j => decide (numAt xs.toArray i > numAt xs.toArray j)) (xs.length - 1) = i at b1 b2 ⊢
  have hin : i < ns.length := by omega
  rw [numAt_of e2 i hin]
  refine h _ _ _ _ (List.getElem_mem hin) (fun a ha => ?_) hk
  obtain ⟨j, hj, rfl⟩ := List.getElem_of_mem ha
  have := b2 j (by omega)
  rw [numAt_of e2 i hin, numAt_of e2 j hj] at this
  omega
end
end Mine
end
section
open PySem PySem.W PySem.Spec PySem.Calls PyProof.Rows
namespace Mine
section
variable {prog : Program} {w : World} {M : Model} {A : Around} {E : Value → Shared → Prop} {s : Shared} {Q : Value → Shared → Prop} {env : Env} {pos p : Pos}
theorem mkRange2 {a b : Int} {t u : Tok} (ha : -1000000 ≤ a) (ha' : a ≤ 1000000) (hb : -1000000 ≤ b) (hb' : b ≤ 1000000)
    (h : ∀ r h' k, Kp s.heap h' → s.heap.get? r = none → RangeAt h' (.ref r) a (b - a).toNat → Q (.ref r) { s with heap := h', toks := k }) :
    wpAny (model prog w) A (call (.type "range") [.int a t, .int b u]) Q E s :=
  call_range_2 (h _ _ _ (Kp.push _ _) (Heap.get?_none_of_le (Nat.le_refl _)) ⟨_, b, t, u, s.toks, rfl, Heap.get?_push_size _ rfl, small_one (by omega) (by omega) (by omega) (by omega), rangeSize_nat _ _, by rw [sizeLine_eq]; omega⟩)
theorem mkRange1 {b : Int} {u : Tok} (hb : -1000000 ≤ b) (hb' : b ≤ 1000000)
    (h : ∀ r h' k, Kp s.heap h' → s.heap.get? r = none → RangeAt h' (.ref r) 0 b.toNat → Q (.ref r) { s with heap := h', toks := k }) :
    wpAny (model prog w) A (call (.type "range") [.int b u]) Q E s :=
  call_range_1 (h _ _ _ (Kp.push _ _) (Heap.get?_none_of_le (Nat.le_refl _)) ⟨_, b, _, u, _, rfl, Heap.get?_push_size _ rfl, small_one (by omega) (by omega) (by omega) (by omega), by rw [rangeSize_nat]; simp, by rw [sizeLine_eq]; omega⟩)
theorem callG {f : Addr} {fd : FuncData} {oc : Value} {od : Option Addr} {osl : Array (Option Value)} {x : Str} {args : List Expr} (B : Bs w s.heap) (e : nsIn (hd.heap_39 w.params) mainGlobals x = some (some (.ref f))) (ho : (hd.heap_39 w.params).lookup f = some ⟨oc, od, .func fd, osl⟩)
    (h : wpAny (model prog w) A (spliced (backTo pos (starEach args env))) (fun vs s₁ => Bs w s₁.heap ∧ codeAny (model prog w) A (.call (.ref f) ⟨vs, []⟩) (fun r s' => match r with | .ok (.ret v) => Q v s' | .ok _ => False | .error e => E e s') s₁) E s)
    (hne : ∃ a r, args = a :: r ∧ starEach (a :: r) env = (false, eval a env) :: starEach r env := by exact ⟨_, _, rfl, rfl⟩)
    (hk : env.scope.kind = .function := by kernel_rfl) (hl : env.kindOf x = some .globalImplicit := by kernel_rfl) (hg : env.globals = mainGlobals := by kernel_rfl) (hd : (x == ("__debug__" : Str)) = false := by kernel_rfl) :
    wpAny (model prog w) A (eval (.Call (.Name x p) args [] pos) env) Q E s := by
  obtain ⟨a, r, rfl, he⟩ := hne
  refine wpAny_Call_NameR (nmG B e ?_ hk hl hg hd)
  rw [he] at h ⊢
  exact Calls.callWith_function (o := ⟨oc, od, .func fd, osl⟩) (fd := fd) (Calls.evalArgs_plain (wpAny_mono h (fun vs s₁ h₁ => ⟨⟨h₁.1.K _ _ ho, rfl⟩, wpAny_call h₁.2⟩) fun _ _ x => x))
end
end Mine
end
section
open PySem PySem.W PySem.Spec PySem.Calls PyProof.Rows
namespace Mine
theorem bb_len : bootBuiltins "len" = some (.builtin "len") := by rfl
theorem bb_min : bootBuiltins "min" = some (.builtin "min") := by rfl
theorem bb_max : bootBuiltins "max" = some (.builtin "max") := by rfl
theorem bb_range : bootBuiltins "range" = some (.type "range") := by rfl
theorem bb_list : bootBuiltins "list" = some (.type "list") := by rfl
theorem bb_str : bootBuiltins "str" = some (.type "str") := by rfl
theorem bb_enumerate : bootBuiltins "enumerate" = some (.type "enumerate") := by rfl
theorem bb_type : bootBuiltins "type" = some (.type "type") := by rfl

theorem St.but {h₀ h h' : Heap} {I : Addr} {P : Obj → Prop} {led : Led} (S : St h₀ h ((I, P) :: led)) (hs : Heap.ExtBut I h h') : St h₀ h' led := by
  have hI := S.new (I, P) (List.mem_cons_self ..)
  refine ⟨fun b o e => hs b o (fun q => by rw [q, hI] at e; cases e) (S.keep _ _ e), fun p hp => ?_, fun p hp => S.new p (List.mem_cons_of_mem _ hp), S.tail.nd⟩
  obtain ⟨o, e, q⟩ := S.cell p (List.mem_cons_of_mem _ hp)
  exact ⟨o, hs _ _ (fun q' => (List.pairwise_cons.mp S.nd).1 p hp q'.symm) e, q⟩

noncomputable def oRIt (x left : Int) (o : Obj) : Prop := o = { cls := .type "range_iterator", data := .fields #[rawInt x, rawInt left, rawInt 1] }
noncomputable def oLIt (ax : Addr) (i : Nat) (o : Obj) : Prop := ∃ h : Heap, h.get? 0 = some o ∧ h.IsListIter 0 ax i

/-- the shape of a state within a call that began at s -/
noncomputable def Sh (s : Shared) (h : Heap) (g : Array GenState) (tk : Nat) : Shared := ⟨h, g, s.drawn, tk, s.os⟩

section
variable {prog : Program} {w : World} {A : Around} {E : Value → Shared → Prop} {env : Env} {s : Shared} {Q : Flow → Shared → Prop}
/-- assignment to a local name -/
theorem asg {x : Str} {v : Value} {m : Str → Option Value} {M : Model} {h₀ : Heap} {led : Led} {Q : Unit → Shared → Prop} (S : St h₀ s.heap led) (i : Nat) (hi : led[i]? = some (env.locals, oNs m))
    (h : ∀ h' k, St h₀ h' (led.set i (env.locals, oNs fun y => if y = x then some v else m y)) → Q () { s with heap := h', toks := k })
    (hk : env.scope.kind = .function := by kernel_rfl) (hl : env.kindOf x = some .local := by kernel_rfl) : wpAny M A (storeName env x v) Q E s :=
  wpAny_storeName_local hl (ns_of (S.getL i hi)) (fun h' hn hs => h h' _ (S.upd i hi hs.extBut (of_ns hn))) (by rw [hk]; rfl)
theorem asgC {x : Str} {v : Value} {v₀ : Option Value} {c : Addr} {M : Model} {h₀ : Heap} {led : Led} {Q : Unit → Shared → Prop} (S : St h₀ s.heap led) (i : Nat) (hi : led[i]? = some (c, oCell v₀))
    (h : ∀ h', St h₀ h' (led.set i (c, oCell (some v))) → Q () { s with heap := h' })
    (hk : env.scope.kind = .function := by kernel_rfl) (hl : env.kindOf x = some .cell := by kernel_rfl) (hc : env.cells.lookup x = some c := by kernel_rfl) : wpAny M A (storeName env x v) Q E s :=
  wpAny_storeName_cell hk hl hc (cell_of (S.getL i hi)) fun h' hc' hs => h h' (S.upd i hi hs.extBut hc')

theorem for_range {x : Str} {px pos : Pos} {iter : Expr} {body : List Stmt} (hh : A.handled = none) {h₀ : Heap} (dr : Drawn) (os : OsState) (val : Nat → Nat) (J : Nat → Led → Array GenState → Prop)
    (h : wpAny (model prog w) A (eval iter env) (fun xv s₁ => Ex6 fun h₁ g₁ tk₁ a n led => Al7 (s₁ = ⟨h₁, g₁, dr, tk₁, os⟩) (RangeAt h₁ xv a n) (∀ i, i < n → a + (i : Int) = (val i : Int)) (St h₀ h₁ led) (J 0 led g₁) (∀ i led₁ g h₁ tk I P t E', i < n → J i led₁ g → St h₀ h₁ ((I, P) :: led₁) →
        wpAny (model prog w) A (storeName env x (.int (val i : Nat) t)) (fun _ s₂ => wpAny (model prog w) A (execs body env)
          (fun f s₃ => match f with
            | .next | .cont => Ex4 fun h₃ g₃ tk₃ led₃ => Al3 (s₃ = ⟨h₃, g₃, dr, tk₃, os⟩) (J (i + 1) led₃ g₃) (St h₀ h₃ ((I, P) :: led₃))
            | .brk => Q .next s₃
            | .ret v => Q (.ret v) s₃) E' s₂) E' ⟨h₁, g, dr, tk, os⟩) (∀ led₁ g h₁ tk, J n led₁ g → St h₀ h₁ led₁ → Q .next ⟨h₁, g, dr, tk, os⟩)) E s)
    (hs : ∀ x, foldedSetIterable iter env x = pure x := by intro _; rfl) :
    wpAny (model prog w) A (exec (.For (.Name x px) iter body [] pos) env) Q E s := by
  refine wpAny_For (wpAny_mono h (fun xv s₁ h₁ => ?_) fun _ _ e => e) hs
  obtain ⟨H, G, T, a, n, led, rfl, ⟨r, b, t, u, v, rfl, hr, hsm, hn, hsz⟩, hval, S, hJ, step, fin⟩ := h₁
  refine wpAny_pyIter_range hr hsm ?_
  refine codeAny_forLoop
    (fun k s' => Ex5 fun h₁ g tk i led₁ => Al5 (s' = ⟨h₁, g, dr, tk, os⟩) (i ≤ n) (k = n - i) (J i led₁ g) (St h₀ h₁ ((H.objs.size, oRIt (a + (i : Int)) ((n : Int) - (i : Int))) :: led₁))) ?_ n ?_
  · rintro k s' ⟨h₁, g, tk, i, led₁, rfl, hi, rfl, hJ, S₁⟩
    have hit : IsRangeIter h₁ H.objs.size (a + (i : Int)) ((n : Int) - (i : Int)) 1 := by
      obtain ⟨o, e, q⟩ := S₁.getL 0 rfl
      rw [show o = _ from q] at e; exact e
    by_cases hlt : i < n
    · refine wpAny_pyNext_range_item hit (by omega) fun h₂ hit₂ hs₂ => ?_
      have S₂ : St h₀ h₂ ((H.objs.size, oRIt (a + ((i + 1 : Nat) : Int)) ((n : Int) - ((i + 1 : Nat) : Int))) :: led₁) := by
        refine S₁.upd 0 rfl hs₂.extBut ⟨_, hit₂, ?_⟩
        unfold oRIt
        rw [show a + ((i + 1 : Nat) : Int) = a + (i : Int) + 1 by omega, show (n : Int) - ((i + 1 : Nat) : Int) = (n : Int) - (i : Int) - 1 by omega]
      rw [hval i hlt]
      refine wpAny_assign_Name (wpAny_mono (step i led₁ g h₂ _ _ _ _ _ hlt hJ S₂) (fun _ s₂ hs => wpAny_mono hs (fun f s₃ hf => ?_) fun _ _ x => x) fun _ _ x => x)
      cases f with
      | next => obtain ⟨h₃, g₃, tk₃, led₃, rfl, hJ₃, S₃⟩ := hf; exact ⟨n - (i + 1), by omega, h₃, g₃, tk₃, i + 1, led₃, rfl, hlt, rfl, hJ₃, S₃⟩
      | cont => obtain ⟨h₃, g₃, tk₃, led₃, rfl, hJ₃, S₃⟩ := hf; exact ⟨n - (i + 1), by omega, h₃, g₃, tk₃, i + 1, led₃, rfl, hlt, rfl, hJ₃, S₃⟩
      | brk => exact hf
      | ret v => exact hf
    · have hin : i = n := by omega
      subst hin
      refine wpAny_pyNext_range_end hh hit (by omega) fun h₂ he => wpAny_execs_nil ?_
      exact fin led₁ g h₂ tk hJ (S₁.but he)
  · refine ⟨_, G, T, 0, led, rfl, Nat.zero_le _, rfl, hJ, ?_⟩
    refine S.push _ ?_
    unfold oRIt
    rw [show a + ((0 : Nat) : Int) = a by omega, show (n : Int) - ((0 : Nat) : Int) = Builtin.Range.rangeSize a b 1 by rw [hn]; omega]
end
end Mine
end
section
open PySem PySem.W PySem.Spec PySem.Calls PyProof.Rows
namespace Mine
section
variable {prog : Program} {w : World} {A : Around} {E : Value → Shared → Prop} {env : Env} {s : Shared} {Q : Value → Shared → Prop} {apos pos : Pos}
theorem app {o elt : Expr} (h : wpAny (model prog w) A (eval o env) (fun ov s₁ => Ex2 fun D its => Al4 (ov = .ref D) (∃ ob, s₁.heap.get? D = some ob ∧ oList its ob) (its.length ≤ 1000000) (wpAny (model prog w) A (eval elt env) (fun y s₂ => (∃ ob, s₂.heap.get? D = some ob ∧ oList its ob) ∧ ∀ h', Heap.SameBut D s₂.heap h' → (∃ ob, h'.get? D = some ob ∧ oList (its ++ [y]) ob) → Q .none { s₂ with heap := h' }) E s₁)) E s)
    (hb : attributeBase o (Str.ofString "append") env (eval o env) = eval o env := by rfl) (hp : (apos.endLine == pos.line) = true := by rfl) (hq : backTo pos (starEach [elt] env) = [(false, eval elt env)] := by rfl)
    (hr : ((((backTo pos (starEach [elt] env)).all fun x => !x.fst) && (backToKw pos (keywordEach [] env)).all fun x => x.fst.isSome) && decide (([elt].length + ([] : List Keyword).length + if ([] : List Keyword).isEmpty = true then 0 else 1) < 30)) = true := by rfl) :
    wpAny (model prog w) A (eval (.Call (.Attribute o "append" apos) [elt] [] pos) env) Q E s := by
  refine wpAny_Call_append hb hr hp hq (wpAny_mono h (fun ov s₁ h₁ => ?_) fun _ _ x => x)
  obtain ⟨D, its, rfl, ⟨ob, hob, n, rfl⟩, hlen, h₂⟩ := h₁
  refine ⟨D, its.toArray, rfl, ⟨_, _, hob, rfl, rfl, rfl⟩, wpAny_mono h₂ (fun y s₂ h₃ => ?_) fun _ _ x => x⟩
  obtain ⟨⟨ob2, hob2, n2, rfl⟩, h₄⟩ := h₃
  refine append_at hob2 (fun h' hs hD => h₄ h' hs ⟨_, hD, n2 + 1, by simp⟩) (by rw [sizeLine_eq]; simp; omega)
/-- in / not in over a list -/
theorem inL {D : Addr} {its : List Value} {x : Value} (e : Value → Bool) (hl : s.heap.IsList D its.toArray) (he : ∀ y, y ∈ its → SeqAt.EqAt A.in1 s y x (e y)) (h : Q (.bool (its.any e)) s) :
    wpAny (model prog w) A (compareOp .In x (.ref D)) Q E s := SeqAt.in_listAt e hl (fun y hy => he y (by simpa using hy)) (by simpa using h)
theorem ninL {D : Addr} {its : List Value} {x : Value} (e : Value → Bool) (hl : s.heap.IsList D its.toArray) (he : ∀ y, y ∈ its → SeqAt.EqAt A.in1 s y x (e y)) (h : Q (.bool (!its.any e)) s) :
    wpAny (model prog w) A (compareOp .NotIn x (.ref D)) Q E s := SeqAt.notIn_listAt e hl (fun y hy => he y (by simpa using hy)) (by simpa using h)
theorem addL {l b : Addr} {vs ws : List Value} (hl : s.heap.IsList l vs.toArray) (hb : s.heap.IsList b ws.toArray) (hsz : vs.length + ws.length ≤ 1000000)
    (h : ∀ h' D, Kp s.heap h' → s.heap.get? D = none → (∃ o, h'.get? D = some o ∧ oList (vs ++ ws) o) → Q (.ref D) { s with heap := h' }) :
    wpAny (model prog w) A (binaryOp .Add (.ref l) (.ref b)) Q E s := by
  obtain ⟨⟨cls, dd, data, sl⟩, ho, hc, n, hd⟩ := id hl
  obtain ⟨⟨cls2, dd2, data2, sl2⟩, ho2, hc2, n2, hd2⟩ := id hb
  simp only at hc hd hc2 hd2
  subst hc hd hc2 hd2
  have e : vs.toArray ++ ws.toArray = (vs ++ ws).toArray := by simp
  refine concat_meets ⟨_, ho, rfl⟩ ⟨_, ho2, rfl⟩ noFill_list_add seq_list_add PySem.F.slot_list_add PySem.F.entry_list_add (PySem.F.args_list_add_2 _ _) (list_addW l b vs.toArray ws.toArray n n2 dd dd2 sl sl2 (by rw [sizeLine_eq]; simp; omega)) ⟨ho, ho2, ?_⟩
  rw [e]
  exact h _ _ (Kp.push _ _) (Heap.get?_none_of_le (Nat.le_refl _)) ⟨_, Heap.get?_push_size _ rfl, 0, rfl⟩

theorem comp_list {elt iter : Expr} {x : Str} {px : Pos} {ifs : List Expr} {scope : Scope} {cl : List (Str × Addr)} (tst : Value → Bool) (F : Value → Value → Prop)
    (hh : A.handled = none) (hclos : closureFor scope env = pure cl) (hcell : ∀ y ∈ scope.names, y.2 ≠ .cell)
    (hnames : ∀ y ∈ scope.names, y.2 = .local → scope.names.lookup y.1 = some .local) (hx : scope.names.lookup x = some .local)
    (h : wpAny (model prog w) A (eval iter env) (fun xv s₁ => Ex2 fun (ax : Addr) (its : List Value) => Al6 (xv = .ref ax) (s₁.heap.IsList ax its.toArray) (its.length ≤ 1000000) (∀ C v s₃ m₃ E', v ∈ its → s₃.heap.Ns C m₃ → m₃ x = some v → Kp s₁.heap s₃.heap →
        wpAny (model prog w) A (testsOf ifs (compEnvC scope cl C env)) (fun ok s₄ => ok = tst v ∧ Keeps s₃ s₄) E' s₃) (∀ C v s₃ m₃ E', v ∈ its → tst v = true → s₃.heap.Ns C m₃ → m₃ x = some v → Kp s₁.heap s₃.heap →
        wpAny (model prog w) A (eval elt (compEnvC scope cl C env)) (fun y s₄ => F v y ∧ Keeps s₃ s₄) E' s₃) (∀ D h' tk ys, Kp s₁.heap h' → s₁.heap.get? D = none → (∃ o, h'.get? D = some o ∧ oList ys o) → Paired F (its.filter tst) ys → Q (.ref D) { s₁ with heap := h', toks := tk })) E s)
    (hkind : scope.kind = .function := by rfl) (hs : ∀ x, foldedSetIterable iter env x = pure x := by intro _; rfl) :
    wpAny (model prog w) A (eval (.ListComp elt [⟨.Name x px, iter, ifs, 0⟩] scope pos) env) Q E s := by
  rw [show eval (.ListComp elt [⟨.Name x px, iter, ifs, 0⟩] scope pos) env = _ from eval_ListComp ..]
  refine wpAny_comprehension_free (use := none) rfl hs hclos hkind hnames (wpAny_mono h (fun xv s₁ h₁ => ?_) fun _ _ e => e)
  obtain ⟨ax, its, rfl, hl, hsz, ht, he, hq⟩ := h₁
  refine wpAny_pyIter_list hl ?_
  have hI : ∀ b o, s₁.heap.get? b = some o → b ≠ s₁.heap.objs.size := fun b o e => Nat.ne_of_lt (Heap.lt_size e)
  have hax : ax < s₁.heap.objs.size := by obtain ⟨_, e, _⟩ := hl; exact Heap.lt_size e
  have inn : ∀ (i : Nat) v, its.toArray[i]? = some v → v ∈ its := fun i v e => List.mem_of_getElem? (i := i) (by rw [List.getElem?_toArray] at e; exact e)
  refine comp_block_walkC (RR := fun acc C => compPost (model prog w) A E none Q acc C) (Walks.list hh s₁.heap.objs.size ax (Nat.ne_of_lt hax) its.toArray) (by rw [sizeLine_eq]; simp; omega) tst F hcell hkind hx ⟨⟨_, Heap.get?_push_size _ rfl, rfl, rfl⟩, hl.push _⟩
    (fun b hb => by
      rw [Heap.size_push]
      simp only [List.mem_cons, List.not_mem_nil, or_false] at hb
      rcases hb with rfl | rfl
      · exact Nat.lt_succ_self _
      · exact Nat.lt_succ_of_lt hax) ⟨?_, ?_⟩ ?_
  · intro C i v s₃ m₃ E' _ hP hns hm hk _
    exact ht C v s₃ m₃ E' (inn _ _ hP) hns hm fun b o e => hk b o (fun hm => by simp at hm; exact hI b o e hm) (Heap.get?_push_of_some _ e)
  · intro C i v s₃ m₃ E' _ hP hp hns hm hk _
    exact he C v s₃ m₃ E' (inn _ _ hP) hp hns hm fun b o e => hk b o (fun hm => by simp at hm; exact hI b o e hm) (Heap.get?_push_of_some _ e)
  · intro D C h' tk m' ys vs hD hC hDC hns hl' hpl hlen hP hpair hk
    refine ⟨m', hns, fun h'' hs'' => ?_⟩
    obtain ⟨nn, hpl⟩ := hpl
    have up : ∀ a o, s₁.heap.get? a = some o → (s₁.heap.push { cls := Value.type "list_iterator", data := Data.fields #[Value.ref ax, Value.int 0 0] }).get? a = some o := fun a o e => Heap.get?_push_of_some _ e
    have hvs : vs = its := by
      apply List.ext_getElem?
      intro j
      by_cases hj : j < vs.length
      · have e := hP j vs[j] (List.getElem?_eq_getElem hj)
        rw [List.getElem?_eq_getElem hj, ← e]; simp
      · rw [List.getElem?_eq_none (by omega), List.getElem?_eq_none (by simp at hlen; omega)]
    subst hvs
    refine hq D h'' tk ys.toList (fun b o e => ?_) ?_ ⟨_, (hs''.2 D hDC).trans hpl, nn, by simp⟩ hpair
    · refine (hs''.2 b fun q => ?_).trans (hk b o (fun hm => by simp at hm; exact hI b o e hm) (up _ _ e))
      rw [q] at e; rw [up _ _ e] at hC; cases hC
    · cases e : s₁.heap.get? D with
      | none => rfl
      | some o => rw [up _ _ e] at hD; cases hD
end
end Mine
end
section
open PySem PySem.W PySem.Spec PySem.Calls PyProof.Rows
namespace Mine
theorem up_eq {m : Str → Option Value} {x : Str} {v : Value} : (fun z => if z = x then some v else m z) x = some v := by simp
theorem up_ne {m : Str → Option Value} {x y : Str} {v : Value} {r : Option Value} (h : y ≠ x) (e : m y = r) : (fun z => if z = x then some v else m z) y = r := by simp [h, e]
theorem St.perm {h₀ h : Heap} {led led' : Led} (S : St h₀ h led) (p : led.Perm led') : St h₀ h led' :=
  ⟨S.keep, fun q hq => S.cell q (p.mem_iff.mpr hq), fun q hq => S.new q (p.mem_iff.mpr hq), S.nd.perm p fun h => Ne.symm h⟩
noncomputable def oTup (xs : List Nat) (o : Obj) : Prop := ∃ vs, Paired IsI xs vs ∧ o = { cls := .type "tuple", data := .seq vs.toArray }
noncomputable def TupAt (h : Heap) (xs : List Nat) (y : Value) : Prop := ∃ a, y = .ref a ∧ ∃ o, h.get? a = some o ∧ oTup xs o
noncomputable def RunsAt (h : Heap) (v : Value) (rs : List (List Nat)) : Prop := Ex2 fun D ys => Al3 (v = .ref D) (∃ o, h.get? D = some o ∧ oList ys o) (Paired (TupAt h) rs ys)
theorem TupAt.ext {h h' : Heap} {xs : List Nat} {y : Value} (x : TupAt h xs y) (k : Kp h h') : TupAt h' xs y := let ⟨a, e, o, q, r⟩ := x; ⟨a, e, o, k _ _ q, r⟩
theorem RunsAt.ext {h h' : Heap} {v : Value} {rs : List (List Nat)} (x : RunsAt h v rs) (k : Kp h h') : RunsAt h' v rs :=
  let ⟨D, ys, e, ⟨o, q, r⟩, p⟩ := x; ⟨D, ys, e, ⟨o, k _ _ q, r⟩, paired_mono (fun _ _ _ t => t.ext k) p⟩
/-- a ledger's tail of tuples -/
noncomputable abbrev tupLed (tl : List (Addr × List Nat)) : Led := tl.map fun p => (p.1, oTup p.2)
noncomputable abbrev tupRefs (tl : List (Addr × List Nat)) : List Value := tl.map fun p => .ref p.1
theorem runsAt_of {h₀ h : Heap} {D : Addr} {tl : List (Addr × List Nat)} {led : Led} (S : St h₀ h led) (hD : (D, oList (tupRefs tl)) ∈ led) (ht : ∀ p ∈ tl, (p.1, oTup p.2) ∈ led) : RunsAt h (.ref D) (tl.map (·.2)) := by
  refine ⟨D, _, rfl, S.cell _ hD, ?_⟩
  have key : ∀ l : List (Addr × List Nat), (∀ p ∈ l, (p.1, oTup p.2) ∈ led) → Paired (TupAt h) (l.map (·.2)) (tupRefs l) := by
    intro l
    induction l with
    | nil => intro _; exact .nil
    | cons p l ih => intro hl; exact .cons ⟨_, rfl, S.cell _ (hl p (List.mem_cons_self ..))⟩ (ih fun q hq => hl q (List.mem_cons_of_mem _ hq))
  exact key tl ht
section
variable {prog : Program} {w : World} {A : Around} {E : Value → Shared → Prop} {env : Env} {s : Shared} {Q : Value → Shared → Prop} {pos : Pos}
/-- a list display -/
theorem lstD {elts : List Expr} {M : Model} (h : wpAny M A (spliced (backTo pos (starEach elts env))) (fun vs s₁ => vs.length ≤ 1000000 ∧ ∀ D h', Kp s₁.heap h' → s₁.heap.get? D = none → (∃ o, h'.get? D = some o ∧ oList vs o) → Q (.ref D) { s₁ with heap := h' }) E s) :
    wpAny M A (eval (.List elts pos) env) Q E s :=
  wpAny_List (wpAny_mono h (fun vs s₁ h₁ => ⟨by rw [sizeLine_eq]; omega, h₁.2 _ _ (Kp.push _ _) (Heap.get?_none_of_le (Nat.le_refl _)) ⟨_, Heap.get?_push_size _ rfl, 0, rfl⟩⟩) fun _ _ x => x)
theorem tupD {elts : List Expr} {k : Nat} {M : Model} (h : wpAny M A (spliced (backTo pos (starEach elts env))) (fun vs s₁ => vs.length ≤ 1000000 ∧ ∀ D h', Kp s₁.heap h' → s₁.heap.get? D = none → h'.get? D = some { cls := .type "tuple", data := .seq vs.toArray } → Q (.ref D) { s₁ with heap := h' }) E s) :
    wpAny M A (eval (.Tuple elts k pos) env) Q E s :=
  wpAny_Tuple (wpAny_mono h (fun vs s₁ h₁ => ⟨by rw [sizeLine_eq]; omega, h₁.2 _ _ (Kp.push _ _) (Heap.get?_none_of_le (Nat.le_refl _)) (Heap.get?_push_size _ rfl)⟩) fun _ _ x => x)
end
end Mine

namespace Mine
noncomputable def IsS (l : List Nat) (v : Value) : Prop := ∃ t, v = .str (mkS l) t
theorem IsS.inj {a b : List Nat} {v : Value} (x : IsS a v) (y : IsS b v) : a = b := by
  obtain ⟨t, rfl⟩ := x
  obtain ⟨u, e⟩ := y
  injection e with e1
  exact mkS_inj e1
theorem IsI.inj {a b : Nat} {v : Value} (x : IsI a v) (y : IsI b v) : a = b := by
  obtain ⟨t, rfl⟩ := x
  obtain ⟨u, e⟩ := y
  injection e with e1
  omega
theorem paired_append {α β : Type} {F : α → β → Prop} : ∀ {l l' : List α} {m m' : List β}, Paired F l m → Paired F l' m' → Paired F (l ++ l') (m ++ m')
  | _, _, _, _, .nil, y => y
  | _, _, _, _, .cons h t, y => .cons h (paired_append t y)
theorem paired_comp {α β γ : Type} {F : α → β → Prop} {G : β → γ → Prop} {H : α → γ → Prop} (hc : ∀ a b c, F a b → G b c → H a c) : ∀ {l : List α} {m : List β} {n : List γ}, Paired F l m → Paired G m n → Paired H l n
  | _, _, _, .nil, .nil => .nil
  | _, _, _, .cons h t, .cons h' t' => .cons (hc _ _ _ h h') (paired_comp hc t t')
theorem paired_left {α β : Type} {F : α → β → Prop} : ∀ {l : List α} {m : List β}, Paired F l m → ∀ b ∈ m, ∃ a ∈ l, F a b
  | _, _, .cons h t, b, hb => by
    rcases List.mem_cons.mp hb with rfl | hb
    · exact ⟨_, List.mem_cons_self .., h⟩
    · obtain ⟨a, ha, hf⟩ := paired_left t b hb
      exact ⟨a, List.mem_cons_of_mem _ ha, hf⟩
theorem paired_any {α β : Type} {F : α → β → Prop} {p : α → Bool} {q : β → Bool} (hpq : ∀ a b, F a b → p a = q b) : ∀ {l : List α} {m : List β}, Paired F l m → l.any p = m.any q
  | _, _, .nil => rfl
  | _, _, .cons h t => by simp only [List.any_cons, hpq _ _ h, paired_any hpq t]
/-- equality of a value with an int -/
noncomputable def eqI (n : Nat) (y : Value) : Bool := match y with | .int b _ => b == (n : Int) | _ => false
theorem eqI_at {A : Around} {s : Shared} {ns : List Nat} {ys : List Value} (h : Paired IsI ns ys) (n : Nat) (t : Tok) : ∀ y ∈ ys, SeqAt.EqAt A s y (.int (n : Int) t) (eqI n y) := by
  intro y hy
  obtain ⟨a, _, u, rfl⟩ := paired_left h y hy
  exact SeqAt.EqAt.int_int _ _ _ _
theorem any_eqI {ns : List Nat} {ys : List Value} (h : Paired IsI ns ys) (n : Nat) : ys.any (eqI n) = ns.any (· == n) := by
  refine (paired_any (F := IsI) (fun a b hab => ?_) h).symm
  obtain ⟨u, rfl⟩ := hab
  show (a == n) = ((a : Int) == (n : Int))
  by_cases e : a = n
  · subst e; simp
  · rw [beq_eq_false_iff_ne.mpr e, beq_eq_false_iff_ne.mpr (fun q => e (by omega))]
theorem eq_list_length {α β : Type} {F : α → β → Prop} {l : List α} {m : List β} (h : Paired F l m) : m.length = l.length := (paired_len h).symm
end Mine

namespace Mine
theorem nrm {α : Type} {M : Model} {A : Around} {t : Sem α} {Q : α → Shared → Prop} {E : Value → Shared → Prop} {s : Shared} (h : Heap) (g : Array GenState) (d : Drawn) (k : Nat) (o : OsState) (x : wpAny M A t Q E ⟨h, g, d, k, o⟩) (e : s = ⟨h, g, d, k, o⟩ := by rfl) : wpAny M A t Q E s := e ▸ x
/-- what is to hold behind a walk, as a letter -/
theorem post {α : Type} {M : Model} {A : Around} {t : Sem α} {Q : α → Shared → Prop} {E : Value → Shared → Prop} {s : Shared} (h : ∀ F : α → Shared → Prop, (∀ v s', Q v s' → F v s') → wpAny M A t F E s) : wpAny M A t Q E s := h Q fun _ _ x => x
theorem nrmC {M : Model} {A : Around} {c : Code} {R : Result → Shared → Prop} {s : Shared} (h : Heap) (g : Array GenState) (d : Drawn) (k : Nat) (o : OsState) (x : codeAny M A c R ⟨h, g, d, k, o⟩) (e : s = ⟨h, g, d, k, o⟩ := by rfl) : codeAny M A c R s := e ▸ x
theorem sl_length (l : List Nat) (a b : Nat) : (sl l a b).length = min b l.length - a := by simp [sl]
theorem kpS {h : Heap} {g : Array GenState} {d : Drawn} {k : Nat} {o : OsState} {h' : Heap} {k' : Nat} (x : Kp h h') : Keeps ⟨h, g, d, k, o⟩ ⟨h', g, d, k', o⟩ := ⟨h', k', rfl, x⟩
theorem mulOk {a b : Int} (h1 : -(2 ^ 60) < a) (h2 : a < 2 ^ 60) : IntMulOk a b := IntMulOk.of_left (intBits_le_64 (by omega) (by omega))
end Mine

namespace Mine
theorem atE {h h' : Heap} {a : Addr} {P : Obj → Prop} (k : Kp h h') (x : ∃ o, h.get? a = some o ∧ P o) : ∃ o, h'.get? a = some o ∧ P o := let ⟨o, e, q⟩ := x; ⟨o, k _ _ e, q⟩
end Mine
end
section
open PySem PySem.W PySem.Spec PySem.Calls PyProof.Rows
namespace Mine
noncomputable def leastOf (ns : List Nat) : Nat := (ns.find? fun a => ns.all fun b => decide (a ≤ b)).getD 0
noncomputable def greatestOf (ns : List Nat) : Nat := (ns.find? fun a => ns.all fun b => decide (b ≤ a)).getD 0
theorem leastOf_eq {ns : List Nat} {M : Nat} (h1 : M ∈ ns) (h2 : ∀ a ∈ ns, M ≤ a) : M = leastOf ns := by
  unfold leastOf
  cases e : ns.find? fun a => ns.all fun b => decide (a ≤ b) with
  | none => exact absurd (List.all_eq_true.mpr fun b hb => decide_eq_true (h2 b hb)) (by have := List.find?_eq_none.mp e M h1; simpa using this)
  | some a =>
    have h3 := List.all_eq_true.mp (by simpa using List.find?_some e : (ns.all fun b => decide (a ≤ b)) = true) M h1
    have h4 := h2 a (List.mem_of_find?_eq_some e)
    simp only [decide_eq_true_eq] at h3
    show M = a
    omega
theorem greatestOf_eq {ns : List Nat} {M : Nat} (h1 : M ∈ ns) (h2 : ∀ a ∈ ns, a ≤ M) : M = greatestOf ns := by
  unfold greatestOf
  cases e : ns.find? fun a => ns.all fun b => decide (b ≤ a) with
  | none => exact absurd (List.all_eq_true.mpr fun b hb => decide_eq_true (h2 b hb)) (by have := List.find?_eq_none.mp e M h1; simpa using this)
  | some a =>
    have h3 := List.all_eq_true.mp (by simpa using List.find?_some e : (ns.all fun b => decide (b ≤ a)) = true) M h1
    have h4 := h2 a (List.mem_of_find?_eq_some e)
    simp only [decide_eq_true_eq] at h3
    show M = a
    omega
noncomputable def stepsOf (l : List Nat) : List Nat := ((List.range l.length).filter fun i => decide (l.drop (i + 1) = l.take (l.length - (i + 1)))).map (· + 1)
noncomputable def lawStep (l : List Nat) : Nat := leastOf (stepsOf l)
noncomputable def longer (l : List Nat) (i j : Nat) : List (List Nat) := (if 0 < i then [sl l (i - 1) j] else []) ++ (if j < l.length then [sl l i (j + 1)] else [])
noncomputable def runCond (l : List Nat) (i j : Nat) : Bool := decide (2 * lawStep (sl l i j) ≤ j - i) && !(longer l i j).any fun t => lawStep t == lawStep (sl l i j)
noncomputable def runsRow (l : List Nat) (i : Nat) (ks : List Nat) : List (List Nat) := ks.flatMap fun k => if runCond l i (i + 2 + k) then [[i, i + 2 + k, lawStep (sl l i (i + 2 + k))]] else []
noncomputable def lawRuns (l : List Nat) : List (List Nat) := (List.range l.length).flatMap fun i => runsRow l i (List.range (l.length + 1 - (i + 2)))
theorem runsRow_len (l : List Nat) (i : Nat) : ∀ ks, (runsRow l i ks).length ≤ ks.length
  | [] => by simp [runsRow]
  | k :: ks => by
    have ih := runsRow_len l i ks
    unfold runsRow at ih ⊢
    rw [List.flatMap_cons, List.length_append, List.length_cons]
    split
    · rw [List.length_singleton]; omega
    · rw [List.length_nil]; omega
noncomputable def runsUpto (l : List Nat) (i : Nat) : List (List Nat) := (List.range i).flatMap fun i => runsRow l i (List.range (l.length + 1 - (i + 2)))
theorem runsUpto_len (l : List Nat) : ∀ i, (runsUpto l i).length ≤ i * l.length
  | 0 => by simp [runsUpto]
  | i + 1 => by
    have ih := runsUpto_len l i
    unfold runsUpto at ih ⊢
    rw [List.range_succ, List.flatMap_append, List.length_append, Nat.succ_mul]
    have := runsRow_len l i (List.range (l.length + 1 - (i + 2)))
    simp only [List.flatMap_cons, List.flatMap_nil, List.append_nil, List.length_range] at this ⊢
    exact Nat.add_le_add ih (Nat.le_trans this (by omega))
end Mine
namespace Mine
noncomputable def innerOf (l : List Nat) (p c : Nat) : List Nat := ((List.range (c - (p + 1))).filter fun j => !decide (sl l p c < sl l (p + 1 + j) c)).map fun j => p + 1 + j
noncomputable def lengthsOf (l : List Nat) (p : Nat) : List Nat := ((List.range (l.length + 1 - (p + 1))).filter fun i => decide (innerOf l p (p + 1 + i) = [])).map fun i => i + 1
noncomputable def longestOf (l : List Nat) (p : Nat) : Nat := greatestOf (lengthsOf l p)
theorem lengthsOf_ne (l : List Nat) (p : Nat) (h : p < l.length) : lengthsOf l p ≠ [] := by
  refine List.ne_nil_of_mem (a := 1) ?_
  refine List.mem_map.mpr ⟨0, List.mem_filter.mpr ⟨List.mem_range.mpr (by omega), decide_eq_true ?_⟩, rfl⟩
  unfold innerOf
  rw [show p + 1 + 0 - (p + 1) = 0 by omega]; rfl
end Mine
end
section
open PySem PySem.W PySem.Spec PySem.Calls PyProof.Rows
namespace Mine
noncomputable def newCells (n : Nat) : List (Str × NameKind) → Led
  | [] => []
  | (_, kind) :: r => if kind == .cell then newCells (n + 1) r ++ [(n, oCell none)] else newCells n r
theorem St.cells {h₀ : Heap} : ∀ (names : List (Str × NameKind)) {h : Heap} {led : Led}, St h₀ h led → St h₀ (pushCells h names) (newCells h.objs.size names ++ led)
  | [], _, _, S => S
  | (_, kind) :: r, h, led, S => by
    unfold pushCells newCells
    split
    · have S1 := S.push (o := { cls := .type "cell", data := .cell none }) (oCell none) rfl
      have S2 := St.cells r S1
      rw [Heap.size_push] at S2
      simpa using S2
    · exact St.cells r S
noncomputable abbrev compEnvD (scope : Scope) (cl : List (Str × Addr)) (C : Addr) (env : Env) : Env :=
  { scope := relabel scope env, locals := C, globals := env.globals, cells := cellsFrom (C + 1) scope.names cl, qual := env.qual, func := none, code := env.code, frame := env.frame, builtins := env.builtins }
section
variable {prog : Program} {w : World} {A : Around} {R : Result → Shared → Prop} {s : Shared}
/-- the turns of a comprehension whose target may be a tuple -/
theorem cl_tests {elt target iter : Expr} {ifs : List Expr} {scope : Scope} {pos : Pos} {it acc : Value} {env : Env} (I : Nat → Shared → Prop)
    (turn : ∀ n s, I n s → wpAny (model prog w) A (pyNext it) (fun r s₁ => match r with
      | none => R (.ok .next) s₁
      | some v => wpAny (model prog w) A (letOwnedTupleGo target it v) (fun _ s₁' => wpAny (model prog w) A (assign target env v) (fun _ s₂ =>
          wpAny (model prog w) A (testsOf ifs env) (fun ok s₃ =>
            if ok = true then wpAny (model prog w) A (eval elt env) (fun x s₄ =>
              wpAny (model prog w) A (call (.builtin "list.append") [acc, x]) (fun _ s₅ => ∃ m, m < n ∧ I m s₅) (fun _ _ => False) s₄) (fun _ _ => False) s₃
            else ∃ m, m < n ∧ I m s₃) (fun _ _ => False) s₂) (fun _ _ => False) s₁') (fun _ _ => False) s₁) (fun _ _ => False) s)
    (n : Nat) (h : I n s) : codeAny (model prog w) A (.compLoop (.ListComp elt [⟨target, iter, ifs, 0⟩] scope pos) 0 it acc env) R s := by
  refine codeAny_loop rfl I (fun n s hI => ?_) n h
  show wpAny _ A ((compTurn (.ListComp elt [⟨target, iter, ifs, 0⟩] scope pos) 0 it acc env).onRaise (fun x => do noteFrame x env; theTreesLotGoes x)) _ _ s
  refine wpAny_noted ?_
  rw [compTurn_list]
  refine wpAny_bind (wpAny_standAt (wpAny_bind (wpAny_mono (turn n s hI) (fun r s₁ h₁ => ?_) fun _ _ h' => h'.elim)))
  cases r with
  | none => exact wpAny_pure h₁
  | some v =>
    refine wpAny_bind (wpAny_mono h₁ (fun _ s₁' h₁' => ?_) fun _ _ h' => h'.elim)
    refine wpAny_bind (wpAny_mono h₁' (fun _ s₂ h₂ => wpAny_bind (wpAny_mono h₂ (fun ok s₃ h₃ => ?_) fun _ _ h' => h'.elim)) fun _ _ h' => h'.elim)
    cases ok with
    | false => exact wpAny_pure ⟨rfl, h₃⟩
    | true => exact wpAny_bind (wpAny_bind (wpAny_mono h₃ (fun x s₄ h₄ => wpAny_bind (wpAny_mono h₄ (fun _ s₅ h₅ => wpAny_pure (wpAny_pure ⟨rfl, h₅⟩)) fun _ _ h' => h'.elim)) fun _ _ h' => h'.elim))
end
section
variable {prog : Program} {w : World} {A : Around} {E : Value → Shared → Prop} {env : Env} {s : Shared} {Q : Value → Shared → Prop} {pos : Pos}
theorem walks_frm {hb₁ : Heap} {I : Addr} {fp : List Addr} {n : Nat} {P : Nat → Value → Prop} {Stt : Nat → Heap → Prop} (W : Walks prog w A I fp [I] n P Stt) (hfp : ∀ b ∈ fp, b ≠ I → ∃ o, hb₁.get? b = some o) :
    ∀ i (h h' : Heap) (o : Obj) (Y Y' own own' : Led), St hb₁ h ((I, fun x => x = o) :: (Y ++ own)) → St hb₁ h' ((I, fun x => x = o) :: (Y' ++ own')) → Stt i h → Stt i h' := by
  intro i h h' o Y Y' own own' S S' hs
  refine W.frame i h h' hs fun b hb ob e => ?_
  by_cases hbI : b = I
  · subst hbI
    obtain ⟨x, e1, rfl⟩ := S.getL 0 rfl
    obtain ⟨x', e2, rfl⟩ := S'.getL 0 rfl
    rw [e1] at e; cases e; exact e2
  · obtain ⟨ob', e'⟩ := hfp b hb hbI
    have := S.keep _ _ e'
    rw [this] at e; cases e
    exact S'.keep _ _ e'
theorem comp_loop {R : Result → Shared → Prop} {hb₁ h0 : Heap} {s₂ : Shared} {o0 : Obj} {own0 : Led} {elt target iter : Expr} {ifs : List Expr} {scope : Scope} {cl : List (Str × Addr)} (T : Addr → Led → Prop) (T' : Addr → Value → Led → Prop) {Cc : Obj → Prop} {tst : Nat → Bool} {F : Nat → Value → Prop} {I C D : Addr} {fp : List Addr} {n : Nat} {P : Nat → Value → Prop} {Stt : Nat → Heap → Prop}
    (hT : ∀ C v led, T' C v led → T C led) (W : Walks prog w A I fp [I] n P Stt) (hsz : n ≤ 1000000) (hfp : ∀ b ∈ fp, b ≠ I → ∃ o, hb₁.get? b = some o)
    (hIx : ∀ i h, Stt i h → ∃ o, h.get? I = some o ∧ Cc o)
    (hLet : ∀ i v s₃ (Q' : Unit → Shared → Prop) E', P i v → (∃ o, s₃.heap.get? I = some o ∧ Cc o) → Q' () s₃ → wpAny (model prog w) A (letOwnedTupleGo target (.ref I) v) Q' E' s₃)
    (hasg : ∀ i v X Y own s₃ Q' E', P i v → T C own → St hb₁ s₃.heap (X :: Y :: own) →
        (∀ own' h' k', T' C v own' → St hb₁ h' (X :: Y :: own') → Q' () { s₃ with heap := h', toks := k' }) → wpAny (model prog w) A (assign target (compEnvD scope cl C env) v) Q' E' s₃)
    (htst : ∀ i v X Y own s₃ E', i < n → P i v → T' C v own → St hb₁ s₃.heap (X :: Y :: own) →
        wpAny (model prog w) A (testsOf ifs (compEnvD scope cl C env)) (fun ok s₄ => ok = tst i ∧ Keeps s₃ s₄) E' s₃)
    (helt : ∀ i v X Y own s₃ E', i < n → tst i = true → P i v → T' C v own → St hb₁ s₃.heap (X :: Y :: own) →
        wpAny (model prog w) A (eval elt (compEnvD scope cl C env)) (fun y s₄ => F i y ∧ Keeps s₃ s₄) E' s₃)
    (hst6 : Stt 0 h0) (hTo0 : T C own0) (S6 : St hb₁ h0 ((I, fun o => o = o0) :: (D, oList []) :: own0))
    (hdone : ∀ h₂ tk₂ own ys, T C own → St hb₁ h₂ ((D, oList ys) :: own) → Paired F ((List.range n).filter tst) ys → R (.ok .next) { s₂ with heap := h₂, toks := tk₂ }) :
    codeAny (model prog w) A (.compLoop (.ListComp elt [⟨target, iter, ifs, 0⟩] scope pos) 0 (.ref I) (.ref D) (compEnvD scope cl C env)) R { s₂ with heap := h0 } := by
  refine cl_tests
    (fun k s' => Ex6 fun h' tk i ys own o => Al8 (s' = { s₂ with heap := h', toks := tk }) (i ≤ n) (k = n - i) (Stt i h') (T C own) (St hb₁ h' ((I, fun x => x = o) :: (D, oList ys) :: own)) (Paired F ((List.range i).filter tst) ys) (ys.length ≤ i)) ?_ n
    ⟨_, s₂.toks, 0, [], _, _, rfl, Nat.zero_le _, rfl, hst6, hTo0, S6, .nil, Nat.le_refl _⟩
  rintro k s' ⟨h', tk, i, ys, own, o, rfl, hi, rfl, hst', hTo, S', hp, hyl⟩
  by_cases hlt : i < n
  · refine W.item i _ _ _ hlt hst' fun v h₂ tk₂ hPv hst₂ hk₂ => ?_
    obtain ⟨o2, ho2, hcl2⟩ := hIx _ _ hst₂
    have Sa := S'.upd 0 (P' := fun x => x = o2) rfl (fun b ob hb e => hk₂ b ob (by simpa using hb) e) ⟨o2, ho2, rfl⟩
    dsimp only [List.set] at Sa
    refine hLet _ _ _ _ _ hPv ⟨o2, ho2, hcl2⟩ ?_
    refine hasg i v _ _ own _ _ _ hPv hTo Sa fun own' h₃ k₃ hT'' Sb => ?_
    have hst₃ := walks_frm W hfp (i + 1) h₂ h₃ o2 [(D, oList ys)] [(D, oList ys)] own own' Sa Sb hst₂
    refine wpAny_mono (htst i v _ _ own' _ _ hlt hPv hT'' Sb) (fun ok s₄ hok => ?_) fun _ _ e => e
    obtain ⟨rfl, h₄, tk₄, rfl, kp₄⟩ := hok
    have Sc := Sb.ext kp₄
    have hst₄ := walks_frm W hfp (i + 1) h₃ h₄ o2 [(D, oList ys)] [(D, oList ys)] own' own' Sb Sc hst₃
    cases hti : tst i with
    | false =>
      rw [if_neg (by simp)]
      refine ⟨n - (i + 1), by omega, h₄, tk₄, i + 1, ys, own', o2, rfl, hlt, rfl, hst₄, hT _ _ _ hT'', Sc, ?_, by omega⟩
      rw [List.range_succ, List.filter_append]
      simpa [hti] using hp
    | true =>
      rw [if_pos rfl]
      refine wpAny_mono (helt i v _ _ own' _ _ hlt hti hPv hT'' Sc) (fun y s₅ hy => ?_) fun _ _ e => e
      obtain ⟨hFy, h₅, tk₅, rfl, kp₅⟩ := hy
      have Sd := Sc.ext kp₅
      obtain ⟨ob, hob, nn, rfl⟩ := Sd.getL 1 rfl
      refine append_at hob (fun h₆ hs₆ hD₆ => ?_) (by rw [sizeLine_eq]; simp; omega)
      have Se := Sd.upd 1 (P' := oList (ys ++ [y])) rfl hs₆.extBut ⟨_, hD₆, nn + 1, by simp⟩
      dsimp only [List.set] at Se
      refine ⟨n - (i + 1), by omega, h₆, tk₅, i + 1, ys ++ [y], own', o2, rfl, hlt, rfl, walks_frm W hfp (i + 1) h₄ h₆ o2 [(D, oList ys)] [(D, oList (ys ++ [y]))] own' own' Sc Se hst₄, hT _ _ _ hT'', Se, ?_, by rw [List.length_append, List.length_singleton]; omega⟩
      rw [List.range_succ, List.filter_append]
      have : [i].filter tst = [i] := by simp [hti]
      rw [this]
      exact Paired.snoc hp hFy
  · have hin : i = n := by omega
    subst hin
    refine W.done _ _ _ hst' fun h₂ tk₂ hk₂ => ?_
    exact hdone h₂ tk₂ own ys hTo (S'.but (h' := h₂) (fun b ob hb e => hk₂ b ob (by simpa using hb) e)) hp
theorem comp_genT {elt target iter : Expr} {ifs : List Expr} {scope : Scope} {cl : List (Str × Addr)} (T : Addr → Led → Prop) (T' : Addr → Value → Led → Prop) (Cc : Obj → Prop)
    (hh : A.handled = none) (hclos : closureFor scope env = pure cl)
    (hnames : ∀ y ∈ scope.names, y.2 = .local → scope.names.lookup y.1 = some .local)
    (hT : ∀ C v led, T' C v led → T C led) (hTns : ∀ (C : Addr) (led : Led), T C led → ∃ (i : Nat) (m : Str → Option Value), led[i]? = some (C, oNs m)) (hT0 : ∀ C, T C (newCells (C + 1) scope.names ++ [(C, oNs fun _ => none)]))
    (h : wpAny (model prog w) A (eval iter env) (fun xv s₁ => wpAny (model prog w) A (pyIter xv) (fun it s₂ => ∃ (tst : Nat → Bool) (F : Nat → Value → Prop) (I : Addr) (oI : Obj) (fp : List Addr) (n : Nat) (P : Nat → Value → Prop) (Stt : Nat → Heap → Prop),
      Al14 (it = .ref I) (Walks prog w A I fp [I] n P Stt) (n ≤ 1000000) (Stt 0 s₂.heap) (Kp s₁.heap s₂.heap) (s₁.heap.get? I = none) (s₂.heap.get? I = some oI) (∀ b ∈ fp, b ≠ I → ∃ o, s₁.heap.get? b = some o) (∀ i h, Stt i h → ∃ o, h.get? I = some o ∧ Cc o) (∀ i v s₃ (Q' : Unit → Shared → Prop) E', P i v → (∃ o, s₃.heap.get? I = some o ∧ Cc o) → Q' () s₃ → wpAny (model prog w) A (letOwnedTupleGo target (.ref I) v) Q' E' s₃) (∀ C i v X Y own s₃ Q' E', P i v → T C own → St s₁.heap s₃.heap (X :: Y :: own) →
        (∀ own' h' k', T' C v own' → St s₁.heap h' (X :: Y :: own') → Q' () { s₃ with heap := h', toks := k' }) → wpAny (model prog w) A (assign target (compEnvD scope cl C env) v) Q' E' s₃) (∀ C i v X Y own s₃ E', i < n → P i v → T' C v own → St s₁.heap s₃.heap (X :: Y :: own) →
        wpAny (model prog w) A (testsOf ifs (compEnvD scope cl C env)) (fun ok s₄ => ok = tst i ∧ Keeps s₃ s₄) E' s₃) (∀ C i v X Y own s₃ E', i < n → tst i = true → P i v → T' C v own → St s₁.heap s₃.heap (X :: Y :: own) →
        wpAny (model prog w) A (eval elt (compEnvD scope cl C env)) (fun y s₄ => F i y ∧ Keeps s₃ s₄) E' s₃) (∀ D h' tk ys, Kp s₁.heap h' → s₁.heap.get? D = none → (∃ o, h'.get? D = some o ∧ oList ys o) → Paired F ((List.range n).filter tst) ys → Q (.ref D) { s₂ with heap := h', toks := tk })) E s₁) E s)
    (hkind : scope.kind = .function := by rfl) (hs : ∀ x, foldedSetIterable iter env x = pure x := by intro _; rfl) :
    wpAny (model prog w) A (eval (.ListComp elt [⟨target, iter, ifs, 0⟩] scope pos) env) Q E s := by
  rw [show eval (.ListComp elt [⟨target, iter, ifs, 0⟩] scope pos) env = _ from eval_ListComp ..]
  refine wpAny_comprehension_free (use := none) rfl hs hclos hkind hnames (wpAny_mono h (fun xv s₁ h₁ => wpAny_mono h₁ (fun it s₂ h₂ => ?_) fun _ _ e => e) fun _ _ e => e)
  obtain ⟨tst, F, I, oI, fp, n, P, Stt, rfl, W, hsz, hst, kp12, hI1, hI2, hfp, hIx, hLet, hasg, htst, helt, hfin⟩ := h₂
  refine wpAny_newObj_type ?_
  simp only [newFunctionEnv, Option.isSome_some, if_true]
  refine wpAny_bind (wpAny_alloc ?_)
  refine wpAny_bind (wpAny_layCells _ (fun name kind cells => by cases hkc : kind == NameKind.cell <;> simp [hkc]) _ _ _ _ ?_)
  refine wpAny_bind ?_
  simp only [List.forIn_nil]
  refine wpAny_pure (wpAny_pure ?_)
  have S2 : St s₁.heap s₂.heap [(I, fun o => o = oI)] := by
    refine ⟨kp12, fun p hp => ?_, fun p hp => ?_, List.pairwise_singleton ..⟩
    · rw [List.mem_singleton.mp hp]; exact ⟨oI, hI2, rfl⟩
    · rw [List.mem_singleton.mp hp]; exact hI1
  have S3 := S2.push (o := { cls := Value.type "list", dict := none, data := Data.seq ([] : List Value).toArray }) (oList []) ⟨0, rfl⟩
  generalize hH2 : s₂.heap.push { cls := Value.type "list", dict := none, data := Data.seq ([] : List Value).toArray } = H2 at S3 ⊢
  have hH2s : H2.objs.size = s₂.heap.objs.size + 1 := by rw [← hH2, Heap.size_push]
  have S4 := S3.push (o := { cls := Value.type "dict", data := Data.dict #[] }) (oNs fun _ => none) ⟨#[], 0, rfl, fun _ he => by simp at he, fun _ => rfl⟩
  have S5 := S4.cells scope.names
  generalize hD : s₂.heap.objs.size = D at S3 S4 S5 ⊢
  simp only [Heap.size_push] at S5 ⊢
  generalize hC : H2.objs.size = C at S4 S5 ⊢
  have S6 : St s₁.heap (pushCells (H2.push { cls := Value.type "dict", data := Data.dict #[] }) scope.names) ((I, fun o => o = oI) :: (D, oList []) :: (newCells (C + 1) scope.names ++ [(C, oNs fun _ => none)])) := by
    refine S5.perm ?_
    have e1 : (newCells (C + 1) scope.names ++ (C, oNs fun _ => none) :: (D, oList []) :: [(I, fun o => o = oI)]).Perm (((newCells (C + 1) scope.names ++ [(C, oNs fun _ => none)]) ++ ((D, oList []) :: [(I, fun o => o = oI)]))) := by simp
    refine e1.trans (List.perm_append_comm.trans ?_)
    exact List.Perm.swap ..
  have hst6 := walks_frm W hfp 0 _ _ oI [] [(D, oList [])] [] _ S2 S6 hst
  have loop : codeAny (model prog w) A (.compLoop (.ListComp elt [⟨target, iter, ifs, 0⟩] scope pos) 0 (.ref I) (.ref D) (compEnvD scope cl C env)) (compPost (model prog w) A E none Q (.ref D) C)
      { s₂ with heap := pushCells (H2.push { cls := Value.type "dict", data := Data.dict #[] }) scope.names } := by
    refine comp_loop T T' hT W hsz hfp hIx hLet (hasg C) (htst C) (helt C) hst6 (hT0 C) S6 fun h₂ tk₂ own ys hTo Sa' hp => ?_
    obtain ⟨ii, m, hm⟩ := hTns C own hTo
    refine ⟨m, ns_of (Sa'.getL (ii + 1) (by simpa using hm)), fun h₃ hs₃ => ?_⟩
    have hDC : D ≠ C := Sa'.ne (i := 0) (j := ii + 1) rfl (by simpa using hm) (by omega)
    have hCn := Sa'.new (C, oNs m) (List.mem_of_getElem? (i := ii + 1) (by simpa using hm))
    refine hfin D h₃ tk₂ ys (fun b ob e => (hs₃.2 b (fun q => by rw [q] at e; rw [e] at hCn; cases hCn)).trans (Sa'.keep _ _ e)) (Sa'.new _ (List.mem_cons_self ..)) ?_ hp
    obtain ⟨ob, e, q⟩ := Sa'.getL 0 rfl
    exact ⟨ob, (hs₃.2 D hDC).trans e, q⟩
  exact codeAny_compStart_list loop (W.self 0 _ _ _ hst6 loop)
end
end Mine
namespace Mine
section
variable {prog : Program} {w : World} {A : Around} {E : Value → Shared → Prop} {env : Env} {s : Shared} {Q : Value → Shared → Prop} {pos : Pos}
/-- a comprehension over a range whose name is a cell of its own -/
theorem comp_rangeC {elt iter : Expr} {x : Str} {px : Pos} {ifs : List Expr} {scope : Scope} {cl : List (Str × Addr)}
    (hh : A.handled = none) (hclos : closureFor scope env = pure cl)
    (hnames : ∀ y ∈ scope.names, y.2 = .local → scope.names.lookup y.1 = some .local)
    (hcells : ∀ n, newCells n scope.names = [(n, oCell none)]) (hxk : (relabel scope env).names.lookup x = some .cell) (hxc : ∀ n, (cellsFrom n scope.names cl).lookup x = some n)
    (h : wpAny (model prog w) A (eval iter env) (fun xv s₁ => Ex4 fun (a : Int) (n : Nat) (tst : Nat → Bool) (G : Nat → Value → Prop) => Al5 (RangeAt s₁.heap xv a n) (n ≤ 1000000) (∀ C i t s₃ E', i < n → s₃.heap.IsCell (C + 1) (some (.int (a + (i : Int)) t)) → Kp s₁.heap s₃.heap →
        wpAny (model prog w) A (testsOf ifs (compEnvD scope cl C env)) (fun ok s₄ => ok = tst i ∧ Keeps s₃ s₄) E' s₃) (∀ C i t s₃ E', i < n → tst i = true → s₃.heap.IsCell (C + 1) (some (.int (a + (i : Int)) t)) → Kp s₁.heap s₃.heap →
        wpAny (model prog w) A (eval elt (compEnvD scope cl C env)) (fun y s₄ => G i y ∧ Keeps s₃ s₄) E' s₃) (∀ D h' tk ys, Kp s₁.heap h' → s₁.heap.get? D = none → (∃ o, h'.get? D = some o ∧ oList ys o) → Paired G ((List.range n).filter tst) ys → Q (.ref D) { s₁ with heap := h', toks := tk })) E s)
    (hkind : scope.kind = .function := by rfl) (hs : ∀ x, foldedSetIterable iter env x = pure x := by intro _; rfl) :
    wpAny (model prog w) A (eval (.ListComp elt [⟨.Name x px, iter, ifs, 0⟩] scope pos) env) Q E s := by
  refine comp_genT (Cc := fun _ => True) (fun C own => Ex2 fun m u => own = [(C + 1, oCell u), (C, oNs m)]) (fun C v own => ∃ m, own = [(C + 1, oCell (some v)), (C, oNs m)]) hh hclos hnames ?_ ?_ ?_ (wpAny_mono h (fun xv s₁ h₁ => ?_) fun _ _ e => e) hkind hs
  · rintro C v led ⟨m, rfl⟩; exact ⟨m, _, rfl⟩
  · rintro C led ⟨m, u, rfl⟩; exact ⟨1, m, rfl⟩
  · intro C; rw [hcells]; exact ⟨_, _, rfl⟩
  obtain ⟨a, n, tst, G, ⟨r, b, t, u, v, rfl, hr, hsm, hn, _⟩, hsz, ht, he, hq⟩ := h₁
  refine wpAny_pyIter_range hr hsm ?_
  refine ⟨tst, G, s₁.heap.objs.size, _, [s₁.heap.objs.size], n, _, _, rfl, (Walks.range hh s₁.heap.objs.size a 1 n).bound, hsz, ?_, Kp.push _ _, Heap.get?_none_of_le (Nat.le_refl _), Heap.get?_push_size _ rfl, ?_, ?_, ?_, ?_, ?_, ?_, ?_⟩
  · have e1 : a + ((0 : Nat) : Int) * 1 = a := by omega
    have e2 : (n : Int) - ((0 : Nat) : Int) = Builtin.Range.rangeSize a b 1 := by rw [hn]; omega
    rw [e1, e2]
    exact Heap.get?_push_size _ rfl
  · intro b hb hne; simp at hb; exact absurd hb hne
  · intro i h hi; exact ⟨_, hi, trivial⟩
  · intro i v s₃ Q' E' _ _ hq'
    exact wpAny_pure hq'
  · rintro C i v X Y own s₃ Q' E' hP ⟨m, u, rfl⟩ S₃ hQ'
    refine wpAny_assign_Name (asgC (c := C + 1) S₃ 2 rfl (fun h' S' => hQ' _ _ _ ⟨m, rfl⟩ S') (by exact hkind) (by exact hxk) (by exact hxc (C + 1)))
  · rintro C i v X Y own s₃ E' hi ⟨_, t', rfl⟩ ⟨m, rfl⟩ S₃
    have := cell_of (S₃.getL 2 rfl)
    rw [Int.mul_one] at this
    exact ht C i t' s₃ E' hi this S₃.keep
  · rintro C i v X Y own s₃ E' hi hti ⟨_, t', rfl⟩ ⟨m, rfl⟩ S₃
    have := cell_of (S₃.getL 2 rfl)
    rw [Int.mul_one] at this
    exact he C i t' s₃ E' hi hti this S₃.keep
  · exact hq
end
end Mine
end
section
open PySem PySem.W PySem.Spec PySem.Calls PyProof.Rows
namespace Mine
section
variable {prog : Program} {w : World} {A : Around} {E : Value → Shared → Prop} {env : Env} {s : Shared} {Q : Flow → Shared → Prop}
theorem for_list {x : Str} {px pos : Pos} {iter : Expr} {body : List Stmt} (hh : A.handled = none) {h₀ : Heap} (dr : Drawn) (os : OsState) (J : Nat → Led → Array GenState → Prop)
    (h : wpAny (model prog w) A (eval iter env) (fun xv s₁ => Ex6 fun (h₁ : Heap) (g₁ : Array GenState) (tk₁ : Nat) (ax : Addr) (its : List Value) (led : Led) => Al8 (s₁ = ⟨h₁, g₁, dr, tk₁, os⟩) (xv = .ref ax) (St h₀ h₁ led) (J 0 led g₁) (∀ i led₁ g h₁ X, i ≤ its.length → J i led₁ g → St h₀ h₁ (X :: led₁) → h₁.IsList ax its.toArray) (∀ i v led₁ g h₁ tk I P E', its[i]? = some v → J i led₁ g → St h₀ h₁ ((I, P) :: led₁) →
        wpAny (model prog w) A (storeName env x v) (fun _ s₂ => wpAny (model prog w) A (execs body env)
          (fun f s₃ => match f with
            | .next | .cont => Ex4 fun h₃ g₃ tk₃ led₃ => Al3 (s₃ = ⟨h₃, g₃, dr, tk₃, os⟩) (J (i + 1) led₃ g₃) (St h₀ h₃ ((I, P) :: led₃))
            | .brk => Q .next s₃
            | .ret v => Q (.ret v) s₃) E' s₂) E' ⟨h₁, g, dr, tk, os⟩) (∀ led₁ g h₁ tk, J its.length led₁ g → St h₀ h₁ led₁ → Q .next ⟨h₁, g, dr, tk, os⟩) (h₁.IsList ax its.toArray)) E s)
    (hs : ∀ x, foldedSetIterable iter env x = pure x := by intro _; rfl) :
    wpAny (model prog w) A (exec (.For (.Name x px) iter body [] pos) env) Q E s := by
  refine wpAny_For (wpAny_mono h (fun xv s₁ h₁ => ?_) fun _ _ e => e) hs
  obtain ⟨H, G, T, ax, its, led, rfl, rfl, S, hJ, hL, step, fin, hl⟩ := h₁
  refine wpAny_pyIter_list hl ?_
  refine codeAny_forLoop
    (fun k s' => Ex5 fun h₁ g tk i led₁ => Al5 (s' = ⟨h₁, g, dr, tk, os⟩) (i ≤ its.length) (k = its.length - i) (J i led₁ g) (St h₀ h₁ ((H.objs.size, fun o => o.cls = .type "list_iterator" ∧ o.data = .fields #[.ref ax, .int i 0]) :: led₁))) ?_ its.length ?_
  · rintro k s' ⟨h₁, g, tk, i, led₁, rfl, hi, rfl, hJ, S₁⟩
    have hit : h₁.IsListIter H.objs.size ax i := S₁.getL 0 rfl
    have hl1 := hL i led₁ g h₁ _ hi hJ S₁
    by_cases hlt : i < its.length
    · obtain ⟨v, hv⟩ : ∃ v, its[i]? = some v := ⟨its[i], List.getElem?_eq_getElem hlt⟩
      refine wpAny_pyNext_list_item hit hl1 (x := v) (by rw [List.getElem?_toArray]; exact hv) fun h₂ hit₂ hs₂ => ?_
      have S₂ := S₁.upd 0 rfl hs₂.extBut hit₂
      dsimp only [List.set] at S₂
      refine wpAny_assign_Name (wpAny_mono (step i v led₁ g h₂ _ _ _ _ hv hJ S₂) (fun _ s₂ hs => wpAny_mono hs (fun f s₃ hf => ?_) fun _ _ x => x) fun _ _ x => x)
      cases f with
      | next => obtain ⟨h₃, g₃, tk₃, led₃, rfl, hJ₃, S₃⟩ := hf; exact ⟨its.length - (i + 1), by omega, h₃, g₃, tk₃, i + 1, led₃, rfl, hlt, rfl, hJ₃, S₃⟩
      | cont => obtain ⟨h₃, g₃, tk₃, led₃, rfl, hJ₃, S₃⟩ := hf; exact ⟨its.length - (i + 1), by omega, h₃, g₃, tk₃, i + 1, led₃, rfl, hlt, rfl, hJ₃, S₃⟩
      | brk => exact hf
      | ret v => exact hf
    · have hin : i = its.length := by omega
      subst hin
      refine wpAny_pyNext_list_end hh hit hl1 (by simp) fun h₂ he => wpAny_execs_nil ?_
      exact fin led₁ g h₂ tk hJ (S₁.but he)
  · refine ⟨_, G, T, 0, led, rfl, Nat.zero_le _, rfl, hJ, ?_⟩
    exact S.push _ ⟨rfl, rfl⟩
end
end Mine
end
section
open PySem PySem.W PySem.Spec PySem.Calls PyProof.Rows
open PySem.Builtin.Str (occurrences subAt strKind partsBetween strSub)
namespace Mine
noncomputable def dots : List Nat := [46, 46, 46]
theorem subAt_mk (x y : List Nat) (i : Nat) : subAt (mkS x) (mkS y) i = decide ((x.drop i).take y.length = y) := by
  rw [StrLaws.subAt_eq, mkS_cps, mkS_cps, mkS_len]
  by_cases h : (x.drop i).take y.length = y
  · rw [h]; simp
  · rw [decide_eq_false h]; exact beq_eq_false_iff_ne.mpr h
theorem at_dots (p : List Nat) (hp : 46 ∉ p) (i : Nat) : StrLaws.At (mkS (p ++ dots)) (mkS dots) (mkS (p ++ dots)).length i ↔ i = p.length := by
  unfold StrLaws.At
  rw [subAt_mk, mkS_len, mkS_len, decide_eq_true_eq]
  simp only [List.length_append, dots, List.length_cons, List.length_nil]
  constructor
  · rintro ⟨h1, h2⟩
    by_cases hlt : i < p.length
    · exfalso
      have h3 := congrArg (fun l => l[0]?) h2
      simp only [List.getElem?_take, List.getElem?_drop, Nat.add_zero] at h3
      rw [List.getElem?_append_left hlt, List.getElem?_eq_getElem hlt] at h3
      simp at h3
      exact hp (h3 ▸ List.getElem_mem hlt)
    · omega
  · rintro rfl
    refine ⟨by omega, ?_⟩
    rw [List.drop_left]; rfl
theorem occ_dots (p : List Nat) (hp : 46 ∉ p) (limit : Nat) (hl : 1 ≤ limit) : occurrences (mkS (p ++ dots)) (mkS dots) 0 (mkS (p ++ dots)).length limit = [p.length] := by
  obtain ⟨f, hc⟩ := StrLaws.occ_chain (mkS (p ++ dots)) (mkS dots) limit
  rcases StrLaws.occ_head_from (mkS (p ++ dots)) (mkS dots) 0 limit hl with ⟨_, h⟩ | ⟨i, r, e, _, hi, _⟩
  · exact absurd ((at_dots p hp _).mpr rfl) (h p.length (Nat.zero_le _))
  · rw [e] at hc ⊢
    have hi' := (at_dots p hp i).mp hi
    subst hi'
    cases r with
    | nil => rfl
    | cons c r =>
      exfalso
      have h2 := hc.2.2
      have h3 := (at_dots p hp c).mp h2.2.1
      have h4 := h2.1
      rw [mkS_len] at h4
      simp [dots] at h4
      omega
theorem kind_dots (x : Str) : (decide (Builtin.Str.strKind x < Builtin.Str.strKind (mkS dots))) = false := by
  have h1 : Builtin.Str.strKind (mkS dots) = 1 := by decide +kernel
  rw [h1]
  unfold Builtin.Str.strKind
  split
  · rfl
  · split <;> rfl
theorem parts_dots (p : List Nat) (hp : 46 ∉ p) : partsBetween (mkS (p ++ dots)) (occurrences (mkS (p ++ dots)) (mkS dots) 0 (mkS (p ++ dots)).length ((mkS (p ++ dots)).length + 1)) (mkS dots).length = [mkS p, mkS []] := by
  rw [occ_dots p hp _ (by omega)]
  have h1 : strSub (mkS (p ++ dots)) 0 p.length = mkS p := by
    rw [mkS_of (strSub _ _ _), StrLaws.strSub_toList, mkS_cps]; simp
  have h2 : strSub (mkS (p ++ dots)) (p.length + (mkS dots).length) (mkS (p ++ dots)).length = mkS [] := by
    rw [mkS_of (strSub _ _ _), StrLaws.strSub_toList, mkS_cps, mkS_len, mkS_len]; simp
  unfold partsBetween
  simp [h1, h2]
section
variable {prog : Program} {w : World} {A : Around} {E : Value → Shared → Prop} {s : Shared} {Q : Value → Shared → Prop}
theorem splitDots {p : List Nat} {t u : Tok} (hp : 46 ∉ p) (hl : p.length ≤ 1000)
    (h : ∀ D h' k t1 t2, Kp s.heap h' → s.heap.get? D = none → (∃ o, h'.get? D = some o ∧ oList [.str (mkS p) t1, .str (mkS []) t2] o) → Q (.ref D) { s with heap := h', toks := k }) :
    wpAny (model prog w) A (call (.builtin "str.split") [.str (mkS (p ++ dots)) t, .str (mkS dots) u]) Q E s := by
  refine call_meets F.slot_str_split (typeIs_str _ _ _) F.entry_str_split (F.args_str_split_2 _ _) (meets_str_split_sep (mkS (p ++ dots)) (mkS dots) t u ?_ ?_ ?_ ?_ ?_) ?_
  · rw [kind_dots, mkS_len, mkS_len]; simp
  · rw [mkS_len]; rfl
  · rw [occ_dots p hp _ (by omega)]; rfl
  · rw [mkS_len, sizeLine_eq]; simp [dots]; omega
  · rw [parts_dots p hp, sizeLine_eq]; simp
  rw [parts_dots p hp]
  exact h _ _ _ _ _ (Kp.push _ _) (Heap.get?_none_of_le (Nat.le_refl _)) ⟨_, Heap.get?_push_size _ rfl, 0, rfl⟩
theorem ninDots {p : List Nat} {t u : Tok} (hp : 46 ∉ p) (h : Q (.bool false) s) : wpAny (model prog w) A (compareOp .NotIn (.str (mkS dots) u) (.str (mkS (p ++ dots)) t)) Q E s := by
  refine P.notIn_str ?_
  rw [occ_dots p hp 1 (by omega)]; exact h
theorem startsS {x y : List Nat} {t u : Tok} (h : Q (.bool (decide (x.take y.length = y))) s) : wpAny (model prog w) A (call (.builtin "str.startswith") [.str (mkS x) t, .str (mkS y) u]) Q E s := by
  refine SC.startswith ?_
  have : Txt.startswith (mkS x) (mkS y) = decide (x.take y.length = y) := by
    unfold Txt.startswith
    rw [subAt_mk, mkS_len, mkS_len, List.drop_zero]
    by_cases h1 : x.take y.length = y
    · have h2 := congrArg List.length h1
      rw [List.length_take] at h2
      rw [decide_eq_true h1, decide_eq_true (by omega)]; rfl
    · rw [decide_eq_false h1]; simp
  rw [this]; exact h
theorem occ_empty (x : List Nat) (q : Nat) (hq : q ≤ x.length) : ∃ r, occurrences (mkS x) (mkS []) q (mkS x).length 1 = q :: r := by
  have hat : StrLaws.At (mkS x) (mkS []) (mkS x).length q := ⟨by rw [mkS_len, mkS_len]; simpa using hq, by rw [subAt_mk]; simp⟩
  rcases StrLaws.occ_head_from (mkS x) (mkS []) q 1 (Nat.le_refl _) with ⟨_, h⟩ | ⟨i, r, e, h1, h2, h3⟩
  · exact absurd hat (h q (Nat.le_refl _))
  · have : i = q := by
      rcases Nat.lt_or_ge q i with h | h
      · exact absurd hat (h3 q (Nat.le_refl _) h)
      · omega
    exact ⟨r, this ▸ e⟩
theorem find4 {x : List Nat} {q : Nat} {t u v z : Tok} (hq : q ≤ x.length) (h : ∀ t' k, Q (.int (q : Nat) t') { s with toks := k }) :
    wpAny (model prog w) A (call (.builtin "str.find") [.str (mkS x) t, .str (mkS []) u, .int (q : Nat) v, .int (x.length : Nat) z]) Q E s := by
  have g : Gives (Builtin.«str.find» ⟨[.str (mkS x) t, .str (mkS []) u, .int (q : Nat) v, .int (x.length : Nat) z], []⟩) (.int (q : Nat)) := by
    show Gives (match occurrences (mkS x) (mkS []) (fromIndex (mkS x).length (q : Nat)) (min (fromIndex (mkS x).length (x.length : Nat)) (mkS x).length) 1 with | k :: _ => retInt k | [] => (do rule "str.find.not-found"; retInt (-1))) _
    have e1 : fromIndex (mkS x).length (q : Nat) = q := by unfold fromIndex; rw [if_neg (by omega)]; omega
    have e2 : min (fromIndex (mkS x).length (x.length : Nat)) (mkS x).length = (mkS x).length := by unfold fromIndex; rw [if_neg (by omega), mkS_len]; omega
    rw [e1, e2]
    obtain ⟨r, e⟩ := occ_empty x q hq
    rw [e]
    exact .of_eq rfl
  exact call_gives F.slot_str_find (typeIs_str _ _ _) F.entry_str_find (F.args_str_find_4 _ _ _ _) g (h _ _)
end
end Mine
end
section
open PySem PySem.W PySem.Spec PySem.Calls PyProof.Rows
namespace Mine
section
variable {prog : Program} {w : World} {A : Around} {E : Value → Shared → Prop} {env : Env} {s : Shared} {Q : Value → Shared → Prop} {apos pos : Pos}
/-- a method call upon a built-in value -/
theorem mth {o : Expr} {name : Str} {T id : String} {e : Expr} {rest : List Expr} (hT : PlainAttrs T) (hS : Slot T name id) (hty : typeOf (.builtin id) = pure (.type "method_descriptor"))
    (h : wpAny (model prog w) A (eval o env) (fun ov s₁ => Al3 (s₁.TypeIs ov T) (∀ a, ov = .ref a → ∃ ob, s₁.heap.get? a = some ob ∧ ob.dict = none) (wpAny (model prog w) A (spliced (backTo pos (starEach (e :: rest) env))) (fun vs s₂ => wpAny (model prog w) A (call (.builtin id) (ov :: vs)) Q E s₂) E s₁)) E s)
    (hb : attributeBase o name env (eval o env) = eval o env := by rfl) (hp : (apos.endLine == pos.line) = true := by rfl)
    (he : starEach (e :: rest) env = (false, eval e env) :: starEach rest env := by rfl)
    (hpl : (backTo pos (starEach rest env)).any (·.1) = false := by rfl)
    (hr : ((((backTo pos (starEach (e :: rest) env)).all fun x => !x.fst) && (backToKw pos (keywordEach [] env)).all fun x => x.fst.isSome) && decide (((e :: rest).length + ([] : List Keyword).length + if ([] : List Keyword).isEmpty = true then 0 else 1) < 30)) = true := by rfl) :
    wpAny (model prog w) A (eval (.Call (.Attribute o name apos) (e :: rest) [] pos) env) Q E s := by
  refine wpAny_Call_method hb hr hp hT hS hty (wpAny_mono h (fun ov s₁ ⟨h1, h2, h3⟩ => ⟨h1, h2, ?_⟩) fun _ _ x => x)
  have h2 := h3
  rw [he] at h2 ⊢
  exact Calls.callWith_builtin (by show (false || (backTo pos (starEach rest env)).any (·.1)) = false; rw [hpl]; rfl) (Calls.evalArgs_plain h2)
theorem mthS {o : Expr} {name : Str} {id : String} {e : Expr} {rest : List Expr} (hS : Slot "str" name id) (hty : typeOf (.builtin id) = pure (.type "method_descriptor"))
    (h : wpAny (model prog w) A (eval o env) (fun ov s₁ => Ex2 fun x t => ov = .str x t ∧ 
      wpAny (model prog w) A (spliced (backTo pos (starEach (e :: rest) env))) (fun vs s₂ => wpAny (model prog w) A (call (.builtin id) (ov :: vs)) Q E s₂) E s₁) E s)
    (hb : attributeBase o name env (eval o env) = eval o env := by rfl) (hp : (apos.endLine == pos.line) = true := by rfl)
    (he : starEach (e :: rest) env = (false, eval e env) :: starEach rest env := by rfl)
    (hpl : (backTo pos (starEach rest env)).any (·.1) = false := by rfl)
    (hr : ((((backTo pos (starEach (e :: rest) env)).all fun x => !x.fst) && (backToKw pos (keywordEach [] env)).all fun x => x.fst.isSome) && decide (((e :: rest).length + ([] : List Keyword).length + if ([] : List Keyword).isEmpty = true then 0 else 1) < 30)) = true := by rfl) :
    wpAny (model prog w) A (eval (.Call (.Attribute o name apos) (e :: rest) [] pos) env) Q E s :=
  mth F.plainAttrs_str hS hty (wpAny_mono h (fun ov s₁ h₁ => by
    obtain ⟨x, t, rfl, h2⟩ := h₁
    exact ⟨typeIs_str _ _ _, fun a q => (nomatch q), h2⟩) fun _ _ x => x) hb hp he hpl hr
theorem truS {l : List Nat} {t : Tok} {Q : Bool → Shared → Prop} (hl : l.length ≤ 1000000) (h : ∀ k, Q (decide (l ≠ [])) { s with toks := k }) : wpAny (model prog w) A (truthy (.str (mkS l) t)) Q E s := by
  refine P.truthy_str (by rw [mkS_len]; omega) ?_
  have : (((mkS l).length : Int) != 0) = decide (l ≠ []) := by
    rw [mkS_len]
    cases l with
    | nil => rfl
    | cons a r => simp; omega
  rw [this]; exact h _
theorem subL {value slice : Expr}
    (h : wpAny (model prog w) A (eval value env) (fun o s₁ => wpAny (model prog w) A (eval slice env) (fun i s₂ => Ex5 fun (D : Addr) (its : List Value) (k : Int) (t : Tok) (v : Value) => Al7 (o = .ref D) (i = .int k t) (s₂.heap.IsList D its.toArray) (0 ≤ k) (k < 1000000000) (its[k.toNat]? = some v) (Q v s₂)) E s₁) E s)
    (hs : ∀ a k t, subscripted slice false (.ref a) (.int k t) = operate [.ref a, .int k t] (getItem (.ref a) (.int k t)) := by intro _ _ _; rfl) :
    wpAny (model prog w) A (eval (.Subscript value slice pos) env) Q E s := by
  refine Subscript_ (wpAny_mono h (fun o s₁ h₁ => wpAny_mono h₁ (fun i s₂ h₂ => ?_) fun _ _ x => x) fun _ _ x => x)
  obtain ⟨D, its, k, t, v, rfl, rfl, hl, h0, h1, hv, hq⟩ := h₂
  exact tail_any hl.typeIs F.slot_list_getitem.lookup (wpAny_getItem_list hl h0 (by omega) (by rw [List.getElem?_toArray]; exact hv) hq) (hs _ _ _)
theorem subLn {value slice : Expr}
    (h : wpAny (model prog w) A (eval value env) (fun o s₁ => wpAny (model prog w) A (eval slice env) (fun i s₂ => Ex4 fun (D : Addr) (its : List Value) (t : Tok) (v : Value) => Al6 (o = .ref D) (i = .int (-1) t) (s₂.heap.IsList D its.toArray) (its ≠ []) (its.getLast? = some v) (Q v s₂)) E s₁) E s)
    (hs : ∀ a k t, subscripted slice false (.ref a) (.int k t) = operate [.ref a, .int k t] (getItem (.ref a) (.int k t)) := by intro _ _ _; rfl) :
    wpAny (model prog w) A (eval (.Subscript value slice pos) env) Q E s := by
  refine Subscript_ (wpAny_mono h (fun o s₁ h₁ => wpAny_mono h₁ (fun i s₂ h₂ => ?_) fun _ _ x => x) fun _ _ x => x)
  obtain ⟨D, its, t, v, rfl, rfl, hl, hne, hv, hq⟩ := h₂
  have hpos := List.length_pos_iff.mpr hne
  refine tail_any hl.typeIs F.slot_list_getitem.lookup (wpAny_getItem_list_neg hl (by omega) (by simp; omega) (by decide) (x := v) ?_ hq) (hs _ _ _)
  rw [List.getLast?_eq_getElem?] at hv
  rw [List.getElem?_toArray, ← hv]
  congr 1
  simp; omega
theorem subS {value slice : Expr}
    (h : wpAny (model prog w) A (eval value env) (fun o s₁ => wpAny (model prog w) A (eval slice env) (fun i s₂ => Ex5 fun (l : List Nat) (u : Tok) (k : Int) (t : Tok) (c : Nat) => Al6 (o = .str (mkS l) u) (i = .int k t) (0 ≤ k) (k < 1000000000) (l[k.toNat]? = some c) (∀ t' k', Q (.str (mkS [c]) t') { s₂ with toks := k' })) E s₁) E s)
    (hs : ∀ x u k t, subscripted slice false (.str x u) (.int k t) = operate [.str x u, .int k t] (getItem (.str x u) (.int k t)) := by intro _ _ _ _; rfl) :
    wpAny (model prog w) A (eval (.Subscript value slice pos) env) Q E s := by
  refine Subscript_ (wpAny_mono h (fun o s₁ h₁ => wpAny_mono h₁ (fun i s₂ h₂ => ?_) fun _ _ x => x) fun _ _ x => x)
  obtain ⟨l, u, k, t, c, rfl, rfl, h0, h1, hc, hq⟩ := h₂
  have hlt : k.toNat < l.length := (List.getElem?_eq_some_iff.mp hc).1
  refine tail_any (typeIs_str _ _ _) F.slot_str_getitem.lookup (P.getItem_str ?_ ?_ (hq _ _)) (hs _ _ _ _)
  · rw [decide_eq_false (by omega), decide_eq_false (by omega)]; rfl
  · have e : seqIndex? k (mkS l).length = some k.toNat := seqIndex_of h0 (by rw [mkS_len]; omega)
    rw [e]
    show (mkS l).cps[k.toNat]? = some c
    simpa [mkS] using hc
end
end Mine

namespace Mine
section
variable {prog : Program} {w : World} {A : Around} {E : Value → Shared → Prop} {env : Env} {s : Shared} {Q : Value → Shared → Prop} {apos pos : Pos}
theorem lenL {D : Addr} {its : List Value} (hl : s.heap.IsList D its.toArray) (hn : its.length ≤ 1000000) (h : ∀ t' k, Q (.int its.length t') { s with toks := k }) : wpAny (model prog w) A (call (.builtin "len") [.ref D]) Q E s := by
  refine Calls.call_len_list hl (by simp; omega) ?_
  have : its.toArray.size = its.length := by simp
  rw [this]; exact h _ _
theorem unpT {D : Addr} {vs : List Value} {n : Nat} {Q : List Value → Shared → Prop} (hh : A.handled = none) (ht : s.heap.get? D = some { cls := .type "tuple", data := .seq vs.toArray }) (hn : n = vs.length)
    (h : ∀ h', Kp s.heap h' → Q vs { s with heap := h' }) : wpAny (model prog w) A (unpackItems (.ref D) n none) Q E s := by
  subst hn
  have hi : s.heap.IsTuple D vs.toArray := ⟨_, ht, rfl, 0, rfl⟩
  have := wpAny_unpackItems_tuple (prog := prog) (w := w) (A := A) (E := E) (Q := Q) hh hi (fun h' he => h h' fun b o e => he b o (Nat.ne_of_lt (Heap.lt_size e)) e)
  simpa using this
end
end Mine
end
section
open PySem PySem.W PySem.Spec PySem.Calls PyProof.Rows
namespace Mine
theorem dots_of : Str.ofString "..." = mkS dots := by decide +kernel
set_option maxRecDepth 100000 in
set_option maxHeartbeats 4000000 in
theorem sp_ell {w : World} {A : Around} {R : Result → Shared → Prop} {s : Shared} (p q : List Nat) (tx tp : Tok) (hp : 46 ∉ p) (hx : p.length ≤ 100) (hq : q.length ≤ 100) (r : Room A 10 100) (B : Bs w s.heap)
  (hret : ∀ h' tk', Kp s.heap h' → R (.ok (.ret (.bool (decide (q.take p.length = p))))) { s with heap := h', toks := tk' }) :
  codeAny (model PR w) A (.call (.ref 54) ⟨[.str (mkS (p ++ dots)) tx, .str (mkS q) tp], []⟩) R s := by
  refine enterC (d := 9) (u := 97) (binds := [(Str.ofString "want", .str (mkS (p ++ dots)) tx), (Str.ofString "got", .str (mkS q) tp)]) r B (by k_is) (by k_is) (fun Q E h => wpAny_pure h) ?_ (by decide) ?_
  · intro y hy; simp at hy
    rcases hy with rfl | rfl <;> (left; rfl)
  intro L h₁ tk A S0 r
  have S : St s.heap h₁ [(L, oNs fun y => if y = Str.ofString "got" then some (.str (mkS q) tp) else if y = Str.ofString "want" then some (.str (mkS (p ++ dots)) tx) else none)] := S0
  clear S0
  refine wpAny_execs_cons (wpAny_If (wpAny_isTrue_Compare1 (nmG (B.ext S.keep) (by k_is) (nmL (ns_of (S.getL 0 rfl)) (by walk_at "lk") ?_))))
  rw [dots_of]
  refine ninDots hp (wpAny_truthy_bool ?_)
  rw [if_neg (by simp)]
  refine wpAny_execs_nil ?_
  refine wpAny_execs_cons (wpAny_Assign_Name (mthS (name := Str.ofString "split") F.slot_str_split F.type_str_split (nmL (ns_of (S.getL 0 rfl)) (by walk_at "lk") ⟨_, _, rfl, wpAny_items_cons (nmG (B.ext S.keep) (by k_is) (wpAny_items_nil ?_))⟩)))
  rw [dots_of]
  refine splitDots hp (by omega) fun D h2 k2 t1 t2 kp2 hD hl2 => ?_
  refine asg (S.fresh kp2 hD hl2) 1 rfl fun h3 k3 S3 => ?_
  dsimp only [List.set] at S3
  refine nrm h3 s.gens s.drawn k3 s.os ?_
  refine wpAny_execs_cons (wpAny_Assert_holds ?_)
  refine wpAny_isTrue_Compare1 (wpAny_Call_NameR (nmB (v := .builtin "len") (B.ext S3.keep) (by k_is) bb_len (PyProof.Rows.callWith_builtin1 (wpAny_items_cons (nmL (ns_of (S3.getL 1 rfl)) (by walk_at "lk") (wpAny_items_nil ?_))))))
  refine lenL (list_of (S3.getL 0 rfl)) (by simp) fun t4 k4 => wpAny_Constant_int (ge_int (wpAny_truthy_bool ⟨rfl, ?_⟩))
  refine nrm h3 s.gens s.drawn _ s.os ?_
  refine wpAny_execs_cons (Assign_Tuple_swapped (tupD (wpAny_items_cons (wpAny_Constant_int (wpAny_items_cons (wpAny_Call_NameR (nmB (v := .builtin "len") (B.ext S3.keep) (by k_is) bb_len (PyProof.Rows.callWith_builtin1 (wpAny_items_cons (nmL (ns_of (S3.getL 1 rfl)) (by walk_at "lk") (wpAny_items_nil ?_)))))))))))
  refine lenS (by omega) fun t5 k5 => wpAny_items_nil ⟨by simp, fun D5 h5 kp5 _ ht5 => ?_⟩
  refine unpT r.hh ht5 rfl fun h6 kp6 => ?_
  refine wpAny_assignInOrder_more (wpAny_bindName (asg (S3.ext (kp5.trans kp6)) 1 rfl fun h7 k7 S7 => ?_))
  refine wpAny_assignInOrder_more (wpAny_bindName (asg S7 1 rfl fun h8 k8 S8 => wpAny_pure ?_))
  dsimp only [List.set] at S8
  refine nrm h8 s.gens s.drawn _ s.os ?_
  clear S7 S3
  refine wpAny_execs_cons (wpAny_Assign_Name (subL (nmL (ns_of (S8.getL 1 rfl)) (by walk_at "lk") (wpAny_Constant_int ⟨D, _, 0, _, _, rfl, rfl, list_of (S8.getL 0 rfl), by omega, by omega, rfl, asg S8 1 rfl fun h9 k9 S9 => ?_⟩))))
  dsimp only [List.set] at S9
  refine nrm h9 s.gens s.drawn _ s.os ?_
  clear S8
  refine wpAny_execs_cons (wpAny_mono (Q := fun f s' => (Ex4 fun h' k' its m' => Al11 (f = Flow.next) (s' = ⟨h', s.gens, s.drawn, k', s.os⟩) (St s.heap h' [(D, oList its), (L, oNs m')]) (∀ v ∈ its, IsS [] v) (its ≠ []) (its.length ≤ 2) (m' (Str.ofString "got") = some (.str (mkS q) tp)) (m' (Str.ofString "ws") = some (.ref D)) (∃ t, m' (Str.ofString "startpos") = some (.int (p.length : Nat) t)) (∃ t, m' (Str.ofString "endpos") = some (.int (q.length : Nat) t)) (q.take p.length = p)) ∨
      (Ex2 fun h' k' => Al4 (f = Flow.ret (.bool false)) (s' = ⟨h', s.gens, s.drawn, k', s.os⟩) (Kp s.heap h') (¬ q.take p.length = p))) ?_ ?_ fun _ _ x => x)
  · refine wpAny_If (wpAny_isTrue_value (nmL (ns_of (S9.getL 1 rfl)) (by walk_at "lk") (truS (by omega) fun k10 => ?_)))
    by_cases hpe : p = []
    · subst hpe
      rw [if_neg (by simp)]
      refine wpAny_execs_nil (.inl ⟨h9, _, _, _, rfl, rfl, S9, ?_, by simp, by simp, by walk_at "lk", by walk_at "lk", ⟨_, by walk_at "lk"⟩, ⟨_, by walk_at "lk"⟩, by simp⟩)
      · intro v hv
        simp only [List.mem_cons, List.not_mem_nil, or_false] at hv
        rcases hv with rfl | rfl
        · exact ⟨t1, rfl⟩
        · exact ⟨t2, rfl⟩
    · rw [if_pos (decide_eq_true hpe)]
      refine wpAny_execs_cons (wpAny_If (wpAny_isTrue_value (mthS (name := Str.ofString "startswith") F.slot_str_startswith F.type_str_startswith (nmL (ns_of (S9.getL 1 rfl)) (by walk_at "lk") ⟨_, _, rfl, wpAny_items_cons (nmL (ns_of (S9.getL 1 rfl)) (by walk_at "lk") (wpAny_items_nil (startsS (wpAny_truthy_bool ?_))))⟩))))
      by_cases hst : q.take p.length = p
      · rw [if_pos (decide_eq_true hst)]
        refine wpAny_execs_cons (wpAny_Assign_Name (wpAny_Call_NameR (nmB (v := .builtin "len") (B.ext S9.keep) (by k_is) bb_len (PyProof.Rows.callWith_builtin1 (wpAny_items_cons (nmL (ns_of (S9.getL 1 rfl)) (by walk_at "lk") (wpAny_items_nil ?_)))))))
        refine lenS (by omega) fun t11 k11 => asg S9 1 rfl fun h12 k12 S12 => ?_
        dsimp only [List.set] at S12
        refine wpAny_execs_cons (wpAny_Delete (wpAny_deleteEach_cons (wpAny_delete_Subscript (nmL (ns_of (S12.getL 1 rfl)) (by walk_at "lk") (wpAny_Constant_int ?_)))))
        obtain ⟨ob, hob, nn, rfl⟩ := S12.getL 0 rfl
        refine delItem_at hob (by decide) (k := 0) rfl (fun h13 hs13 hl13 => ?_) (by rw [sizeLine_eq]; simp)
        have S13 := S12.upd 0 (P' := oList [.str (mkS []) t2]) rfl hs13.extBut ⟨_, hl13, nn + 1, rfl⟩
        dsimp only [List.set] at S13
        refine wpAny_deleteEach_nil (wpAny_execs_nil (wpAny_execs_nil (.inl ⟨h13, _, _, _, rfl, rfl, S13, ?_, by simp, by simp, by walk_at "lk", by walk_at "lk", ⟨_, by walk_at "lk"⟩, ⟨_, by walk_at "lk"⟩, hst⟩)))
        intro v hv
        rw [List.mem_singleton.mp hv]; exact ⟨t2, rfl⟩
      · rw [if_neg (by simp [hst])]
        refine wpAny_execs_cons (wpAny_Return_some (wpAny_Constant_bool (.inr ⟨h9, _, rfl, rfl, S9.keep, hst⟩)))
  rintro f s' (⟨h14, k14, its, m14, rfl, rfl, S14, hits, hne, hlen, m1, m2, ⟨t14, m3⟩, ⟨t15, m4⟩, hst⟩ | ⟨h14, k14, rfl, rfl, kp14, hst⟩)
  · obtain ⟨vl, hvl⟩ : ∃ v, its.getLast? = some v := by
      cases e : its.getLast? with
      | none => exact absurd (List.getLast?_eq_none_iff.mp e) hne
      | some v => exact ⟨v, rfl⟩
    obtain ⟨tl, rfl⟩ := hits vl (List.mem_of_getLast? hvl)
    have hpq : p.length ≤ q.length := by
      have := congrArg List.length hst
      rw [List.length_take] at this; omega
    refine wpAny_execs_cons (wpAny_Assign_Name (subLn (nmL (ns_of (S14.getL 1 rfl)) (by walk_at "lk") (wpAny_UnaryOp (wpAny_Constant_int (neg_int ⟨D, its, _, _, rfl, rfl, list_of (S14.getL 0 rfl), hne, hvl, asg S14 1 rfl fun h15 k15 S15 => ?_⟩))))))
    dsimp only [List.set] at S15
    refine nrm h15 s.gens s.drawn _ s.os ?_
    refine wpAny_execs_cons (wpAny_If (wpAny_isTrue_value (nmL (ns_of (S15.getL 1 rfl)) (by walk_at "lk") (truS (by simp) fun k16 => ?_))))
    rw [if_neg (by simp)]
    refine wpAny_execs_nil ?_
    refine wpAny_execs_cons (wpAny_If (wpAny_isTrue_Compare1 (nmL (ns_of (S15.getL 1 rfl)) (by walk_at "lk") (nmL (ns_of (S15.getL 1 rfl)) (by walk_at "lk") (gt_int (wpAny_truthy_bool ?_))))))
    rw [if_neg (by simp; omega)]
    refine wpAny_execs_nil ?_
    refine nrm h15 s.gens s.drawn _ s.os ?_
    refine wpAny_execs_cons (for_list r.hh (h₀ := s.heap) s.drawn s.os (fun i led g => ∃ m, Al5 (led = [(D, oList its), (L, oNs m)]) (m (Str.ofString "got") = some (.str (mkS q) tp)) (∃ t, m (Str.ofString "startpos") = some (.int (p.length : Nat) t)) (∃ t, m (Str.ofString "endpos") = some (.int (q.length : Nat) t)) (g = s.gens)) ?_)
    refine nmL (ns_of (S15.getL 1 rfl)) (by walk_at "lk") ⟨_, _, _, _, its, _, rfl, rfl, S15, ⟨_, rfl, by walk_at "lk", ⟨_, by walk_at "lk"⟩, ⟨_, by walk_at "lk"⟩, rfl⟩, ?_, ?_, ?_, list_of (S15.getL 0 rfl)⟩
    · rintro i led₁ g h₁ X _ ⟨m, rfl, _⟩ S16
      exact list_of (S16.getL 1 rfl)
    · rintro i v led₁ g h₁ tk I P E' hv ⟨m, rfl, e1, ⟨t16, e2⟩, ⟨t17, e3⟩, rfl⟩ S16
      obtain ⟨tv, rfl⟩ := hits v (List.mem_of_getElem? hv)
      refine asg S16 2 rfl fun h17 k17 S17 => ?_
      dsimp only [List.set] at S17
      refine nrm h17 s.gens s.drawn _ s.os ?_
      refine wpAny_execs_cons (wpAny_Assign_Name (mthS (name := Str.ofString "find") F.slot_str_find F.type_str_find (nmL (ns_of (S17.getL 2 rfl)) (by walk_at "lk") ⟨_, _, rfl, wpAny_items_cons (nmL (ns_of (S17.getL 2 rfl)) (by walk_at "lk") (wpAny_items_cons (nmL (ns_of (S17.getL 2 rfl)) (by walk_at "lk") (wpAny_items_cons (nmL (ns_of (S17.getL 2 rfl)) (by walk_at "lk") (wpAny_items_nil ?_))))))⟩)))
      refine find4 hpq fun t18 k18 => asg S17 2 rfl fun h19 k19 S19 => ?_
      dsimp only [List.set] at S19
      refine nrm h19 s.gens s.drawn _ s.os ?_
      refine wpAny_execs_cons (wpAny_If (wpAny_isTrue_Compare1 (nmL (ns_of (S19.getL 2 rfl)) (by walk_at "lk") (wpAny_Constant_int (lt_int (wpAny_truthy_bool ?_))))))
      rw [if_neg (by simp)]
      refine wpAny_execs_nil (wpAny_execs_cons (wpAny_AugAssign_Name (wpAny_loadName_local rfl rfl (ns_of (S19.getL 2 rfl)) (by walk_at "lk") ?_)))
      refine wpAny_Call_NameR (nmB (v := .builtin "len") (B.ext S19.keep) (by k_is) bb_len (PyProof.Rows.callWith_builtin1 (wpAny_items_cons (nmL (ns_of (S19.getL 2 rfl)) (by walk_at "lk") (wpAny_items_nil ?_)))))
      refine lenS (by simp) fun t20 k20 => wpAny_iadd_int (asg S19 2 rfl fun h21 k21 S21 => ?_)
      dsimp only [List.set] at S21
      refine wpAny_execs_nil ⟨h21, _, k21, _, rfl, ⟨_, rfl, by walk_at "lk", ⟨_, by walk_at "lk"⟩, ⟨_, by walk_at "lk"⟩, rfl⟩, S21⟩
    · rintro led₁ g h₁ tk ⟨m, rfl, _, _, _, rfl⟩ S16
      refine wpAny_execs_cons (wpAny_Return_some (wpAny_Constant_bool ?_))
      have := hret h₁ tk S16.keep
      rw [decide_eq_true hst] at this
      exact this
  · have := hret h14 k14 kp14
    rw [decide_eq_false hst] at this
    exact this
end Mine
end
section
open PySem PySem.W PySem.Spec PySem.Calls PyProof.Rows
namespace Mine
noncomputable def bis (lt : Nat → Bool) : Nat → Nat → Nat → Nat
  | 0, lo, _ => lo
  | k + 1, lo, hi => if lo < hi then (if lt ((lo + hi) / 2) then bis lt k ((lo + hi) / 2 + 1) hi else bis lt k lo ((lo + hi) / 2)) else lo
theorem bis_fuel (lt : Nat → Bool) : ∀ k k' lo hi, hi - lo ≤ k → hi - lo ≤ k' → bis lt k lo hi = bis lt k' lo hi
  | 0, 0, _, _, _, _ => rfl
  | 0, k' + 1, lo, hi, h, _ => by
    unfold bis
    rw [if_neg (by omega)]
  | k + 1, 0, lo, hi, _, h => by
    unfold bis
    rw [if_neg (by omega)]
  | k + 1, k' + 1, lo, hi, h, h' => by
    unfold bis
    split
    · split
      · exact bis_fuel lt k k' _ _ (by omega) (by omega)
      · exact bis_fuel lt k k' _ _ (by omega) (by omega)
    · rfl
noncomputable def bisect (lt : Nat → Bool) (n : Nat) : Nat := bis lt n 0 n
theorem bis_le (lt : Nat → Bool) : ∀ k lo hi n, hi ≤ n → lo ≤ n → bis lt k lo hi ≤ n
  | 0, _, _, _, _, h => h
  | k + 1, lo, hi, n, h, h' => by
    unfold bis
    split
    · split
      · exact bis_le lt k _ _ n h (by omega)
      · exact bis_le lt k _ _ n (by omega) h'
    · exact h'
end Mine
end
section
open PySem PySem.W PySem.Spec PySem.Calls PyProof.Rows
namespace Mine
theorem ilE {h h' : Heap} {a : Addr} {its : Array Value} (k : Kp h h') (x : h.IsList a its) : h'.IsList a its := let ⟨o, e, q⟩ := x; ⟨o, k _ _ e, q⟩
set_option maxRecDepth 100000 in
set_option maxHeartbeats 4000000 in
theorem sp_bisect {w : World} {A : Around} {R : Result → Shared → Prop} {s : Shared} (D kf : Addr) (its : List Value) (xv : Value) (lt : Nat → Bool) (Y : Nat → Value → Prop) (r : Room A 40 400) (B : Bs w s.heap)
  (hl : s.heap.IsList D its.toArray) (hn : its.length ≤ 1000) (hkf : ∃ o fd, s.heap.get? kf = some o ∧ o.data = .func fd)
  (hkey : ∀ (A' : Around) (R' : Result → Shared → Prop) (h : Heap) (g : Array GenState) (tk : Nat) (i : Nat) (v : Value), Room A' 30 350 → its[i]? = some v → Kp s.heap h → (∀ y h' tk', Kp h h' → Y i y → R' (.ok (.ret y)) ⟨h', g, s.drawn, tk', s.os⟩) →
    codeAny (model PR w) A' (.call (.ref kf) ⟨[v], []⟩) R' ⟨h, g, s.drawn, tk, s.os⟩)
  (hcmp : ∀ (A' : Around) (E' : Value → Shared → Prop) (Q : Value → Shared → Prop) (s' : Shared) (i : Nat) (y : Value), i < its.length → Y i y → Q (.bool (lt i)) s' → wpAny (model PR w) A' (compareOp .Lt y xv) Q E' s')
  (hret : ∀ t h' tk', Kp s.heap h' → R (.ok (.ret (.int (bisect lt its.length : Nat) t))) { s with heap := h', toks := tk' }) :
  codeAny (model PR w) A (.call (.ref 47) ⟨[.ref D, xv], [(Str.ofString "key", .ref kf)]⟩) R s := by
  refine enterC (d := 39) (u := 397) (binds := [(Str.ofString "a", .ref D), (Str.ofString "x", xv), (Str.ofString "lo", .int 0 291), (Str.ofString "hi", .none), (Str.ofString "key", .ref kf)]) r B (by k_is) (by k_is) (fun Q E h => binds_K (K := hd.heap_39 w.params) B.K rfl (by k_is) rfl rfl rfl _ _ _ _ h) ?_ (by decide) ?_
  · intro y hy; simp at hy
    rcases hy with rfl | rfl | rfl | rfl | rfl <;> (left; rfl)
  intro L h₁ tk A S0 r
  obtain ⟨m0, hm0, ea, ex, elo, ehi, eky⟩ : ∃ m0 : Str → Option Value, Al6 (St s.heap h₁ [(L, oNs m0)]) (m0 (Str.ofString "a") = some (.ref D)) (m0 (Str.ofString "x") = some xv) (m0 (Str.ofString "lo") = some (.int 0 291)) (m0 (Str.ofString "hi") = some .none) (m0 (Str.ofString "key") = some (.ref kf)) := ⟨_, S0, rfl, rfl, rfl, rfl, rfl⟩
  clear S0
  have S := hm0
  clear hm0
  refine wpAny_execs_cons (wpAny_If (wpAny_isTrue_Compare1 (nmL (ns_of (S.getL 0 rfl)) (by walk_at "lk") (wpAny_Constant_int (lt_int (wpAny_truthy_bool ?_))))))
  rw [if_neg (by decide)]
  refine wpAny_execs_nil ?_
  refine wpAny_execs_cons (wpAny_If (wpAny_isTrue_Compare1 (nmL (ns_of (S.getL 0 rfl)) (by walk_at "lk") (wpAny_Constant_none (wpAny_is_self rfl (wpAny_truthy_bool ?_))))))
  rw [if_pos rfl]
  refine wpAny_execs_cons (wpAny_Assign_Name (wpAny_Call_NameR (nmB (v := .builtin "len") (B.ext S.keep) (by k_is) bb_len (PyProof.Rows.callWith_builtin1 (wpAny_items_cons (nmL (ns_of (S.getL 0 rfl)) (by walk_at "lk") (wpAny_items_nil ?_)))))))
  refine lenL (its := its) (ilE S.keep hl) (by omega) fun t2 k2 => asg S 0 rfl fun h3 k3 S3 => ?_
  dsimp only [List.set] at S3
  refine wpAny_execs_nil ?_
  refine nrm h3 s.gens s.drawn _ s.os ?_
  refine wpAny_execs_cons (wpAny_If (wpAny_isTrue_Compare1 (nmL (v := .ref kf) (ns_of (S3.getL 0 rfl)) (by walk_at "lk") (wpAny_Constant_none (wpAny_is_other rfl (fun e => nomatch e) (wpAny_truthy_bool ?_))))))
  rw [if_neg (by simp)]
  refine wpAny_execs_cons (wpAny_While ?_)
  refine codeAny_whileLoop (fun k s' => Ex7 fun h' k' m lo hi t t' => Al11 (s' = ⟨h', s.gens, s.drawn, k', s.os⟩) (St s.heap h' [(L, oNs m)]) (k = hi - lo) (hi ≤ its.length) (lo ≤ its.length) (bis lt (hi - lo) lo hi = bisect lt its.length) (m (Str.ofString "a") = some (.ref D)) (m (Str.ofString "x") = some xv) (m (Str.ofString "lo") = some (.int (lo : Nat) t)) (m (Str.ofString "hi") = some (.int (hi : Nat) t')) (m (Str.ofString "key") = some (.ref kf))) ?_ its.length
    ⟨h3, _, _, 0, its.length, 291, t2, rfl, S3, by omega, Nat.le_refl _, Nat.zero_le _, rfl, by walk_at "lk", by walk_at "lk", by walk_at "lk", by walk_at "lk", by walk_at "lk"⟩
  rintro k s' ⟨h4, k4, m, lo, hi, t4, t5, rfl, S4, rfl, hhi, hlo, hb, e1, e2, e3, e4, e5⟩
  refine wpAny_isTrue_Compare1 (nmL (ns_of (S4.getL 0 rfl)) (by walk_at "lk") (nmL (ns_of (S4.getL 0 rfl)) (by walk_at "lk") (lt_int (wpAny_truthy_bool ?_))))
  by_cases hlt : lo < hi
  · rw [if_pos (decide_eq_true (by omega))]
    refine wpAny_execs_cons (wpAny_Assign_Name (wpAny_BinOp (wpAny_BinOp (nmL (ns_of (S4.getL 0 rfl)) (by walk_at "lk") (nmL (ns_of (S4.getL 0 rfl)) (by walk_at "lk") (add_int (wpAny_Constant_int (floordiv_int (by decide) ?_ (.inl ?_)))))))))
    rotate_left
    · exact PyProof.noPylong_of_log2 (by decide)
    have hm : ((lo : Int) + (hi : Int)).fdiv 2 = (((lo + hi) / 2 : Nat) : Int) := by
      rw [Int.fdiv_eq_ediv_of_nonneg _ (by decide)]; omega
    rw [hm]
    refine asg S4 0 rfl fun h6 k6 S6 => ?_
    dsimp only [List.set] at S6
    refine nrm h6 s.gens s.drawn _ s.os ?_
    have hmid : (lo + hi) / 2 < its.length := by omega
    refine wpAny_execs_cons (wpAny_If (wpAny_isTrue_Compare1 (wpAny_Call_NameR (nmL (ns_of (S6.getL 0 rfl)) (by walk_at "lk") ?_))))
    obtain ⟨ok, fk, hk1, hk2⟩ := hkf
    refine Calls.callWith_function (o := ok) (fd := fk) (Calls.evalArgs_plain (wpAny_items_cons (subL (nmL (ns_of (S6.getL 0 rfl)) (by walk_at "lk") (nmL (ns_of (S6.getL 0 rfl)) (by walk_at "lk") ⟨D, its, _, _, _, rfl, rfl, ilE S6.keep hl, by omega, by omega, List.getElem?_eq_getElem (by omega : (((lo + hi) / 2 : Nat) : Int).toNat < its.length), wpAny_items_nil ⟨⟨S6.keep _ _ hk1, hk2⟩, wpAny_call ?_⟩⟩)))))
    refine nrmC h6 s.gens s.drawn _ s.os (hkey _ _ h6 s.gens _ ((lo + hi) / 2) _ r.less ?_ S6.keep fun y h7 k7 kp7 hy => ?_)
    · rw [List.getElem?_eq_getElem hmid]
      exact congrArg some (by congr 1)
    refine nmL (ns_of ((S6.ext kp7).getL 0 rfl)) (by walk_at "lk") (hcmp _ _ _ _ _ _ hmid hy (wpAny_truthy_bool ?_))
    have S7 := S6.ext kp7
    have hbe : bis lt (hi - lo) lo hi = if lt ((lo + hi) / 2) then bis lt (hi - ((lo + hi) / 2 + 1)) ((lo + hi) / 2 + 1) hi else bis lt ((lo + hi) / 2 - lo) lo ((lo + hi) / 2) := by
      obtain ⟨q, hq⟩ : ∃ q, hi - lo = q + 1 := ⟨hi - lo - 1, by omega⟩
      rw [hq]
      conv => lhs; unfold bis
      rw [if_pos hlt]
      split
      · exact bis_fuel lt _ _ _ _ (by omega) (by omega)
      · exact bis_fuel lt _ _ _ _ (by omega) (by omega)
    rw [hbe] at hb
    cases hltv : lt ((lo + hi) / 2) with
    | true =>
      rw [if_pos rfl]
      rw [hltv, if_pos rfl] at hb
      refine wpAny_execs_cons (wpAny_Assign_Name (wpAny_BinOp (nmL (ns_of (S7.getL 0 rfl)) (by walk_at "lk") (wpAny_Constant_int (add_int (asg S7 0 rfl fun h8 k8 S8 => ?_))))))
      dsimp only [List.set] at S8
      refine wpAny_execs_nil (wpAny_execs_nil ⟨hi - ((lo + hi) / 2 + 1), by omega, h8, _, _, (lo + hi) / 2 + 1, hi, _, t5, rfl, S8, rfl, hhi, by omega, hb, by walk_at "lk", by walk_at "lk", by walk_at "lk", by walk_at "lk", by walk_at "lk"⟩)
    | false =>
      rw [if_neg (by simp)]
      rw [hltv, if_neg (by simp)] at hb
      refine wpAny_execs_cons (wpAny_Assign_Name (nmL (ns_of (S7.getL 0 rfl)) (by walk_at "lk") (asg S7 0 rfl fun h8 k8 S8 => ?_)))
      dsimp only [List.set] at S8
      refine wpAny_execs_nil (wpAny_execs_nil ⟨(lo + hi) / 2 - lo, by omega, h8, _, _, lo, (lo + hi) / 2, t4, _, rfl, S8, rfl, by omega, hlo, hb, by walk_at "lk", by walk_at "lk", by walk_at "lk", by walk_at "lk", by walk_at "lk"⟩)
  · rw [if_neg (by simp; omega)]
    refine wpAny_execs_nil (wpAny_execs_nil (wpAny_execs_cons (wpAny_Return_some (nmL (ns_of (S4.getL 0 rfl)) e3 ?_))))
    have hz : bis lt (hi - lo) lo hi = lo := by
      rw [show hi - lo = 0 by omega]; rfl
    rw [hz] at hb
    have := hret t4 h4 k4 S4.keep
    rw [← hb] at this
    exact this
end Mine
end
section
open PySem PySem.W PySem.Spec PySem.Calls PyProof.Rows
namespace Mine
noncomputable def oCode (q : Str) (o : Obj) : Prop := Ex2 fun vs t => o.data = .fields vs ∧ vs[1]? = some (.str q t)
noncomputable def isO (o' : Obj) (o : Obj) : Prop := o = o'
theorem isO_of {h : Heap} {a : Addr} {o' : Obj} (x : ∃ o, h.get? a = some o ∧ isO o' o) : h.get? a = some o' := let ⟨o, e, q⟩ := x; by rw [e, q]
theorem codeRec_at {h : Heap} {c : Addr} {q : Str} (x : ∃ o, h.get? c = some o ∧ oCode q o) : h.CodeRec (.ref c) q := let ⟨o, e, vs, t, a, b⟩ := x; ⟨c, o, vs, t, rfl, e, a, b⟩
theorem code_of {h : Heap} {c : Addr} {q : Str} (x : h.CodeRec (.ref c) q) : ∃ o, h.get? c = some o ∧ oCode q o := let ⟨c', o, vs, t, e0, e, a, b⟩ := x; by cases e0; exact ⟨o, e, vs, t, a, b⟩

/-- what a call makes, over what its caller owns -/
theorem St.comp {h₀ h h' : Heap} {led led2 : Led} (S : St h₀ h led) (S2 : St h h' led2) : St h₀ h' (led2 ++ led) := by
  refine ⟨S.keep.trans S2.keep, fun p hp => ?_, fun p hp => ?_, ?_⟩
  · rcases List.mem_append.mp hp with m | m
    · exact S2.cell p m
    · obtain ⟨o, e, q⟩ := S.cell p m
      exact ⟨o, S2.keep _ _ e, q⟩
  · rcases List.mem_append.mp hp with m | m
    · cases e : h₀.get? p.1 with
      | none => rfl
      | some o => have := S.keep _ _ e; rw [S2.new p m] at this; cases this
    · exact S.new p m
  · refine List.pairwise_append.mpr ⟨S2.nd, S.nd, fun p hp q hq e => ?_⟩
    obtain ⟨o, eo, _⟩ := S.cell q hq
    have := S2.new p hp
    rw [e, eo] at this; cases this
/-- what is owned and never changed again goes to the ground -/
theorem St.freeze {h₀ h : Heap} {X led : Led} (S : St h₀ h (X ++ led)) : ∃ hb, Al5 (Kp h₀ hb) (St hb h led) (∀ p ∈ X, ∃ o, hb.get? p.1 = some o ∧ p.2 o) (Kp hb h) (∀ b o, h.get? b = some o → (∀ p ∈ led, p.1 ≠ b) → hb.get? b = some o) := by
  have S' : St h₀ h led := S.sub (List.sublist_append_right ..)
  have keep : ∀ b o, h.get? b = some o → (∀ p ∈ led, p.1 ≠ b) → (hideAll h (led.map (·.1))).get? b = some o := fun b o e hb => hideAll_get _ e (fun m => by
    obtain ⟨p, hp, e2⟩ := List.mem_map.mp m
    exact hb p hp e2)
  have hk : Kp (hideAll h (led.map (·.1))) h := fun b o e => of_hideAll _ e
  refine ⟨hideAll h (led.map (·.1)), fun b o e => keep b o (S.keep _ _ e) fun p hp q => ?_, ⟨hk, S'.cell, fun p hp => hideAll_none _ (List.mem_map_of_mem hp), S'.nd⟩, fun p hp => ?_, hk, keep⟩
  · have := S'.new p hp
    rw [q, e] at this; cases this
  · obtain ⟨o, e, q⟩ := S.cell p (List.mem_append_left _ hp)
    exact ⟨o, keep _ _ e (fun q hq => ((List.pairwise_append.mp S.nd).2.2 p hp q hq).symm), q⟩

section
variable {w : World} {A : Around} {E : Value → Shared → Prop} {env : Env} {s : Shared} {Q : Value → Shared → Prop} {pos : Pos} {h₀ : Heap} {led : Led} {c P : Addr} {ps : Array Value} {params : Arguments} {body : Expr} {scope : Scope} {clos : List (Str × Addr)}
theorem builtinsAt {mg mb : Str → Option Value} (T : TopQ mg mb s.heap) (hP : s.heap.get? P = some (tabObj ps)) : mainGlobals ≠ P ∧ s.heap.BuiltinsAt mg P := by
  obtain ⟨bm, ob, b1, b2, b3, b4, b5, b6⟩ := T.bmain
  refine ⟨fun q => ?_, ⟨bm, ob, b1, b2, fun q => ?_, fun q => ?_, b3, b4, b5, b6⟩⟩
  · obtain ⟨o, es, ep, e, hd, _⟩ := T.g
    rw [q, hP] at e; cases e; cases hd
  · obtain ⟨o, es, ep, e, hd, _⟩ := T.g
    rw [q, e] at b3; cases b3; rw [hd] at b6; cases b6
  · rw [q, hP] at b3; cases b3; cases b4
/-- a lambda met for the first time -/
theorem lam_new (S : St h₀ s.heap led) (i : Nat) (hi : led[i]? = some (P, isO (tabObj ps))) (B : Bs w s.heap) (C : CodeHd s.heap c P) (hcode : env.code = .ref c) (hcl : closureFor scope env = pure clos)
    (ht : TriplesOk ps.toList) (hnf : codeAmong pos ps.toList = none)
    (h : ∀ f c' pm ctv h' tk, St h₀ h' ((f, isO (kla_obj "<lambda>" (env.qual ++ "<lambda>") params body scope clos pm c' ctv)) :: (c', oCode (env.qual ++ "<lambda>")) :: led.set i (P, isO (tabObj (ps ++ #[rawInt pos.line, rawInt pos.col, .ref c'])))) → Heap.ExtBut P s.heap h' → Q (.ref f) { s with heap := h', toks := tk })
    (hge : env.globals = mainGlobals := by rfl) (hdef : defaultsOf params env = ([], []) := by rfl) :
    wpAny (model PR w) A (eval (.Lambda params body scope pos) env) Q E s := by
  obtain ⟨mg, mb, T⟩ := B.T
  have hP := isO_of (S.getL i hi)
  obtain ⟨hgP, hb⟩ := builtinsAt T hP
  refine kla_eval hdef (kla_makeFunction hcl hge T.g hcode C hP ht hnf hgP hb fun c' ctv h' tk hx hle hlt hrec htb => ?_)
  have S1 := S.upd (P' := isO (tabObj (ps ++ #[rawInt pos.line, rawInt pos.col, .ref c']))) i hi hx ⟨_, htb, rfl⟩
  have hc := code_of hrec
  have hcn : ∀ p ∈ led, p.1 < s.heap.objs.size := fun p hp => S.lt hp
  have S2 : St h₀ h' ((c', oCode (env.qual ++ "<lambda>")) :: led.set i (P, isO (tabObj (ps ++ #[rawInt pos.line, rawInt pos.col, .ref c'])))) := by
    refine ⟨S1.keep, fun p hp => ?_, fun p hp => ?_, List.pairwise_cons.mpr ⟨fun q hq e => ?_, S1.nd⟩⟩
    · rcases List.mem_cons.mp hp with rfl | m
      · exact hc
      · exact S1.cell p m
    · rcases List.mem_cons.mp hp with rfl | m
      · exact S.none_of_ge hle
      · exact S1.new p m
    · obtain ⟨j, hj, rfl⟩ := List.getElem_of_mem hq
      rw [List.length_set] at hj
      have hlt' : ((led.set i (P, isO (tabObj (ps ++ #[rawInt pos.line, rawInt pos.col, .ref c']))))[j]'(by rw [List.length_set]; exact hj)).1 < s.heap.objs.size := by
        by_cases hij : i = j
        · subst hij
          rw [List.getElem_set_self]
          exact Heap.lt_size hP
        · rw [List.getElem_set_ne hij]; exact hcn _ (List.getElem_mem hj)
      have e' : c' = _ := e
      rw [← e'] at hlt'
      exact absurd hlt' (Nat.not_lt.mpr hle)
  refine h _ c' _ ctv _ tk (S2.push (isO (kla_obj "<lambda>" (env.qual ++ "<lambda>") params body scope clos ((mg "__name__").getD .none) c' ctv)) rfl) ?_
  exact fun b o hb e => Heap.get?_push_of_some _ (hx b o hb e)
/-- a lambda met again -/
theorem lam_hit {c' : Addr} (S : St h₀ s.heap led) (i : Nat) (hi : led[i]? = some (P, isO (tabObj ps))) (B : Bs w s.heap) (C : CodeHd s.heap c P) (hcode : env.code = .ref c) (hcl : closureFor scope env = pure clos)
    (ht : TriplesOk ps.toList) (hf : codeAmong pos ps.toList = some (.ref c'))
    (h : ∀ f pm ctv h' tk, St h₀ h' ((f, isO (kla_obj "<lambda>" (env.qual ++ "<lambda>") params body scope clos pm c' ctv)) :: led) → Kp s.heap h' → Q (.ref f) { s with heap := h', toks := tk })
    (hge : env.globals = mainGlobals := by rfl) (hdef : defaultsOf params env = ([], []) := by rfl) :
    wpAny (model PR w) A (eval (.Lambda params body scope pos) env) Q E s := by
  obtain ⟨mg, mb, T⟩ := B.T
  have hP := isO_of (S.getL i hi)
  obtain ⟨hgP, hb⟩ := builtinsAt T hP
  refine kla_eval hdef (kla_makeFunctionHit hcl hge T.g hcode C hP ht hf hb fun ctv h' tk hk hle => ?_)
  refine h _ _ ctv _ tk ((S.ext hk).push (isO (kla_obj "<lambda>" (env.qual ++ "<lambda>") params body scope clos ((mg "__name__").getD .none) c' ctv)) rfl) (Kp.trans hk (Kp.push _ _))
end
/-- a lambda's call -/
theorem lamC {w : World} {A : Around} {R : Result → Shared → Prop} {s : Shared} {f : Addr} {qual : Str} {params : Arguments} {body : Expr} {scope : Scope} {cl : List (Str × Addr)} {pm ctv v : Value} {c' : Addr} {x : Str} {d u : Nat}
    (r : Room A (d + 1) (u + 3)) (B : Bs w s.heap) (ho : s.heap.get? f = some (kla_obj "<lambda>" qual params body scope cl pm c' ctv)) (hc : ∃ o, s.heap.get? c' = some o ∧ oCode qual o)
    (hbind : bindArgs (kla_fn "<lambda>" qual params body scope cl pm (.ref c') ctv) ⟨[v], []⟩ = pure [(x, v)])
    (hcell : ∀ x ∈ scope.names, x.2 ≠ .cell) (hloc : scope.names.lookup x = some .local)
    (h : ∀ L h₁ tk A', St s.heap h₁ [(L, oNs fun y => if y = x then some v else none)] → Room A' d u →
      wpAny (model PR w) A' (eval body (envX qual scope L f (.ref c') cl)) (fun y s' => R (.ok (.ret y)) s') (fun _ _ => False) ⟨h₁, s.gens, s.drawn, tk, s.os⟩)
    (hco : scope.isCoroutine = false := by rfl) (hgen : scope.isGenerator = false := by rfl) (hk : scope.kind = .function := by rfl) :
    codeAny (model PR w) A (.call (.ref f) ⟨[v], []⟩) R s := by
  obtain ⟨mg, mb, T⟩ := B.T
  refine kla_callFunE (by have := r.hd; omega) ho rfl hco hgen rfl (codeRec_at hc) ?_
  rw [hbind]
  refine wpAny_pure (wpAny_newFunctionEnv hcell (fun y hy => by rw [List.mem_singleton.mp hy]; exact hloc) (fun h₁ hns hsb => ?_) hk)
  have hk₁ : Kp s.heap h₁ := fun b o e => hsb.extBut b o (Nat.ne_of_lt (Heap.lt_size e)) (Heap.get?_push_of_some _ e)
  have hns' : h₁.Ns s.heap.objs.size (fun y => if y = x then some v else none) := by
    have : (fun y => List.lookup y ([(x, v)] : List (Str × Value)).reverse) = fun y => if y = x then some v else none := by
      funext y
      simp only [List.reverse_singleton, List.lookup_cons, List.lookup_nil]
      by_cases e : y = x
      · subst e; simp
      · simp only [beq_eq_false_iff_ne.mpr e, if_neg e]
    rw [← this]; exact hns
  refine ⟨T.nolimit.fresh _ hsb, kla_codeExpr (wpAny_mono (h s.heap.objs.size h₁ _ _ ?_ (r.deeper _)) (fun _ _ y => y) (fun _ _ y => y.elim))⟩
  exact (St.start s.heap).fresh hk₁ (Heap.get?_none_of_le (Nat.le_refl _)) (of_ns hns')
end Mine
end
section
open PySem PySem.W PySem.Spec PySem.Calls PyProof.Rows
namespace Mine
section
variable {w : World} {A : Around} {E : Value → Shared → Prop} {s : Shared} {Q : Value → Shared → Prop} {env : Env} {pos p : Pos}
/-- a top function called with keywords -/
theorem callGK {f : Addr} {fd : FuncData} {oc : Value} {od : Option Addr} {osl : Array (Option Value)} {x : Str} {args : List Expr} {kws : List Keyword} (B : Bs w s.heap) (e : nsIn (hd.heap_39 w.params) mainGlobals x = some (some (.ref f))) (ho : (hd.heap_39 w.params).lookup f = some ⟨oc, od, .func fd, osl⟩)
    (hall : (backToKw pos (keywordEach kws env)).all (·.1.isSome) = true)
    (h : wpAny (model PR w) A (spliced (backTo pos (starEach args env))) (fun vs s₁ => wpAny (model PR w) A (evalAll ((backToKw pos (keywordEach kws env)).map (·.2))) (fun ks s₂ => Bs w s₂.heap ∧
      codeAny (model PR w) A (.call (.ref f) ⟨vs, ((backToKw pos (keywordEach kws env)).filterMap (·.1)).zip ks⟩) (fun r s' => match r with | .ok (.ret v) => Q v s' | .ok _ => False | .error e => E e s') s₂) E s₁) E s)
    (hne : ∃ a r, args = a :: r ∧ starEach (a :: r) env = (false, eval a env) :: starEach r env := by exact ⟨_, _, rfl, rfl⟩)
    (hk : env.scope.kind = .function := by kernel_rfl) (hl : env.kindOf x = some .globalImplicit := by kernel_rfl) (hg : env.globals = mainGlobals := by kernel_rfl) (hd : (x == ("__debug__" : Str)) = false := by kernel_rfl) :
    wpAny (model PR w) A (eval (.Call (.Name x p) args kws pos) env) Q E s := by
  obtain ⟨a, r, rfl, he⟩ := hne
  refine wpAny_Call_Name_kw (nmG B e ?_ hk hl hg hd)
  refine callWith_function_kw (o := ⟨oc, od, .func fd, osl⟩) (fd := fd) (PyProof.Rows.evalArgs_kw2 hall ?_ he)
  exact wpAny_mono h (fun vs s₁ h₁ => wpAny_mono h₁ (fun ks s₂ h₂ => ⟨⟨h₂.1.K _ _ ho, rfl⟩, wpAny_call h₂.2⟩) fun _ _ x => x) fun _ _ x => x
/-- list(range) -/
theorem lstR {rv : Value} {a n : Nat} (hh : A.handled = none) (RA : RangeAt s.heap rv a n) (hn : n ≤ 1000000)
    (h : ∀ D h' tk ys, Kp s.heap h' → s.heap.get? D = none → (∃ o, h'.get? D = some o ∧ oList ys o) → ys.length = n → (∀ (i : Nat) (v : Value), ys[i]? = some v → ∃ t, v = Value.int ((a + i : Nat) : Int) t) → Q (.ref D) { s with heap := h', toks := tk }) :
    wpAny (model PR w) A (call (.type "list") [rv]) Q E s := by
  obtain ⟨rr, b, t, u, v, rfl, hr, hs, hz, _⟩ := RA.ex
  refine call_list_range (n := n) hh hr hs hz (by omega) fun h' tk acc c hk hD hI => ?_
  refine h _ _ _ acc.toList hk (Heap.get?_none_of_le (Nat.le_refl _)) ⟨_, hD, c, by simp⟩ (by simpa using hI.1) fun i v hv => ?_
  obtain ⟨t, rfl⟩ := hI.2 i v (by simpa using hv)
  exact ⟨t, congrArg (Value.int · t) (by omega)⟩
theorem mkS_add (a b : List Nat) : mkS a ++ mkS b = mkS (a ++ b) := by
  show (⟨_⟩ : Str) = _
  simp [mkS]
/-- text + text -/
theorem addS {a b : List Nat} {t u : Tok} (hsz : a.length + b.length ≤ 1000000) (h : ∀ t' k, Q (.str (mkS (a ++ b)) t') { s with toks := k }) : wpAny (model PR w) A (binaryOp .Add (.str (mkS a) t) (.str (mkS b) u)) Q E s :=
  PySem.SB.add (fun t' k => by rw [mkS_add]; exact h t' k) (by rw [mkS_len, mkS_len, sizeLine_eq]; omega)
theorem iaddS {a b : List Nat} {t u : Tok} (hsz : a.length + b.length ≤ 1000000) (h : ∀ t' k, Q (.str (mkS (a ++ b)) t') { s with toks := k }) : wpAny (model PR w) A (inplaceOp .Add (.str (mkS a) t) (.str (mkS b) u)) Q E s :=
  PySem.SB.iadd (fun t' k => by rw [mkS_add]; exact h t' k) (by rw [mkS_len, mkS_len, sizeLine_eq]; omega)
end
theorem cS {w : World} {A : Around} {E : Value → Shared → Prop} {s : Shared} {env : Env} {Q : Value → Shared → Prop} {pos : Pos} {k : Nat} {x : Str} (l : List Nat) (hx : x = mkS l) (h : ∀ t tk, Q (.str (mkS l) t) { s with toks := tk }) : wpAny (model PR w) A (eval (.Constant (.str x) k pos) env) Q E s :=
  wpAny_Constant_str (by rw [hx]; exact h _ _)
theorem mem_sl {l : List Nat} {a b x : Nat} (h : x ∈ sl l a b) : x ∈ l := List.mem_of_mem_take (List.mem_of_mem_drop h)
theorem sl_len_le (l : List Nat) (a b : Nat) : (sl l a b).length ≤ l.length := by rw [sl_length]; omega
end Mine
end
section
open PySem PySem.W PySem.Spec PySem.Calls PyProof.Rows
namespace Mine
noncomputable def qS : Str := "_law_stretch" ++ ".<locals>." ++ "<lambda>"
noncomputable def qP : Str := "_law_pieces" ++ ".<locals>." ++ "<lambda>"
noncomputable def okS (ps : Array Value) (tl : Led) : Prop := ps = #[] ∨ ∃ c1 c2, Al3 (ps = #[rawInt 209, rawInt 55, .ref c1, rawInt 210, rawInt 65, .ref c2]) ((c1, oCode qS) ∈ tl) ((c2, oCode qS) ∈ tl)
noncomputable def okP (ps : Array Value) (tl : Led) : Prop := ps = #[] ∨ ∃ c1, ps = #[rawInt 183, rawInt 53, .ref c1] ∧ (c1, oCode qP) ∈ tl
theorem okS.mono {ps : Array Value} {tl tl' : Led} (h : okS ps tl) (m : ∀ p ∈ tl, p ∈ tl') : okS ps tl' := by
  rcases h with h | ⟨c1, c2, e, a, b⟩
  · exact .inl h
  · exact .inr ⟨c1, c2, e, m _ a, m _ b⟩
theorem okP.mono {ps : Array Value} {tl tl' : Led} (h : okP ps tl) (m : ∀ p ∈ tl, p ∈ tl') : okP ps tl' := by
  rcases h with h | ⟨c1, e, a⟩
  · exact .inl h
  · exact .inr ⟨c1, e, m _ a⟩
/-- the whole ledger: what is owned, the two tables of places, and what stands in them -/
noncomputable abbrev tLed (own : Led) (ps1 ps2 : Array Value) (tl : Led) : Led := own ++ (224, isO (tabObj ps1)) :: (212, isO (tabObj ps2)) :: tl
noncomputable def TS (hb h : Heap) (own : Led) : Prop := Ex3 fun ps1 ps2 tl => Al3 (St hb h (tLed own ps1 ps2 tl)) (okS ps1 tl) (okP ps2 tl)
theorem TS.keep {hb h : Heap} {own : Led} (T : TS hb h own) : Kp hb h := let ⟨_, _, _, S, _, _⟩ := T; S.keep
theorem TS.ext {hb h h' : Heap} {own : Led} (T : TS hb h own) (k : Kp h h') : TS hb h' own := let ⟨a, b, c, S, x, x2⟩ := T; ⟨a, b, c, S.ext k, x, x2⟩
theorem TS.comp {hb h h' : Heap} {own led2 : Led} (T : TS hb h own) (S2 : St h h' led2) : TS hb h' (led2 ++ own) := by
  obtain ⟨a, b, c, S, x, x2⟩ := T
  refine ⟨a, b, c, ?_, x, x2⟩
  have := S.comp S2
  rwa [← List.append_assoc] at this
theorem TS.own {hb h : Heap} {own : Led} (T : TS hb h own) : St hb h own := let ⟨_, _, _, S, _, _⟩ := T; S.sub (List.sublist_append_left ..)
/-- what a step does with the owned, done over the whole -/
theorem TS.via {hb h h' : Heap} {own own' : Led} (T : TS hb h own) (f : ∀ X : Led, St hb h (own ++ X) → St hb h' (own' ++ X)) : TS hb h' own' := let ⟨a, b, c, S, x, x2⟩ := T; ⟨a, b, c, f _ S, x, x2⟩
theorem TS.sub {hb h : Heap} {own own' : Led} (T : TS hb h own) (hs : own'.Sublist own) : TS hb h own' := T.via fun _ S => S.sub (hs.append (List.Sublist.refl _))
theorem TS.perm {hb h : Heap} {own own' : Led} (T : TS hb h own) (p : own.Perm own') : TS hb h own' := T.via fun _ S => S.perm (p.append_right _)

section
variable {w : World} {A : Around} {E : Value → Shared → Prop} {env : Env} {s : Shared} {Q : Value → Shared → Prop} {pos : Pos} {h₀ : Heap} {own mid tl : Led} {c P : Addr} {ps : Array Value} {params : Arguments} {body : Expr} {scope : Scope} {clos : List (Str × Addr)}
theorem lam_go (q : Str) (hq : env.qual ++ "<lambda>" = q) (S : St h₀ s.heap (own ++ (P, isO (tabObj ps)) :: (mid ++ tl))) (B : Bs w s.heap) (C : CodeHd s.heap c P) (hcode : env.code = .ref c) (hcl : closureFor scope env = pure clos)
    (ht : TriplesOk ps.toList) (hreg : codeAmong pos ps.toList = none ∨ ∃ c', codeAmong pos ps.toList = some (.ref c') ∧ (c', oCode q) ∈ tl)
    (h : ∀ f c' pm ctv h' tk ps' tl', St h₀ h' ((f, isO (kla_obj "<lambda>" q params body scope clos pm c' ctv)) :: (own ++ (P, isO (tabObj ps')) :: (mid ++ tl'))) → (c', oCode q) ∈ tl' → (∀ p ∈ tl, p ∈ tl') →
      ((codeAmong pos ps.toList = none ∧ ps' = ps ++ #[rawInt pos.line, rawInt pos.col, .ref c']) ∨ (ps' = ps ∧ codeAmong pos ps.toList = some (.ref c'))) → Q (.ref f) { s with heap := h', toks := tk })
    (hge : env.globals = mainGlobals := by rfl) (hdef : defaultsOf params env = ([], []) := by rfl) :
    wpAny (model PR w) A (eval (.Lambda params body scope pos) env) Q E s := by
  subst hq
  have hi : (own ++ (P, isO (tabObj ps)) :: (mid ++ tl))[own.length]? = some (P, isO (tabObj ps)) := by simp
  rcases hreg with hn | ⟨c', hf, hm⟩
  · refine lam_new S own.length hi B C hcode hcl ht hn (fun f c' pm ctv h' tk S' _ => ?_) hge hdef
    refine h f c' pm ctv h' tk _ ((c', oCode (env.qual ++ "<lambda>")) :: tl) (S'.perm (List.Perm.cons _ ?_)) (List.mem_cons_self ..) (fun p hp => List.mem_cons_of_mem _ hp) (.inl ⟨hn, rfl⟩)
    rw [List.set_append_right _ _ (Nat.le_refl _), Nat.sub_self, List.set_cons_zero]
    refine List.perm_middle.symm.trans (List.Perm.append_left _ ?_)
    exact (List.Perm.swap _ _ _).trans (List.Perm.cons _ List.perm_middle.symm)
  · refine lam_hit S own.length hi B C hcode hcl ht hf (fun f pm ctv h' tk S' _ => ?_) hge hdef
    exact h f c' pm ctv h' tk ps tl S' hm (fun p hp => hp) (.inr ⟨rfl, hf⟩)
end
end Mine
end
section
open PySem PySem.W PySem.Spec PySem.Calls PyProof.Rows
namespace Mine
noncomputable def beginOf (l : List Nat) (p c : Nat) : Nat := bisect (fun i => !decide ((sl l i c).take (sl l (i + (c - p)) c).length = sl l (i + (c - p)) c)) (p + 1)
noncomputable def endOf (l : List Nat) (p c : Nat) : Nat := c + bisect (fun i => decide ((sl l p (c + i)).take (sl l c (c + i)).length = sl l c (c + i))) (l.length + 1 - c) - 1
noncomputable def oneIf (b : Bool) (y : Value) : Prop := ∃ t, y = .int (if b then 1 else 0) t
set_option maxRecDepth 100000 in
set_option maxHeartbeats 4000000 in
theorem sp_stretch {w : World} {A : Around} {R : Result → Shared → Prop} {s : Shared} {hb : Heap} {own : Led} (l : List Nat) (p c : Nat) (tx tp tc : Tok) (hx : l.length ≤ 100) (hp : p < c) (hc : c ≤ l.length) (h46 : 46 ∉ l) (r : Room A 60 600) (B : Bs w hb) (T : TS hb s.heap own)
  (hret : ∀ a t u h' tk', TS hb h' ((a, isO { cls := .type "tuple", data := .seq #[.int (beginOf l p c : Nat) t, .int (endOf l p c : Nat) u] }) :: own) → R (.ok (.ret (.ref a))) { s with heap := h', toks := tk' }) :
  codeAny (model PR w) A (.call (.ref 229) ⟨[.str (mkS l) tx, .int (p : Nat) tp, .int (c : Nat) tc], []⟩) R s := by
  refine enterC (d := 59) (u := 597) (binds := [(Str.ofString "word", .str (mkS l) tx), (Str.ofString "place", .int (p : Nat) tp), (Str.ofString "close", .int (c : Nat) tc)]) r (B.ext T.keep) (by k_is) (by k_is) (fun Q E h => wpAny_pure h) ?_ (by decide) ?_
  · intro y hy; simp at hy
    rcases hy with rfl | rfl | rfl <;> (right; exact ⟨rfl, rfl⟩)
  intro L h₁ tk A S0 r
  obtain ⟨ps1, ps2, tl, S1, ok1, ok2⟩ := T
  have S : St hb h₁ (((L, oNs fun _ => none) :: (L + 4, oCell none) :: (L + 3, oCell (some (.int (c : Nat) tc))) :: (L + 2, oCell (some (.int (p : Nat) tp))) :: (L + 1, oCell (some (.str (mkS l) tx))) :: own) ++ (224, isO (tabObj ps1)) :: ([(212, isO (tabObj ps2))] ++ tl)) := S1.comp S0
  clear S0 S1
  refine wpAny_execs_cons (wpAny_Assign_Name (wpAny_BinOp (nmC (c := L + 3) (cell_of (S.getL 2 rfl)) (nmC (c := L + 2) (cell_of (S.getL 3 rfl)) (sub_int ?_)))))
  rw [show (c : Int) - (p : Int) = ((c - p : Nat) : Int) by omega]
  refine asgC S 1 rfl (c := L + 4) fun h2 S2 => ?_
  dsimp only [List.set, List.cons_append] at S2
  clear S
  refine wpAny_execs_cons (wpAny_Assign_Name (callGK (B.ext S2.keep) (by k_is) (by k_is) (by rfl) (wpAny_items_cons ?_)))
  refine wpAny_Call_NameR (nmB (v := .type "list") (B.ext S2.keep) (by k_is) bb_list (PyProof.Rows.callWith_type1 (wpAny_items_cons ?_)))
  refine wpAny_Call_NameR (nmB (v := .type "range") (B.ext S2.keep) (by k_is) bb_range (PyProof.Rows.callWith_type1 (wpAny_items_cons (wpAny_BinOp (nmC (c := L + 2) (cell_of (S2.getL 3 rfl)) (wpAny_Constant_int (add_int (wpAny_items_nil ?_))))))))
  refine mkRange1 (by omega) (by omega) fun rr h3 k3 kp3 _ RA => wpAny_items_nil ?_
  rw [show ((p : Int) + 1).toNat = p + 1 by omega] at RA
  refine lstR (a := 0) (n := p + 1) r.hh RA (by omega) fun D h4 k4 ys kp4 hDn hD hys hyv => wpAny_items_cons (wpAny_Constant_int (wpAny_items_nil ?_))
  have S4 := (S2.ext kp3).fresh kp4 hDn hD
  clear S2
  refine kwAll_cons ?_
  obtain ⟨ts, S4'⟩ : ∃ ts, St hb h4 (((D, oList ys) :: (L, oNs fun _ => none) :: (L + 4, oCell (some (.int ((c - p : Nat) : Int) ts))) :: (L + 3, oCell (some (.int (c : Nat) tc))) :: (L + 2, oCell (some (.int (p : Nat) tp))) :: (L + 1, oCell (some (.str (mkS l) tx))) :: own) ++ (224, isO (tabObj ps1)) :: ([(212, isO (tabObj ps2))] ++ tl)) := ⟨_, S4⟩
  clear S4
  refine lam_go qS rfl S4' (B.ext S4'.keep) (B.cS.keeps S4'.keep) rfl (clos := [(Str.ofString "word", L + 1), (Str.ofString "step", L + 4), (Str.ofString "close", L + 3)]) rfl ?_ ?_ ?_
  · rcases ok1 with rfl | ⟨c1, c2, rfl, _⟩ <;> trivial
  · rcases ok1 with rfl | ⟨c1, c2, rfl, m1, m2⟩
    · exact .inl rfl
    · exact .inr ⟨c1, rfl, m1⟩
  intro f c1 pm ctv h5 k5 ps1' tl' S5 m1 mtl hps
  refine PyProof.Rows.kwAll_nil ⟨B.ext S5.keep, ?_⟩
  have hf : h5.get? f = some _ := isO_of (S5.getL 0 rfl)
  refine nrmC h5 s.gens s.drawn k5 s.os (sp_bisect D f ys _ (fun i => !decide ((sl l i c).take (sl l (i + (c - p)) c).length = sl l (i + (c - p)) c)) (fun i => oneIf (decide ((sl l i c).take (sl l (i + (c - p)) c).length = sl l (i + (c - p)) c))) r.less (B.ext S5.keep) (list_of (S5.getL 1 rfl)) (by omega) ⟨_, _, hf, rfl⟩ ?_ ?_ ?_)
  · intro A' R' h6 g6 k6 i v r' hiv kp6 hret'
    obtain ⟨t6, rfl⟩ := hyv i v hiv
    have hil : i < p + 1 := by rw [← hys]; exact (List.getElem?_eq_some_iff.mp hiv).1
    have S6 := S5.ext kp6
    refine lamC (x := Str.ofString "i") (d := 28) (u := 346) r'.less (B.ext S6.keep) (isO_of (S6.getL 0 rfl)) (S6.cell _ (List.mem_cons_of_mem _ (List.mem_append_right _ (List.mem_cons_of_mem _ (List.mem_append_right _ m1))))) rfl (by decide) rfl ?_
    intro L2 h7 k7 A7 S7 r7
    have S67 := S6.ext S7.keep
    have cw : h7.IsCell (L + 1) (some (.str (mkS l) tx)) := cell_of (S67.getL 6 rfl)
    have cc : h7.IsCell (L + 3) (some (.int (c : Nat) tc)) := cell_of (S67.getL 4 rfl)
    have cs : h7.IsCell (L + 4) (some (.int ((c - p : Nat) : Int) ts)) := cell_of (S67.getL 3 rfl)
    have hm := ns_of (S7.getL 0 rfl)
    refine wpAny_IfExp (wpAny_isTrue_value (callG (B.ext S67.keep) (by k_is) (by k_is) (wpAny_items_cons (wpAny_BinOp (slS (nmF (c := L + 1) cw (wpAny_evalPart_some (wpAny_BinOp (nmL hm rfl (nmF (c := L + 4) cs (add_int (wpAny_evalPart_some (nmF (c := L + 3) cc ?_)))))))))))))
    refine ⟨l, _, some _, some _, rfl, rfl, rfl, nonneg_some (by omega), nonneg_some (by omega), by omega, fun h8 t8 k8 kp8 => cS dots rfl fun t9 k9 => addS ?_ fun t10 k10 => wpAny_items_cons (slS (nmF (c := L + 1) (cw.keeps kp8) (wpAny_evalPart_some (nmL (hm.keeps kp8) rfl (wpAny_evalPart_some (nmF (c := L + 3) (cc.keeps kp8) ?_))))))⟩
    · exact Nat.le_trans (Nat.add_le_add_right (sl_len_le _ _ _) _) (by simp only [dots, List.length_cons, List.length_nil]; omega)
    refine ⟨l, _, some _, some _, rfl, rfl, rfl, nonneg_some (by omega), nonneg_some (by omega), by omega, fun h11 t11 k11 kp11 => wpAny_items_nil ⟨B.ext (S67.keep.trans (kp8.trans kp11)), ?_⟩⟩
    simp only [loN, hiN, Int.toNat_natCast]
    rw [show (((0 + i : Nat) : Int) + ((c - p : Nat) : Int)).toNat = i + (c - p) by omega, show 0 + i = i by omega]
    refine nrmC h11 g6 s.drawn _ s.os (sp_ell (sl l (i + (c - p)) c) (sl l i c) _ _ (fun m => h46 (mem_sl m)) (Nat.le_trans (sl_len_le _ _ _) hx) (Nat.le_trans (sl_len_le _ _ _) hx) r7.less (B.ext (S67.keep.trans (kp8.trans kp11))) fun h12 k12 kp12 => ?_)
    refine wpAny_truthy_bool ?_
    have kpf := S7.keep.trans (kp8.trans (kp11.trans kp12))
    by_cases hm : (sl l i c).take (sl l (i + (c - p)) c).length = sl l (i + (c - p)) c
    · rw [decide_eq_true hm, if_pos rfl]
      exact wpAny_Constant_int (hret' _ _ _ kpf ⟨_, by rw [decide_eq_true hm]; rfl⟩)
    · rw [decide_eq_false hm, if_neg (by decide)]
      exact wpAny_Constant_int (hret' _ _ _ kpf ⟨_, by rw [decide_eq_false hm]; rfl⟩)
  · intro A' E' Q' s' i y hi hy hq
    obtain ⟨t, rfl⟩ := hy
    refine lt_int ?_
    by_cases hm : (sl l i c).take (sl l (i + (c - p)) c).length = sl l (i + (c - p)) c
    · rw [decide_eq_true hm] at hq ⊢
      exact hq
    · rw [decide_eq_false hm] at hq ⊢
      exact hq
  intro tb h6 k6 kp6
  have S6 := S5.ext kp6
  have hbeg : bisect (fun i => !decide ((sl l i c).take (sl l (i + (c - p)) c).length = sl l (i + (c - p)) c)) ys.length = beginOf l p c := by rw [hys]; rfl
  rw [hbeg]
  refine asg S6 2 rfl fun h7 k7 S7 => ?_
  dsimp only [List.set, List.cons_append] at S7
  have hc1 : ps1' = #[rawInt 209, rawInt 55, .ref c1] ∨ ∃ c2, ps1' = #[rawInt 209, rawInt 55, .ref c1, rawInt 210, rawInt 65, .ref c2] ∧ (c2, oCode qS) ∈ tl' := by
    rcases ok1 with rfl | ⟨d1, d2, rfl, m2, m3⟩
    · rcases hps with ⟨_, rfl⟩ | ⟨_, e⟩
      · exact .inl rfl
      · exact nomatch e
    · rcases hps with ⟨e, _⟩ | ⟨rfl, e⟩
      · exact nomatch e
      · have e' : some (Value.ref d1) = some (Value.ref c1) := e
        injection e' with e'
        injection e' with e'
        subst e'
        exact .inr ⟨d2, rfl, mtl _ m3⟩
  have hok2 := ok2.mono mtl
  have S8 := S7.tail.tail
  clear S7 S6 S5 hf S4'
  refine nrm h7 s.gens s.drawn _ s.os ?_
  refine wpAny_execs_cons (wpAny_Assign_Name (callGK (B.ext S8.keep) (by k_is) (by k_is) (by rfl) (wpAny_items_cons ?_)))
  refine wpAny_Call_NameR (nmB (v := .type "list") (B.ext S8.keep) (by k_is) bb_list (PyProof.Rows.callWith_type1 (wpAny_items_cons ?_)))
  refine wpAny_Call_NameR (nmB (v := .type "range") (B.ext S8.keep) (by k_is) bb_range (PyProof.Rows.callWith_type1 (wpAny_items_cons (nmC (c := L + 3) (cell_of (S8.getL 2 rfl)) (wpAny_items_cons (wpAny_BinOp ?_))))))
  refine wpAny_Call_NameR (nmB (v := .builtin "len") (B.ext S8.keep) (by k_is) bb_len (PyProof.Rows.callWith_builtin1 (wpAny_items_cons (nmC (c := L + 1) (cell_of (S8.getL 4 rfl)) (wpAny_items_nil ?_)))))
  refine lenS (by omega) fun t9 k9 => wpAny_Constant_int (add_int (wpAny_items_nil (mkRange2 (by omega) (by omega) (by omega) (by omega) fun rr h9 k9 kp9 _ RA => wpAny_items_nil ?_)))
  rw [show (((l.length : Int) + 1) - (c : Int)).toNat = l.length + 1 - c by omega] at RA
  refine lstR (a := c) (n := l.length + 1 - c) r.hh RA (by omega) fun D2 h10 k10 ys2 kp10 hDn2 hD2 hys2 hyv2 => wpAny_items_cons (wpAny_Constant_int (wpAny_items_nil ?_))
  have S10 := (S8.ext kp9).fresh kp10 hDn2 hD2
  clear S8
  refine kwAll_cons ?_
  refine lam_go qS rfl (own := (D2, oList ys2) :: (L, _) :: (L + 4, _) :: (L + 3, _) :: (L + 2, _) :: (L + 1, _) :: own) (mid := [_]) S10 (B.ext S10.keep) (B.cS.keeps S10.keep) rfl (clos := [(Str.ofString "word", L + 1), (Str.ofString "place", L + 2), (Str.ofString "close", L + 3)]) rfl ?_ ?_ ?_
  · rcases hc1 with rfl | ⟨c2, rfl, _⟩ <;> trivial
  · rcases hc1 with rfl | ⟨c2, rfl, m2⟩
    · exact .inl rfl
    · exact .inr ⟨c2, rfl, m2⟩
  intro f2 c2 pm2 ctv2 h11 k11 ps1'' tl'' S11 m2 mtl2 hps2
  refine PyProof.Rows.kwAll_nil ⟨B.ext S11.keep, ?_⟩
  have hf : h11.get? f2 = some _ := isO_of (S11.getL 0 rfl)
  refine nrmC h11 s.gens s.drawn k11 s.os (sp_bisect D2 f2 ys2 _ (fun i => decide ((sl l p (c + i)).take (sl l c (c + i)).length = sl l c (c + i))) (fun i => oneIf (!decide ((sl l p (c + i)).take (sl l c (c + i)).length = sl l c (c + i)))) r.less (B.ext S11.keep) (list_of (S11.getL 1 rfl)) (by omega) ⟨_, _, hf, rfl⟩ ?_ ?_ ?_)
  · intro A' R' h6 g6 k6 i v r' hiv kp6 hret'
    obtain ⟨t6, rfl⟩ := hyv2 i v hiv
    have hil : i < l.length + 1 - c := by rw [← hys2]; exact (List.getElem?_eq_some_iff.mp hiv).1
    have S6 := S11.ext kp6
    refine lamC (x := Str.ofString "j") (d := 28) (u := 346) r'.less (B.ext S6.keep) (isO_of (S6.getL 0 rfl)) (S6.cell _ (List.mem_cons_of_mem _ (List.mem_append_right _ (List.mem_cons_of_mem _ (List.mem_append_right _ m2))))) rfl (by decide) rfl ?_
    intro L2 h7 k7 A7 S7 r7
    have S67 := S6.ext S7.keep
    have cw : h7.IsCell (L + 1) (some (.str (mkS l) tx)) := cell_of (S67.getL 6 rfl)
    have cc : h7.IsCell (L + 3) (some (.int (c : Nat) tc)) := cell_of (S67.getL 4 rfl)
    have cs : h7.IsCell (L + 2) (some (.int (p : Nat) tp)) := cell_of (S67.getL 5 rfl)
    have hm := ns_of (S7.getL 0 rfl)
    refine wpAny_IfExp (wpAny_isTrue_value (callG (B.ext S67.keep) (by k_is) (by k_is) (wpAny_items_cons (wpAny_BinOp (slS (nmF (c := L + 1) cw (wpAny_evalPart_some (nmF (c := L + 3) cc (wpAny_evalPart_some (nmL hm rfl ?_))))))))))
    refine ⟨l, _, some _, some _, rfl, rfl, rfl, nonneg_some (by omega), nonneg_some (by omega), by omega, fun h8 t8 k8 kp8 => cS dots rfl fun t9 k9 => addS ?_ fun t10 k10 => wpAny_items_cons (slS (nmF (c := L + 1) (cw.keeps kp8) (wpAny_evalPart_some (nmF (c := L + 2) (cs.keeps kp8) (wpAny_evalPart_some (nmL (hm.keeps kp8) rfl ?_))))))⟩
    · exact Nat.le_trans (Nat.add_le_add_right (sl_len_le _ _ _) _) (by simp only [dots, List.length_cons, List.length_nil]; omega)
    refine ⟨l, _, some _, some _, rfl, rfl, rfl, nonneg_some (by omega), nonneg_some (by omega), by omega, fun h11 t11 k11 kp11 => wpAny_items_nil ⟨B.ext (S67.keep.trans (kp8.trans kp11)), ?_⟩⟩
    simp only [loN, hiN, Int.toNat_natCast]
    refine nrmC h11 g6 s.drawn _ s.os (sp_ell (sl l c (c + i)) (sl l p (c + i)) _ _ (fun m => h46 (mem_sl m)) (Nat.le_trans (sl_len_le _ _ _) hx) (Nat.le_trans (sl_len_le _ _ _) hx) r7.less (B.ext (S67.keep.trans (kp8.trans kp11))) fun h12 k12 kp12 => ?_)
    refine wpAny_truthy_bool ?_
    have kpf := S7.keep.trans (kp8.trans (kp11.trans kp12))
    by_cases hm : (sl l p (c + i)).take (sl l c (c + i)).length = sl l c (c + i)
    · rw [decide_eq_true hm, if_pos rfl]
      exact wpAny_Constant_int (hret' _ _ _ kpf ⟨_, by rw [decide_eq_true hm]; rfl⟩)
    · rw [decide_eq_false hm, if_neg (by decide)]
      exact wpAny_Constant_int (hret' _ _ _ kpf ⟨_, by rw [decide_eq_false hm]; rfl⟩)
  · intro A' E' Q' s' i y hi hy hq
    obtain ⟨t, rfl⟩ := hy
    refine lt_int ?_
    by_cases hm : (sl l p (c + i)).take (sl l c (c + i)).length = sl l c (c + i)
    · rw [decide_eq_true hm] at hq ⊢
      exact hq
    · rw [decide_eq_false hm] at hq ⊢
      exact hq
  intro tb2 h12 k12 kp12
  have S12 := S11.ext kp12
  have hend : bisect (fun i => decide ((sl l p (c + i)).take (sl l c (c + i)).length = sl l c (c + i))) ys2.length = bisect (fun i => decide ((sl l p (c + i)).take (sl l c (c + i)).length = sl l c (c + i))) (l.length + 1 - c) := by rw [hys2]
  rw [hend]
  refine asg S12 2 rfl fun h13 k13 S13 => ?_
  dsimp only [List.set, List.cons_append] at S13
  clear S12 S11 S10 hf
  refine nrm h13 s.gens s.drawn _ s.os ?_
  refine wpAny_execs_cons (wpAny_Return_some (tupD (wpAny_items_cons (nmL (ns_of (S13.getL 2 rfl)) (by walk_at "lk") (wpAny_items_cons (wpAny_BinOp (wpAny_BinOp ?_)))))))
  refine nmC (c := L + 3) (cell_of (S13.getL 4 rfl)) (nmL (ns_of (S13.getL 2 rfl)) (by walk_at "lk") (add_int (wpAny_Constant_int (sub_int (wpAny_items_nil ⟨by simp, fun a h14 kp14 han ha => ?_⟩)))))
  have hint : ∀ b : Nat, ((c : Int) + ((b : Nat) : Int)) - 1 = ((c + b - 1 : Nat) : Int) := fun b => by omega
  rw [hint] at ha
  have S14 := S13.fresh (P := isO _) kp14 han ⟨_, ha, rfl⟩
  refine hret a _ _ h14 _ ⟨ps1'', ps2, tl'', S14.sub (List.Sublist.cons₂ _ (.cons _ (.cons _ (.cons _ (.cons _ (.cons _ (.cons _ (.cons _ (List.Sublist.refl _))))))))), ?_, hok2.mono mtl2⟩
  rcases hc1 with rfl | ⟨d2, rfl, m3⟩
  · rcases hps2 with ⟨_, rfl⟩ | ⟨_, e⟩
    · exact .inr ⟨c1, c2, rfl, mtl2 _ m1, m2⟩
    · exact nomatch e
  · rcases hps2 with ⟨e, _⟩ | ⟨rfl, e⟩
    · exact nomatch e
    · exact .inr ⟨c1, d2, rfl, mtl2 _ m1, mtl2 _ m3⟩
end Mine
end
section
open PySem PySem.W PySem.Spec PySem.Calls PyProof.Rows
namespace Mine
/-- a range that goes down -/
structure RangeDn (h : Heap) (xv : Value) (a : Int) (n : Nat) : Prop where
  ex : Ex5 fun r b t u v => Al5 (xv = .ref r) (IsRange h r a b (-1) t u v) (Builtin.Range.small a b (-1) = true) (Builtin.Range.rangeSize a b (-1) = ((n : Nat) : Int)) (n ≤ sizeLine)
noncomputable def oRDn (x left : Int) (o : Obj) : Prop := o = { cls := .type "range_iterator", data := .fields #[rawInt x, rawInt left, rawInt (-1)] }
section
variable {w : World} {A : Around} {E : Value → Shared → Prop} {env : Env} {s : Shared}
theorem mkRange3 {Q : Value → Shared → Prop} {a b : Int} {t u v : Tok} (ha : -1000000 ≤ a) (ha' : a ≤ 1000000) (hb : -1000000 ≤ b) (hb' : b ≤ 1000000)
    (h : ∀ r h' k, Kp s.heap h' → s.heap.get? r = none → RangeDn h' (.ref r) a (a - b).toNat → Q (.ref r) { s with heap := h', toks := k }) :
    wpAny (model PR w) A (call (.type "range") [.int a t, .int b u, .int (-1) v]) Q E s :=
  call_range_3 (by decide) (h _ _ _ (Kp.push _ _) (Heap.get?_none_of_le (Nat.le_refl _)) ⟨_, b, t, u, v, rfl, Heap.get?_push_size _ rfl, small_down (by omega) (by omega) (by omega) (by omega), rangeSize_downNat _ _, by rw [sizeLine_eq]; omega⟩) (.inl (PyProof.noPylong_small (by omega)))
theorem for_rangeD {Q : Flow → Shared → Prop} {x : Str} {px pos : Pos} {iter : Expr} {body : List Stmt} (hh : A.handled = none) {h₀ : Heap} (dr : Drawn) (os : OsState) (val : Nat → Nat) (J : Nat → Led → Array GenState → Prop)
    (h : wpAny (model PR w) A (eval iter env) (fun xv s₁ => Ex6 fun h₁ g₁ tk₁ a n led => Al7 (s₁ = ⟨h₁, g₁, dr, tk₁, os⟩) (RangeDn h₁ xv a n) (∀ i, i < n → a - (i : Int) = (val i : Int)) (St h₀ h₁ led) (J 0 led g₁) (∀ i led₁ g h₁ tk I P t E', i < n → J i led₁ g → St h₀ h₁ ((I, P) :: led₁) →
        wpAny (model PR w) A (storeName env x (.int (val i : Nat) t)) (fun _ s₂ => wpAny (model PR w) A (execs body env)
          (fun f s₃ => match f with
            | .next | .cont => Ex4 fun h₃ g₃ tk₃ led₃ => Al3 (s₃ = ⟨h₃, g₃, dr, tk₃, os⟩) (J (i + 1) led₃ g₃) (St h₀ h₃ ((I, P) :: led₃))
            | .brk => Q .next s₃
            | .ret v => Q (.ret v) s₃) E' s₂) E' ⟨h₁, g, dr, tk, os⟩) (∀ led₁ g h₁ tk, J n led₁ g → St h₀ h₁ led₁ → Q .next ⟨h₁, g, dr, tk, os⟩)) E s)
    (hs : ∀ x, foldedSetIterable iter env x = pure x := by intro _; rfl) :
    wpAny (model PR w) A (exec (.For (.Name x px) iter body [] pos) env) Q E s := by
  refine wpAny_For (wpAny_mono h (fun xv s₁ h₁ => ?_) fun _ _ e => e) hs
  obtain ⟨H, G, T, a, n, led, rfl, ⟨r, b, t, u, v, rfl, hr, hsm, hn, hsz⟩, hval, S, hJ, step, fin⟩ := h₁
  refine wpAny_pyIter_range hr hsm ?_
  refine codeAny_forLoop
    (fun k s' => Ex5 fun h₁ g tk i led₁ => Al5 (s' = ⟨h₁, g, dr, tk, os⟩) (i ≤ n) (k = n - i) (J i led₁ g) (St h₀ h₁ ((H.objs.size, oRDn (a - (i : Int)) ((n : Int) - (i : Int))) :: led₁))) ?_ n ?_
  · rintro k s' ⟨h₁, g, tk, i, led₁, rfl, hi, rfl, hJ, S₁⟩
    have hit : IsRangeIter h₁ H.objs.size (a - (i : Int)) ((n : Int) - (i : Int)) (-1) := by
      obtain ⟨o, e, q⟩ := S₁.getL 0 rfl
      rw [show o = _ from q] at e; exact e
    by_cases hlt : i < n
    · refine wpAny_pyNext_range_item hit (by omega) fun h₂ hit₂ hs₂ => ?_
      have S₂ : St h₀ h₂ ((H.objs.size, oRDn (a - ((i + 1 : Nat) : Int)) ((n : Int) - ((i + 1 : Nat) : Int))) :: led₁) := by
        refine S₁.upd 0 rfl hs₂.extBut ⟨_, hit₂, ?_⟩
        unfold oRDn
        rw [show a - ((i + 1 : Nat) : Int) = a - (i : Int) + -1 by omega, show (n : Int) - ((i + 1 : Nat) : Int) = (n : Int) - (i : Int) - 1 by omega]
      rw [hval i hlt]
      refine wpAny_assign_Name (wpAny_mono (step i led₁ g h₂ _ _ _ _ _ hlt hJ S₂) (fun _ s₂ hs => wpAny_mono hs (fun f s₃ hf => ?_) fun _ _ x => x) fun _ _ x => x)
      cases f with
      | next => obtain ⟨h₃, g₃, tk₃, led₃, rfl, hJ₃, S₃⟩ := hf; exact ⟨n - (i + 1), by omega, h₃, g₃, tk₃, i + 1, led₃, rfl, hlt, rfl, hJ₃, S₃⟩
      | cont => obtain ⟨h₃, g₃, tk₃, led₃, rfl, hJ₃, S₃⟩ := hf; exact ⟨n - (i + 1), by omega, h₃, g₃, tk₃, i + 1, led₃, rfl, hlt, rfl, hJ₃, S₃⟩
      | brk => exact hf
      | ret v => exact hf
    · have hin : i = n := by omega
      subst hin
      refine wpAny_pyNext_range_end hh hit (by omega) fun h₂ he => wpAny_execs_nil ?_
      exact fin led₁ g h₂ tk hJ (S₁.but he)
  · refine ⟨_, G, T, 0, led, rfl, Nat.zero_le _, rfl, hJ, ?_⟩
    refine S.push _ ?_
    unfold oRDn
    rw [show a - ((0 : Nat) : Int) = a by omega, show (n : Int) - ((0 : Nat) : Int) = Builtin.Range.rangeSize a b (-1) by rw [hn]; omega]

variable {Q : Value → Shared → Prop} {pos p : Pos}
theorem slLt {value up : Expr}
    (h : wpAny (model PR w) A (eval value env) (fun o s₁ => wpAny (model PR w) A (eval up env) (fun vu s₃ =>
      Ex3 fun D its t => ∃ b : Nat, Al5 (o = .ref D) (vu = .int (b : Nat) t) (s₃.heap.IsList D (its : List Value).toArray) (its.length ≤ 1000000) (∀ D' h', Kp s₃.heap h' → s₃.heap.get? D' = none → (∃ o, h'.get? D' = some o ∧ oList (its.take b) o) → Q (.ref D') { s₃ with heap := h' })) E s₁) E s)
    (ht : ∀ o r, letTemporaryGo value o r = pure () := by intro _ _; rfl) :
    wpAny (model PR w) A (eval (.Subscript value (.Slice none (some up) none p) pos) env) Q E s := by
  refine wpAny_Subscript_list_slice (wpAny_mono h (fun o s₁ h₁ => wpAny_evalPart_none (wpAny_evalPart_some (wpAny_mono h₁ (fun vu s₃ h₃ => ?_) fun _ _ x => x))) fun _ _ x => x) ht
  obtain ⟨D, its, t, b, rfl, rfl, hl, hsz, hq⟩ := h₃
  refine ⟨D, its.toArray, none, some (b : Int), rfl, hl, by rw [sizeLine_eq]; simp; omega, .none, .int _ _, ?_⟩
  rw [slicePick_upto']
  refine hq _ _ ((Kp.push _ _).trans (Kp.push _ _)) (Heap.get?_none_of_le (by omega)) ⟨_, ?_, 0, rfl⟩
  rw [← Heap.size_push s₃.heap { cls := .type "slice", data := .fields #[.none, .int (b : Nat) t, .none] }]
  exact Heap.get?_push_size _ rfl
theorem slLf {value lo : Expr}
    (h : wpAny (model PR w) A (eval value env) (fun o s₁ => wpAny (model PR w) A (eval lo env) (fun vu s₃ =>
      Ex3 fun D its t => ∃ b : Nat, Al5 (o = .ref D) (vu = .int (b : Nat) t) (s₃.heap.IsList D (its : List Value).toArray) (its.length ≤ 1000000) (∀ D' h', Kp s₃.heap h' → s₃.heap.get? D' = none → (∃ o, h'.get? D' = some o ∧ oList (its.drop b) o) → Q (.ref D') { s₃ with heap := h' })) E s₁) E s)
    (ht : ∀ o r, letTemporaryGo value o r = pure () := by intro _ _; rfl) :
    wpAny (model PR w) A (eval (.Subscript value (.Slice (some lo) none none p) pos) env) Q E s := by
  refine wpAny_Subscript_list_slice (wpAny_mono h (fun o s₁ h₁ => wpAny_evalPart_some (wpAny_mono h₁ (fun vu s₃ h₃ => wpAny_evalPart_none ?_) fun _ _ x => x)) fun _ _ x => x) ht
  obtain ⟨D, its, t, b, rfl, rfl, hl, hsz, hq⟩ := h₃
  refine ⟨D, its.toArray, some (b : Int), none, rfl, hl, by rw [sizeLine_eq]; simp; omega, .int _ _, .none, ?_⟩
  rw [slicePick_from']
  refine hq _ _ ((Kp.push _ _).trans (Kp.push _ _)) (Heap.get?_none_of_le (by omega)) ⟨_, ?_, 0, rfl⟩
  rw [← Heap.size_push s₃.heap { cls := .type "slice", data := .fields #[.int (b : Nat) t, .none, .none] }]
  exact Heap.get?_push_size _ rfl
theorem mulL0 {l : Addr} {items : Array Value} {k : Nat} {x : Int} {u : Tok}
    (hl : s.heap.get? l = some { cls := .type "list", dict := none, data := .seq items k, slots := #[] })
    (hlo : -(2 ^ 63 : Int) ≤ x) (hhi : x < 2 ^ 63) (hsz : items.size * x.toNat ≤ 2 ^ 24)
    (h : Q (.ref s.heap.objs.size) { s with heap := s.heap.push { cls := .type "list", data := .seq (List.foldl (fun x1 x2 => x1 ++ x2) #[] (List.replicate (if items.isEmpty = true then 0 else x.toNat) items)) } }) :
    wpAny (model PR w) A (binaryOp .Mult (.ref l) (.int x u)) Q E s :=
  wpAny_binaryOp_repeat_ref (T := "list") (U := "int") (by decide) ⟨_, hl, rfl⟩ (fun s' => typeIs_int s' x u) noFill_list_mul F.fills_int_mul F.slot_int_rmul repeat_list F.slot_int_index.lookup
    (call_meets F.slot_int_rmul (typeIs_int s x u) F.entry_int_rmul (F.args_int_rmul_2 _ _) (int___rmul___int_list x u l items k)
      ⟨hl, rfl, ⟨_, hl, rfl⟩, call_meets F.slot_list_mul ⟨_, hl, rfl⟩ F.entry_list_mul (F.args_list_mul_2 _ _)
        (AutoListH.list___mul___list_int_3 l items k x u (by simp [Builtin.List.listFitsIndex]; omega) (by omega) (by simp [Builtin.List.listTooLong, sizeLine]; omega))
        ⟨hl, h⟩⟩)
/-- [x] * k -/
theorem mulL {l : Addr} {v : Value} {x : Nat} {u : Tok} (hl : ∃ o, s.heap.get? l = some o ∧ oList [v] o) (hx : x ≤ 1000)
    (h : ∀ D h', Kp s.heap h' → s.heap.get? D = none → (∃ o, h'.get? D = some o ∧ oList (List.replicate x v) o) → Q (.ref D) { s with heap := h' }) :
    wpAny (model PR w) A (binaryOp .Mult (.ref l) (.int (x : Nat) u)) Q E s := by
  obtain ⟨_, hl, k, rfl⟩ := hl
  refine mulL0 hl (by omega) (by omega) ?_ ?_
  · rw [Int.toNat_natCast, show [v].toArray.size = 1 from rfl]; omega
  refine h _ _ (Kp.push _ _) (Heap.get?_none_of_le (Nat.le_refl _)) ⟨_, Heap.get?_push_size _ rfl, 0, ?_⟩
  have hz : (if ([v] : List Value).toArray.isEmpty = true then 0 else (x : Int).toNat) = x := by simp
  rw [hz, listMul_foldl]
  congr 2
  simp
/-- .extend of a list -/
theorem extL {o elt : Expr} {apos : Pos} (h : wpAny (model PR w) A (eval o env) (fun ov s₁ => ∃ D, Al3 (ov = .ref D) (∃ ob its, s₁.heap.get? D = some ob ∧ oList its ob) (wpAny (model PR w) A (eval elt env) (fun y s₂ => Ex3 fun its ws B => Al5 (y = .ref B) (∃ ob, s₂.heap.get? D = some ob ∧ oList its ob) (∃ ob, s₂.heap.get? B = some ob ∧ oList ws ob) (its.length + ws.length ≤ 1000000) (∀ h', Heap.ExtBut D s₂.heap h' → (∃ ob, h'.get? D = some ob ∧ oList (its ++ ws) ob) → Q .none { s₂ with heap := h' })) E s₁)) E s)
    (hb : attributeBase o (Str.ofString "extend") env (eval o env) = eval o env := by rfl) (hp : (apos.endLine == pos.line) = true := by rfl) (hq : backTo pos (starEach [elt] env) = [(false, eval elt env)] := by rfl)
    (hr : ((((backTo pos (starEach [elt] env)).all fun x => !x.fst) && (backToKw pos (keywordEach [] env)).all fun x => x.fst.isSome) && decide (([elt].length + ([] : List Keyword).length + if ([] : List Keyword).isEmpty = true then 0 else 1) < 30)) = true := by rfl) :
    wpAny (model PR w) A (eval (.Call (.Attribute o "extend" apos) [elt] [] pos) env) Q E s := by
  refine wpAny_Call_method hb hr hp F.plainAttrs_list F.slot_list_extend F.type_list_extend (wpAny_mono h (fun ov s₁ h₁ => ?_) fun _ _ x => x)
  obtain ⟨D, rfl, ⟨ob, its0, hob, n0, rfl⟩, h₂⟩ := h₁
  refine ⟨⟨_, hob, rfl⟩, fun a e => ⟨_, by cases e; exact hob, rfl⟩, ?_⟩
  rw [hq]
  refine P.extend_list (wpAny_mono h₂ (fun y s₂ h₃ => ?_) fun _ _ x => x)
  obtain ⟨its, ws, B, rfl, ⟨_, hD, n, rfl⟩, ⟨_, hB, n2, rfl⟩, hlen, hQ⟩ := h₃
  refine ⟨B, its.toArray, ws.toArray, n, n2, by rw [sizeLine_eq]; simp; omega, by rw [sizeLine_eq]; simp; omega, by simp [Builtin.List.listTooLong, sizeLine]; intros; omega, rfl, hD, hB, hQ _ (Heap.SameBut.update _ _ _).extBut ?_⟩
  refine ⟨_, IsL.update hD _, ?_⟩
  refine ⟨if (its.toArray ++ ws.toArray).size == its.toArray.size then n else n + 1, ?_⟩
  simp
/-- D[i] += v -/
theorem augSub {Q : Flow → Shared → Prop} {o i value : Expr} {tpos pos : Pos} {op : Operator} 
    (h : wpAny (model PR w) A (eval o env) (fun ov s₁ => wpAny (model PR w) A (eval i env) (fun iv s₂ => Ex5 fun (D : Addr) (its : List Value) (k : Nat) (t : Tok) (old : Value) => Al6 (ov = .ref D) (iv = .int (k : Nat) t) (s₂.heap.IsList D its.toArray) (k < 1000000) (its[k]? = some old) (wpAny (model PR w) A (eval value env) (fun v s₄ => wpAny (model PR w) A (inplaceOp op old v) (fun new s₅ => s₅.heap.IsList D its.toArray ∧ 
            ∀ h', h'.IsList D (its.set k new).toArray → Heap.SameBut D s₅.heap h' → Q .next { s₅ with heap := h' }) E s₄) E s₂)) E s₁) E s)
    (ha : ∀ ov iv new, augStore i ov iv new = (do holding [new, ov, iv] (setItem ov iv new); release [new, ov, iv] []; pure .next) := by intros; rfl) :
    wpAny (model PR w) A (exec (.AugAssign (.Subscript o i tpos) op value pos) env) Q E s := by
  refine wpAny_AugAssign_SubscriptAny (wpAny_mono h (fun ov s₁ h₁ => wpAny_mono h₁ (fun iv s₂ h₂ => ?_) fun _ _ x => x) fun _ _ x => x) ha
  obtain ⟨D, its, k, t, old, rfl, rfl, hl, hk, hold, h3⟩ := h₂
  refine wpAny_getItem_list hl (by omega) (by omega) (by rw [List.getElem?_toArray]; exact hold) ?_
  have hlt : k < its.length := (List.getElem?_eq_some_iff.mp hold).1
  refine wpAny_mono h3 (fun v s₄ h₄ => wpAny_mono h₄ (fun new s₅ h₅ => ?_) fun _ _ x => x) fun _ _ x => x
  refine wpAny_setItem_list h₅.1 (by omega) (by omega) (by simp; omega) fun h' hl' hs' => h₅.2 h' ?_ hs'
  have e : its.toArray.setIfInBounds (k : Int).toNat new = (its.set k new).toArray := by simp
  rw [← e]; exact hl'
end
end Mine
end
section
open PySem PySem.W PySem.Spec PySem.Calls PyProof.Rows
namespace Mine
noncomputable def keepOf (l row : List Nat) (p : Nat) : Nat := bisect (fun i => decide (l.drop (row.getD i 0) < l.drop p)) row.length
noncomputable def closeOf (l row : List Nat) (p : Nat) : Nat := if 0 < keepOf l row p then row.getD (keepOf l row p - 1) 0 else l.length
noncomputable def pieceStep (l : List Nat) (st : List Nat × List Nat) (p : Nat) : List Nat × List Nat :=
  (st.1.take (keepOf l st.1 p) ++ [p], st.2.set (closeOf l st.1 p - 1) (st.2.getD (closeOf l st.1 p - 1) 0 + 1))
noncomputable def pieceRun (l : List Nat) : Nat → List Nat × List Nat
  | 0 => ([], List.replicate l.length 0)
  | i + 1 => pieceStep l (pieceRun l i) (l.length - 1 - i)
noncomputable def shutOf (l : List Nat) : List Nat := (pieceRun l l.length).2
noncomputable def piecesRow (l : List Nat) (cells : List (List Nat)) (p : Nat) : List (List Nat) := ((40 :: cells.getD p []) :: List.replicate ((shutOf l).getD p 0) [41])
noncomputable def piecesUpto (l : List Nat) (cells : List (List Nat)) (i : Nat) : List (List Nat) := (List.range i).flatMap fun p => piecesRow l cells p
noncomputable def piecesOf (l : List Nat) (cells : List (List Nat)) : List (List Nat) := piecesUpto l cells l.length
theorem keepOf_le (l row : List Nat) (p : Nat) : keepOf l row p ≤ row.length := bis_le _ _ _ _ _ (Nat.le_refl _) (Nat.zero_le _)
theorem getD_mem {α : Type} {l : List α} {i : Nat} {d : α} (h : i < l.length) : l.getD i d ∈ l := by
  rw [List.getD_eq_getElem?_getD, List.getElem?_eq_getElem h]; exact List.getElem_mem h
structure PInv (l : List Nat) (i : Nat) (st : List Nat × List Nat) : Prop where
  row : ∀ r ∈ st.1, l.length ≤ r + i ∧ r < l.length
  len : st.1.length ≤ i
  shut : st.2.length = l.length
  small : ∀ x ∈ st.2, x ≤ i
theorem PInv.close {l : List Nat} {i : Nat} {st : List Nat × List Nat} (h : PInv l i st) (hi : i < l.length) (p : Nat) : 1 ≤ closeOf l st.1 p ∧ closeOf l st.1 p ≤ l.length := by
  unfold closeOf
  split
  · rename_i hk
    have := keepOf_le l st.1 p
    have hm := h.row _ (getD_mem (d := 0) (show keepOf l st.1 p - 1 < st.1.length by omega))
    omega
  · omega
theorem PInv.step {l : List Nat} {i : Nat} {st : List Nat × List Nat} (h : PInv l i st) (hi : i < l.length) : PInv l (i + 1) (pieceStep l st (l.length - 1 - i)) := by
  have hc := h.close hi (l.length - 1 - i)
  refine ⟨fun r hr => ?_, ?_, ?_, fun x hx => ?_⟩
  · rcases List.mem_append.mp hr with m | m
    · have := h.row r (List.mem_of_mem_take m); omega
    · rw [List.mem_singleton.mp m]; omega
  · have := h.len
    simp only [pieceStep, List.length_append, List.length_take, List.length_singleton]; omega
  · simp only [pieceStep, List.length_set]; exact h.shut
  · rcases List.mem_or_eq_of_mem_set hx with m | m
    · have := h.small x m; omega
    · have := h.small _ (getD_mem (d := 0) (show closeOf l st.1 (l.length - 1 - i) - 1 < st.2.length by rw [h.shut]; omega))
      omega
theorem pieceRun_inv (l : List Nat) : ∀ i, i ≤ l.length → PInv l i (pieceRun l i)
  | 0, _ => ⟨fun r hr => (nomatch hr), Nat.le_refl _, by simp [pieceRun], fun x hx => by have := List.eq_of_mem_replicate hx; omega⟩
  | i + 1, h => (pieceRun_inv l i (by omega)).step (by omega)
theorem piecesUpto_succ (l : List Nat) (cells : List (List Nat)) (i : Nat) : piecesUpto l cells (i + 1) = piecesUpto l cells i ++ piecesRow l cells i := by
  unfold piecesUpto
  rw [List.range_succ, List.flatMap_append]; simp
theorem shut_small (l : List Nat) (p : Nat) (hp : p < l.length) : (shutOf l).getD p 0 ≤ l.length :=
  (pieceRun_inv l l.length (Nat.le_refl _)).small _ (getD_mem (by have := (pieceRun_inv l l.length (Nat.le_refl _)).shut; omega))
theorem piecesUpto_len (l : List Nat) (cells : List (List Nat)) : ∀ i, i ≤ l.length → (piecesUpto l cells i).length ≤ i * (l.length + 1)
  | 0, _ => by simp [piecesUpto]
  | i + 1, h => by
    have h1 := piecesUpto_len l cells i (by omega)
    have h2 := shut_small l i (by omega)
    rw [piecesUpto_succ, List.length_append, Nat.succ_mul]
    simp only [piecesRow, List.length_cons, List.length_replicate]
    omega
theorem sl_drop (l : List Nat) (a : Nat) : sl l a l.length = l.drop a := by unfold sl; rw [List.take_length]
theorem paired_getD {α β : Type} {F : α → β → Prop} {l : List α} {m : List β} (h : Paired F l m) (d : α) (i : Nat) (hi : i < l.length) : ∃ b, m[i]? = some b ∧ F (l.getD i d) b := by
  induction h generalizing i with
  | nil => simp at hi
  | cons hd _ ih =>
    cases i with
    | zero => exact ⟨_, rfl, hd⟩
    | succ i => exact ih i (by simpa using hi)
theorem paired_take {α β : Type} {F : α → β → Prop} {l : List α} {m : List β} (h : Paired F l m) : ∀ k, Paired F (l.take k) (m.take k) := by
  induction h with
  | nil => intro k; simp; exact .nil
  | cons hd _ ih =>
    intro k
    cases k with
    | zero => exact .nil
    | succ k => exact .cons hd (ih k)
theorem paired_drop {α β : Type} {F : α → β → Prop} {l : List α} {m : List β} (h : Paired F l m) : ∀ k, Paired F (l.drop k) (m.drop k) := by
  induction h with
  | nil => intro k; simp; exact .nil
  | cons hd ht ih =>
    intro k
    cases k with
    | zero => exact .cons hd ht
    | succ k => exact ih k
theorem paired_set {α β : Type} {F : α → β → Prop} {l : List α} {m : List β} (h : Paired F l m) {a : α} {b : β} (hab : F a b) : ∀ k, Paired F (l.set k a) (m.set k b) := by
  induction h with
  | nil => intro k; simp; exact .nil
  | cons hd ht ih =>
    intro k
    cases k with
    | zero => exact .cons hab ht
    | succ k => exact .cons hd (ih k)
theorem paired_replicate {α β : Type} {F : α → β → Prop} {a : α} {b : β} (hab : F a b) : ∀ k, Paired F (List.replicate k a) (List.replicate k b)
  | 0 => .nil
  | k + 1 => .cons hab (paired_replicate hab k)
/-- a list, its other parts aside -/
noncomputable def oListW (xs : List Value) (o : Obj) : Prop := o.cls = .type "list" ∧ ∃ n, o.data = .seq xs.toArray n
theorem listW_of {h : Heap} {a : Addr} {xs} (x : ∃ o, h.get? a = some o ∧ oListW xs o) : h.IsList a xs.toArray := let ⟨o, e, c, n, q⟩ := x; ⟨o, e, c, n, q⟩
theorem of_listW {h : Heap} {a : Addr} {xs : List Value} (x : h.IsList a xs.toArray) : ∃ o, h.get? a = some o ∧ oListW xs o := let ⟨o, e, c, n, q⟩ := x; ⟨o, e, c, n, q⟩
/-- one owned object changed, another made -/
theorem St.updNew {h₀ h h' : Heap} {led : Led} (S : St h₀ h led) (i : Nat) {a D : Addr} {P P' Q : Obj → Prop} (hi : led[i]? = some (a, P)) (hs : Heap.ExtBut a h h') (hp : ∃ o, h'.get? a = some o ∧ P' o)
    (hD : h.get? D = none) (hq : ∃ o, h'.get? D = some o ∧ Q o) : St h₀ h' ((D, Q) :: led.set i (a, P')) := by
  have S1 := S.upd i hi hs hp
  refine ⟨S1.keep, fun p hp => ?_, fun p hp => ?_, List.pairwise_cons.mpr ⟨fun q hq e => ?_, S1.nd⟩⟩
  · rcases List.mem_cons.mp hp with rfl | m
    · exact hq
    · exact S1.cell p m
  · rcases List.mem_cons.mp hp with rfl | m
    · cases e : h₀.get? D with
      | none => rfl
      | some o => have := S.keep _ _ e; rw [hD] at this; cases this
    · exact S1.new p m
  · obtain ⟨j, hj, rfl⟩ := List.getElem_of_mem hq
    rw [List.length_set] at hj
    have e' : D = _ := e
    by_cases hij : i = j
    · subst hij
      rw [List.getElem_set_self] at e'
      obtain ⟨o, eo, _⟩ := S.getL i hi
      rw [e'] at hD
      rw [hD] at eo; cases eo
    · rw [List.getElem_set_ne hij] at e'
      obtain ⟨o, eo, _⟩ := S.cell _ (List.getElem_mem hj)
      rw [← e', hD] at eo; cases eo
/-- name = [ .. for x in a list ] with no names from outside -/
theorem asgComp {w : World} {A : Around} {E : Value → Shared → Prop} {env : Env} {s : Shared} {elt iter : Expr} {x y : Str} {px py : Pos} {scope : Scope} {pos spos : Pos} {Q : Flow → Shared → Prop} {h₀ : Heap} (F : Value → Value → Prop)
    (hsw : swapsWith (.ListComp elt [⟨.Name x px, iter, [], 0⟩] scope pos) (some (.Name y py)) spos.line env = pure true)
    (hh : A.handled = none) (hfree : ∀ z ∈ scope.names, z.2 ≠ .free) (hcell : ∀ z ∈ scope.names, z.2 ≠ .cell)
    (hnames : ∀ z ∈ scope.names, z.2 = .local → scope.names.lookup z.1 = some .local) (hx : scope.names.lookup x = some .local) (hy : env.kindOf y = some .local)
    (h : wpAny (model PR w) A (eval iter env) (fun xv s₁ => Ex4 fun ax its led m => ∃ i : Nat, Al7 (xv = .ref ax) (s₁.heap.IsList ax (its : List Value).toArray) (its.length ≤ 1000000) (St h₀ s₁.heap led) (led[i]? = some (env.locals, oNs m)) (∀ C v s₂ m₂ E', v ∈ its → s₂.heap.Ns C m₂ → m₂ x = some v → Kp s₁.heap s₂.heap → wpAny (model PR w) A (eval elt (compEnv scope C env)) (fun y s₃ => F v y ∧ Keeps s₂ s₃) E' s₂) (∀ D h' tk ys, St h₀ h' ((D, oListW ys) :: led.set i (env.locals, oNs fun z => if z = y then some (.ref D) else m z)) → Paired F its ys → Q .next { s₁ with heap := h', toks := tk })) E s)
    (hkind : scope.kind = .function := by rfl) (hk : env.scope.kind = .function := by kernel_rfl)
    (hs : ∀ x, foldedSetIterable iter env x = pure x := by intro _; rfl) :
    wpAny (model PR w) A (exec (.Assign [.Name y py] (.ListComp elt [⟨.Name x px, iter, [], 0⟩] scope pos) spos) env) Q E s := by
  refine wpAny_Assign_ListComp_map (fun _ => true) F hsw hh hfree hcell hkind hnames hx hy (by rw [hk]; rfl) (wpAny_mono h (fun xv s₁ h₁ => ?_) fun _ _ x => x) hs
  obtain ⟨ax, its, led, m, i, rfl, hl, hsz, S, hi, he, hQ⟩ := h₁
  refine ⟨ax, its.toArray, m, rfl, hl, by rw [sizeLine_eq]; simp; omega, ns_of (S.getL i hi), fun C v s₂ m₂ E' hv hns hm hkk => wpAny_pure ⟨rfl, _, _, rfl, fun _ _ e => e⟩, fun C v s₂ m₂ E' hv _ hns hm hkk => he C v s₂ m₂ E' (by simpa using hv) hns hm hkk, fun D h' tk ys hD hlD hF hn hkk => ?_⟩
  refine hQ D h' tk ys.toList (S.updNew i hi (fun b o hb e => hkk b o hb e) (of_ns hn) hD (of_listW (by simpa using hlD))) (by rw [List.filter_eq_self.mpr (fun _ _ => rfl)] at hF; exact hF)
end Mine
end
section
open PySem PySem.W PySem.Spec PySem.Calls PyProof.Rows
namespace Mine
theorem tLedP (own : Led) (ps1 ps2 : Array Value) (tl : Led) : tLed own ps1 ps2 tl = (own ++ [(224, isO (tabObj ps1))]) ++ (212, isO (tabObj ps2)) :: ([] ++ tl) := by simp [tLed]
set_option maxRecDepth 100000 in
set_option maxHeartbeats 4000000 in
theorem sp_pieces {w : World} {A : Around} {R : Result → Shared → Prop} {s : Shared} {hb : Heap} {own : Led} (l : List Nat) (cells : List (List Nat)) (C : Addr) (cs : List Value) (tx : Tok) (hx : l.length ≤ 100) (hC : (C, oList cs) ∈ own) (hcs : Paired IsS cells cs) (hcl : cells.length = l.length) (hc3 : ∀ c ∈ cells, c.length ≤ 100)
  (r : Room A 60 600) (B : Bs w hb) (T : TS hb s.heap own)
  (hret : ∀ D ys h' tk', TS hb h' ((D, oList ys) :: own) → Paired IsS (piecesOf l cells) ys → R (.ok (.ret (.ref D))) { s with heap := h', toks := tk' }) :
  codeAny (model PR w) A (.call (.ref 215) ⟨[.str (mkS l) tx, .ref C], []⟩) R s := by
  refine enterC (d := 59) (u := 597) (binds := [(Str.ofString "letters", .str (mkS l) tx), (Str.ofString "cells", .ref C)]) r (B.ext T.keep) (by k_is) (by k_is) (fun Q E h => wpAny_pure h) ?_ (by decide) ?_
  · intro y hy; simp at hy
    rcases hy with rfl | rfl
    · right; exact ⟨rfl, rfl⟩
    · left; rfl
  intro L h₁ tk A S0 r
  obtain ⟨ps1, ps2, tl, S1, ok1, ok2⟩ := T
  have S : St hb h₁ (tLed ((L, oNs fun y => if y = Str.ofString "cells" then some (.ref C) else none) :: (L + 1, oCell (some (.str (mkS l) tx))) :: own) ps1 ps2 tl) := S1.comp S0
  clear S0 S1
  refine wpAny_execs_cons (wpAny_Assign_Name (lstD (wpAny_items_nil ⟨by simp, fun D1 h2 kp2 hD1 hl1 => ?_⟩)))
  have S2 := S.fresh kp2 hD1 hl1
  clear S
  refine asg S2 1 rfl fun h3 k3 S3 => ?_
  dsimp only [List.set, List.cons_append] at S3
  clear S2
  refine wpAny_execs_cons (asgComp (fun _ y => IsI 0 y) (h₀ := hb) rfl r.hh (by decide) (by decide) (by decide) rfl rfl ?_)
  refine nmL (ns_of (S3.getL 1 rfl)) (by walk_at "lk") ⟨C, cs, _, _, 1, rfl, list_of (S3.cell _ (.tail _ (.tail _ (.tail _ (List.mem_append_left _ hC))))), ?_, S3, rfl, ?_, fun D2 h4 k4 ys S4 hys => ?_⟩
  · rw [← paired_len hcs]; omega
  · intro Cc v s₃ m₃ E' _ _ _ _
    exact wpAny_Constant_int ⟨⟨_, rfl⟩, _, _, rfl, fun _ _ e => e⟩
  dsimp only [List.set] at S4
  have hys0 : Paired IsI (List.replicate l.length 0) ys := by
    have : ∀ (xs zs : List Value), Paired (fun _ y => IsI 0 y) xs zs → Paired IsI (List.replicate xs.length 0) zs := by
      intro xs zs h
      induction h with
      | nil => exact .nil
      | cons a _ ih => exact .cons a ih
    have e := this _ _ hys
    rwa [← paired_len hcs, hcl] at e
  refine nrm h4 s.gens s.drawn k4 s.os ?_
  refine wpAny_execs_cons (for_rangeD r.hh (h₀ := hb) s.drawn s.os (fun i => l.length - 1 - i) (J := fun i led g => Ex7 fun m D1 D2 rys sys ps2' tl' => Al9 (g = s.gens) (led = tLed ((D2, oListW sys) :: (D1, oList rys) :: (L, oNs m) :: (L + 1, oCell (some (.str (mkS l) tx))) :: own) ps1 ps2' tl') (okS ps1 tl') (okP ps2' tl') (m (Str.ofString "row") = some (.ref D1)) (m (Str.ofString "shut") = some (.ref D2)) (m (Str.ofString "cells") = some (.ref C)) (Paired IsI (pieceRun l i).1 rys) (Paired IsI (pieceRun l i).2 sys)) ?_)
  have e1 : hb.get? 0 = hb.get? 0 := rfl
  refine wpAny_Call_NameR (nmB (v := .type "range") (B.ext S4.keep) (by k_is) bb_range (PyProof.Rows.callWith_type1 (wpAny_items_cons (wpAny_BinOp ?_))))
  refine wpAny_Call_NameR (nmB (v := .builtin "len") (B.ext S4.keep) (by k_is) bb_len (PyProof.Rows.callWith_builtin1 (wpAny_items_cons (nmC (c := L + 1) (cell_of (S4.getL 3 rfl)) (wpAny_items_nil ?_)))))
  refine lenS (by omega) fun t5 k5 => wpAny_Constant_int (sub_int (wpAny_items_cons (wpAny_UnaryOp (wpAny_Constant_int (neg_int (wpAny_items_cons (wpAny_UnaryOp (wpAny_Constant_int (neg_int (wpAny_items_nil ?_)))))))))) 
  refine mkRange3 (by omega) (by omega) (by omega) (by omega) fun rr h5 k5 kp5 _ RA => ?_
  rw [show ((l.length : Int) - 1 - -1).toNat = l.length by omega] at RA
  have qv1 : ∃ m4, Al4 (St hb h5 (tLed ((D2, oListW ys) :: (D1, oList []) :: (L, oNs m4) :: (L + 1, oCell (some (.str (mkS l) tx))) :: own) ps1 ps2 tl)) (m4 (Str.ofString "row") = some (.ref D1)) (m4 (Str.ofString "shut") = some (.ref D2)) (m4 (Str.ofString "cells") = some (.ref C)) :=
    ⟨_, S4.ext kp5, by walk_at "lk", by walk_at "lk", by walk_at "lk"⟩
  obtain ⟨m4, S5, hm1, hm2, hm3⟩ := qv1
  clear S4 S3
  refine ⟨_, _, _, _, _, _, rfl, RA, fun i hi => by omega, S5, ⟨m4, D1, D2, [], ys, ps2, tl, rfl, rfl, ok1, ok2, hm1, hm2, hm3, .nil, hys0⟩, ?_, ?_⟩
  · rintro i led₁ g h6 k6 I P t6 E' hi ⟨m, D1, D2, rys, sys, ps2', tl', rfl, rfl, o1, o2, em1, em2, em3, hrow, hshut⟩ S6
    clear S5 hm1 hm2 hm3 hys0 hys
    have pinv := pieceRun_inv l i (by omega)
    refine asg S6 3 rfl fun h7 k7 S7 => ?_
    dsimp only [List.set, List.cons_append] at S7
    clear S6
    refine post fun F1 hF1 => ?_
    generalize hpl : l.length - 1 - i = p at *
    refine wpAny_execs_cons (wpAny_Assign_Name (callGK (B.ext S7.keep) (by k_is) (by k_is) (by rfl) (wpAny_items_cons (nmL (ns_of (S7.getL 3 rfl)) (by walk_at "lk") (wpAny_items_cons (slS (nmC (c := L + 1) (cell_of (S7.getL 4 rfl)) (wpAny_evalPart_some (nmL (ns_of (S7.getL 3 rfl)) (by walk_at "lk") (wpAny_evalPart_none ?_))))))))))
    refine ⟨l, _, some _, none, rfl, rfl, rfl, nonneg_some (by omega), nonneg_none, by omega, fun h8 t8 k8 kp8 => wpAny_items_nil (kwAll_cons ?_)⟩
    have qv2 : ∃ m8, Al5 (St hb h8 (tLed ((I, P) :: (D2, oListW sys) :: (D1, oList rys) :: (L, oNs m8) :: (L + 1, oCell (some (.str (mkS l) tx))) :: own) ps1 ps2' tl')) (m8 (Str.ofString "row") = some (.ref D1)) (m8 (Str.ofString "shut") = some (.ref D2)) (m8 (Str.ofString "cells") = some (.ref C)) (m8 (Str.ofString "place") = some (.int (p : Nat) t6)) :=
      ⟨_, S7.ext kp8, by walk_at "lk", by walk_at "lk", by walk_at "lk", by walk_at "lk"⟩
    obtain ⟨m8, S8, f1, f2, f3, f4⟩ := qv2
    clear S7
    rw [tLedP] at S8
    refine lam_go qP rfl S8 (B.ext S8.keep) (B.cP.keeps S8.keep) rfl (clos := [(Str.ofString "letters", L + 1)]) rfl ?_ ?_ ?_
    · rcases o2 with rfl | ⟨c1, rfl, _⟩ <;> trivial
    · rcases o2 with rfl | ⟨c1, rfl, m1⟩
      · exact .inl rfl
      · exact .inr ⟨c1, rfl, m1⟩
    intro f c1 pm ctv h9 k9 ps2'' tl'' S9 m1 mtl hps
    clear S8
    rw [← tLedP] at S9
    have o2' : okP ps2'' tl'' := by
      rcases hps with ⟨hn, rfl⟩ | ⟨rfl, hn⟩
      · rcases o2 with rfl | ⟨c2, rfl, _⟩
        · exact .inr ⟨c1, rfl, m1⟩
        · exact nomatch hn
      · exact o2.mono mtl
    have o1' := o1.mono mtl
    refine PyProof.Rows.kwAll_nil ⟨B.ext S9.keep, ?_⟩
    have hf : h9.get? f = some _ := isO_of (S9.getL 0 rfl)
    have hrl := paired_len hrow
    refine nrmC h9 s.gens s.drawn k9 s.os (sp_bisect D1 f rys _ (fun j => decide (l.drop ((pieceRun l i).1.getD j 0) < l.drop p)) (fun j y => ∃ t, y = .str (mkS (l.drop ((pieceRun l i).1.getD j 0))) t) r.less (B.ext S9.keep) (list_of (S9.getL 3 rfl)) (by have := pinv.len; omega) ⟨_, _, hf, rfl⟩ ?_ ?_ ?_)
    · intro A' R' h10 g10 k10 j v r' hjv kp10 hret'
      have hjl : j < (pieceRun l i).1.length := by rw [hrl]; exact (List.getElem?_eq_some_iff.mp hjv).1
      obtain ⟨v', hv', t10, rfl⟩ := paired_getD hrow 0 j hjl
      rw [hjv] at hv'
      cases hv'
      have S10 := S9.ext kp10
      refine lamC (x := Str.ofString "one") (d := 28) (u := 346) r'.less (B.ext S10.keep) (isO_of (S10.getL 0 rfl)) (S10.cell _ (List.mem_cons_of_mem _ (List.mem_append_right _ (.tail _ (.tail _ m1))))) rfl (by decide) rfl ?_
      intro L2 h11 k11 A11 S11 r11
      have cw : h11.IsCell (L + 1) (some (.str (mkS l) tx)) := cell_of ((S10.ext S11.keep).getL 5 rfl)
      refine slS (nmF (c := L + 1) cw (wpAny_evalPart_some (nmL (ns_of (S11.getL 0 rfl)) rfl (wpAny_evalPart_none ?_))))
      refine ⟨l, _, some _, none, rfl, rfl, rfl, nonneg_some (by omega), nonneg_none, by omega, fun h12 t12 k12 kp12 => hret' _ _ _ (S11.keep.trans kp12) ⟨t12, ?_⟩⟩
      simp only [loN, hiN, Int.toNat_natCast, sl_drop]
    · intro A' E' Q' s' j y hj hy hq
      obtain ⟨t, rfl⟩ := hy
      refine PySem.P.lt_str ?_
      simp only [loN, hiN, Int.toNat_natCast, sl_drop, mkS_cps]
      exact hq
    intro tb h10 k10 kp10
    have S10 := S9.ext kp10
    clear S9 hf
    have hkeep : bisect (fun j => decide (l.drop ((pieceRun l i).1.getD j 0) < l.drop p)) rys.length = keepOf l (pieceRun l i).1 p := by rw [← hrl]; rfl
    rw [hkeep]
    refine asg S10 4 rfl fun h11 k11 S11 => ?_
    dsimp only [List.set, List.cons_append] at S11
    refine nrm h11 s.gens s.drawn _ s.os ?_
    have qv3 : ∃ m12, Al6 (St hb h11 (tLed ((I, P) :: (D2, oListW sys) :: (D1, oList rys) :: (L, oNs m12) :: (L + 1, oCell (some (.str (mkS l) tx))) :: own) ps1 ps2'' tl'')) (m12 (Str.ofString "keep") = some (.int (keepOf l (pieceRun l i).1 p : Nat) tb)) (m12 (Str.ofString "row") = some (.ref D1)) (m12 (Str.ofString "shut") = some (.ref D2)) (m12 (Str.ofString "cells") = some (.ref C)) (m12 (Str.ofString "place") = some (.int (p : Nat) t6)) :=
      ⟨_, S11.tail, by walk_at "lk", by walk_at "lk", by walk_at "lk", by walk_at "lk", by walk_at "lk"⟩
    obtain ⟨m12, S12, f5, f1, f2, f3, f4⟩ := qv3
    clear S11
    have hkl := keepOf_le l (pieceRun l i).1 p
    have hcl2 := pinv.close hi p
    have hlen := pinv.len
    have hsl := pinv.shut
    generalize hkk : keepOf l (pieceRun l i).1 p = keep at *
    refine wpAny_execs_cons (wpAny_Assign_Name (wpAny_mono (Q := fun v s' => Ex2 fun t k' => v = .int (closeOf l (pieceRun l i).1 p : Nat) t ∧ s' = ⟨h11, s.gens, s.drawn, k', s.os⟩) (wpAny_IfExp (wpAny_isTrue_Compare1 (nmL (ns_of (S12.getL 3 rfl)) f5 (wpAny_Constant_int (gt_int (wpAny_truthy_bool ?_)))))) ?_ fun _ _ x => x))
    · by_cases hk0 : 0 < keep
      · rw [if_pos (decide_eq_true (by omega))]
        obtain ⟨v', hv', t13, rfl⟩ := paired_getD hrow 0 (keep - 1) (by omega)
        refine subL (nmL (ns_of (S12.getL 3 rfl)) f1 (wpAny_BinOp (nmL (ns_of (S12.getL 3 rfl)) f5 (wpAny_Constant_int (sub_int ⟨D1, rys, _, _, .int ((((pieceRun l i).1.getD (keep - 1) 0 : Nat)) : Int) t13, rfl, rfl, list_of (S12.getL 2 rfl), by omega, by omega, ?_, t13, _, ?_, rfl⟩)))))
        · rw [show ((keep : Int) - 1).toNat = keep - 1 by omega]; exact hv'
        · unfold closeOf
          rw [hkk, if_pos hk0]
      · rw [if_neg (by simp; omega)]
        refine wpAny_Call_NameR (nmB (v := .builtin "len") (B.ext S12.keep) (by k_is) bb_len (PyProof.Rows.callWith_builtin1 (wpAny_items_cons (nmC (c := L + 1) (cell_of (S12.getL 4 rfl)) (wpAny_items_nil ?_)))))
        have hc0 : l.length = closeOf l (pieceRun l i).1 p := by unfold closeOf; rw [hkk, if_neg hk0]
        exact lenS (by omega) fun t13 k13 => ⟨t13, k13, congrArg (fun n : Nat => Value.int (n : Int) t13) hc0, rfl⟩
    rintro v s' ⟨tc, k13, rfl, rfl⟩
    generalize hcc : closeOf l (pieceRun l i).1 p = close at *
    refine asg S12 3 rfl fun h14 k14 S14 => ?_
    dsimp only [List.set, List.cons_append] at S14
    clear S12
    obtain ⟨old, hold, to, rfl⟩ := paired_getD hshut 0 (close - 1) (by omega)
    refine wpAny_execs_cons (augSub (nmL (ns_of (S14.getL 3 rfl)) (by walk_at "lk") (wpAny_BinOp (nmL (ns_of (S14.getL 3 rfl)) (by walk_at "lk") (wpAny_Constant_int (sub_int ⟨D2, sys, close - 1, _, _, rfl, congrArg (Value.int · _) (by omega), listW_of (S14.getL 1 rfl), by omega, hold, wpAny_Constant_int (wpAny_iadd_int ⟨listW_of (S14.getL 1 rfl), fun h15 hl15 hs15 => ?_⟩)⟩))))))
    have S15 := S14.upd 1 rfl hs15.extBut (of_listW hl15)
    dsimp only [List.set, List.cons_append] at S15
    clear S14
    refine wpAny_execs_cons (wpAny_Assign_Name (wpAny_BinOp (slLt (nmL (ns_of (S15.getL 3 rfl)) (by walk_at "lk") (nmL (ns_of (S15.getL 3 rfl)) (by walk_at "lk") ⟨D1, rys, _, keep, rfl, rfl, list_of (S15.getL 2 rfl), by omega, fun D3 h16 kp16 hn16 hl16 => ?_⟩)))))
    refine lstD (wpAny_items_cons (nmL (ns_of ((S15.ext kp16).getL 3 rfl)) (by walk_at "lk") (wpAny_items_nil ⟨by simp, fun D4 h17 kp17 hn17 hl17 => ?_⟩)))
    refine addL (list_of (atE kp17 hl16)) (list_of hl17) (by simp; omega) fun h18 D5 kp18 hn18 hl18 => ?_
    have S18 := ((S15.ext kp16).ext kp17).fresh kp18 hn18 hl18
    clear S15
    refine asg S18 4 rfl fun h19 k19 S19 => ?_
    dsimp only [List.set, List.cons_append] at S19
    clear S18
    have S19' := S19.sub (List.Sublist.cons₂ _ (.cons₂ _ (.cons₂ _ (.cons _ (List.Sublist.refl _)))))
    have S20d : St hb h19 (tLed ((D5, oList (rys.take keep ++ [.int (p : Nat) t6])) :: (I, P) :: (D2, oListW (sys.set (close - 1) (.int (((pieceRun l i).2.getD (close - 1) 0 : Nat) + 1 : Int) (k14 + 1 + 1 + 1)))) :: (L, oNs _) :: (L + 1, oCell (some (.str (mkS l) tx))) :: own) ps1 ps2'' tl'') := S19'
    clear S19'
    generalize hv19 : Value.int (((pieceRun l i).2.getD (close - 1) 0 : Nat) + 1 : Int) (k14 + 1 + 1 + 1) = v19 at S20d
    have ev : IsI ((pieceRun l i).2.getD (close - 1) 0 + 1) v19 := ⟨_, hv19.symm⟩
    have qv4 : ∃ m19, Al4 (St hb h19 (tLed ((D5, oList (rys.take keep ++ [.int (p : Nat) t6])) :: (I, P) :: (D2, oListW (sys.set (close - 1) v19)) :: (L, oNs m19) :: (L + 1, oCell (some (.str (mkS l) tx))) :: own) ps1 ps2'' tl'')) (m19 (Str.ofString "row") = some (.ref D5)) (m19 (Str.ofString "shut") = some (.ref D2)) (m19 (Str.ofString "cells") = some (.ref C)) :=
      ⟨_, S20d, by walk_at "lk", by walk_at "lk", by walk_at "lk"⟩
    obtain ⟨m19, S20, f1, f2, f3⟩ := qv4
    clear S19
    have hrun : pieceRun l (i + 1) = ((pieceRun l i).1.take keep ++ [p], (pieceRun l i).2.set (close - 1) ((pieceRun l i).2.getD (close - 1) 0 + 1)) := by
      show pieceStep l (pieceRun l i) (l.length - 1 - i) = _
      rw [hpl]
      unfold pieceStep
      rw [hkk, hcc]
    refine wpAny_execs_nil (hF1 _ _ ⟨h19, _, k19, _, rfl, ⟨m19, D5, D2, _, _, ps2'', tl'', rfl, rfl, o1', o2', f1, f2, f3, ?_, ?_⟩, S20.perm ((List.Perm.swap _ _ _).trans (.cons _ (.swap _ _ _)))⟩)
    · rw [hrun]
      exact paired_append (paired_take hrow keep) (.cons ⟨_, rfl⟩ .nil)
    · rw [hrun]
      exact paired_set hshut ev _
  rintro led₁ g h6 k6 ⟨m, D1, D2, rys, sys, ps2', tl', rfl, rfl, o1, o2, em1, em2, em3, hrow, hshut⟩ S6
  clear S5 hm1 hm2 hm3 hys0 hys ok1 ok2 RA
  have pinv := pieceRun_inv l l.length (Nat.le_refl _)
  refine wpAny_execs_cons (wpAny_Assign_Name (lstD (wpAny_items_nil ⟨by simp, fun D3 h7 kp7 hD3 hl3 => ?_⟩)))
  have S7 := S6.fresh kp7 hD3 hl3
  clear S6
  refine asg S7 3 rfl fun h8 k8 S8 => ?_
  dsimp only [List.set, List.cons_append] at S8
  clear S7
  have S9 := S8.sub (.cons₂ _ (.cons₂ _ (.cons _ (List.Sublist.refl _))))
  have qv5 : ∃ m9, Al4 (St hb h8 (tLed ((D3, oList []) :: (D2, oListW sys) :: (L, oNs m9) :: (L + 1, oCell (some (.str (mkS l) tx))) :: own) ps1 ps2' tl')) (m9 (Str.ofString "pieces") = some (.ref D3)) (m9 (Str.ofString "shut") = some (.ref D2)) (m9 (Str.ofString "cells") = some (.ref C)) :=
    ⟨_, S9, by walk_at "lk", by walk_at "lk", by walk_at "lk"⟩
  obtain ⟨m9, S10, f1, f2, f3⟩ := qv5
  clear S8 S9
  have hmC : ∀ (X : Led), (C, oList cs) ∈ X ++ own ++ (224, isO (tabObj ps1)) :: (212, isO (tabObj ps2')) :: tl' := fun X => List.mem_append_left _ (List.mem_append_right _ hC)
  refine nrm h8 s.gens s.drawn _ s.os ?_
  refine wpAny_execs_cons (for_range r.hh (h₀ := hb) s.drawn s.os (fun i => i) (J := fun i led g => Ex2 fun m pys => Al6 (g = s.gens) (led = tLed ((D3, oList pys) :: (D2, oListW sys) :: (L, oNs m) :: (L + 1, oCell (some (.str (mkS l) tx))) :: own) ps1 ps2' tl') (m (Str.ofString "pieces") = some (.ref D3)) (m (Str.ofString "shut") = some (.ref D2)) (m (Str.ofString "cells") = some (.ref C)) (Paired IsS (piecesUpto l cells i) pys)) ?_)
  refine wpAny_Call_NameR (nmB (v := .type "range") (B.ext S10.keep) (by k_is) bb_range (PyProof.Rows.callWith_type1 (wpAny_items_cons ?_)))
  refine wpAny_Call_NameR (nmB (v := .builtin "len") (B.ext S10.keep) (by k_is) bb_len (PyProof.Rows.callWith_builtin1 (wpAny_items_cons (nmC (c := L + 1) (cell_of (S10.getL 3 rfl)) (wpAny_items_nil ?_)))))
  refine lenS (by omega) fun t11 k11 => wpAny_items_nil (mkRange1 (by omega) (by omega) fun rr h11 k11 kp11 _ RA => ?_)
  rw [show (l.length : Int).toNat = l.length by omega] at RA
  refine ⟨_, _, _, 0, l.length, _, rfl, RA, fun i _ => by omega, S10.ext kp11, ⟨m9, [], rfl, rfl, f1, f2, f3, .nil⟩, ?_, ?_⟩
  · rintro i led₁ g h12 k12 I P t12 E' hi ⟨m2, pys, rfl, rfl, f1, f2, f3, hp⟩ S12
    refine asg S12 3 rfl fun h13 k13 S13 => ?_
    dsimp only [List.set, List.cons_append] at S13
    clear S12 S10
    refine post fun F2 hF2 => ?_
    have hpl := paired_len hp
    have hpl2 := piecesUpto_len l cells i (by omega)
    have hpl3 : i * (l.length + 1) ≤ 100 * 101 := Nat.mul_le_mul (by omega) (by omega)
    have hpl4 : pys.length ≤ 10100 := by rw [← hpl]; exact Nat.le_trans hpl2 hpl3
    obtain ⟨vc, hvc, tcc, rfl⟩ := paired_getD hcs [] i (by omega)
    have hcm := hc3 _ (getD_mem (d := ([] : List Nat)) (show i < cells.length by omega))
    obtain ⟨vs, hvs, tcs, rfl⟩ := paired_getD hshut 0 i (by rw [pinv.shut]; exact hi)
    refine wpAny_execs_cons (wpAny_Expr_any (app (nmL (ns_of (S13.getL 3 rfl)) (by walk_at "lk") ⟨D3, pys, rfl, S13.getL 1 rfl, Nat.le_trans hpl4 (by decide), ?_⟩)))
    refine wpAny_BinOp (cS [40] rfl fun t14 k14 => subL (nmL (ns_of (S13.getL 3 rfl)) (by walk_at "lk") (nmL (ns_of (S13.getL 3 rfl)) (by walk_at "lk") ⟨C, cs, _, _, .str (mkS (cells.getD i [])) tcc, rfl, rfl, list_of (S13.cell (C, oList cs) (.tail _ (.tail _ (.tail _ (.tail _ (.tail _ (hmC []))))))), by omega, by omega, ?_, ?_⟩)))
    · rw [Int.toNat_natCast]; exact hvc
    refine addS (show 1 + (cells.getD i []).length ≤ 1000000 by omega) fun t15 k15 => ⟨S13.getL 1 rfl, fun h16 hs16 hl16 => ?_⟩
    have S16 := S13.upd 1 rfl hs16.extBut hl16
    dsimp only [List.set, List.cons_append] at S16
    clear S13
    refine wpAny_execs_cons (wpAny_Expr_any (extL (nmL (ns_of (S16.getL 3 rfl)) (by walk_at "lk") ⟨D3, rfl, (let ⟨o, a, b⟩ := S16.getL 1 rfl; ⟨o, _, a, b⟩), ?_⟩)))
    refine wpAny_BinOp (lstD (wpAny_items_cons (cS [41] rfl fun t17 k17 => wpAny_items_nil ⟨by simp, fun D4 h18 kp18 hn18 hl18 => ?_⟩)))
    refine subL (nmL (ns_of ((S16.ext kp18).getL 3 rfl)) (by walk_at "lk") (nmL (ns_of ((S16.ext kp18).getL 3 rfl)) (by walk_at "lk") ⟨D2, sys, _, _, .int (((pieceRun l l.length).2.getD i 0 : Nat) : Int) tcs, rfl, rfl, listW_of ((S16.ext kp18).getL 2 rfl), by omega, by omega, ?_, ?_⟩))
    · rw [Int.toNat_natCast]; exact hvs
    have hss : (shutOf l).getD i 0 ≤ 1000 := Nat.le_trans (shut_small l i hi) (by omega)
    refine mulL (x := (shutOf l).getD i 0) hl18 hss fun D5 h19 kp19 hn19 hl19 => ⟨_, _, D5, rfl, atE (kp18.trans kp19) (S16.getL 1 rfl), hl19, ?_, fun h20 hs20 hl20 => ?_⟩
    · simp only [List.length_append, List.length_singleton, List.length_replicate]; omega
    have S20 := ((S16.ext kp18).ext kp19).upd 1 rfl hs20 hl20
    dsimp only [List.set, List.cons_append] at S20
    clear S16
    refine wpAny_execs_nil (hF2 _ _ ⟨h20, _, _, _, rfl, ⟨_, _, rfl, rfl, ?_, ?_, ?_, ?_⟩, S20⟩)
    · walk_at "lk"
    · walk_at "lk"
    · walk_at "lk"
    · rw [piecesUpto_succ, List.append_assoc]
      refine paired_append hp (.cons ⟨_, rfl⟩ (paired_replicate ⟨_, rfl⟩ _))
  · rintro led₁ g h12 k12 ⟨m2, pys, rfl, rfl, f1, f2, f3, hp⟩ S12
    refine wpAny_execs_cons (wpAny_Return_some (nmL (ns_of (S12.getL 2 rfl)) f1 ?_))
    exact hret D3 pys h12 _ ⟨ps1, ps2', tl', S12.sub (.cons₂ _ (.cons _ (.cons _ (.cons _ (List.Sublist.refl _))))), o1, o2⟩ hp
end Mine
end
section
open PySem PySem.W PySem.Spec PySem.Calls PyProof.Rows
namespace Mine
noncomputable abbrev Sg (w : World) (A : Around) (c : Code) (t : Sem Fin) (fs : List Frame) (s : Shared) (P : End → Shared → Prop) : Prop := X.SegX (model PR w) A c t fs s P
section
variable {w : World} {A : Around} {c : Code} {fs : List Frame} {s : Shared} {P : End → Shared → Prop} {env : Env}
theorem sg_wrap {α : Type} {m : Sem α} {K : α → Sem Fin} {H : Value → Sem Fin} {gd : Bool → Bool} {lv : List Value → List Value}
    (h : wpAny (model PR w) (A.over c fs) m (fun a s' => Sg w A c (K a) fs s' P) (fun x s' => Sg w A c (H x) fs s' P) s) : Sg w A c (m.wrap K H gd lv) fs s P := by
  rintro Γ p rfl hΓ
  obtain ⟨e, s', hr, hq⟩ := runs_wrap_of_wp (Φ := fun e s' => e.quiet = true ∧ P e s') K H gd lv m (h (Γ.over fs) p (hΓ.over fs)) (fun a p' s' h' => h' Γ p' rfl hΓ) (fun x p' s' h' => h' Γ p' rfl hΓ)
  exact ⟨e, s', hr, hq⟩
theorem sg_at {p' : Pos} {k : Unit → Sem Fin} (h : Sg w A c (k ()) fs s P) : Sg w A c (.at p' k) fs s P :=
  sg_wrap (m := standAt p') (K := k) (H := .raise) (gd := id) (lv := id) (wpAny_standAt h)
theorem sg_point {l : List Value} {k : Unit → Sem Fin} (h : Sg w A c (k ()) fs s P) : Sg w A c (.point l k) fs s P :=
  sg_wrap (m := point) (K := k) (H := .raise) (gd := id) (lv := fun _ => l) (wpAny_point h)
theorem sg_call {c' : Code} {h g l} {k : Result → Sem Fin} (x : ∀ p, Sg w A c' ((model PR w).den c') (.ret k h g l c p [] :: fs) s P) : Sg w A c (.call c' h g l k) fs s P := X.s_call PR w A c fs P s c' h g l k x
theorem sg_again {c' : Code} (hq : c'.quiet = true) (x : Sg w A c' ((model PR w).den c') fs s P) : Sg w A c (.pure (.again c')) fs s P := X.s_again PR w A c fs P s c' hq x
theorem sg_pop {r : Result} {k h g l c₁ p₁ kp} (x : Sg w A c₁ (k r) fs s P) : Sg w A c (leafOf r) (.ret k h g l c₁ p₁ kp :: fs) s P := X.s_pop PR w A c fs P s r _ rfl k h g l c₁ p₁ kp x
theorem sg_end {r : Result} (x : P (.ret r) s) : Sg w A c (leafOf r) [] s P := X.s_end PR w A c P s r _ rfl x
variable {K : Flow → Sem Fin} {H : Value → Sem Fin} {gd : Bool → Bool} {lv : List Value → List Value}
theorem sg_execs_nil (h : Sg w A c (K .next) fs s P) : Sg w A c ((execs [] env).wrap K H gd lv) fs s P := h
theorem sg_execs_cons {st : Stmt} {rest : List Stmt}
    (h : Sg w A c ((exec st env).wrap (fun f => match f with | .next => (execs rest env).wrap K H gd lv | f => K f) H gd lv) fs s P) :
    Sg w A c ((execs (st :: rest) env).wrap K H gd lv) fs s P := by rw [execs_cons_wrap]; exact h
theorem sg_If {test : Expr} {body orelse : List Stmt} {pos : Pos}
    (h : wpAny (model PR w) (A.over c fs) (isTrue test env (eval test env)) (fun b s' => if b = true then Sg w A c ((execs body env).wrap K H gd lv) fs s' P else Sg w A c ((execs orelse env).wrap K H gd lv) fs s' P) (fun _ _ => False) s) :
    Sg w A c ((exec (.If test body orelse pos) env).wrap K H gd lv) fs s P := by
  rw [exec_If]
  show Sg w A c (.at pos fun _ => ((isTrue test env (eval test env)) >>= fun b => if b = true then execs body env else execs orelse env).wrap K H gd lv) fs s P
  refine sg_at ?_
  rw [Sem.bind_eq_wrap', Sem.wrap_wrap]
  refine sg_wrap (wpAny_mono h (fun b s' hb => ?_) fun _ _ x => x.elim)
  cases b with
  | true => rw [if_pos rfl] at hb; exact hb
  | false => rw [if_neg Bool.false_ne_true] at hb; exact hb
theorem sg_Yield {e : Expr} {ypos pos : Pos} (hfs : splitAtGen fs = none) (hgd : gd false = false) (hfg : fs.any Frame.guarded = false)
    (h : wpAny (model PR w) (A.over c fs) (eval e env) (fun v s' => ∀ (k : Resume → Sem Fin) l p, (∀ A' s'' P', Sg w A' c (K .next) fs s'' P' → Sg w A' c (k (.send .none)) fs s'' P') → P (.susp v false l k c p fs) s') (fun _ _ => False) s)
    (hco : env.scope.isCoroutine = false := by rfl) (hi : interactive env = false := by rfl) :
    Sg w A c ((exec (.Expr (.Yield (some e) ypos) pos) env).wrap K H gd lv) fs s P := by
  rw [exec_Expr env _ pos hi rfl]
  show Sg w A c (.at pos fun _ => ((eval e env >>= fun v => (standAt ypos >>= fun _ => yieldOut env v)) >>= fun x => dropValue (.Yield (some e) ypos) pos x).wrap K H gd lv) fs s P
  have hy : ∀ v, yieldOut env v = yieldValue v := fun v => by simp only [yieldOut, hco, Bool.false_eq_true, if_false]
  simp only [hy]
  refine sg_at ?_
  rw [Sem.bind_eq_wrap', Sem.bind_eq_wrap', Sem.wrap_wrap, Sem.wrap_wrap]
  refine sg_wrap (wpAny_mono h (fun v s' h' => ?_) fun _ _ x => x.elim)
  refine sg_at ?_
  rintro Γ p rfl _
  refine ⟨_, s', Runs.yield' fs hfs, by simp [End.quiet, hfg, hgd], ?_⟩
  have e1 : (fun g => gd (id g)) false = false := hgd
  rw [e1]
  exact h' _ _ p fun A' s'' P' hx => hx
theorem sg_For {target iter : Expr} {body orelse : List Stmt} {pos : Pos}
    (h : wpAny (model PR w) (A.over c fs) (eval iter env) (fun x s₁ => wpAny (model PR w) (A.over c fs) (pyIter x) (fun it s₂ =>
      ∀ p, Sg w A (.forLoop target it body orelse env) ((model PR w).den (.forLoop target it body orelse env))
      (.ret (fun r => ((match r with | .ok f => (.pure f : Sem Flow) | .error e => .raise e).onRaise fun (x : Value) => do
        if (← field x 1) == Value.none then unsupported "frame.own-activation:exception-without-traceback"
        setFlight x env.frame).wrap K H gd lv) none (gd false) (lv []) c p [] :: fs) s₂ P) (fun _ _ => False) s₁) (fun _ _ => False) s)
    (hs : ∀ x, foldedSetIterable iter env x = pure x := by intro _; rfl) :
    Sg w A c ((exec (.For target iter body orelse pos) env).wrap K H gd lv) fs s P := by
  have e1 : exec (.For target iter body orelse pos) env = ((do
      standAt pos
      let x ← foldedSetIterable iter env (← eval iter env)
      standAt iter.pos
      holding [x] (pyIter x)) >>= fun it => runOwn (.forLoop target it body orelse env) env) := by
    rw [exec_For]; simp only [bind_assoc]
  rw [e1, Sem.bind_eq_wrap', Sem.wrap_wrap]
  refine sg_wrap (wpAny_bind (wpAny_standAt (wpAny_bind (wpAny_mono h (fun x s₁ h₁ => wpAny_bind (wpAny_of_eq (hs x) (wpAny_bind (wpAny_standAt (wpAny_holding (wpAny_mono h₁ (fun it s₂ h₂ => ?_) fun _ _ x => x.elim))))))
    fun _ _ x => x.elim))))
  exact sg_call h₂
theorem sg_forLoop {target : Expr} {it : Value} {body orelse : List Stmt}
    (h : wpAny (model PR w) (A.over (.forLoop target it body orelse env) fs) (pyNext it) (fun r s₁ => match r with
      | none => Sg w A (.block orelse env) ((model PR w).den (.block orelse env)) fs s₁ P
      | some v => wpAny (model PR w) (A.over (.forLoop target it body orelse env) fs) (letOwnedTupleGo target it v) (fun _ s₂ =>
          wpAny (model PR w) (A.over (.forLoop target it body orelse env) fs) (assign target env v) (fun _ s₃ =>
            Sg w A (.forLoop target it body orelse env) ((execs body env).wrap (fun f => match f with
              | .next | .cont => .pure (.again (.forLoop target it body orelse env))
              | .brk => .pure (.done .next)
              | .ret v => .pure (.done (.ret v))) (fun e => (do noteFrame e env; theTreesLotGoes e : Sem Unit).wrap (fun _ => .raise e) .raise id id) id id) fs s₃ P) (fun _ _ => False) s₂) (fun _ _ => False) s₁) (fun _ _ => False) s)
    (hqb : (Code.block orelse env).quiet = true := by rfl) :
    Sg w A (.forLoop target it body orelse env) ((model PR w).den (.forLoop target it body orelse env)) fs s P := by
  show Sg w A _ ((forTurn target it body orelse env).onRaise (fun x => do noteFrame x env; theTreesLotGoes x)) fs s P
  have e1 : forTurn target it body orelse env = ((do
      standAt target.pos
      let r ← (pyNext it).onRaise (fun _ => standAt { target.pos with line := 0 })
      match r with
      | none => pure none
      | some v => do
        letOwnedTupleGo target it v
        assign target env v
        pure (some v)) >>= fun r => match r with
      | none => again (.block orelse env)
      | some _ => execs body env >>= fun f => match f with
        | .next | .cont => again (.forLoop target it body orelse env)
        | .brk => pure (.done .next)
        | .ret v => pure (.done (.ret v))) := by
    unfold forTurn
    simp only [bind_assoc]
    congr 1
    funext _
    congr 1
    funext r
    cases r with
    | none => simp
    | some v =>
      simp only [bind_assoc, pure_bind]
      rfl
  rw [e1, Sem.onRaise_eq_wrap, Sem.bind_eq_wrap', Sem.wrap_wrap]
  refine sg_wrap (wpAny_bind (wpAny_standAt (wpAny_bind (wpAny_onRaise (wpAny_mono h (fun r s₁ h₁ => ?_) fun _ _ x => x.elim)))))
  cases r with
  | none => exact wpAny_pure (sg_again hqb h₁)
  | some v =>
    refine wpAny_bind (wpAny_mono h₁ (fun _ s₂ h₂ => wpAny_bind (wpAny_mono h₂ (fun _ s₃ h₃ => wpAny_pure ?_) fun _ _ x => x.elim)) fun _ _ x => x.elim)
    show Sg w A _ (Sem.wrap _ _ _ _ (execs body env >>= _)) fs s₃ P
    rw [Sem.bind_eq_wrap', Sem.wrap_wrap]
    rw [Sem.wrap_congr (execs body env) _ _ (K' := fun f => match f with
            | .next | .cont => .pure (.again (.forLoop target it body orelse env))
            | .brk => .pure (.done .next)
            | .ret v => .pure (.done (.ret v))) (H' := (fun e => (do noteFrame e env; theTreesLotGoes e : Sem Unit).wrap (fun _ => .raise e) .raise id id))
        (fun f => by cases f <;> rfl)
        (fun e => by first | exact Sem.bind_eq_wrap _ _ | (show (do noteFrame e env; theTreesLotGoes e : Sem Unit).bind (fun _ => .raise e) = _; rw [Sem.bind_eq_wrap]))]
    exact h₃
theorem sg_block0 (h : Sg w A (.block [] env) (.pure (.done .next)) fs s P) : Sg w A (.block [] env) ((model PR w).den (.block [] env)) fs s P := h
theorem sg_func {body : List Stmt}
    (h : Sg w A (.func body env) ((execs body env).wrap (fun f => .pure (.done (.ret (match f with | .ret v => v | _ => .none))))
      (fun e => (leaving env e).wrap (fun _ => .raise e) .raise id id) id id) fs s P) :
    Sg w A (.func body env) ((model PR w).den (.func body env)) fs s P := by
  show Sg w A _ (.point [] fun _ => ((execs body env).onRaise (leaving env)) >>= _) fs s P
  refine sg_point ?_
  rw [Sem.onRaise_eq_wrap, Sem.bind_eq_wrap', Sem.wrap_wrap]
  rw [Sem.wrap_congr (execs body env) _ _ (K' := fun f => .pure (.done (.ret (match f with | .ret v => v | _ => .none))))
    (H' := fun e => (leaving env e).wrap (fun _ => .raise e) .raise id id) (fun f => by cases f <;> rfl)
    (fun e => by rw [Sem.bind_eq_wrap, Sem.wrap_wrap]; rfl)]
  exact h
end
end Mine
end
section
open PySem PySem.W PySem.Spec PySem.Calls PyProof.Rows
namespace Mine
section
variable {w : World} {A : Around} {E : Value → Shared → Prop} {env : Env} {s : Shared} {tp : Pos} {kt : Nat}
theorem asgT2 {x y : Str} {px py : Pos} {a : Addr} {u v : Value} {Q : Unit → Shared → Prop} (hh : A.handled = none) (ht : s.heap.IsTuple a #[u, v])
    (h : ∀ h₁, Kp s.heap h₁ → wpAny (model PR w) A (storeName env x u) (fun _ s₂ => wpAny (model PR w) A (storeName env y v) Q E s₂) E { s with heap := h₁ }) :
    wpAny (model PR w) A (assign (.Tuple [.Name x px, .Name y py] kt tp) env (.ref a)) Q E s := by
  refine wpAny_assign_Tuple hh ht rfl rfl fun h₁ hx => ?_
  have hk : Kp s.heap h₁ := fun b o e => hx b o (Nat.ne_of_lt (Heap.lt_size e)) e
  show wpAny _ A (do holding [v] (assign (.Name x px) env u); do holding [] (assign (.Name y py) env v); pure ()) _ _ _
  exact wpAny_bind (wpAny_holding (wpAny_assign_Name (wpAny_mono (h h₁ hk) (fun _ s₂ h₂ => wpAny_bind (wpAny_holding (wpAny_assign_Name (wpAny_mono h₂ (fun _ s₃ h₃ => wpAny_pure h₃) fun _ _ x => x)))) fun _ _ x => x)))
theorem asgT3 {x y z : Str} {px py pz : Pos} {a : Addr} {u v t : Value} {Q : Unit → Shared → Prop} (hh : A.handled = none) (ht : s.heap.IsTuple a #[u, v, t])
    (h : ∀ h₁, Kp s.heap h₁ → wpAny (model PR w) A (storeName env x u) (fun _ s₂ => wpAny (model PR w) A (storeName env y v) (fun _ s₃ => wpAny (model PR w) A (storeName env z t) Q E s₃) E s₂) E { s with heap := h₁ }) :
    wpAny (model PR w) A (assign (.Tuple [.Name x px, .Name y py, .Name z pz] kt tp) env (.ref a)) Q E s := by
  refine wpAny_assign_Tuple hh ht rfl rfl fun h₁ hx => ?_
  have hk : Kp s.heap h₁ := fun b o e => hx b o (Nat.ne_of_lt (Heap.lt_size e)) e
  show wpAny _ A (do holding [v, t] (assign (.Name x px) env u); do holding [t] (assign (.Name y py) env v); do holding [] (assign (.Name z pz) env t); pure ()) _ _ _
  exact wpAny_bind (wpAny_holding (wpAny_assign_Name (wpAny_mono (h h₁ hk) (fun _ s₂ h₂ => wpAny_bind (wpAny_holding (wpAny_assign_Name (wpAny_mono h₂ (fun _ s₃ h₃ => wpAny_bind (wpAny_holding (wpAny_assign_Name (wpAny_mono h₃ (fun _ s₄ h₄ => wpAny_pure h₄) fun _ _ x => x)))) fun _ _ x => x)))) fun _ _ x => x)))
theorem letGo {T : String} {elts : List Expr} {r a : Addr} {o : Obj} {Q : Unit → Shared → Prop} (ho : s.heap.get? r = some o) (hc : o.cls = .type T)
    (hT : ["enumerate", "zip", "dict_itemiterator", "dict_reverseitemiterator", "odict_iterator", "itertools.zip_longest", "itertools.pairwise"].contains T = false) (h : Q () s) :
    wpAny (model PR w) A (letOwnedTupleGo (.Tuple elts kt tp) (.ref r) (.ref a)) Q E s := by
  unfold letOwnedTupleGo
  refine wpAny_bind (wpAny_load ho ?_)
  rw [hc]
  cases o.data with
  | fields vs =>
    show wpAny _ A (if (_ && _) = true then _ else _) Q E s
    rw [hT, Bool.false_and, if_neg Bool.false_ne_true]
    exact wpAny_pure h
  | _ => exact wpAny_pure h
end
/-- one more turn of a generator -/
noncomputable def GoX (w : World) (A : Around) (gs : GenState) (s : Shared) (P : End → Shared → Prop) : Prop := match gs with
  | .fresh c => Sg w A c ((model PR w).den c) [] s P
  | .suspended k _ c _ fs _ => Sg w A c (k (.send .none)) fs s P
  | _ => False
noncomputable def oGen (gi : Nat) (o : Obj) : Prop := Ex2 fun nm qn => o.cls = .type "generator" ∧ o.data = .fields #[.int gi 0, nm, qn] ∧ o.slots = #[]
theorem gen_of {h : Heap} {a : Addr} {g : Nat} (x : ∃ o, h.get? a = some o ∧ oGen g o) : h.IsGen a g := let ⟨o, e, nm, qn, r⟩ := x; ⟨o, nm, qn, e, r⟩
noncomputable def oPair (n : Nat) (x : List Nat) (o : Obj) : Prop := ∃ t u, o = { cls := .type "tuple", data := .seq #[.int (n : Nat) t, .str (mkS x) u] }
/-- what the end of one turn must give -/
noncomputable def nxP (gi : Nat) (Q : Option Value → Shared → Prop) (e : End) (s₁ : Shared) : Prop := match e with
  | .ret q => q = .ok (.ret .none) ∧ ∀ h', Kp s₁.heap h' → Q none { s₁.setGen gi .finished with heap := h' }
  | .susp v g l k c p fs => Q (some v) (s₁.setGen gi (.suspended k l c p fs (g || fs.any Frame.guarded)))
theorem next_key {w : World} {A : Around} {s : Shared} {gi : Nat} {gs : GenState} {Q : Option Value → Shared → Prop} (hgs : s.gens[gi]? = some gs) (c₀ : Code) (t₀ : Sem Fin) (fs₀ : List Frame)
    (hc : (gs = .fresh c₀ ∧ Resume.send Value.none = Resume.send .none ∧ t₀ = denote table c₀ ∧ fs₀ = []) ∨ (∃ k₀ l₀ p₀ cl, gs = .suspended k₀ l₀ c₀ p₀ fs₀ cl ∧ t₀ = k₀ (.send .none)))
    (hx : Sg w A c₀ t₀ fs₀ (s.setGen gi .running) (nxP gi Q)) {α : Type} {k : GenResult → Sem α} {Q' : α → Shared → Prop} {E' : Value → Shared → Prop}
    (h1 : ∀ s₁ : Shared, (∀ h', Kp s₁.heap h' → Q none { s₁.setGen gi .finished with heap := h' }) → wpAny (model PR w) A (k (.returned .none)) Q' E' (s₁.setGen gi .finished))
    (h2 : ∀ v s₂, Q (some v) s₂ → wpAny (model PR w) A (k (.yielded v)) Q' E' s₂) : wpAny (model PR w) A (.resume gi (.send .none) [] k) Q' E' s := by
  intro Γ p hΓ
  refine X.wake_any α PR w hgs hc (fun Γ => Γ.In A) (fun _ h => h) (hx.mono fun e s₁ he => ?_) Γ p hΓ
  intro Γ' p' hΓ'
  cases e with
  | ret q =>
    obtain ⟨rfl, hq⟩ := he
    exact h1 s₁ hq Γ' p' hΓ'
  | susp v g l k c p fs => exact h2 v _ he Γ' p' hΓ'
theorem next_gen {w : World} {A : Around} {E : Value → Shared → Prop} {s : Shared} {G : Addr} {gi : Nat} {gs : GenState} {Q : Option Value → Shared → Prop} {d u : Nat} (r : Room A d u)
    (hl : s.heap.NoLimit) (hg : s.heap.IsGen G gi) (hgs : s.gens[gi]? = some gs) (x : GoX w A.in1 gs (s.setGen gi .running) (nxP gi Q)) :
    wpAny (model PR w) A (pyNext (.ref G)) Q E s := by
  unfold pyNext
  refine wpAny_bind (wpAny_attempt (wpAny_callSpecial?_slot (name := Str.ofString "__next__") hg.typeIs slot_gen_next
    (wpAny_call_entry slot_gen_next hg.typeIs entry_gen_next ?_ (args_gen_next _))))
  show wpAny _ _ (Builtin.Generator.genWake (.ref G) (.send .none)) _ _ s
  unfold Builtin.Generator.genWake
  refine wpAny_bind (wpAny_holding (wpAny_genNumber hg (wpAny_bind (wpAny_genState hgs ?_))))
  cases gs with
  | running => exact x.elim
  | finished => exact x.elim
  | _ =>
    refine wpAny_bind (wpAny_roomToWake hl (show A.depth < recursionLimit by have := r.hd; omega) ?_)
    show wpAny _ _ (.resume gi (.send .none) [] _) _ _ s
    refine next_key hgs _ _ _ (by first | exact .inl ⟨rfl, rfl, rfl, rfl⟩ | exact .inr ⟨_, _, _, _, rfl, rfl⟩) x (fun s₁ hp => ?_) (fun v s₁ hv => ?_)
    · show wpAny _ _ (newExc (.type "StopIteration") [] >>= _) _ _ _
      refine wpAny_bind ?_
      simp only [newExc, newTuple]
      refine wpAny_bind (wpAny_newObj_type ?_ (by size_fits))
      refine wpAny_bind (m := firstArgMember _ _) (wpAny_of_eq (a := Value.none) (by first | rfl | (simp only [firstArgMember]; rfl)) ?_)
      refine wpAny_newObj_type ?_ (by size_fits)
      simp only [raiseNew]
      refine wpAny_bind (wpAny_bind (wpAny_handled ?_))
      rw [show A.in1.handled = none from r.hh]
      refine wpAny_throw ?_
      refine wpAny_bind (wpAny_isInstance (T := "StopIteration") (b := true) ⟨_, Heap.get?_push_size _ rfl, rfl⟩ isSubtype_stop ?_)
      exact wpAny_pure (hp _ fun b o hb => Heap.get?_push_of_some _ (Heap.get?_push_of_some _ hb))
    · exact wpAny_pure ⟨v, rfl, wpAny_pure hv⟩
end Mine
end
section
open PySem PySem.W PySem.Spec PySem.Calls PyProof.Rows
namespace Mine
/-- a generator that will give these pairs, its own things in the ledger gl -/
noncomputable def Gn (w : World) : List (Nat × List Nat) → Led → GenState → Prop
  | [], gl, gs => gs.bare = true ∧ ∀ A hg s P, Room A 30 300 → Bs w hg → St hg s.heap gl → (∀ h' tk, Kp hg h' → P (.ret (.ok (.ret .none))) ⟨h', s.gens, s.drawn, tk, s.os⟩) → GoX w A gs s P
  | it :: rest, gl, gs => gs.bare = true ∧ ∀ A hg s P, Room A 30 300 → Bs w hg → St hg s.heap gl → (∀ a h' tk gl' k l c p fs, St hg h' ((a, oPair it.1 it.2) :: gl') → Gn w rest gl' (.suspended k l c p fs (false || fs.any Frame.guarded)) →
      P (.susp (.ref a) false l k c p fs) ⟨h', s.gens, s.drawn, tk, s.os⟩) → GoX w A gs s P
theorem Gn.bare {w : World} {items : List (Nat × List Nat)} {gl : Led} {gs : GenState} (h : Gn w items gl gs) : gs.bare = true := by
  cases items with
  | nil => exact h.1
  | cons _ _ => exact h.1
theorem St.split {h₀ h : Heap} {X led : Led} (S : St h₀ h (X ++ led)) : ∃ hb, Al3 (St h₀ hb X) (St hb h led) (Kp hb h) := by
  obtain ⟨hb, k1, S1, hX, k2, _⟩ := S.freeze
  exact ⟨hb, ⟨k1, hX, fun p hp => S.new p (List.mem_append_left _ hp), (List.pairwise_append.mp S.nd).1⟩, S1, k2⟩
theorem bare_set {g : Array GenState} {gi : Nat} {a b : GenState} (h : AllBare g) (hb : b.bare = true) : AllBare ((g.setIfInBounds gi a).setIfInBounds gi b) := by
  intro y hy
  rw [Array.setIfInBounds_setIfInBounds] at hy
  rcases Array.mem_or_eq_of_mem_setIfInBounds hy with m | rfl
  · exact h y m
  · exact hb
theorem get_set {g : Array GenState} {gi : Nat} {a b gs : GenState} (h : g[gi]? = some gs) : ((g.setIfInBounds gi a).setIfInBounds gi b)[gi]? = some b := by
  have hlt := (Array.getElem?_eq_some_iff.mp h).1
  simp [hlt]
theorem for_gen {w : World} {A : Around} {E : Value → Shared → Prop} {env : Env} {s : Shared} {Q : Flow → Shared → Prop} {x y : Str} {px py tp pos : Pos} {kt : Nat} {iter : Expr} {body : List Stmt} {h₀ : Heap} (r : Room A 40 400) (hB : Bs w h₀) (dr : Drawn) (os : OsState) (items : List (Nat × List Nat)) (J : Nat → Led → Prop)
    (h : wpAny (model PR w) A (eval iter env) (fun xv s₁ => Ex8 fun h₁ g₁ tk₁ G gi gs gl led => Al9 (xv = .ref G) (s₁ = ⟨h₁, g₁, dr, tk₁, os⟩) (g₁[gi]? = some gs) (AllBare g₁) (St h₀ h₁ (led ++ (G, oGen gi) :: gl)) (Gn w items gl gs) (J 0 led) (∀ i it led₁ g h₁ tk X n c E', items[i]? = some it → J i led₁ → AllBare g → St h₀ h₁ (led₁ ++ X) → IsI it.1 n → IsS it.2 c →
        wpAny (model PR w) A (storeName env x n) (fun _ s₂ => wpAny (model PR w) A (storeName env y c) (fun _ s₃ => wpAny (model PR w) A (execs body env) (fun f s₄ => match f with
          | .next | .cont => Ex3 fun h₃ tk₃ led₃ => Al3 (s₄ = ⟨h₃, g, dr, tk₃, os⟩) (J (i + 1) led₃) (St h₀ h₃ (led₃ ++ X))
          | .brk => Q .next s₄
          | .ret v => Q (.ret v) s₄) E' s₃) E' s₂) E' ⟨h₁, g, dr, tk, os⟩) (∀ led₁ g h₁ tk, J items.length led₁ → AllBare g → St h₀ h₁ led₁ → Q .next ⟨h₁, g, dr, tk, os⟩)) E s)
    (hs : ∀ x, foldedSetIterable iter env x = pure x := by intro _; rfl) :
    wpAny (model PR w) A (exec (.For (.Tuple [.Name x px, .Name y py] kt tp) iter body [] pos) env) Q E s := by
  refine wpAny_For (wpAny_mono h (fun xv s₁ h₁ => ?_) fun _ _ e => e) hs
  obtain ⟨H, G₁, T, G, gi, gs, gl, led, rfl, rfl, hgs, hbare, S, hG, hJ, step, fin⟩ := h₁
  refine wpAny_pyIter_gen (gen_of (S.cell (G, oGen gi) (List.mem_append_right _ (List.mem_cons_self ..)))) ?_
  refine codeAny_forLoop_any
    (fun k s' => Ex7 fun h₁ g tk i gs gl led₁ => Al8 (s' = ⟨h₁, g, dr, tk, os⟩) (i ≤ items.length) (k = items.length - i) (g[gi]? = some gs) (AllBare g) (St h₀ h₁ (led₁ ++ (G, oGen gi) :: gl)) (Gn w (items.drop i) gl gs) (J i led₁)) ?_ items.length
    ⟨H, G₁, T, 0, gs, gl, led, rfl, Nat.zero_le _, rfl, hgs, hbare, S, hG, hJ⟩
  rintro k s' ⟨h₁, g, tk, i, gs, gl, led₁, rfl, hi, rfl, hgs, hbare, S₁, hG, hJ⟩
  have hgen := gen_of (S₁.cell (G, oGen gi) (List.mem_append_right _ (List.mem_cons_self ..)))
  obtain ⟨mg, mb, TQ⟩ := (hB.ext S₁.keep).T
  have S₁' : St h₀ h₁ ((led₁ ++ [(G, oGen gi)]) ++ gl) := by simpa using S₁
  obtain ⟨hb, SX, Sg, kb⟩ := S₁'.split
  refine next_gen r TQ.nolimit hgen hgs ?_
  cases hd : items.drop i with
  | nil =>
    rw [hd] at hG
    have hil : i = items.length := by
      have := congrArg List.length hd
      simp only [List.length_drop, List.length_nil] at this; omega
    refine hG.2 _ hb _ _ (r.less.in1) (hB.ext SX.keep) Sg fun h' tk' kp' => ⟨rfl, fun h'' kp'' => wpAny_execs_nil ?_⟩
    refine fin led₁ _ h'' tk' (hil ▸ hJ) (bare_set hbare rfl) ?_
    exact (SX.ext (kp'.trans kp'')).sub (List.sublist_append_left ..)
  | cons it rest =>
    rw [hd] at hG
    have hit : items[i]? = some it := by
      have := congrArg (·[0]?) hd
      simpa using this
    have hlt : i < items.length := (List.getElem?_eq_some_iff.mp hit).1
    have hdr : items.drop (i + 1) = rest := by
      rw [← List.tail_drop, hd]; rfl
    refine hG.2 _ hb _ _ (r.less.in1) (hB.ext SX.keep) Sg fun a h' tk' gl' k l c p fs S2 hG' => ?_
    have S3 := SX.comp S2
    have hG3 := S3.cell (G, oGen gi) (List.mem_append_right _ (List.mem_append_right _ (List.mem_cons_self ..)))
    obtain ⟨oG, eG, nm, qn, hcG, _⟩ := hG3
    obtain ⟨oa, ea, ta, ua, hoa⟩ := S3.cell (a, oPair it.1 it.2) (List.mem_append_left _ (List.mem_cons_self ..))
    refine letGo eG hcG (by decide) (asgT2 r.hh ⟨oa, ea, by rw [hoa], _, by rw [hoa]⟩ fun h₃ kp₃ => ?_)
    have S4 : St h₀ h₃ (led₁ ++ (G, oGen gi) :: gl') := by
      refine ((S3.ext kp₃).sub (List.sublist_cons_self ..)).perm ?_
      refine List.perm_append_comm.trans ?_
      simp
    refine wpAny_mono (step i it led₁ _ h₃ _ _ _ _ _ hit hJ (bare_set hbare hG'.bare) S4 ⟨ta, rfl⟩ ⟨ua, rfl⟩) (fun _ s₂ h₂ => wpAny_mono h₂ (fun _ s₃ h₃ => wpAny_mono h₃ (fun f s₄ h₄ => ?_) fun _ _ x => x) fun _ _ x => x) fun _ _ x => x
    cases f with
    | next =>
      obtain ⟨h₅, tk₅, led₃, rfl, hJ', S5⟩ := h₄
      exact ⟨items.length - (i + 1), by omega, h₅, _, tk₅, i + 1, _, gl', led₃, rfl, hlt, rfl, get_set hgs, bare_set hbare hG'.bare, S5, by rw [hdr]; exact hG', hJ'⟩
    | cont =>
      obtain ⟨h₅, tk₅, led₃, rfl, hJ', S5⟩ := h₄
      exact ⟨items.length - (i + 1), by omega, h₅, _, tk₅, i + 1, _, gl', led₃, rfl, hlt, rfl, get_set hgs, bare_set hbare hG'.bare, S5, by rw [hdr]; exact hG', hJ'⟩
    | brk => exact h₄
    | ret v => exact h₄
end Mine
end
section
open PySem PySem.W PySem.Spec PySem.Calls PyProof.Rows
namespace Mine
theorem sg_ind {w : World} {ι : Type} {c : Code} {t : Sem Fin} {fs : List Frame} (I : Nat → ι → Around → Shared → (End → Shared → Prop) → Prop)
    (step : ∀ n x A s P, I n x A s P → (∀ m, m < n → ∀ x' A' s' P', I m x' A' s' P' → Sg w A' c t fs s' P') → Sg w A c t fs s P) : ∀ n x A s P, I n x A s P → Sg w A c t fs s P := by
  intro n
  induction n using Nat.strongRecOn with
  | _ n ih => exact fun x A s P h => step n x A s P h ih
noncomputable def GnP (w : World) (items : List (Nat × List Nat)) (hg : Heap) (g : Array GenState) (d : Drawn) (o : OsState) (P : End → Shared → Prop) : Prop := match items with
  | [] => ∀ h' tk, Kp hg h' → P (.ret (.ok (.ret .none))) ⟨h', g, d, tk, o⟩
  | it :: rest => ∀ a h' tk gl' k l c p fs, St hg h' ((a, oPair it.1 it.2) :: gl') → Gn w rest gl' (.suspended k l c p fs (false || fs.any Frame.guarded)) → P (.susp (.ref a) false l k c p fs) ⟨h', g, d, tk, o⟩
theorem Gn.of {w : World} {items : List (Nat × List Nat)} {gl : Led} {gs : GenState} (hb : gs.bare = true)
    (h : ∀ A hg s P, Room A 30 300 → Bs w hg → St hg s.heap gl → GnP w items hg s.gens s.drawn s.os P → GoX w A gs s P) : Gn w items gl gs := by
  cases items with
  | nil => exact ⟨hb, h⟩
  | cons _ _ => exact ⟨hb, h⟩
/-- a generator function called -/
theorem enterG {w : World} {A : Around} {R : Result → Shared → Prop} {s : Shared} {f : Addr} {args : Args} {binds : List (Str × Value)} {d u : Nat}
    {name qual : Str} {params : Arguments} {body : List Stmt} {scope : Scope} {dV kV doc pm cdv ct oc : Value} {an od : Option Addr} {osl : Array (Option Value)}
    (r : Room A (d + 1) (u + 3)) (B : Bs w s.heap) (ho : (hd.heap_39 w.params).lookup f = some ⟨oc, od, .func (fnX name qual params body scope [] dV kV doc pm an cdv ct), osl⟩) (hcd : codeIn (hd.heap_39 w.params) cdv qual = true)
    (hbind : ∀ (Q : List (Str × Value) → Shared → Prop) (E : Value → Shared → Prop), Q binds s → wpAny (model PR w) A.in1 (bindArgs (fnX name qual params body scope [] dV kV doc pm an cdv ct) args) Q E s)
    (hkind : ∀ x ∈ binds, scope.names.lookup x.1 = some .local) (hcell : ∀ x ∈ scope.names, x.2 ≠ .cell)
    (h : ∀ (L : Addr) (h₁ : Heap) (tk : Nat) G, St s.heap h₁ [(G, oGen s.gens.size), (L, oNs fun y => binds.reverse.lookup y)] →
      R (.ok (.ret (.ref G))) ⟨h₁, s.gens.push (.fresh (.func body (envX qual scope L f cdv []))), s.drawn, tk, s.os⟩)
    (hco : scope.isCoroutine = false := by rfl) (hgen : scope.isGenerator = true := by rfl) (hk : scope.kind = .function := by rfl) :
    codeAny (model PR w) A (.call (.ref f) args) R s := by
  obtain ⟨mg, mb, T⟩ := B.T
  refine codeAny_call_generator (by have := r.hd; omega) (B.K _ _ ho) rfl hco hgen rfl (codeRec_of B.K hcd) (hbind _ _ ?_)
  refine wpAny_newFunctionEnv hcell hkind (fun h₁ hns hsb => ⟨T.nolimit.fresh _ hsb, ?_⟩) hk
  have hk₁ : Kp s.heap h₁ := fun b o e => hsb.extBut b o (Nat.ne_of_lt (Heap.lt_size e)) (Heap.get?_push_of_some _ e)
  have S := ((St.start s.heap).fresh hk₁ (Heap.get?_none_of_le (Nat.le_refl _)) (of_ns hns)).push (o := { cls := .type "generator", data := .fields #[.int s.gens.size 0, .str name (s.toks + binds.length), .str qual (s.toks + binds.length + 1)] }) (oGen s.gens.size) ⟨_, _, rfl, rfl, rfl⟩
  exact h _ _ _ _ S
end Mine
end
section
open PySem PySem.W PySem.Spec PySem.Calls PyProof.Rows
namespace Mine
noncomputable def escF : Nat → Bool → List Nat → List (Nat × List Nat)
  | i, true, [] => [(i - 1, [92])]
  | _, false, [] => []
  | i, true, c :: r => (i, [92, c]) :: escF (i + 1) false r
  | i, false, c :: r => if c = 92 then escF (i + 1) true r else (i, [c]) :: escF (i + 1) false r
theorem St.fresh2 {h₀ h h' : Heap} {led : Led} (S : St h₀ h led) (k : Kp h h') {a b : Addr} {P Q : Obj → Prop} (hab : a ≠ b) (ha : h.get? a = none) (hb : h.get? b = none) (hp : ∃ o, h'.get? a = some o ∧ P o) (hq : ∃ o, h'.get? b = some o ∧ Q o) : St h₀ h' ((a, P) :: (b, Q) :: led) := by
  have S1 := S.fresh (P := Q) k hb hq
  have S2 := S.fresh (P := P) k ha hp
  refine ⟨S1.keep, fun p hp' => ?_, fun p hp' => ?_, ?_⟩
  · rcases List.mem_cons.mp hp' with rfl | m
    · exact hp
    · exact S1.cell p m
  · rcases List.mem_cons.mp hp' with rfl | m
    · exact S2.new (a, P) (List.mem_cons_self ..)
    · exact S1.new p m
  · refine List.pairwise_cons.mpr ⟨fun q hq' => ?_, S1.nd⟩
    rcases List.mem_cons.mp hq' with rfl | m
    · exact hab
    · exact (List.pairwise_cons.mp S2.nd).1 q m
noncomputable def oEnum (I : Addr) (i : Nat) (o : Obj) : Prop := ∃ old, o = { cls := .type "enumerate", dict := none, data := .fields #[.none, .bool false, .ref I, rawInt i, .none, old], slots := #[] }
noncomputable def oStrI (x : Str) (t : Tok) (i : Nat) (o : Obj) : Prop := o.cls = .type "str_ascii_iterator" ∧ o.data = .fields #[.str x t, .int i 0]
theorem ascii_of {l : List Nat} (h : ∀ c ∈ l, c < 128) : strIterType (mkS l) = "str_ascii_iterator" := by
  unfold strIterType
  rw [if_pos]
  simp only [mkS, List.all_toArray, List.all_eq_true]
  intro c hc
  exact decide_eq_true (h c hc)
theorem St.upd2 {h₀ h h' : Heap} {led : Led} {a c : Addr} {P P' Q Q' : Obj → Prop} (S : St h₀ h ((a, P) :: (c, Q) :: led)) (hs : ∀ b o, b ≠ a → b ≠ c → h.get? b = some o → h'.get? b = some o)
    (hp : ∃ o, h'.get? a = some o ∧ P' o) (hq : ∃ o, h'.get? c = some o ∧ Q' o) : St h₀ h' ((a, P') :: (c, Q') :: led) := by
  have ha := S.new (a, P) (List.mem_cons_self ..)
  have hc := S.new (c, Q) (.tail _ (List.mem_cons_self ..))
  have hnd := List.pairwise_cons.mp S.nd
  have hnd2 := List.pairwise_cons.mp hnd.2
  refine ⟨fun b o e => hs b o (fun q => by rw [q, ha] at e; cases e) (fun q => by rw [q, hc] at e; cases e) (S.keep _ _ e), fun p hp' => ?_, fun p hp' => ?_, ?_⟩
  · rcases List.mem_cons.mp hp' with rfl | m
    · exact hp
    · rcases List.mem_cons.mp m with rfl | m
      · exact hq
      · obtain ⟨o, e, q⟩ := S.cell p (.tail _ (.tail _ m))
        exact ⟨o, hs _ _ (fun q => hnd.1 p (.tail _ m) q.symm) (fun q => hnd2.1 p m q.symm) e, q⟩
  · rcases List.mem_cons.mp hp' with rfl | m
    · exact ha
    · rcases List.mem_cons.mp m with rfl | m
      · exact hc
      · exact S.new p (.tail _ (.tail _ m))
  · refine List.pairwise_cons.mpr ⟨fun q hq' => ?_, List.pairwise_cons.mpr ⟨fun q hq' => hnd2.1 q hq', hnd2.2⟩⟩
    rcases List.mem_cons.mp hq' with rfl | m
    · exact hnd.1 (c, Q) (List.mem_cons_self ..)
    · exact hnd.1 q (.tail _ m)
end Mine
end
section
open PySem PySem.W PySem.Spec PySem.Calls PyProof.Rows
namespace Mine
theorem roomF {A : Around} {d u : Nat} {body : List Stmt} {env : Env} (r : Room A (d + 5) (u + 20)) : Room (A.over (.func body env) []) d u :=
  ⟨r.hh, by have := r.hd; show A.depth + 0 + 1 + d < _; omega, by have := r.hu; show A.units + 0 + 3 + u < _; omega⟩
theorem roomL {A : Around} {d u : Nat} {body b2 : List Stmt} {env e2 : Env} {T : Expr} {it : Value} {k : Result → Sem Fin} {g : Bool} {l kp : List Value} {p : Pos} (r : Room A (d + 5) (u + 20)) : Room (A.over (.forLoop T it b2 [] e2) [.ret k none g l (.func body env) p kp]) d u :=
  ⟨r.hh, by have := r.hd; show A.depth + 1 + 0 + d < _; omega, by have := r.hu; show A.units + 3 + 0 + u < _; omega⟩
set_option maxRecDepth 100000 in
set_option maxHeartbeats 4000000 in
theorem sp_iter {w : World} {A : Around} {R : Result → Shared → Prop} {s : Shared} (l : List Nat) (tx : Tok) (hx : l.length ≤ 1000000) (hasc : ∀ c ∈ l, c < 128) (r : Room A 10 100) (B : Bs w s.heap)
  (hret : ∀ G gl gs h' tk', St s.heap h' ((G, oGen s.gens.size) :: gl) → Gn w (escF 0 false l) gl gs → R (.ok (.ret (.ref G))) ⟨h', s.gens.push gs, s.drawn, tk', s.os⟩) :
  codeAny (model PR w) A (.call (.ref 61) ⟨[.str (mkS l) tx], []⟩) R s := by
  refine enterG (d := 9) (u := 97) (binds := [(Str.ofString "addr", .str (mkS l) tx)]) r B (by k_is) (by k_is) (fun Q E h => wpAny_pure h) (by intro y hy; simp at hy; rcases hy with rfl; rfl) (by decide) fun L h₁ tk G S => ?_
  refine hret G [(L, _)] _ h₁ tk S (Gn.of rfl fun A2 hg s2 P2 r2 B2 S2 hP => ?_)
  clear hret S r B
  refine sg_func ?_
  refine sg_execs_cons (sg_wrap (wpAny_Assign_Name (wpAny_Constant_int (asg S2 0 rfl fun h3 k3 S3 => ?_))))
  dsimp only [List.set] at S3
  refine sg_execs_cons (sg_wrap (wpAny_Assign_Name (wpAny_Constant_bool (asg S3 0 rfl fun h4 k4 S4 => ?_))))
  dsimp only [List.set] at S4
  refine sg_execs_cons (sg_For ?_)
  refine wpAny_Call_NameR (nmB (v := .type "enumerate") (B2.ext S4.keep) (by k_is) bb_enumerate (PyProof.Rows.callWith_type1 (wpAny_items_cons (nmL (ns_of (S4.getL 0 rfl)) (by rfl) (wpAny_items_nil ?_)))))
  refine call_enumerate_str fun h5 hE hI hsz kp5 => wpAny_pyIter_enum hE fun p => ?_
  rw [ascii_of hasc] at hI
  generalize hIe : h4.objs.size = I at hE hI
  have hI0 : h4.get? I = none := Heap.get?_none_of_le (Nat.le_of_eq hIe)
  have hE0 : h4.get? (I + 1) = none := Heap.get?_none_of_le (by omega)
  obtain ⟨m5, S5, e1⟩ : ∃ m5, St hg h5 [(I + 1, oEnum I 0), (I, oStrI (mkS l) tx 0), (L, oNs m5)] ∧ m5 (Str.ofString "escape") = some (.bool false) :=
    ⟨_, S4.fresh2 kp5 (Nat.succ_ne_self I) hE0 hI0 ⟨_, hE, _, rfl⟩ hI, by walk_at "lk"⟩
  have hIE : I + 1 ≠ I := Nat.succ_ne_self I
  clear hE hI S4 S3 S2 hI0 hE0
  generalize I + 1 = En at S5 hIE
  refine sg_ind (ι := Nat × Bool) (fun n x A s P => Ex2 fun hg m => Al8 (Room A 30 300) (Bs w hg) (St hg s.heap [(En, oEnum I x.1), (I, oStrI (mkS l) tx x.1), (L, oNs m)]) (m (Str.ofString "escape") = some (.bool x.2)) (x.2 = true → 1 ≤ x.1 ∧ ∃ t, m (Str.ofString "pos") = some (.int ((x.1 - 1 : Nat) : Int) t)) (x.1 ≤ l.length) (n = l.length - x.1) (GnP w (escF x.1 x.2 (l.drop x.1)) hg s.gens s.drawn s.os P)) ?_ l.length (0, false) _ _ _
    ⟨hg, m5, r2, B2, S5, e1, fun h => (by cases h), Nat.zero_le _, rfl, hP⟩
  clear hP S5 e1 r2 B2 hsz kp5 hIe
  rintro n ⟨i, esc⟩ A s P ⟨hg, m, r, B, S, em, ep, hi, hn, hP⟩ ih
  simp only at em ep hi hn hP S
  refine sg_forLoop ?_
  obtain ⟨oE, hoE, old, rfl⟩ := S.getL 0 rfl
  by_cases hlt : i < l.length
  · refine wpAny_pyNext_enum_itemD (fp := [I]) (n := (mkS l).cps.size) (P := fun i v => ∃ c u, (mkS l).cps[i]? = some c ∧ v = .str ⟨#[c]⟩ u) (St := fun i h => h.IsStrIter I "str_ascii_iterator" (mkS l) tx i) (Draws.strAscii (by exact r.hh) I (mkS l) tx) hoE (S.getL 1 rfl) (by show i < (mkS l).cps.size; simpa [mkS] using hlt) hIE (by simpa using hIE) fun x h6 tk hx hE6 hI6 ht6 hz6 hk6 => ?_
    obtain ⟨ch, u, hch, rfl⟩ := hx
    have hdrop : l.drop i = ch :: l.drop (i + 1) := by
      have e : l[i]? = some ch := by simpa [mkS] using hch
      obtain ⟨h1, h2⟩ := List.getElem?_eq_some_iff.mp e
      rw [List.drop_eq_getElem_cons h1, h2]
    have hTE : s.heap.objs.size ≠ En := fun q => Nat.lt_irrefl _ (q ▸ Heap.lt_size hoE)
    refine wpAny_letOwnedTupleGo_enum hE6 fun h7 hE7 hs7 => ?_
    have S7 : St hg h7 [(En, oEnum I (i + 1)), (I, oStrI (mkS l) tx (i + 1)), (L, oNs m)] := by
      refine S.upd2 (fun b o h1 h2 e => hs7.extBut b o h1 (hk6 b o h1 h2 e)) ⟨_, hE7, _, rfl⟩ ?_
      obtain ⟨o, e, q⟩ := hI6
      exact ⟨o, hs7.extBut _ _ (Ne.symm hIE) e, q⟩
    refine asgT2 r.hh ⟨_, hs7.extBut _ _ hTE ht6, rfl, _, rfl⟩ fun h8 kp8 => ?_
    refine asg (S7.ext kp8) 2 rfl fun h9 k9 S9 => asg S9 2 rfl fun h10 k10 S10 => ?_
    dsimp only [List.set] at S10
    obtain ⟨m10, S11, g1, g2, g3⟩ : ∃ m10, Al4 (St hg h10 [(En, oEnum I (i + 1)), (I, oStrI (mkS l) tx (i + 1)), (L, oNs m10)]) (m10 (Str.ofString "escape") = some (.bool esc)) (m10 (Str.ofString "pos") = some (.int (i : Nat) tk)) (m10 (Str.ofString "ch") = some (.str (mkS [ch]) u)) :=
      ⟨_, S10, by walk_at "lk", by walk_at "lk", by walk_at "lk"⟩
    clear S10 S9 S7 S hoE hk6 ht6 hz6 hE6 hI6 hE7 hs7
    refine sg_execs_cons (sg_If (wpAny_isTrue_value (nmL (ns_of (S11.getL 2 rfl)) g1 (wpAny_truthy_bool ?_))))
    rw [hdrop] at hP
    cases esc with
    | true =>
      rw [if_pos rfl]
      refine sg_execs_cons (sg_Yield rfl rfl rfl (tupD (wpAny_items_cons ?_)))
      refine nmL (ns_of (S11.getL 2 rfl)) g2 (wpAny_items_cons (wpAny_BinOp (cS [92] rfl fun t12 k12 => ?_)))
      refine nmL (ns_of (S11.getL 2 rfl)) g3 (addS (by simp) fun t13 k13 => wpAny_items_nil ⟨by simp, fun a h14 kp14 han ha => ?_⟩)
      intro k lv pp hk
      refine hP a h14 _ [(En, oEnum I (i + 1)), (I, oStrI (mkS l) tx (i + 1)), (L, oNs m10)] k lv _ pp _ (S11.fresh kp14 han ⟨_, ha, _, _, rfl⟩) (Gn.of rfl fun A2 hg2 s2 P2 r2 B2 S2 hP2 => ?_)
      refine hk _ _ _ ?_
      refine sg_execs_cons (sg_wrap (wpAny_Assign_Name (wpAny_Constant_bool (asg S2 2 rfl fun h15 k15 S15 => ?_))))
      dsimp only [List.set] at S15
      refine sg_again rfl (ih (l.length - (i + 1)) (by omega) (i + 1, false) _ _ _ ⟨hg2, _, r2, B2, S15, by walk_at "lk", fun h => (by cases h), hlt, rfl, hP2⟩)
    | false =>
      rw [if_neg Bool.false_ne_true]
      refine sg_execs_cons (sg_If (wpAny_isTrue_Compare1 (nmL (ns_of (S11.getL 2 rfl)) g3 (cS [92] rfl fun t12 k12 => eqS (wpAny_truthy_bool ?_)))))
      by_cases hc : ch = 92
      · subst hc
        rw [if_pos (decide_eq_true rfl)]
        refine sg_execs_cons (sg_wrap (wpAny_Assign_Name (wpAny_Constant_bool (asg S11 2 rfl fun h15 k15 S15 => ?_))))
        dsimp only [List.set] at S15
        have hP' : GnP w (escF (i + 1) true (l.drop (i + 1))) hg s.gens s.drawn s.os P := hP
        exact sg_again rfl (ih (l.length - (i + 1)) (by omega) (i + 1, true) _ _ _ ⟨hg, _, r, B, S15, by walk_at "lk", fun _ => ⟨Nat.succ_le_succ (Nat.zero_le _), tk, by walk_at "lk"⟩, hlt, rfl, hP'⟩)
      · rw [if_neg (by simp [hc])]
        have hP' : GnP w ((i, [ch]) :: escF (i + 1) false (l.drop (i + 1))) hg s.gens s.drawn s.os P := by
          have e : escF i false (ch :: l.drop (i + 1)) = (i, [ch]) :: escF (i + 1) false (l.drop (i + 1)) := by simp only [escF, if_neg hc]
          rw [← e]; exact hP
        refine sg_execs_cons (sg_Yield rfl rfl rfl (tupD (wpAny_items_cons ?_)))
        refine nmL (ns_of (S11.getL 2 rfl)) g2 (wpAny_items_cons ?_)
        refine nmL (ns_of (S11.getL 2 rfl)) g3 (wpAny_items_nil ⟨by simp, fun a h14 kp14 han ha => ?_⟩)
        intro k lv pp hk
        refine hP' a h14 _ [(En, oEnum I (i + 1)), (I, oStrI (mkS l) tx (i + 1)), (L, oNs m10)] k lv _ pp _ (S11.fresh kp14 han ⟨_, ha, _, _, rfl⟩) (Gn.of rfl fun A2 hg2 s2 P2 r2 B2 S2 hP2 => ?_)
        refine hk _ _ _ ?_
        exact sg_again rfl (ih (l.length - (i + 1)) (by omega) (i + 1, false) _ _ _ ⟨hg2, _, r2, B2, S2, g1, fun h => (by cases h), hlt, rfl, hP2⟩)
  · have hil : i = l.length := by omega
    subst hil
    rw [List.drop_length] at hP
    refine wpAny_pyNext_enum_endD (fp := [I]) (n := (mkS l).cps.size) (P := fun i v => ∃ c u, (mkS l).cps[i]? = some c ∧ v = .str ⟨#[c]⟩ u) (St := fun i h => h.IsStrIter I "str_ascii_iterator" (mkS l) tx i) (Draws.strAscii (by exact r.hh) I (mkS l) tx) hoE (by show s.heap.IsStrIter I "str_ascii_iterator" (mkS l) tx (mkS l).cps.size; rw [show (mkS l).cps.size = l.length by simp [mkS]]; exact S.getL 1 rfl) fun h6 hs6 => ?_
    have S6 : St hg h6 [(En, oEnum I l.length), (L, oNs m)] := (S.perm (List.Perm.swap _ _ _)).but hs6
    refine sg_block0 (sg_pop (r := .ok .next) ?_)
    refine sg_execs_cons (sg_If (wpAny_isTrue_value (nmL (ns_of (S6.getL 1 rfl)) em (wpAny_truthy_bool ?_))))
    cases esc with
    | true =>
      obtain ⟨_, t7, ep⟩ := ep rfl
      rw [if_pos rfl]
      refine sg_execs_cons (sg_Yield rfl rfl rfl (tupD (wpAny_items_cons ?_)))
      refine nmL (ns_of (S6.getL 1 rfl)) ep (wpAny_items_cons (cS [92] rfl fun t12 k12 => wpAny_items_nil ⟨by simp, fun a h14 kp14 han ha => ?_⟩))
      intro k lv pp hk
      refine hP a h14 _ [(En, oEnum I l.length), (L, oNs m)] k lv _ pp _ (S6.fresh kp14 han ⟨_, ha, _, _, rfl⟩) (Gn.of rfl fun A2 hg2 s2 P2 r2 B2 S2 hP2 => ?_)
      refine hk _ _ _ ?_
      exact sg_end (r := .ok (.ret .none)) (hP2 _ _ S2.keep)
    | false =>
      rw [if_neg Bool.false_ne_true]
      exact sg_end (r := .ok (.ret .none)) (hP _ _ S6.keep)
end Mine
end
section
open PySem PySem.W PySem.Spec PySem.Calls PyProof.Rows
open PySem.Builtin.Str (occurrences subAt strKind partsBetween strSub)
namespace Mine
theorem at_one (l : List Nat) (c i : Nat) : StrLaws.At (mkS l) (mkS [c]) (mkS l).length i ↔ l[i]? = some c := by
  unfold StrLaws.At
  rw [subAt_mk, mkS_len, mkS_len, decide_eq_true_eq]
  simp only [List.length_singleton]
  constructor
  · rintro ⟨h1, h2⟩
    rw [List.take_one] at h2
    have h3 : (l.drop i).head? = some c := by
      cases e : (l.drop i).head? with
      | none => rw [e] at h2; cases h2
      | some d => rw [e] at h2; simpa using h2
    rwa [List.head?_drop] at h3
  · intro h
    have hlt := (List.getElem?_eq_some_iff.mp h).1
    refine ⟨hlt, ?_⟩
    rw [List.take_one, List.head?_drop, h]; rfl
theorem occ_one (l : List Nat) (c : Nat) : (occurrences (mkS l) (mkS [c]) 0 (mkS l).length 1).isEmpty = decide (c ∉ l) := by
  rcases StrLaws.occ_head_from (mkS l) (mkS [c]) 0 1 (Nat.le_refl _) with ⟨e, h⟩ | ⟨i, r, e, _, hi, _⟩
  · rw [e]
    refine Eq.symm ?_
    apply decide_eq_true
    intro m
    obtain ⟨i, hi⟩ := List.getElem?_of_mem m
    exact h i (Nat.zero_le _) ((at_one l c i).mpr hi)
  · rw [e]
    refine Eq.symm ?_
    apply decide_eq_false
    intro m
    exact m (List.mem_of_getElem? ((at_one l c i).mp hi))
section
variable {w : World} {A : Around} {E : Value → Shared → Prop} {s : Shared} {Q : Value → Shared → Prop}
theorem nin1 {l : List Nat} {c : Nat} {t u : Tok} (h : Q (.bool (decide (c ∉ l))) s) : wpAny (model PR w) A (compareOp .NotIn (.str (mkS [c]) u) (.str (mkS l) t)) Q E s := by
  refine P.notIn_str ?_
  rw [occ_one, Bool.not_not]; exact h
theorem strs_of {rs : List (List Nat)} {ys : List Value} (h : Paired IsS rs ys) : ∃ l : List (Str × Tok), ys = strValues l ∧ l.map (·.1) = rs.map mkS := by
  induction h with
  | nil => exact ⟨[], rfl, rfl⟩
  | cons hd _ ih =>
    obtain ⟨t, rfl⟩ := hd
    obtain ⟨l, rfl, e⟩ := ih
    exact ⟨(_, t) :: l, rfl, by rw [List.map_cons, e]; rfl⟩
theorem join_mk : ∀ rs : List (List Nat), Str.join (mkS []) (rs.map mkS) = mkS rs.flatten
  | [] => rfl
  | [x] => by simp [Str.join]
  | x :: y :: r => by
    have := join_mk (y :: r)
    simp only [List.map_cons, Str.join] at this ⊢
    rw [this, mkS_add, mkS_add]
    simp
theorem joinS {D : Addr} {rs : List (List Nat)} {ys : List Value} {t : Tok} (hl : s.heap.IsList D ys.toArray) (hp : Paired IsS rs ys) (hn : rs.length ≤ 1000) (hb : ∀ x ∈ rs, x.length ≤ 1000)
    (h : ∀ t' k, Q (.str (mkS rs.flatten) t') { s with toks := k }) : wpAny (model PR w) A (call (.builtin "str.join") [.str (mkS []) t, .ref D]) Q E s := by
  obtain ⟨l, rfl, e⟩ := strs_of hp
  refine SC.join hl e ?_ fun t' k => ?_
  · unfold JoinOk
    rw [Bool.not_eq_true']
    refine StrLaws.joinFits (B := 1000) (fun y hy => ?_) ?_
    · obtain ⟨x, hx, rfl⟩ := List.mem_map.mp hy
      rw [mkS_len]; exact hb x hx
    · rw [mkS_len, List.length_map]; simp; omega
  · have : Txt.join (mkS []) (rs.map mkS) = mkS rs.flatten := (StrLaws.glued_eq_join _ _).trans (join_mk rs)
    rw [this]; exact h _ _
end
end Mine
end
section
open PySem PySem.W PySem.Spec PySem.Calls PyProof.Rows
namespace Mine
noncomputable abbrev SSt := Nat × Option Nat × List (List Nat)
noncomputable def stripStep (l : List Nat) (st : SSt) (it : Nat × List Nat) : SSt :=
  if it.2 = [34] then (match st.2.1 with | none => (st.1, some it.1, st.2.2) | some o => (it.1 + 1, none, if st.1 = o then st.2.2 else st.2.2 ++ [sl l st.1 o])) else st
noncomputable def stripRun (l : List Nat) (i : Nat) : SSt := ((escF 0 false l).take i).foldl (stripStep l) (0, none, [])
noncomputable def stripEnd (l : List Nat) (st : SSt) : List (List Nat) := if st.1 < l.length then st.2.2 ++ [l.drop st.1] else st.2.2
noncomputable def stripOf (l : List Nat) : List Nat := if 34 ∈ l then (stripEnd l (stripRun l (escF 0 false l).length)).flatten else l
theorem stripRun_succ (l : List Nat) (i : Nat) (it : Nat × List Nat) (h : (escF 0 false l)[i]? = some it) : stripRun l (i + 1) = stripStep l (stripRun l i) it := by
  unfold stripRun
  rw [List.take_add_one, h, List.foldl_append]; rfl
theorem escF_len : ∀ (r : List Nat) (i : Nat) (e : Bool), (escF i e r).length ≤ r.length + (if e then 1 else 0)
  | [], i, true => by simp [escF]
  | [], i, false => by simp [escF]
  | c :: r, i, true => by have := escF_len r (i + 1) false; simp only [escF, List.length_cons] at this ⊢; simp at this ⊢; omega
  | c :: r, i, false => by
    have h1 := escF_len r (i + 1) false
    have h2 := escF_len r (i + 1) true
    unfold escF
    split
    · simp at h2 ⊢; omega
    · simp at h1 ⊢; omega
theorem stripStep_ok {l : List Nat} {st : SSt} (it : Nat × List Nat) (h : ∀ x ∈ st.2.2, ∀ c ∈ x, c ∈ l) (h2 : ∀ x ∈ st.2.2, x.length ≤ l.length) :
    (∀ x ∈ (stripStep l st it).2.2, ∀ c ∈ x, c ∈ l) ∧ (∀ x ∈ (stripStep l st it).2.2, x.length ≤ l.length) ∧ (stripStep l st it).2.2.length ≤ st.2.2.length + 1 := by
  unfold stripStep
  split
  · split
    · exact ⟨h, h2, by simp⟩
    · simp only
      split
      · exact ⟨h, h2, by simp⟩
      · refine ⟨fun x hx c hc => ?_, fun x hx => ?_, by simp⟩
        · rcases List.mem_append.mp hx with m | m
          · exact h x m c hc
          · rw [List.mem_singleton.mp m] at hc; exact mem_sl hc
        · rcases List.mem_append.mp hx with m | m
          · exact h2 x m
          · rw [List.mem_singleton.mp m]; exact sl_len_le _ _ _
  · exact ⟨h, h2, by simp⟩
theorem stripRun_ok (l : List Nat) : ∀ i, i ≤ (escF 0 false l).length → (∀ x ∈ (stripRun l i).2.2, ∀ c ∈ x, c ∈ l) ∧ (∀ x ∈ (stripRun l i).2.2, x.length ≤ l.length) ∧ (stripRun l i).2.2.length ≤ i
  | 0, _ => ⟨fun x hx => (nomatch hx), fun x hx => (nomatch hx), Nat.le_refl _⟩
  | i + 1, h => by
    obtain ⟨h1, h2, h3⟩ := stripRun_ok l i (by omega)
    have e : (escF 0 false l)[i]? = some ((escF 0 false l)[i]'(by omega)) := List.getElem?_eq_getElem (by omega)
    rw [stripRun_succ l i _ e]
    obtain ⟨g1, g2, g3⟩ := stripStep_ok (l := l) ((escF 0 false l)[i]'(by omega)) h1 h2
    exact ⟨g1, g2, by omega⟩
theorem stripEnd_ok (l : List Nat) : (∀ x ∈ stripEnd l (stripRun l (escF 0 false l).length), ∀ c ∈ x, c ∈ l) ∧ (∀ x ∈ stripEnd l (stripRun l (escF 0 false l).length), x.length ≤ l.length) ∧ (stripEnd l (stripRun l (escF 0 false l).length)).length ≤ l.length + 1 := by
  obtain ⟨h1, h2, h3⟩ := stripRun_ok l _ (Nat.le_refl _)
  have h4 := escF_len l 0 false
  simp only [Bool.false_eq_true, if_false, Nat.add_zero] at h4
  unfold stripEnd
  split
  · refine ⟨fun x hx c hc => ?_, fun x hx => ?_, by simp; omega⟩
    · rcases List.mem_append.mp hx with m | m
      · exact h1 x m c hc
      · rw [List.mem_singleton.mp m] at hc; exact List.mem_of_mem_drop hc
    · rcases List.mem_append.mp hx with m | m
      · exact h2 x m
      · rw [List.mem_singleton.mp m]; simp
  · exact ⟨h1, h2, by omega⟩
theorem stripOf_mem (l : List Nat) : ∀ c ∈ stripOf l, c ∈ l := by
  unfold stripOf
  split
  · intro c hc
    obtain ⟨x, hx, hc⟩ := List.mem_flatten.mp hc
    exact (stripEnd_ok l).1 x hx c hc
  · exact fun c hc => hc
noncomputable def checkGo : Nat → List (Nat × List Nat) → Bool
  | o, [] => decide (o = 0)
  | o, it :: r => if it.2 = [40] then checkGo (o + 1) r else if it.2 = [41] then (match o with | 0 => false | o + 1 => checkGo o r) else checkGo o r
noncomputable def checkOf (l : List Nat) : Bool := checkGo 0 (escF 0 false (stripOf l))
theorem stripOf_len (l : List Nat) : (stripOf l).length ≤ (l.length + 1) * l.length + l.length := by
  unfold stripOf
  split
  · obtain ⟨_, h2, h3⟩ := stripEnd_ok l
    have key : ∀ rs : List (List Nat), (∀ x ∈ rs, x.length ≤ l.length) → rs.flatten.length ≤ rs.length * l.length := by
      intro rs
      induction rs with
      | nil => intro _; simp
      | cons x r ih =>
        intro hx
        have h1 := hx x (List.mem_cons_self ..)
        have h2 := ih fun y hy => hx y (.tail _ hy)
        simp only [List.flatten_cons, List.length_append, List.length_cons, Nat.succ_mul]; omega
    have := key _ h2
    have h4 := Nat.mul_le_mul_right l.length h3
    omega
  · exact Nat.le_add_left _ _
end Mine
end
section
open PySem PySem.W PySem.Spec PySem.Calls PyProof.Rows
namespace Mine
noncomputable def optV (o : Option Nat) (v : Value) : Prop := match o with | none => v = .none | some n => IsI n v
set_option maxRecDepth 100000 in
set_option maxHeartbeats 4000000 in
theorem sp_strip {w : World} {A : Around} {R : Result → Shared → Prop} {s : Shared} (l : List Nat) (tx : Tok) (hx : l.length ≤ 300) (hasc : ∀ c ∈ l, c < 128) (r : Room A 60 600) (B : Bs w s.heap) (hbare : AllBare s.gens)
  (hret : ∀ t h' g' tk', Kp s.heap h' → AllBare g' → R (.ok (.ret (.str (mkS (stripOf l)) t))) ⟨h', g', s.drawn, tk', s.os⟩) :
  codeAny (model PR w) A (.call (.ref 68) ⟨[.str (mkS l) tx], []⟩) R s := by
  refine enterC (d := 59) (u := 597) (binds := [(Str.ofString "addr", .str (mkS l) tx)]) r B (by k_is) (by k_is) (fun Q E h => wpAny_pure h) ?_ (by decide) ?_
  · intro y hy; simp at hy
    rcases hy with rfl; left; rfl
  intro L h₁ tk A S0 r
  obtain ⟨m0, S, e1⟩ : ∃ m0 : Str → Option Value, St s.heap h₁ [(L, oNs m0)] ∧ m0 (Str.ofString "addr") = some (.str (mkS l) tx) := ⟨_, S0, rfl⟩
  clear S0
  refine wpAny_execs_cons (wpAny_If (wpAny_isTrue_Compare1 (cS [34] rfl fun t2 k2 => nmL (ns_of (S.getL 0 rfl)) e1 (nin1 (wpAny_truthy_bool ?_)))))
  by_cases hq : 34 ∈ l
  rotate_left
  · rw [if_pos (decide_eq_true hq)]
    refine wpAny_execs_cons (wpAny_Return_some (nmL (ns_of (S.getL 0 rfl)) e1 ?_))
    have e : stripOf l = l := by unfold stripOf; rw [if_neg hq]
    have := hret tx h₁ s.gens k2 S.keep hbare
    rw [e] at this
    exact this
  rw [if_neg (by simp [hq])]
  refine wpAny_execs_nil ?_
  refine wpAny_execs_cons (wpAny_Assign_Name (wpAny_Constant_int (asg S 0 rfl fun h3 k3 S3 => ?_)))
  dsimp only [List.set] at S3
  refine wpAny_execs_cons (wpAny_Assign_Name (wpAny_Constant_none (asg S3 0 rfl fun h4 k4 S4 => ?_)))
  dsimp only [List.set] at S4
  refine wpAny_execs_cons (wpAny_Assign_Name (lstD (wpAny_items_nil ⟨by simp, fun D h5 kp5 hD hl5 => ?_⟩)))
  refine asg (S4.fresh kp5 hD hl5) 1 rfl fun h6 k6 S6 => ?_
  dsimp only [List.set] at S6
  obtain ⟨m6, S7, f1, f2, f3, f4⟩ : ∃ m6, Al5 (St s.heap h6 [(D, oList []), (L, oNs m6)]) (m6 (Str.ofString "addr") = some (.str (mkS l) tx)) (∃ t, m6 (Str.ofString "start") = some (.int ((0 : Nat) : Int) t)) (∃ v, m6 (Str.ofString "open_pos") = some v ∧ optV none v) (m6 (Str.ofString "result") = some (.ref D)) :=
    ⟨_, S6, by walk_at "lk", ⟨_, by walk_at "lk"⟩, ⟨_, by walk_at "lk", rfl⟩, by walk_at "lk"⟩
  clear S6 S4 S3 S
  have hlen := escF_len l 0 false
  simp only [Bool.false_eq_true, if_false, Nat.add_zero] at hlen
  refine nrm h6 s.gens s.drawn _ s.os ?_
  refine wpAny_execs_cons (for_gen r.less B s.drawn s.os (escF 0 false l) (J := fun i led => Ex2 fun m rys => Al6 (led = [(D, oList rys), (L, oNs m)]) (m (Str.ofString "addr") = some (.str (mkS l) tx)) (∃ t, m (Str.ofString "start") = some (.int ((stripRun l i).1 : Nat) t)) (∃ v, m (Str.ofString "open_pos") = some v ∧ optV (stripRun l i).2.1 v) (m (Str.ofString "result") = some (.ref D)) (Paired IsS (stripRun l i).2.2 rys)) ?_)
  refine callG (B.ext S7.keep) (by k_is) (by k_is) (wpAny_items_cons (nmL (ns_of (S7.getL 1 rfl)) f1 (wpAny_items_nil ⟨B.ext S7.keep, ?_⟩)))
  refine sp_iter l tx (by omega) hasc r.less (B.ext S7.keep) fun G gl gs h8 k8 S8 hG => ?_
  refine ⟨h8, _, k8, G, s.gens.size, gs, gl, [(D, oList []), (L, oNs m6)], rfl, rfl, Array.getElem?_push_size, hbare.push hG.bare, (S7.comp S8).perm List.perm_append_comm, hG, ⟨m6, [], rfl, f1, f2, f3, f4, .nil⟩, ?_, ?_⟩
  · rintro i it led₁ g h9 k9 X nv cv E' hit ⟨m, rys, rfl, g1, ⟨t2, g2⟩, ⟨ov, g3, ho⟩, g4, hp⟩ hbg S9 ⟨tn, rfl⟩ ⟨tc, rfl⟩
    clear S7 f1 f2 f3 f4
    refine asg S9 1 rfl fun h10 k10 S10 => ?_
    dsimp only [List.set, List.cons_append] at S10
    refine asg S10 1 rfl fun h11 k11 S11 => ?_
    dsimp only [List.set, List.cons_append] at S11
    refine post fun F1 hF1 => ?_
    clear S9 S10
    obtain ⟨m11, S12, q1, q2, q3, q4, q5, q6⟩ : ∃ m11, Al7 (St s.heap h11 ([(D, oList rys), (L, oNs m11)] ++ X)) (m11 (Str.ofString "addr") = some (.str (mkS l) tx)) (m11 (Str.ofString "start") = some (.int ((stripRun l i).1 : Nat) t2)) (m11 (Str.ofString "open_pos") = some ov) (m11 (Str.ofString "result") = some (.ref D)) (m11 (Str.ofString "pos") = some (.int (it.1 : Nat) tn)) (m11 (Str.ofString "ch") = some (.str (mkS it.2) tc)) := ⟨_, S11, by walk_at "lk", by walk_at "lk", by walk_at "lk", by walk_at "lk", by walk_at "lk", by walk_at "lk"⟩
    clear S11
    have S11 := S12
    clear S12 g1 g2 g3 g4
    have hrun := stripRun_succ l i it hit
    have hil : i < (escF 0 false l).length := (List.getElem?_eq_some_iff.mp hit).1
    have hok := stripRun_ok l i (by omega)
    refine wpAny_execs_cons (wpAny_If (wpAny_isTrue_Compare1 (nmL (ns_of (S11.getL 1 rfl)) (by walk_at "lk") (cS [34] rfl fun t12 k12 => eqS (wpAny_truthy_bool ?_)))))
    have hcase := hrun
    by_cases h34 : it.2 = [34]
    · rw [if_pos (decide_eq_true h34)]
      unfold stripStep at hrun
      rw [if_pos h34] at hrun
      cases hop : (stripRun l i).2.1 with
      | none =>
        rw [hop] at hrun ho
        have ho' : ov = .none := ho
        subst ho'
        refine wpAny_execs_cons (wpAny_If (wpAny_isTrue_Compare1 (nmL (ns_of (S11.getL 1 rfl)) (by walk_at "lk") (wpAny_Constant_none (PyProof.Rows.is_none_none (wpAny_truthy_bool ?_))))))
        rw [if_pos rfl]
        refine wpAny_execs_cons (wpAny_Assign_Name (nmL (ns_of (S11.getL 1 rfl)) (by walk_at "lk") (asg S11 1 rfl fun h13 k13 S13 => ?_)))
        dsimp only [List.set, List.cons_append] at S13
        refine wpAny_execs_nil (wpAny_execs_nil (wpAny_execs_nil (hF1 _ _ ⟨h13, _, [(D, oList rys), (L, oNs _)], rfl, ⟨_, rys, rfl, ?_, ⟨t2, ?_⟩, ⟨.int (it.1 : Nat) tn, ?_, ?_⟩, ?_, ?_⟩, S13⟩)))
        · walk_at "lk"
        · rw [hrun]; walk_at "lk"
        · walk_at "lk"
        · rw [hrun]; exact ⟨_, rfl⟩
        · walk_at "lk"
        · rw [hrun]; exact hp
      | some o =>
        rw [hop] at hrun ho
        obtain ⟨to, rfl⟩ := ho
        refine wpAny_execs_cons (wpAny_If (wpAny_isTrue_Compare1 (nmL (ns_of (S11.getL 1 rfl)) (by walk_at "lk") (wpAny_Constant_none (PyProof.Rows.is_int_none (wpAny_truthy_bool ?_))))))
        rw [if_neg (by simp)]
        refine wpAny_execs_cons (wpAny_mono (Q := fun f s' => Ex3 fun h' k' rys' => Al4 (f = .next) (s' = ⟨h', g, s.drawn, k', s.os⟩) (St s.heap h' ([(D, oList rys'), (L, oNs m11)] ++ X)) (Paired IsS (if (stripRun l i).1 = o then (stripRun l i).2.2 else (stripRun l i).2.2 ++ [sl l (stripRun l i).1 o]) rys')) ?_ ?_ fun _ _ x => x)
        · refine wpAny_If (wpAny_isTrue_Compare1 (nmL (ns_of (S11.getL 1 rfl)) (by walk_at "lk") (nmL (ns_of (S11.getL 1 rfl)) (by walk_at "lk") (PyProof.Rows.ne_int (wpAny_truthy_bool ?_)))))
          by_cases heq : (stripRun l i).1 = o
          · rw [if_neg (by simp [heq]), if_pos heq]
            exact wpAny_execs_nil ⟨h11, _, rys, rfl, rfl, S11, hp⟩
          · rw [if_pos (by simp only [bne_iff_ne, ne_eq]; omega), if_neg heq]
            refine post fun F2 hF2 => ?_
            have hrl := paired_len hp
            refine wpAny_execs_cons (wpAny_Expr_any (app (nmL (ns_of (S11.getL 1 rfl)) (by walk_at "lk") ⟨D, rys, rfl, S11.getL 0 rfl, by omega, ?_⟩)))
            refine slS (nmL (ns_of (S11.getL 1 rfl)) (by walk_at "lk") (wpAny_evalPart_some (nmL (ns_of (S11.getL 1 rfl)) (by walk_at "lk") (wpAny_evalPart_some (nmL (ns_of (S11.getL 1 rfl)) (by walk_at "lk") ?_)))))
            refine ⟨l, _, some _, some _, rfl, rfl, rfl, nonneg_some (by omega), nonneg_some (by omega), by omega, fun h13 t13 k13 kp13 => ⟨(S11.ext kp13).getL 0 rfl, fun h14 hs14 hl14 => ?_⟩⟩
            have S14 := (S11.ext kp13).upd 0 rfl hs14.extBut hl14
            simp only [List.cons_append, List.set] at S14
            refine wpAny_execs_nil (hF2 _ _ ⟨h14, _, _, rfl, rfl, S14, ?_⟩)
            simp only [loN, hiN, Int.toNat_natCast]
            exact paired_append hp (.cons ⟨_, rfl⟩ .nil)
        · rintro f s' ⟨h14, k14, rys', rfl, rfl, S14, hp'⟩
          refine wpAny_execs_cons (wpAny_Assign_Name (wpAny_BinOp (nmL (ns_of (S14.getL 1 rfl)) (by walk_at "lk") (wpAny_Constant_int (add_int (asg S14 1 rfl fun h15 k15 S15 => ?_))))))
          dsimp only [List.set, List.cons_append] at S15
          refine wpAny_execs_cons (wpAny_Assign_Name (wpAny_Constant_none (asg S15 1 rfl fun h16 k16 S16 => ?_)))
          dsimp only [List.set, List.cons_append] at S16
          obtain ⟨m16, t16, S17, a1, a2, a3, a4⟩ : Ex2 fun m16 t16 => Al5 (St s.heap h16 ([(D, oList rys'), (L, oNs m16)] ++ X)) (m16 (Str.ofString "addr") = some (.str (mkS l) tx)) (m16 (Str.ofString "start") = some (.int ((it.1 + 1 : Nat) : Int) t16)) (m16 (Str.ofString "open_pos") = some .none) (m16 (Str.ofString "result") = some (.ref D)) :=
            ⟨_, _, S16, by walk_at "lk", by walk_at "lk", by walk_at "lk", by walk_at "lk"⟩
          refine wpAny_execs_nil (wpAny_execs_nil (wpAny_execs_nil (hF1 _ _ ⟨h16, _, [(D, oList rys'), (L, oNs m16)], rfl, ⟨m16, rys', rfl, a1, ⟨t16, ?_⟩, ⟨.none, a3, ?_⟩, a4, ?_⟩, S17⟩)))
          · rw [hrun]; exact a2
          · rw [hrun]; rfl
          · rw [hrun]; exact hp'
    · rw [if_neg (by simp [h34])]
      have hrun' : stripRun l (i + 1) = stripRun l i := by rw [hrun]; unfold stripStep; rw [if_neg h34]
      refine wpAny_execs_nil (wpAny_execs_nil (hF1 _ _ ⟨h11, _, [(D, oList rys), (L, oNs _)], rfl, ⟨_, rys, rfl, ?_, ⟨t2, ?_⟩, ⟨ov, ?_, ?_⟩, ?_, ?_⟩, S11⟩))
      · walk_at "lk"
      · rw [hrun']; walk_at "lk"
      · walk_at "lk"
      · rw [hrun']; exact ho
      · walk_at "lk"
      · rw [hrun']; exact hp
  · rintro led₁ g h9 k9 ⟨m, rys, rfl, g1, ⟨t2, g2⟩, _, g4, hp⟩ hbg S9
    have hok := stripEnd_ok l
    have hrl := paired_len hp
    have hok2 := (stripRun_ok l _ (Nat.le_refl _)).2.2
    refine wpAny_execs_cons (wpAny_mono (Q := fun f s' => Ex3 fun h' k' rys' => Al4 (f = .next) (s' = ⟨h', g, s.drawn, k', s.os⟩) (St s.heap h' [(D, oList rys'), (L, oNs m)]) (Paired IsS (stripEnd l (stripRun l (escF 0 false l).length)) rys')) ?_ ?_ fun _ _ x => x)
    · refine wpAny_If (wpAny_isTrue_Compare1 (nmL (ns_of (S9.getL 1 rfl)) g2 ?_))
      refine wpAny_Call_NameR (nmB (v := .builtin "len") (B.ext S9.keep) (by k_is) bb_len (PyProof.Rows.callWith_builtin1 (wpAny_items_cons (nmL (ns_of (S9.getL 1 rfl)) g1 (wpAny_items_nil ?_)))))
      refine lenS (by omega) fun t10 k10 => lt_int (wpAny_truthy_bool ?_)
      unfold stripEnd
      by_cases hlt : (stripRun l (escF 0 false l).length).1 < l.length
      · rw [if_pos (decide_eq_true (by omega)), if_pos hlt]
        refine post fun F2 hF2 => ?_
        refine wpAny_execs_cons (wpAny_Expr_any (app (nmL (ns_of (S9.getL 1 rfl)) g4 ⟨D, rys, rfl, S9.getL 0 rfl, by omega, ?_⟩)))
        refine slS (nmL (ns_of (S9.getL 1 rfl)) g1 (wpAny_evalPart_some (nmL (ns_of (S9.getL 1 rfl)) g2 (wpAny_evalPart_none ?_))))
        refine ⟨l, _, some _, none, rfl, rfl, rfl, nonneg_some (by omega), nonneg_none, by omega, fun h13 t13 k13 kp13 => ⟨(S9.ext kp13).getL 0 rfl, fun h14 hs14 hl14 => ?_⟩⟩
        have S14 := (S9.ext kp13).upd 0 rfl hs14.extBut hl14
        dsimp only [List.set] at S14
        refine wpAny_execs_nil (hF2 _ _ ⟨h14, _, _, rfl, rfl, S14, ?_⟩)
        simp only [loN, hiN, Int.toNat_natCast, sl_drop]
        exact paired_append hp (.cons ⟨_, rfl⟩ .nil)
      · rw [if_neg (by simp; omega), if_neg hlt]
        exact wpAny_execs_nil ⟨h9, _, rys, rfl, rfl, S9, hp⟩
    · rintro f s' ⟨h14, k14, rys', rfl, rfl, S14, hp'⟩
      refine wpAny_execs_cons (wpAny_Return_some (mthS (name := Str.ofString "join") F.slot_str_join F.type_str_join (cS [] rfl fun t15 k15 => ⟨_, _, rfl, wpAny_items_cons (nmL (ns_of (S14.getL 1 rfl)) g4 (wpAny_items_nil ?_))⟩)))
      refine joinS (list_of (S14.getL 0 rfl)) hp' (by have := hok.2.2; omega) (fun x hx' => Nat.le_trans (hok.2.1 x hx') (by omega)) fun t16 k16 => ?_
      have e : stripOf l = (stripEnd l (stripRun l (escF 0 false l).length)).flatten := by unfold stripOf; rw [if_pos hq]
      have := hret t16 h14 g k16 S14.keep hbg
      rw [e] at this
      exact this
end Mine
end
section
open PySem PySem.W PySem.Spec PySem.Calls PyProof.Rows
namespace Mine
set_option maxRecDepth 100000 in
set_option maxHeartbeats 4000000 in
theorem sp_check {w : World} {A : Around} {R : Result → Shared → Prop} {s : Shared} (l : List Nat) (tx : Tok) (hx : l.length ≤ 300) (hasc : ∀ c ∈ l, c < 128) (r : Room A 120 900) (B : Bs w s.heap) (hbare : AllBare s.gens)
  (hret : ∀ h' g' tk', Kp s.heap h' → AllBare g' → R (.ok (.ret (.bool (checkOf l)))) ⟨h', g', s.drawn, tk', s.os⟩) :
  codeAny (model PR w) A (.call (.ref 75) ⟨[.str (mkS l) tx], []⟩) R s := by
  refine enterC (d := 119) (u := 897) (binds := [(Str.ofString "addr", .str (mkS l) tx)]) r B (by k_is) (by k_is) (fun Q E h => wpAny_pure h) ?_ (by decide) ?_
  · intro y hy; simp at hy
    rcases hy with rfl; left; rfl
  intro L h₁ tk A S0 r
  obtain ⟨m0, S, e1⟩ : ∃ m0 : Str → Option Value, St s.heap h₁ [(L, oNs m0)] ∧ m0 (Str.ofString "addr") = some (.str (mkS l) tx) := ⟨_, S0, rfl⟩
  clear S0
  refine wpAny_execs_cons (wpAny_Assign_Name (callG (B.ext S.keep) (by k_is) (by k_is) (wpAny_items_cons (nmL (ns_of (S.getL 0 rfl)) e1 (wpAny_items_nil ⟨B.ext S.keep, ?_⟩)))))
  refine sp_strip l tx hx hasc r.less (B.ext S.keep) hbare fun t2 h2 g2 k2 kp2 hb2 => ?_
  refine asg (S.ext kp2) 0 rfl fun h3 k3 S3 => ?_
  dsimp only [List.set] at S3
  refine wpAny_execs_cons (wpAny_Assign_Name (wpAny_Constant_int (asg S3 0 rfl fun h4 k4 S4 => ?_)))
  dsimp only [List.set] at S4
  obtain ⟨m4, t4, S5, f1, f2⟩ : Ex2 fun m4 t4 => Al3 (St s.heap h4 [(L, oNs m4)]) (m4 (Str.ofString "addr") = some (.str (mkS (stripOf l)) t2)) (m4 (Str.ofString "opens") = some (.int ((0 : Nat) : Int) t4)) := ⟨_, _, S4, by walk_at "lk", by walk_at "lk"⟩
  clear S4 S3 S
  have hsl := stripOf_len l
  have hsl2 : (l.length + 1) * l.length ≤ 301 * 300 := Nat.mul_le_mul (by omega) (by omega)
  refine nrm h4 g2 s.drawn _ s.os ?_
  refine wpAny_execs_cons (for_gen r.less B s.drawn s.os (escF 0 false (stripOf l)) (J := fun i led => Ex2 fun m o => Al3 (led = [(L, oNs m)]) (∃ t, m (Str.ofString "opens") = some (.int (o : Nat) t)) (checkOf l = checkGo o ((escF 0 false (stripOf l)).drop i))) ?_)
  refine callG (B.ext S5.keep) (by k_is) (by k_is) (wpAny_items_cons (nmL (ns_of (S5.getL 0 rfl)) f1 (wpAny_items_nil ⟨B.ext S5.keep, ?_⟩)))
  refine sp_iter (stripOf l) t2 (by omega) (fun c hc => hasc c (stripOf_mem l c hc)) r.less (B.ext S5.keep) fun G gl gs h8 k8 S8 hG => ?_
  refine ⟨h8, _, k8, G, g2.size, gs, gl, [(L, oNs m4)], rfl, rfl, Array.getElem?_push_size, hb2.push hG.bare, (S5.comp S8).perm List.perm_append_comm, hG, ⟨m4, 0, rfl, ⟨t4, f2⟩, rfl⟩, ?_, ?_⟩
  · rintro i it led₁ g h9 k9 X nv cv E' hit ⟨m, o, rfl, ⟨t2, g2⟩, hch⟩ hbg S9 ⟨tn, rfl⟩ ⟨tc, rfl⟩
    clear S5 f1 f2
    refine asg S9 0 rfl fun h10 k10 S10 => ?_
    dsimp only [List.set, List.cons_append] at S10
    refine asg S10 0 rfl fun h11 k11 S11 => ?_
    dsimp only [List.set, List.cons_append] at S11
    clear S9 S10
    obtain ⟨m11, S12, q1, q2⟩ : ∃ m11, Al3 (St s.heap h11 ([(L, oNs m11)] ++ X)) (m11 (Str.ofString "opens") = some (.int (o : Nat) t2)) (m11 (Str.ofString "ch") = some (.str (mkS it.2) tc)) := ⟨_, S11, by walk_at "lk", by walk_at "lk"⟩
    clear S11
    have hdr : (escF 0 false (stripOf l)).drop i = it :: (escF 0 false (stripOf l)).drop (i + 1) := by
      obtain ⟨h1, h2⟩ := List.getElem?_eq_some_iff.mp hit
      rw [List.drop_eq_getElem_cons h1, h2]
    rw [hdr] at hch
    unfold checkGo at hch
    refine wpAny_execs_cons (wpAny_If (wpAny_isTrue_Compare1 (nmL (ns_of (S12.getL 0 rfl)) q2 (cS [40] rfl fun t12 k12 => eqS (wpAny_truthy_bool ?_)))))
    by_cases h40 : it.2 = [40]
    · rw [if_pos (decide_eq_true h40)]
      rw [if_pos h40] at hch
      refine wpAny_execs_cons (wpAny_AugAssign_Name (wpAny_loadName_local rfl rfl (ns_of (S12.getL 0 rfl)) q1 (wpAny_Constant_int (wpAny_iadd_int (asg S12 0 rfl fun h13 k13 S13 => ?_)))))
      refine wpAny_execs_nil (wpAny_execs_nil ⟨h13, _, [(L, oNs _)], rfl, ⟨_, o + 1, rfl, ⟨_, if_pos rfl⟩, hch⟩, S13⟩)
    · rw [if_neg (by simp [h40])]
      rw [if_neg h40] at hch
      refine wpAny_execs_cons (wpAny_If (wpAny_isTrue_Compare1 (nmL (ns_of (S12.getL 0 rfl)) q2 (cS [41] rfl fun t12 k12 => eqS (wpAny_truthy_bool ?_)))))
      by_cases h41 : it.2 = [41]
      · rw [if_pos (decide_eq_true h41)]
        rw [if_pos h41] at hch
        refine wpAny_execs_cons (wpAny_AugAssign_Name (wpAny_loadName_local rfl rfl (ns_of (S12.getL 0 rfl)) q1 (wpAny_Constant_int (PyProof.Rows.isub_int (asg S12 0 rfl fun h13 k13 S13 => ?_)))))
        refine wpAny_execs_cons (wpAny_If (wpAny_isTrue_Compare1 (nmL (ns_of (S13.getL 0 rfl)) (if_pos rfl) (wpAny_Constant_int (lt_int (wpAny_truthy_bool ?_))))))
        cases o with
        | zero =>
          rw [if_pos (by decide)]
          refine wpAny_execs_cons (wpAny_Return_some (wpAny_Constant_bool ?_))
          have key : ∀ tk', R (.ok (.ret (.bool false))) ⟨h13, g, s.drawn, tk', s.os⟩ := fun tk' => by
            have := hret h13 g tk' S13.keep hbg
            rw [hch] at this
            exact this
          exact key _
        | succ o =>
          rw [if_neg (by rw [decide_eq_true_eq]; omega)]
          refine wpAny_execs_nil (wpAny_execs_nil (wpAny_execs_nil (wpAny_execs_nil ⟨h13, _, [(L, oNs _)], rfl, ⟨_, o, rfl, ⟨_, (if_pos rfl).trans (congrArg (fun z => some (Value.int z _)) (by omega))⟩, hch⟩, S13⟩)))
      · rw [if_neg (by simp [h41])]
        rw [if_neg h41] at hch
        exact wpAny_execs_nil (wpAny_execs_nil (wpAny_execs_nil ⟨h11, _, [(L, oNs m11)], rfl, ⟨m11, o, rfl, ⟨t2, q1⟩, hch⟩, S12⟩))
  · rintro led₁ g h9 k9 ⟨m, o, rfl, ⟨t2, g2⟩, hch⟩ hbg S9
    rw [List.drop_length] at hch
    refine wpAny_execs_cons (wpAny_Return_some (wpAny_Compare1 (nmL (ns_of (S9.getL 0 rfl)) g2 (wpAny_Constant_int (eq_int ?_)))))
    have := hret h9 g (k9 + 1) S9.keep hbg
    rw [hch] at this
    have e : decide (o = 0) = ((o : Int) == 0) := by
      by_cases h0 : o = 0
      · subst h0; rfl
      · rw [decide_eq_false h0, beq_eq_false_iff_ne.mpr (by omega)]
    unfold checkGo at this
    rw [e] at this
    exact this
end Mine
end
section
open PySem PySem.W PySem.Spec PySem.Calls PyProof.Rows
namespace Mine
noncomputable def sizeGo : List Nat → Nat → List (List Nat) → Nat
  | _, n, [] => n
  | t, n, p :: r => if p = [41] then (if checkOf (t ++ p) then n else sizeGo (t ++ p) n r) else sizeGo (t ++ p) (n + 1) r
noncomputable def partsGo : List (List Nat) → List Nat
  | [] => []
  | p :: r => if p = [41] then partsGo r else sizeGo p 1 r :: partsGo r
theorem flat_drop_le (pcs : List (List Nat)) (i : Nat) : (pcs.drop i).flatten.length ≤ pcs.flatten.length := by
  have := congrArg List.length (congrArg List.flatten (List.take_append_drop i pcs))
  rw [List.flatten_append, List.length_append] at this; omega
theorem sizeGo_le : ∀ (r : List (List Nat)) (t : List Nat) (n : Nat), sizeGo t n r ≤ n + r.length
  | [], t, n => Nat.le_refl _
  | p :: r, t, n => by
    have h1 := sizeGo_le r (t ++ p) n
    have h2 := sizeGo_le r (t ++ p) (n + 1)
    unfold sizeGo
    simp only [List.length_cons]
    split
    · split <;> omega
    · omega
theorem partsGo_len : ∀ r : List (List Nat), (partsGo r).length ≤ r.length
  | [] => Nat.le_refl _
  | p :: r => by
    have := partsGo_len r
    unfold partsGo
    split
    · simp only [List.length_cons]; omega
    · simp only [List.length_cons]; omega
section
variable {w : World} {A : Around} {E : Value → Shared → Prop} {s : Shared} {Q : Value → Shared → Prop}
theorem neS {a b : List Nat} {t u : Tok} (h : Q (.bool (decide (a ≠ b))) s) : wpAny (model PR w) A (compareOp .NotEq (.str (mkS a) t) (.str (mkS b) u)) Q E s := by
  refine PyProof.Rows.ne_str ?_
  have e : (mkS a != mkS b) = decide (a ≠ b) := by
    rw [bne, mkS_beq]
    by_cases h : a = b
    · rw [decide_eq_true h, decide_eq_false (fun q => q h)]; rfl
    · rw [decide_eq_false h, decide_eq_true h]; rfl
  rw [e]; exact h
end
section
variable {prog : Program} {w : World} {A : Around} {E : Value → Shared → Prop} {env : Env} {s : Shared} {Q : Flow → Shared → Prop}
theorem for_listX {x : Str} {px pos : Pos} {iter : Expr} {body : List Stmt} (hh : A.handled = none) {h₀ : Heap} (dr : Drawn) (os : OsState)
    (h : wpAny (model prog w) A (eval iter env) (fun xv s₁ => Ex7 fun (J : Nat → Led → Array GenState → Prop) (h₁ : Heap) (g₁ : Array GenState) (tk₁ : Nat) (ax : Addr) (its : List Value) (led : Led) => Al8 (s₁ = ⟨h₁, g₁, dr, tk₁, os⟩) (xv = .ref ax) (St h₀ h₁ led) (J 0 led g₁) (∀ i led₁ g h₁ X, i ≤ its.length → J i led₁ g → St h₀ h₁ (X :: led₁) → h₁.IsList ax its.toArray) (∀ i v led₁ g h₁ tk I P E', its[i]? = some v → J i led₁ g → St h₀ h₁ ((I, P) :: led₁) →
        wpAny (model prog w) A (storeName env x v) (fun _ s₂ => wpAny (model prog w) A (execs body env)
          (fun f s₃ => match f with
            | .next | .cont => Ex4 fun h₃ g₃ tk₃ led₃ => Al3 (s₃ = ⟨h₃, g₃, dr, tk₃, os⟩) (J (i + 1) led₃ g₃) (St h₀ h₃ ((I, P) :: led₃))
            | .brk => Q .next s₃
            | .ret v => Q (.ret v) s₃) E' s₂) E' ⟨h₁, g, dr, tk, os⟩) (∀ led₁ g h₁ tk, J its.length led₁ g → St h₀ h₁ led₁ → Q .next ⟨h₁, g, dr, tk, os⟩) (h₁.IsList ax its.toArray)) E s)
    (hs : ∀ x, foldedSetIterable iter env x = pure x := by intro _; rfl) :
    wpAny (model prog w) A (exec (.For (.Name x px) iter body [] pos) env) Q E s := by
  refine wpAny_For (wpAny_mono h (fun xv s₁ h₁ => ?_) fun _ _ e => e) hs
  obtain ⟨J, H, G, T, ax, its, led, rfl, rfl, S, hJ, hL, step, fin, hl⟩ := h₁
  refine wpAny_pyIter_list hl ?_
  refine codeAny_forLoop
    (fun k s' => Ex5 fun h₁ g tk i led₁ => Al5 (s' = ⟨h₁, g, dr, tk, os⟩) (i ≤ its.length) (k = its.length - i) (J i led₁ g) (St h₀ h₁ ((H.objs.size, fun o => o.cls = .type "list_iterator" ∧ o.data = .fields #[.ref ax, .int i 0]) :: led₁))) ?_ its.length ?_
  · rintro k s' ⟨h₁, g, tk, i, led₁, rfl, hi, rfl, hJ, S₁⟩
    have hit : h₁.IsListIter H.objs.size ax i := S₁.getL 0 rfl
    have hl1 := hL i led₁ g h₁ _ hi hJ S₁
    by_cases hlt : i < its.length
    · obtain ⟨v, hv⟩ : ∃ v, its[i]? = some v := ⟨its[i], List.getElem?_eq_getElem hlt⟩
      refine wpAny_pyNext_list_item hit hl1 (x := v) (by rw [List.getElem?_toArray]; exact hv) fun h₂ hit₂ hs₂ => ?_
      have S₂ := S₁.upd 0 rfl hs₂.extBut hit₂
      dsimp only [List.set] at S₂
      refine wpAny_assign_Name (wpAny_mono (step i v led₁ g h₂ _ _ _ _ hv hJ S₂) (fun _ s₂ hs => wpAny_mono hs (fun f s₃ hf => ?_) fun _ _ x => x) fun _ _ x => x)
      cases f with
      | next => obtain ⟨h₃, g₃, tk₃, led₃, rfl, hJ₃, S₃⟩ := hf; exact ⟨its.length - (i + 1), by omega, h₃, g₃, tk₃, i + 1, led₃, rfl, hlt, rfl, hJ₃, S₃⟩
      | cont => obtain ⟨h₃, g₃, tk₃, led₃, rfl, hJ₃, S₃⟩ := hf; exact ⟨its.length - (i + 1), by omega, h₃, g₃, tk₃, i + 1, led₃, rfl, hlt, rfl, hJ₃, S₃⟩
      | brk => exact hf
      | ret v => exact hf
    · have hin : i = its.length := by omega
      subst hin
      refine wpAny_pyNext_list_end hh hit hl1 (by simp) fun h₂ he => wpAny_execs_nil ?_
      exact fin led₁ g h₂ tk hJ (S₁.but he)
  · refine ⟨_, G, T, 0, led, rfl, Nat.zero_le _, rfl, hJ, ?_⟩
    exact S.push _ ⟨rfl, rfl⟩
end
end Mine
end
section
open PySem PySem.W PySem.Spec PySem.Calls PyProof.Rows
namespace Mine
set_option maxRecDepth 100000 in
set_option maxHeartbeats 4000000 in
theorem sp_parts {w : World} {A : Around} {R : Result → Shared → Prop} {s : Shared} (pcs : List (List Nat)) (C : Addr) (cs : List Value) (hl : ∃ o, s.heap.get? C = some o ∧ oList cs o) (hcs : Paired IsS pcs cs) (hn : pcs.length ≤ 300) (hx : pcs.flatten.length ≤ 300) (hasc : ∀ p ∈ pcs, ∀ c ∈ p, c < 128) (r : Room A 200 1500) (B : Bs w s.heap) (hbare : AllBare s.gens)
  (hret : ∀ D ys h' g' tk', St s.heap h' [(D, oList ys)] → Paired IsI (partsGo pcs) ys → AllBare g' → R (.ok (.ret (.ref D))) ⟨h', g', s.drawn, tk', s.os⟩) :
  codeAny (model PR w) A (.call (.ref 222) ⟨[.ref C], []⟩) R s := by
  refine enterC (d := 199) (u := 1497) (binds := [(Str.ofString "pieces", .ref C)]) r B (by k_is) (by k_is) (fun Q E h => wpAny_pure h) ?_ (by decide) ?_
  · intro y hy; simp at hy
    rcases hy with rfl; left; rfl
  intro L h₁ tk A S0 r
  obtain ⟨m0, S, e1⟩ : ∃ m0 : Str → Option Value, St s.heap h₁ [(L, oNs m0)] ∧ m0 (Str.ofString "pieces") = some (.ref C) := ⟨_, S0, rfl⟩
  clear S0
  refine wpAny_execs_cons (wpAny_Assign_Name (lstD (wpAny_items_nil ⟨by simp, fun D h2 kp2 hD hl2 => ?_⟩)))
  refine asg (S.fresh kp2 hD hl2) 1 rfl fun h3 k3 S3 => ?_
  dsimp only [List.set] at S3
  obtain ⟨m3, S4, f1, f2⟩ : ∃ m3, Al3 (St s.heap h3 [(D, oList []), (L, oNs m3)]) (m3 (Str.ofString "pieces") = some (.ref C)) (m3 (Str.ofString "parts") = some (.ref D)) := ⟨_, S3, by walk_at "lk", by walk_at "lk"⟩
  clear S3 S e1
  have hlen := paired_len hcs
  refine nrm h3 s.gens s.drawn _ s.os ?_
  refine wpAny_execs_cons (for_range r.hh (h₀ := s.heap) s.drawn s.os (fun i => i) (J := fun i led g => Ex3 fun m ys done => Al7 (AllBare g) (led = [(D, oList ys), (L, oNs m)]) (m (Str.ofString "pieces") = some (.ref C)) (m (Str.ofString "parts") = some (.ref D)) (done.length ≤ i) (done ++ partsGo (pcs.drop i) = partsGo pcs) (Paired IsI done ys)) ?_)
  refine wpAny_Call_NameR (nmB (v := .type "range") (B.ext S4.keep) (by k_is) bb_range (PyProof.Rows.callWith_type1 (wpAny_items_cons ?_)))
  refine wpAny_Call_NameR (nmB (v := .builtin "len") (B.ext S4.keep) (by k_is) bb_len (PyProof.Rows.callWith_builtin1 (wpAny_items_cons (nmL (ns_of (S4.getL 1 rfl)) f1 (wpAny_items_nil ?_)))))
  refine lenL (list_of (atE S4.keep hl)) (by omega) fun t5 k5 => wpAny_items_nil (mkRange1 (by omega) (by omega) fun rr h5 k5 kp5 _ RA => ?_)
  rw [show (cs.length : Int).toNat = pcs.length by omega] at RA
  refine ⟨_, _, _, 0, pcs.length, _, rfl, RA, fun i _ => by omega, S4.ext kp5, ⟨m3, [], [], hbare, rfl, f1, f2, Nat.zero_le _, rfl, .nil⟩, ?_, ?_⟩
  · rintro i led₁ g h6 k6 I P t6 E' hi ⟨m, ys, done, hbg, rfl, g1, g2, hdl, hdone, hp⟩ S6
    clear S4 f1 f2 RA
    refine asg S6 2 rfl fun h7 k7 S7 => ?_
    dsimp only [List.set] at S7
    refine post fun F1 hF1 => ?_
    obtain ⟨m7, S8, f1, f2, f3⟩ : ∃ m7, Al4 (St s.heap h7 [(I, P), (D, oList ys), (L, oNs m7)]) (m7 (Str.ofString "pieces") = some (.ref C)) (m7 (Str.ofString "parts") = some (.ref D)) (m7 (Str.ofString "spot") = some (.int (i : Nat) t6)) := ⟨_, S7, by walk_at "lk", by walk_at "lk", by walk_at "lk"⟩
    clear S7 S6 g1 g2
    obtain ⟨vi, hvi, ti, rfl⟩ := paired_getD hcs [] i hi
    have hpm : pcs.getD i [] ∈ pcs := getD_mem hi
    have hdr : pcs.drop i = pcs.getD i [] :: pcs.drop (i + 1) := by
      rw [List.drop_eq_getElem_cons hi, List.getD_eq_getElem?_getD, List.getElem?_eq_getElem hi]; rfl
    have hfl := flat_drop_le pcs i
    rw [hdr, List.flatten_cons, List.length_append] at hfl
    rw [hdr] at hdone
    generalize pcs.getD i [] = pc at *
    rw [show partsGo (pc :: pcs.drop (i + 1)) = if pc = [41] then partsGo (pcs.drop (i + 1)) else sizeGo pc 1 (pcs.drop (i + 1)) :: partsGo (pcs.drop (i + 1)) from by rw [partsGo]] at hdone
    have hyl := paired_len hp
    refine wpAny_execs_cons (wpAny_If (wpAny_isTrue_Compare1 (subL (nmL (ns_of (S8.getL 2 rfl)) f1 (nmL (ns_of (S8.getL 2 rfl)) f3 ⟨C, cs, _, _, .str (mkS pc) ti, rfl, rfl, list_of (atE S8.keep hl), by omega, by omega, by rw [Int.toNat_natCast]; exact hvi, cS [41] rfl fun t9 k9 => eqS (wpAny_truthy_bool ?_)⟩)))))
    by_cases h41 : pc = [41]
    · rw [if_pos (decide_eq_true h41)]
      rw [if_pos h41] at hdone
      exact wpAny_execs_cons (wpAny_Continue (hF1 _ _ ⟨h7, _, _, _, rfl, ⟨m7, ys, done, hbg, rfl, f1, f2, by omega, hdone, hp⟩, S8⟩))
    rw [if_neg (by simp [h41])]
    rw [if_neg h41] at hdone
    refine wpAny_execs_nil ?_
    refine wpAny_execs_cons (wpAny_Assign_Name (subL (nmL (ns_of (S8.getL 2 rfl)) f1 (nmL (ns_of (S8.getL 2 rfl)) f3 ⟨C, cs, _, _, .str (mkS pc) ti, rfl, rfl, list_of (atE S8.keep hl), by omega, by omega, by rw [Int.toNat_natCast]; exact hvi, asg S8 2 rfl fun h10 k10 S10 => ?_⟩))))
    dsimp only [List.set] at S10
    refine wpAny_execs_cons (wpAny_Assign_Name (wpAny_Constant_int (asg S10 2 rfl fun h11 k11 S11 => ?_)))
    dsimp only [List.set] at S11
    obtain ⟨m11, S12, f1, f2, f3, f4, t11, f5⟩ : ∃ m11, Al6 (St s.heap h11 [(I, P), (D, oList ys), (L, oNs m11)]) (m11 (Str.ofString "pieces") = some (.ref C)) (m11 (Str.ofString "parts") = some (.ref D)) (m11 (Str.ofString "spot") = some (.int (i : Nat) t6)) (m11 (Str.ofString "text") = some (.str (mkS pc) ti)) (∃ t11, m11 (Str.ofString "size") = some (.int ((1 : Nat) : Int) t11)) := ⟨_, S11, by walk_at "lk", by walk_at "lk", by walk_at "lk", by walk_at "lk", _, by walk_at "lk"⟩
    clear S8 S10 S11
    refine nrm h11 g s.drawn _ s.os ?_
    refine wpAny_execs_cons (wpAny_mono (Q := fun f s' => Ex4 fun h' g' k' m' => Al7 (f = .next) (s' = ⟨h', g', s.drawn, k', s.os⟩) (AllBare g') (St s.heap h' [(I, P), (D, oList ys), (L, oNs m')]) (m' (Str.ofString "pieces") = some (.ref C)) (m' (Str.ofString "parts") = some (.ref D)) (∃ t, m' (Str.ofString "size") = some (.int (sizeGo pc 1 (pcs.drop (i + 1)) : Nat) t))) ?_ ?_ fun _ _ x => x)
    · have hpcasc : ∀ c ∈ pc, c < 128 := hasc pc hpm
      have hrasc : ∀ p ∈ pcs.drop (i + 1), ∀ c ∈ p, c < 128 := fun p hp => hasc p (List.mem_of_mem_drop hp)
      have hcr := paired_drop hcs (i + 1)
      have hrl := paired_len hcr
      generalize pcs.drop (i + 1) = rest at *
      refine post fun F2 hF2 => ?_
      refine for_listX r.hh (h₀ := s.heap) s.drawn s.os ?_
      refine slLf (nmL (ns_of (S12.getL 2 rfl)) f1 (wpAny_BinOp (nmL (ns_of (S12.getL 2 rfl)) f3 (wpAny_Constant_int (add_int ⟨C, cs, _, i + 1, rfl, congrArg (Value.int · _) (by omega), list_of (atE S12.keep hl), by omega, fun D4 h13 kp13 hn13 hl13 => ?_⟩)))))
      refine ⟨fun k led g => Ex3 fun m t n => Al9 (AllBare g) (led = [(D4, oList (cs.drop (i + 1))), (I, P), (D, oList ys), (L, oNs m)]) (m (Str.ofString "pieces") = some (.ref C)) (m (Str.ofString "parts") = some (.ref D)) (∃ tt, m (Str.ofString "text") = some (.str (mkS t) tt)) (∃ tn, m (Str.ofString "size") = some (.int (n : Nat) tn)) (sizeGo t n (rest.drop k) = sizeGo pc 1 rest) (t.length + (rest.drop k).flatten.length ≤ 300) (∀ c ∈ t, c < 128), h13, g, _, D4, cs.drop (i + 1), _, rfl, rfl, S12.fresh kp13 hn13 hl13, ⟨m11, pc, 1, hbg, rfl, f1, f2, ⟨ti, f4⟩, ⟨t11, f5⟩, rfl, by rw [List.drop_zero]; omega, hpcasc⟩, ?_, ?_, ?_, list_of hl13⟩
      · rintro k led₁ g' h' X _ ⟨m, t, n, _, rfl, _⟩ S'
        exact list_of (S'.getL 1 rfl)
      · rintro k v led₁ g' h14 k14 I2 P2 E2 hv ⟨m, t, n, hb14, rfl, g1, g2, ⟨tt, g3⟩, ⟨tn, g4⟩, hgo, htl, hta⟩ S14
        clear S12 f1 f2 f3 f4 f5
        have hkl : k < rest.length := by rw [hrl]; exact (List.getElem?_eq_some_iff.mp hv).1
        obtain ⟨v', hv', tv, rfl⟩ := paired_getD hcr [] k hkl
        rw [hv] at hv'
        cases hv'
        have hqm : rest.getD k [] ∈ rest := getD_mem hkl
        have hdk : rest.drop k = rest.getD k [] :: rest.drop (k + 1) := by
          rw [List.drop_eq_getElem_cons hkl, List.getD_eq_getElem?_getD, List.getElem?_eq_getElem hkl]; rfl
        rw [hdk] at hgo htl
        have hqa := hrasc _ hqm
        generalize rest.getD k [] = q at *
        rw [List.flatten_cons, List.length_append] at htl
        have htqa : ∀ c ∈ t ++ q, c < 128 := fun c hc => by
          rcases List.mem_append.mp hc with h | h
          · exact hta c h
          · exact hqa c h
        rw [show sizeGo t n (q :: rest.drop (k + 1)) = if q = [41] then (if checkOf (t ++ q) then n else sizeGo (t ++ q) n (rest.drop (k + 1))) else sizeGo (t ++ q) (n + 1) (rest.drop (k + 1)) from by rw [sizeGo]] at hgo
        refine asg S14 4 rfl fun h15 k15 S15 => ?_
        dsimp only [List.set] at S15
        refine post fun F3 hF3 => ?_
        refine wpAny_execs_cons (wpAny_AugAssign_Name (wpAny_loadName_local rfl rfl (ns_of (S15.getL 4 rfl)) (by walk_at "lk") (nmL (ns_of (S15.getL 4 rfl)) (by walk_at "lk") (iaddS (by omega) fun t16 k16 => asg S15 4 rfl fun h17 k17 S17 => ?_))))
        dsimp only [List.set] at S17
        obtain ⟨m17, S18, q1, q2, q3, q4, q5⟩ : ∃ m17, Al6 (St s.heap h17 [(I2, P2), (D4, oList (cs.drop (i + 1))), (I, P), (D, oList ys), (L, oNs m17)]) (m17 (Str.ofString "pieces") = some (.ref C)) (m17 (Str.ofString "parts") = some (.ref D)) (m17 (Str.ofString "text") = some (.str (mkS (t ++ q)) t16)) (m17 (Str.ofString "size") = some (.int (n : Nat) tn)) (m17 (Str.ofString "piece") = some (.str (mkS q) tv)) := ⟨_, S17, by walk_at "lk", by walk_at "lk", by walk_at "lk", by walk_at "lk", by walk_at "lk"⟩
        clear S14 S15 S17
        refine wpAny_execs_cons (wpAny_If (wpAny_isTrue_Compare1 (nmL (ns_of (S18.getL 4 rfl)) q5 (cS [41] rfl fun t19 k19 => neS (wpAny_truthy_bool ?_)))))
        by_cases hq41 : q = [41]
        · rw [if_neg (by simp [hq41])]
          rw [if_pos hq41] at hgo
          refine wpAny_execs_cons (wpAny_If (wpAny_isTrue_value (callG (B.ext S18.keep) (by k_is) (by k_is) (wpAny_items_cons (nmL (ns_of (S18.getL 4 rfl)) q3 (wpAny_items_nil ⟨B.ext S18.keep, ?_⟩))))))
          refine sp_check (t ++ q) t16 (by rw [List.length_append]; omega) htqa r.less (B.ext S18.keep) hb14 fun h20 g20 k20 kp20 hb20 => wpAny_truthy_bool ?_
          have S20 := S18.ext kp20
          cases hck : checkOf (t ++ q) with
          | true =>
            rw [hck, if_pos rfl] at hgo
            rw [if_pos rfl]
            refine wpAny_execs_cons (wpAny_Break ?_)
            exact hF3 _ _ (hF2 _ _ ⟨h20, g20, _, m17, rfl, rfl, hb20, S20.sub (.cons _ (.cons _ (List.Sublist.refl _))), q1, q2, tn, by rw [← hgo]; exact q4⟩)
          | false =>
            rw [hck, if_neg Bool.false_ne_true] at hgo
            rw [if_neg Bool.false_ne_true]
            exact wpAny_execs_nil (wpAny_execs_nil (wpAny_execs_nil (hF3 _ _ ⟨h20, g20, _, _, rfl, ⟨m17, t ++ q, n, hb20, rfl, q1, q2, ⟨t16, q3⟩, ⟨tn, q4⟩, hgo, by rw [List.length_append]; omega, htqa⟩, S20⟩)))
        · rw [if_pos (by simp [hq41])]
          rw [if_neg hq41] at hgo
          refine wpAny_execs_cons (wpAny_AugAssign_Name (wpAny_loadName_local rfl rfl (ns_of (S18.getL 4 rfl)) q4 (wpAny_Constant_int (wpAny_iadd_int (asg S18 4 rfl fun h20 k20 S20 => ?_)))))
          dsimp only [List.set] at S20
          obtain ⟨m20, S21, p1, p2, p3, t21, p4⟩ : ∃ m20, Al5 (St s.heap h20 [(I2, P2), (D4, oList (cs.drop (i + 1))), (I, P), (D, oList ys), (L, oNs m20)]) (m20 (Str.ofString "pieces") = some (.ref C)) (m20 (Str.ofString "parts") = some (.ref D)) (m20 (Str.ofString "text") = some (.str (mkS (t ++ q)) t16)) (∃ t21, m20 (Str.ofString "size") = some (.int ((n + 1 : Nat) : Int) t21)) := ⟨_, S20, by walk_at "lk", by walk_at "lk", by walk_at "lk", _, by walk_at "lk"⟩
          exact wpAny_execs_nil (wpAny_execs_nil (hF3 _ _ ⟨h20, g', _, _, rfl, ⟨m20, t ++ q, n + 1, hb14, rfl, p1, p2, ⟨t16, p3⟩, ⟨t21, p4⟩, hgo, by rw [List.length_append]; omega, htqa⟩, S21⟩))
      · rintro led₁ g' h' k' ⟨m, t, n, hb14, rfl, g1, g2, _, ⟨tn, g4⟩, hgo, _, _⟩ S'
        rw [← hrl, List.drop_length] at hgo
        have hgo' : n = sizeGo pc 1 rest := hgo
        exact hF2 _ _ ⟨h', g', k', m, rfl, rfl, hb14, S'.sub (.cons _ (List.Sublist.refl _)), g1, g2, tn, by rw [← hgo']; exact g4⟩
    · rintro f s' ⟨h14, g14, k14, m14, rfl, rfl, hb14, S14, q1, q2, t14, q3⟩
      refine wpAny_execs_cons (wpAny_Expr_any (app (nmL (ns_of (S14.getL 2 rfl)) q2 ⟨D, ys, rfl, S14.getL 1 rfl, by omega, nmL (ns_of (S14.getL 2 rfl)) q3 ⟨S14.getL 1 rfl, fun h15 hs15 hl15 => ?_⟩⟩)))
      have S15 := S14.upd 1 rfl hs15.extBut hl15
      dsimp only [List.set] at S15
      refine wpAny_execs_nil (hF1 _ _ ⟨h15, _, _, _, rfl, ⟨m14, _, done ++ [sizeGo pc 1 (pcs.drop (i + 1))], hb14, rfl, q1, q2, by simp; omega, ?_, paired_append hp (.cons ⟨t14, rfl⟩ .nil)⟩, S15⟩)
      rw [← hdone]; simp
  · rintro led₁ g h6 k6 ⟨m, ys, done, hbg, rfl, g1, g2, hdl, hdone, hp⟩ S6
    refine wpAny_execs_cons (wpAny_Return_some (nmL (ns_of (S6.getL 1 rfl)) g2 ?_))
    rw [List.drop_length] at hdone
    have e : done = partsGo pcs := by rw [← hdone]; simp [partsGo]
    rw [e] at hp
    exact hret D ys h6 g k6 (S6.sub (.cons_cons _ (.cons _ (List.Sublist.refl _)))) hp hbg
end Mine
end
section
open PySem PySem.W PySem.Spec PySem.Calls PyProof.Rows
namespace Mine
noncomputable def drive : Nat → Sre.M → Option Sre.M
  | 0, _ => none
  | n + 1, m => if (m.runFor 4).outcome.isSome then some (m.runFor 4) else drive n (m.runFor 4)
noncomputable def codeN : Array Nat := #[14, 10, 4, 1, 1, 22, 0, 31, 16, 127, 0, 13, 7, 22, 0, 31, 16, 127, 0, 1]
noncomputable def codeV : Array Nat := #[14, 14, 4, 1, 1, 9, 4294966783, 0, 0, 2147483648, 0, 0, 0, 0, 0, 13, 11, 9, 4294966783, 0, 0, 2147483648, 0, 0, 0, 0, 0, 1]
noncomputable def okRe (code x : Array Nat) : Bool := match drive 60 (Sre.forSearch code x 0 0 x.size false) with
  | some m => (match m.outcome with | some .failed => true | _ => false)
  | none => false
theorem okN : ∀ c ∈ [97,98,99,100,101,102,65,66,67,68,69,70], okRe codeN #[c] = true := by decide +kernel
theorem okV : ∀ a ∈ List.range 7, ∀ b ∈ List.range 7, okRe codeV #[48 + a, 45, 48 + b] = true := by decide +kernel
end Mine
end
section
open PySem PySem.W PySem.Spec PySem.Calls PyProof.Rows
namespace Mine
set_option maxRecDepth 100000
theorem plainAttrs_pat : PlainAttrs "re.Pattern" :=
  ⟨⟨"object.__getattribute__", by rw [typeLookup_type, builtinLookup_eq_fast]; kernel_rfl, by decide +kernel⟩, by rw [typeLookup_type, builtinLookup_eq_fast]; kernel_rfl⟩
theorem slot_pat_search : Slot "re.Pattern" "search" "re.Pattern.search" :=
  .of (owner := "re.Pattern") (n := "search") (by rw [typeLookup_type, builtinLookup_eq_fast]; kernel_rfl) (by decide +kernel) (by decide +kernel) (by decide +kernel)
    (by first | exact .inl (by decide +kernel) | exact .inr (by decide +kernel)) (by rw [isSubtype_type]; kernel_rfl)
theorem type_pat_search : typeOf (.builtin "re.Pattern.search") = pure (.type "method_descriptor") := by show builtinType _ = _; rw [builtinType_eq_fast]; kernel_rfl
theorem entry_pat_search : entryFor table "re.Pattern.search" = some Builtin.«re.Pattern.search» := entryFor_of_tree (by kernel_rfl)
end Mine
namespace Mine
set_option maxRecDepth 100000
theorem owner_pat : Manifest.owners.lookup (String.ofList ['n','r','e','t','t','a','P','.','e','r'].reverse) = some Manifest.sig_re_Pattern := by kernel_rfl
theorem args_pat_search (a b : Value) : argsOk "re.Pattern.search" ⟨[a, b], []⟩ := by
  unfold argsOk; rw [signature?_of (id := "re.Pattern.search") (n := ['h','c','r','a','e','s']) (o := ['n','r','e','t','t','a','P','.','e','r']) (by kernel_rfl) owner_pat]; kernel_rfl
end Mine
end
section
open PySem PySem.W PySem.Spec PySem.Calls PyProof.Rows PySem.Builtin PySem.Builtin.Re
namespace Mine
set_option maxRecDepth 100000
theorem named_pat (v : Value) : reNamed "re.Pattern.search" "search" ["string", "pos", "endpos"] 1 [v] [] = pure [some v, none, none] := by
  rfl
section
variable {w : World} {A : Around} {E : Value → Shared → Prop} {s : Shared}
theorem drive_wp {Q : Sre.M → Shared → Prop} : ∀ (n turns : Nat) (m m' : Sre.M), drive n m = some m' → n ≤ turns → Q m' s → wpAny (model PR w) A (reDrive turns m) Q E s
  | 0, _, _, _, h, _, _ => nomatch h
  | n + 1, 0, _, _, _, h, _ => nomatch h
  | n + 1, turns + 1, m, m', h, hle, hq => by
    unfold drive at h
    show wpAny (model PR w) A (if (m.runFor reTurnSteps).outcome.isSome = true then pure (m.runFor reTurnSteps) else do rule "sre.turn"; reDrive turns (m.runFor reTurnSteps)) Q E s
    by_cases hc : (m.runFor 4).outcome.isSome = true
    · rw [if_pos hc] at h
      rw [if_pos (show (m.runFor reTurnSteps).outcome.isSome = true from hc)]
      cases h
      exact wpAny_pure hq
    · rw [if_neg hc] at h
      rw [if_neg (show ¬(m.runFor reTurnSteps).outcome.isSome = true from hc)]
      exact wpAny_bind (wpAny_rule (drive_wp n turns _ _ h (Nat.le_of_succ_le_succ hle) hq))
theorem rules_wp {f : Nat → Bool} {g : Nat → String} {Q : PUnit → Shared → Prop} (hq : Q ⟨⟩ s) : ∀ l : List Nat, wpAny (model PR w) A (forIn l PUnit.unit fun i _ => (if f i = true then (do rule (g i); pure (ForInStep.yield PUnit.unit)) else pure (ForInStep.yield PUnit.unit) : Sem (ForInStep PUnit))) Q E s
  | [] => wpAny_pure hq
  | i :: l => by
    rw [List.forIn_cons]
    refine wpAny_bind ?_
    by_cases h : f i = true
    · rw [if_pos h]; exact wpAny_bind (wpAny_rule (wpAny_pure (rules_wp hq l)))
    · rw [if_neg h]; exact wpAny_pure (rules_wp hq l)
theorem runToEnd_wp {code x : Array Nat} {Q : Option Sre.M → Shared → Prop} (h : okRe code x = true) (hq : Q none s) : wpAny (model PR w) A (reRunToEnd (Sre.forSearch code x 0 0 x.size false)) Q E s := by
  unfold okRe at h
  cases hd : drive 60 (Sre.forSearch code x 0 0 x.size false) with
  | none => rw [hd] at h; cases h
  | some m =>
    rw [hd] at h
    unfold reRunToEnd
    refine wpAny_bind (drive_wp 60 _ _ m hd (by decide) ?_)
    refine wpAny_bind (wpAny_mono (Q := fun _ s' => s' = s) ?_ (fun _ s' e => ?_) fun _ _ x => x)
    · first
        | exact rules_wp rfl _
        | (simp only [bind_pure_comp]; exact rules_wp rfl _)
    · subst e
      cases ho : m.outcome with
      | none => simp [ho] at h
      | some o =>
        cases o with
        | failed => exact wpAny_pure hq
        | matched => simp [ho] at h
        | stuck w => simp [ho] at h
/-- regex.search on a text that the machine refuses -/
theorem search_wp {P T : Addr} {x : List Nat} {t : Tok} {oP oT : Obj} {v0 v1 v2 v3 : Value} {its : Array Value} {n : Nat} {code : Array Nat} {Q : Value → Shared → Prop}
    (hP : s.heap.get? P = some oP) (hPc : oP.cls = .type "re.Pattern") (hPd : oP.data = .fields #[v0, v1, .int 0 0, v2, v3, .ref T, .int 0 0]) (hT : s.heap.get? T = some oT) (hTd : oT.data = .seq its n)
    (hcode : (its.map reRawOf).map (·.toNat) = code) (h : okRe code x.toArray = true) (hx : x.length ≤ 1000) (hq : Q .none s) :
    wpAny (model PR w) A (call (.builtin "re.Pattern.search") [.ref P, .str (mkS x) t]) Q E s := by
  refine wpAny_call_entry slot_pat_search ⟨_, hP, hPc⟩ entry_pat_search ?_ (args_pat_search _ _)
  show wpAny (model PR w) A.in1 (reTarget "re.Pattern.search" "search" ⟨[.ref P, .str (mkS x) t], []⟩ >>= fun t => reAnswer t (Sre.forSearch t.code t.text t.groups t.pos t.lim false)) _ _ s
  refine wpAny_bind ?_
  unfold reTarget
  simp only [named_pat]
  simp only [pure_bind]
  refine wpAny_bind (wpAny_fieldsOf hP hPd ?_)
  have e1 : reTextOf (.str (mkS x) t) = pure (x.toArray, 0) := rfl
  have e2 : reNoCollectionInside (.str (mkS x) t) 0 = pure () := rfl
  rw [e1]
  simp only [pure_bind]
  have g6 : (#[v0, v1, .int 0 0, v2, v3, .ref T, .int 0 0] : Array Value).getD 6 .none = .int 0 0 := rfl
  have g5 : (#[v0, v1, .int 0 0, v2, v3, .ref T, .int 0 0] : Array Value).getD 5 .none = .ref T := rfl
  have g2 : (#[v0, v1, .int 0 0, v2, v3, .ref T, .int 0 0] : Array Value).getD 2 .none = .int 0 0 := rfl
  rw [g6, g5, g2, if_neg (by decide), if_neg (by decide), e2]
  simp only [pure_bind]
  unfold reRawItems
  simp only [bind_assoc]
  refine wpAny_bind (m := seqItems? _) (wpAny_seqItems hT hTd ?_)
  refine wpAny_bind (wpAny_pure (wpAny_pure ?_))
  simp only [Option.getD_some, hcode]
  have e3 : (min (0 : Int).toNat x.toArray.size) = 0 := by simp
  have e4 : (min ((2 ^ 63 - 1 : Int)).toNat x.toArray.size) = x.toArray.size := by simp; omega
  simp only [e3, e4]
  unfold reAnswer
  exact wpAny_bind (runToEnd_wp h (wpAny_pure ⟨_, rfl, hq⟩))
end
end Mine
end
section
open PySem PySem.W PySem.Spec PySem.Calls PyProof.Rows
namespace Mine
theorem cls206 (P : Params) : ∃ nm q bs sn sub col dd k0 k1 k2 k3 k5, (hd.heap_39 P).lookup 206 = some (excClassObj nm q 206 205 bs [.type "object"] true sn sub false col dd k0 k1 k2 k3 k5 "object.__new__") :=
  ⟨_, _, _, _, _, _, _, _, _, _, _, _, by k_is⟩
theorem ns205 (P : Params) : nsIn (hd.heap_39 P) 205 "__init__" = some (some (.ref 100)) := by k_is
theorem ns205b (P : Params) : nsIn (hd.heap_39 P) 205 "__getattribute__" = some none := by k_is
theorem ns205c (P : Params) : nsIn (hd.heap_39 P) 205 "_convert_string_type" = some (some (.ref 107)) := by k_is
theorem g206 (P : Params) : nsIn (hd.heap_39 P) mainGlobals "Headers" = some (some (.ref 206)) := by k_is
theorem o80 (P : Params) : ∃ v0 v1, (hd.heap_39 P).lookup 80 = some { cls := .type "re.Pattern", data := .fields #[v0, v1, .int 0 0, .none, .none, .ref 79, .int 0 0] } := ⟨_, _, by k_is⟩
theorem o79 (P : Params) : ∃ its n, (hd.heap_39 P).lookup 79 = some { cls := .type "tuple", data := .seq its n } ∧ (its.map Builtin.Re.reRawOf).map (·.toNat) = codeN := ⟨_, _, by k_is, by kernel_rfl⟩
theorem g80 (P : Params) : nsIn (hd.heap_39 P) mainGlobals "_name_disallowed_re" = some (some (.ref 80)) := by k_is
theorem o85 (P : Params) : ∃ v0 v1, (hd.heap_39 P).lookup 85 = some { cls := .type "re.Pattern", data := .fields #[v0, v1, .int 0 0, .none, .none, .ref 84, .int 0 0] } := ⟨_, _, by k_is⟩
theorem o84 (P : Params) : ∃ its n, (hd.heap_39 P).lookup 84 = some { cls := .type "tuple", data := .seq its n } ∧ (its.map Builtin.Re.reRawOf).map (·.toNat) = codeV := ⟨_, _, by k_is, by kernel_rfl⟩
end Mine
end
section
open PySem PySem.W PySem.Spec PySem.Calls PyProof.Rows
namespace Mine
set_option maxRecDepth 100000 in
set_option maxHeartbeats 4000000 in
theorem sp_conv {w : World} {A : Around} {R : Result → Shared → Prop} {s : Shared} (self : Value) (x : List Nat) (tx : Tok) (nm : Bool) (hok : okRe (if nm then codeN else codeV) x.toArray = true) (hx : x.length ≤ 1000) (r : Room A 10 100) (B : Bs w s.heap)
  (hret : ∀ h' tk', Kp s.heap h' → R (.ok (.ret (.str (mkS x) tx))) { s with heap := h', toks := tk' }) :
  codeAny (model PR w) A (.call (.ref 107) ⟨[self, .str (mkS x) tx], [(Str.ofString "name", .bool nm)]⟩) R s := by
  refine enterC (d := 9) (u := 97) (binds := [(Str.ofString "self", self), (Str.ofString "value", .str (mkS x) tx), (Str.ofString "name", .bool nm)]) r B (by k_is) (by k_is) (fun Q E h => wpAny_pure h) ?_ (by decide) ?_
  · intro y hy; simp at hy
    rcases hy with rfl | rfl | rfl <;> (left; rfl)
  intro L h₁ tk A S0 r
  obtain ⟨m0, S, e1, e2⟩ : ∃ m0 : Str → Option Value, Al3 (St s.heap h₁ [(L, oNs m0)]) (m0 (Str.ofString "value") = some (.str (mkS x) tx)) (m0 (Str.ofString "name") = some (.bool nm)) := ⟨_, S0, rfl, rfl⟩
  clear S0
  refine wpAny_execs_cons (wpAny_If (wpAny_isTrue_Compare1 (wpAny_Call_NameR (nmB (v := .type "type") (B.ext S.keep) (by k_is) bb_type (PyProof.Rows.callWith_type1 (wpAny_items_cons (nmL (ns_of (S.getL 0 rfl)) e1 (wpAny_items_nil ?_))))))))
  refine call_type_of (typeIs_str _ _ _) (by decide) (nmB (v := .type "str") (B.ext S.keep) (by k_is) bb_str (wpAny_is_self rfl (wpAny_truthy_bool ?_)))
  rw [if_pos rfl]
  refine wpAny_execs_cons (wpAny_Assign_Name (wpAny_mono (Q := fun v s' => v = .ref (if nm then 80 else 85) ∧ s' = ⟨h₁, s.gens, s.drawn, tk, s.os⟩) (wpAny_IfExp (wpAny_isTrue_value (nmL (ns_of (S.getL 0 rfl)) e2 (wpAny_truthy_bool ?_)))) ?_ fun _ _ x => x))
  · cases nm with
    | true => rw [if_pos rfl]; exact nmG (B.ext S.keep) (by k_is) ⟨rfl, rfl⟩
    | false => rw [if_neg Bool.false_ne_true]; exact nmG (B.ext S.keep) (by k_is) ⟨rfl, rfl⟩
  rintro v s' ⟨rfl, rfl⟩
  refine asg S 0 rfl fun h3 k3 S3 => ?_
  dsimp only [List.set] at S3
  have key : ∃ oP oT v0 v1 its n T, Al7 (h3.get? (if nm = true then 80 else 85) = some oP) (oP.dict = none) (oP.cls = .type "re.Pattern") (oP.data = .fields #[v0, v1, .int 0 0, .none, .none, .ref T, .int 0 0]) (h3.get? T = some oT) (oT.data = .seq its n) ((its.map Builtin.Re.reRawOf).map (·.toNat) = (if nm then codeN else codeV)) := by
    have K := (B.ext S3.keep).K
    cases nm with
    | true =>
      obtain ⟨v0, v1, e⟩ := o80 w.params
      obtain ⟨its, n, e2, e3⟩ := o79 w.params
      exact ⟨_, _, v0, v1, its, n, 79, K _ _ e, rfl, rfl, rfl, K _ _ e2, rfl, e3⟩
    | false =>
      obtain ⟨v0, v1, e⟩ := o85 w.params
      obtain ⟨its, n, e2, e3⟩ := o84 w.params
      exact ⟨_, _, v0, v1, its, n, 84, K _ _ e, rfl, rfl, rfl, K _ _ e2, rfl, e3⟩
  obtain ⟨oP, oT, v0, v1, its, n, T, k1, k2, k3', k4, k5, k6, k7⟩ := key
  refine wpAny_execs_cons (wpAny_If (wpAny_isTrue_value (mth plainAttrs_pat slot_pat_search type_pat_search (nmL (ns_of (S3.getL 0 rfl)) (by walk_at "lk") ⟨by exact ⟨oP, k1, k3'⟩, fun a ea => ⟨oP, by cases ea; exact k1, k2⟩, wpAny_items_cons (nmL (ns_of (S3.getL 0 rfl)) (by walk_at "lk") (wpAny_items_nil ?_))⟩))))
  refine search_wp k1 k3' k4 k5 k6 k7 hok hx (PyProof.Rows.truthy_none ?_)
  rw [if_neg Bool.false_ne_true]
  refine wpAny_execs_nil (wpAny_execs_cons (wpAny_Return_some (nmL (ns_of (S3.getL 0 rfl)) (by walk_at "lk") ?_)))
  exact hret h3 _ S3.keep
end Mine
end
section
open PySem PySem.W PySem.Spec PySem.Calls PyProof.Rows
namespace Mine
theorem ns_some {K : Frag} {h : Heap} {N : Addr} {m : Str → Option Value} {n : Str} {v : Value} (X : K.In h) (G : h.Ns N m) (e : nsIn K N n = some (some v)) : m n = some v := by
  obtain ⟨o, es, ep, ho, hd, _, hf⟩ := G
  unfold nsIn at e
  cases hq : K.lookup N with
  | none => rw [hq] at e; cases e
  | some ob =>
    rw [hq] at e
    have h1 := X _ _ hq
    rw [ho] at h1
    cases h1
    obtain ⟨c, d, dt, sl⟩ := o
    cases dt with
    | dict es' ep' =>
      cases hd
      simp only at e
      rw [← hf n]
      unfold nsFind findBy
      cases hfd : es.toList.find? (fun x => x.key.isStr n) with
      | none =>
        rw [hfd] at e
        simp only at e
        split at e <;> cases e
      | some en =>
        rw [hfd] at e
        simp only [Option.some.injEq] at e
        rw [← Array.find?_toList, hfd, ← e]; rfl
    | _ => cases hd
theorem nsOk205 (P : Params) : nsOkIn (hd.heap_39 P) 205 = true := by first | rfl | kernel_rfl | decide +kernel
theorem nga (P : Params) : nsIn (hd.heap_39 P) 205 "__getattribute__" = some none := by k_is
theorem ngh (P : Params) : nsIn (hd.heap_39 P) 205 "__getattr__" = some none := by k_is
theorem nsa (P : Params) : nsIn (hd.heap_39 P) 205 "__setattr__" = some none := by k_is
theorem nhd (P : Params) : nsIn (hd.heap_39 P) 205 "_headers" = some none := by k_is
/-- what stands of the class -/
theorem cls_at {w : World} {h : Heap} (B : Bs w h) : ∃ mN, Al4 (h.Ns 205 mN) (∀ n v, nsIn (hd.heap_39 w.params) 205 n = some (some v) → mN n = some v) (∀ n, nsIn (hd.heap_39 w.params) 205 n = some none → mN n = none) (∃ nm q bs sn sub col dd k0 k1 k2 k3 k5, h.get? 206 = some (excClassObj nm q 206 205 bs [.type "object"] true sn sub false col dd k0 k1 k2 k3 k5 "object.__new__")) := by
  have G : h.Ns 205 (h.nsMap 205) := .of_isNs (isNs_of_in B.K (nsOk205 w.params))
  obtain ⟨nm, q, bs, sn, sub, col, dd, k0, k1, k2, k3, k5, e⟩ := cls206 w.params
  exact ⟨_, G, fun n v e => ns_some B.K G e, fun n e => ns_none_of B.K G e, nm, q, bs, sn, sub, col, dd, k0, k1, k2, k3, k5, B.K _ _ e⟩
section
variable {w : World} {A : Around} {E : Value → Shared → Prop} {env : Env} {s : Shared} {Q : Value → Shared → Prop} {apos pos : Pos}
/-- a method of the class called on an object of it -/
theorem mthO {f : Addr} {fd : FuncData} {od : Option Addr} {osl : Array (Option Value)} {o : Expr} {name : Str} {args : List Expr} {kws : List Keyword} {y : Option Value} {pl : Sem Bool}
    (hf : nsIn (hd.heap_39 w.params) 205 name = some (some (.ref f))) (ho : (hd.heap_39 w.params).lookup f = some ⟨.type "function", od, .func fd, osl⟩) (hB : typeLookup (.type "object") name = pure y)
    (hall : (backToKw pos (keywordEach kws env)).all (·.1.isSome) = true)
    (h : wpAny (model PR w) A (eval o env) (fun ov s₁ => Ex2 fun x mA => Al5 (ov = .ref x) (Bs w s₁.heap) (s₁.heap.Inst x 206 mA) (mA name = none) (wpAny (model PR w) A (spliced (backTo pos (starEach args env))) (fun vs s₂ => wpAny (model PR w) A (evalAll ((backToKw pos (keywordEach kws env)).map (·.2))) (fun ks s₃ => Bs w s₃.heap ∧
        codeAny (model PR w) A (.call (.ref f) ⟨.ref x :: vs, ((backToKw pos (keywordEach kws env)).filterMap (·.1)).zip ks⟩) (fun r s' => match r with | .ok (.ret v) => Q v s' | .ok _ => False | .error e => E e s') s₃) E s₂) E s₁)) E s)
    (hne : ∃ a r, args = a :: r ∧ starEach (a :: r) env = (false, eval a env) :: starEach r env := by exact ⟨_, _, rfl, rfl⟩)
    (he : eval (.Call (.Attribute o name apos) args kws pos) env = (do
      let ov ← eval o env
      standAt apos.atName
      let (f, first) ← holding [ov] (getMethod ov name pl)
      callWith pos f first (backTo pos (starEach args env)) (backToKw pos (keywordEach kws env))) := by rfl) :
    wpAny (model PR w) A (eval (.Call (.Attribute o name apos) args kws pos) env) Q E s := by
  refine methodCall_KW (pl := pl) (wpAny_mono h (fun ov s₁ h₁ => ?_) fun _ _ x => x) he
  obtain ⟨x, mA, rfl, B, I, hsh, h₂⟩ := h₁
  obtain ⟨mN, G, g1, g2, nm, q, bs, sn, sub, col, dd, k0, k1, k2, k3, k5, hC⟩ := cls_at B
  obtain ⟨hh, g, d, t, os⟩ := s₁
  refine method_of hC G (g2 _ (nga _)) (g2 _ (ngh _)) (g1 _ _ hf) (B.K _ _ ho) rfl hB I hsh ?_
  obtain ⟨a, r, rfl, he'⟩ := hne
  refine callWith_function_kw (o := ⟨.type "function", od, .func fd, osl⟩) (fd := fd) (PyProof.Rows.evalArgs_kw2 hall ?_ he')
  exact wpAny_mono h₂ (fun vs s₂ h₃ => wpAny_mono h₃ (fun ks s₃ h₄ => ⟨⟨h₄.1.K _ _ ho, rfl⟩, wpAny_call h₄.2⟩) fun _ _ x => x) fun _ _ x => x
end
end Mine
end
section
open PySem PySem.W PySem.Spec PySem.Calls PyProof.Rows
namespace Mine
section
variable {w : World} {A : Around} {E : Value → Shared → Prop} {env : Env} {s : Shared}
/-- for x, y in a list of pairs -/
theorem for_listP {Q : Flow → Shared → Prop} {x y : Str} {px py tp pos : Pos} {kt : Nat} {iter : Expr} {body : List Stmt} (hh : A.handled = none) {h₀ : Heap} (dr : Drawn) (os : OsState)
    (h : wpAny (model PR w) A (eval iter env) (fun xv s₁ => Ex7 fun (J : Nat → Led → Array GenState → Prop) (h₁ : Heap) (g₁ : Array GenState) (tk₁ : Nat) (ax : Addr) (its : List Value) (led : Led) => Al8 (s₁ = ⟨h₁, g₁, dr, tk₁, os⟩) (xv = .ref ax) (St h₀ h₁ led) (J 0 led g₁) (∀ i led₁ g h₁ X, i ≤ its.length → J i led₁ g → St h₀ h₁ (X :: led₁) → h₁.IsList ax its.toArray) (∀ i, i < its.length → Ex3 fun a u z => Al3 (its[i]? = some (.ref a)) (∀ led₁ g h₁ X, J i led₁ g → St h₀ h₁ (X :: led₁) → h₁.IsTuple a #[u, z]) (∀ led₁ g h₁ tk I P E', J i led₁ g → St h₀ h₁ ((I, P) :: led₁) →
        wpAny (model PR w) A (storeName env x u) (fun _ s₂ => wpAny (model PR w) A (storeName env y z) (fun _ s₂' => wpAny (model PR w) A (execs body env)
          (fun f s₃ => match f with
            | .next | .cont => Ex4 fun h₃ g₃ tk₃ led₃ => Al3 (s₃ = ⟨h₃, g₃, dr, tk₃, os⟩) (J (i + 1) led₃ g₃) (St h₀ h₃ ((I, P) :: led₃))
            | .brk => Q .next s₃
            | .ret v => Q (.ret v) s₃) E' s₂') E' s₂) E' ⟨h₁, g, dr, tk, os⟩)) (∀ led₁ g h₁ tk, J its.length led₁ g → St h₀ h₁ led₁ → Q .next ⟨h₁, g, dr, tk, os⟩) (h₁.IsList ax its.toArray)) E s)
    (hs : ∀ x, foldedSetIterable iter env x = pure x := by intro _; rfl) :
    wpAny (model PR w) A (exec (.For (.Tuple [.Name x px, .Name y py] kt tp) iter body [] pos) env) Q E s := by
  refine wpAny_For (wpAny_mono h (fun xv s₁ h₁ => ?_) fun _ _ e => e) hs
  obtain ⟨J, H, G, T, ax, its, led, rfl, rfl, S, hJ, hL, step, fin, hl⟩ := h₁
  refine wpAny_pyIter_list hl ?_
  refine codeAny_forLoop_any
    (fun k s' => Ex5 fun h₁ g tk i led₁ => Al5 (s' = ⟨h₁, g, dr, tk, os⟩) (i ≤ its.length) (k = its.length - i) (J i led₁ g) (St h₀ h₁ ((H.objs.size, fun o => o.cls = .type "list_iterator" ∧ o.data = .fields #[.ref ax, .int i 0]) :: led₁))) ?_ its.length ?_
  · rintro k s' ⟨h₁, g, tk, i, led₁, rfl, hi, rfl, hJ, S₁⟩
    have hit : h₁.IsListIter H.objs.size ax i := S₁.getL 0 rfl
    have hl1 := hL i led₁ g h₁ _ hi hJ S₁
    by_cases hlt : i < its.length
    · obtain ⟨a, u, z, hc, hT, step⟩ := step i hlt
      refine wpAny_pyNext_list_item hit hl1 (x := .ref a) (by rw [List.getElem?_toArray]; exact hc) fun h₂ hit₂ hs₂ => ?_
      have S₂ := S₁.upd 0 rfl hs₂.extBut hit₂
      dsimp only [List.set] at S₂
      obtain ⟨oI, eI, cI, _⟩ := S₂.getL 0 rfl
      refine letGo eI cI (by decide) (asgT2 hh (hT led₁ g h₂ _ hJ S₂) fun h₃ kp₃ => ?_)
      refine wpAny_mono (step led₁ g h₃ _ _ _ _ hJ (S₂.ext kp₃)) (fun _ s₂ hs => wpAny_mono hs (fun _ s₂' hs' => wpAny_mono hs' (fun f s₃ hf => ?_) fun _ _ x => x) fun _ _ x => x) fun _ _ x => x
      cases f with
      | next => obtain ⟨h₃, g₃, tk₃, led₃, rfl, hJ₃, S₃⟩ := hf; exact ⟨its.length - (i + 1), by omega, h₃, g₃, tk₃, i + 1, led₃, rfl, hlt, rfl, hJ₃, S₃⟩
      | cont => obtain ⟨h₃, g₃, tk₃, led₃, rfl, hJ₃, S₃⟩ := hf; exact ⟨its.length - (i + 1), by omega, h₃, g₃, tk₃, i + 1, led₃, rfl, hlt, rfl, hJ₃, S₃⟩
      | brk => exact hf
      | ret v => exact hf
    · have hin : i = its.length := by omega
      subst hin
      refine wpAny_pyNext_list_end hh hit hl1 (by simp) fun h₂ he => wpAny_execs_nil ?_
      exact fin led₁ g h₂ tk hJ (S₁.but he)
  · refine ⟨_, G, T, 0, led, rfl, Nat.zero_le _, rfl, hJ, ?_⟩
    exact S.push _ ⟨rfl, rfl⟩
theorem dbg {Q : Value → Shared → Prop} {p : Pos} (h : Q (.bool true) s) : wpAny (model PR w) A (eval (.Name "__debug__" p) env) Q E s := by
  have e : eval (.Name "__debug__" p) env = (do standAt p; debugConstant) := rfl
  rw [e]
  exact wpAny_bind (wpAny_standAt (wpAny_bind (wpAny_rule (wpAny_pure h))))
theorem obj_headers : typeLookup (.type "object") "_headers" = pure none := by rw [typeLookup_type, builtinLookup_eq_fast]; kernel_rfl
/-- self._headers -/
theorem attrH {Q : Value → Shared → Prop} {n : Str} {np pos : Pos} 
    (h : wpAny (model PR w) A (eval (.Name n np) env) (fun ov s₁ => Ex3 fun x D mA => Al5 (ov = .ref x) (Bs w s₁.heap) (s₁.heap.Inst x 206 mA) (mA "_headers" = some (.ref D)) (∀ k, Q (.ref D) { s₁ with toks := k })) E s) :
    wpAny (model PR w) A (eval (.Attribute (.Name n np) "_headers" pos) env) Q E s := by
  refine PyProof.Rows.Attribute_name (wpAny_mono h (fun ov s₁ h₁ => ?_) fun _ _ x => x)
  obtain ⟨x, D, mA, rfl, B, I, hm, hq⟩ := h₁
  obtain ⟨mN, G, g1, g2, nm, q, bs, sn, sub, col, dd, k0, k1, k2, k3, k5, hC⟩ := cls_at B
  obtain ⟨hh, g, d, t, os⟩ := s₁
  exact load_attr hC G (g2 _ (nga _)) (g2 _ (nhd _)) obj_headers I hm rfl (hq _)
end
noncomputable def oInst (dx : Addr) (o : Obj) : Prop := o.cls = .ref 206 ∧ o.dict = some dx ∧ ∀ c, o.data ≠ .cls c
noncomputable def oNs1 (m : Str → Option Value) (o : Obj) : Prop := ∃ es ep, o.data = .dict es ep ∧ StrKeys es ∧ UniqKeys es ∧ ∀ name, nsFind es name = m name
theorem inst_of {h : Heap} {x dx : Addr} {mA : Str → Option Value} (hne : dx ≠ x) (h1 : ∃ o, h.get? x = some o ∧ oInst dx o) (h2 : ∃ o, h.get? dx = some o ∧ oNs1 mA o) : h.Inst x 206 mA := by
  obtain ⟨o, e, c, d, n⟩ := h1
  obtain ⟨o2, e2, es, ep, q1, q2, q3, q4⟩ := h2
  exact ⟨o, e, c, n, .inr ⟨dx, d, hne, o2, es, ep, e2, q1, q2, q3, q4⟩⟩
end Mine
end
section
open PySem PySem.W PySem.Spec PySem.Calls PyProof.Rows
namespace Mine
theorem o100 (P : Params) : ∃ o, (hd.heap_39 P).lookup 100 = some o ∧ o.cls = .type "function" := ⟨_, by k_is, rfl⟩
theorem roomU {A : Around} {d u : Nat} {c : Addr} {vs : List Value} (r : Room A (d + 5) (u + 20)) : Room (A.under (.builtin "type.__call__" ⟨.ref c :: vs, []⟩)) d u :=
  ⟨r.hh, by have := r.hd; show A.depth + 1 + d < _; omega, by have := r.hu; show A.units + 1 + u < _; omega⟩
theorem made_of {h h' : Heap} {x dx : Addr} (Mk : Heap.MadeObj h h' x dx 206) : St h h' [(x, oInst dx), (dx, oNs1 fun _ => none)] ∧ dx ≠ x := by
  obtain ⟨o, e, c, n, hd⟩ := Mk.inst
  have hdd := Mk.dict o e
  rcases hd with ⟨h0, _⟩ | ⟨d', h1, hne, o2, es, ep, q⟩
  · rw [h0] at hdd; cases hdd
  · obtain rfl := Option.some.inj (h1.symm.trans hdd)
    refine ⟨⟨Mk.keeps, fun p hp => ?_, fun p hp => ?_, ?_⟩, hne⟩
    · simp only [List.mem_cons, List.not_mem_nil, or_false] at hp
      rcases hp with rfl | rfl
      · exact ⟨o, e, c, h1, n⟩
      · exact ⟨o2, q.1, es, ep, q.2⟩
    · simp only [List.mem_cons, List.not_mem_nil, or_false] at hp
      rcases hp with rfl | rfl
      · exact Mk.newX
      · exact Mk.newD
    · simp only [List.pairwise_cons, List.mem_cons, List.not_mem_nil, or_false, forall_eq, List.Pairwise.nil, and_true]
      exact ⟨hne.symm, fun _ h => h.elim⟩
set_option maxRecDepth 100000 in
set_option maxHeartbeats 4000000 in
theorem mkH {w : World} {A : Around} {E : Value → Shared → Prop} {s : Shared} {Q : Value → Shared → Prop} (D : Addr) (hD : ∃ o, s.heap.get? D = some o ∧ oList [] o) (r : Room A 20 200) (B : Bs w s.heap)
    (hq : ∀ x dx h' tk', dx ≠ x → St s.heap h' [(x, oInst dx), (dx, oNs1 fun y => if y = "_headers" then some (.ref D) else none)] → Q (.ref x) { s with heap := h', toks := tk' }) :
    wpAny (model PR w) A (call (.ref 206) [.ref D]) Q E s := by
  obtain ⟨mN, G, g1, g2, nm, q, bs, sn, sub, col, dd, k0, k1, k2, k3, k5, hC⟩ := cls_at B
  obtain ⟨hh, g, d, t, os⟩ := s
  obtain ⟨oI, eI, cI⟩ := o100 w.params
  refine wpAny_call_obj_init PySem.F.objNew hC G (g1 _ _ (ns205 _)) (B.K _ _ eI) cI fun h' x dx Mk => wpAny_call ?_
  obtain ⟨SM, hne⟩ := made_of Mk
  refine enterC (d := 9) (u := 97) (binds := [(Str.ofString "self", .ref x), (Str.ofString "headers", .ref D)]) (roomU r.less) (B.ext Mk.keeps) (by k_is) (by k_is) (fun Q E h => binds_K (K := hd.heap_39 w.params) (B.ext Mk.keeps).K rfl (by k_is) rfl rfl rfl _ _ _ _ h) ?_ (by decide) ?_
  · intro y hy; simp at hy
    rcases hy with rfl | rfl <;> (left; rfl)
  intro L h₁ tk A2 S0 r2
  obtain ⟨m0, S, e1, e2⟩ : ∃ m0 : Str → Option Value, Al3 (St hh h₁ [(L, oNs m0), (x, oInst dx), (dx, oNs1 fun _ => none)]) (m0 (Str.ofString "self") = some (.ref x)) (m0 (Str.ofString "headers") = some (.ref D)) := ⟨_, SM.comp S0, rfl, rfl⟩
  clear S0 SM
  have hl := atE S.keep hD
  refine wpAny_execs_cons (wpAny_Assign_Name (wpAny_IfExp (wpAny_isTrue_Compare1 (nmL (ns_of (S.getL 0 rfl)) e2 (wpAny_Constant_none (PyProof.Rows.isnot_none_ne (fun h => nomatch h) (wpAny_truthy_bool ?_)))))))
  rw [if_pos rfl]
  refine nmL (ns_of (S.getL 0 rfl)) e2 (asg S 0 rfl fun h3 k3 S3 => ?_)
  dsimp only [List.set] at S3
  obtain ⟨m3, S4, e1, e2⟩ : ∃ m3 : Str → Option Value, Al3 (St hh h3 [(L, oNs m3), (x, oInst dx), (dx, oNs1 fun _ => none)]) (m3 (Str.ofString "self") = some (.ref x)) (m3 (Str.ofString "headers") = some (.ref D)) := ⟨_, S3, by walk_at "lk", by walk_at "lk"⟩
  clear S S3 hl
  have hl := atE S4.keep hD
  refine wpAny_execs_cons (wpAny_If (wpAny_isTrue_Compare1 (wpAny_Call_NameR (nmB (v := .type "type") (B.ext S4.keep) (by k_is) bb_type (PyProof.Rows.callWith_type1 (wpAny_items_cons (nmL (ns_of (S4.getL 0 rfl)) e2 (wpAny_items_nil ?_))))))))
  refine call_type_of (list_of hl).typeIs (by decide) (nmB (v := .type "list") (B.ext S4.keep) (by k_is) bb_list (PyProof.Rows.isnot_type_same (wpAny_truthy_bool ?_)))
  rw [if_neg Bool.false_ne_true]
  refine wpAny_execs_nil ?_
  refine wpAny_execs_cons (plainObj_wpAny_Assign_Attribute (nmL (ns_of (S4.getL 0 rfl)) e2 (nmL (ns_of (S4.getL 0 rfl)) e1 ?_)))
  obtain ⟨mN4, G4, p1, p2, nm4, q4, bs4, sn4, sub4, col4, dd4, k04, k14, k24, k34, k54, hC4⟩ := cls_at (B.ext S4.keep)
  have hxC : x ≠ 206 := fun e => by
    have h0 := S4.new (x, oInst dx) (.tail _ (List.mem_cons_self ..))
    have h1 : hh.get? x = none := h0
    rw [e, hC] at h1; cases h1
  refine store_attr (ns := []) PySem.F.store_object hC4 G4 (p2 _ (nsa _)) (p2 _ (nhd _)) obj_headers hxC (inst_of hne (S4.getL 1 rfl) (S4.getL 2 rfl)) (fun h5 k5 I5 hk5 hs5 => ?_) ?_ ?_
  rotate_left
  · within_ways
  · size_fits
  obtain ⟨ox, eox, cx, dxe, nx⟩ := S4.getL 1 rfl
  have S5 : St hh h5 [(x, oInst dx), (dx, oNs1 fun y => if y = "_headers" then some (.ref D) else none), (L, oNs m3)] := by
    refine ((S4.perm (led' := [(x, oInst dx), (dx, oNs1 fun _ => none), (L, oNs m3)]) ?_).upd2 (fun b o h1 h2 e => hk5 b o h1 (fun o₀ d' e₀ ed => ?_) e) ?_ ?_)
    · exact (List.Perm.swap _ _ _).trans (.cons _ (.swap _ _ _))
    · obtain rfl := Option.some.inj (eox.symm.trans e₀)
      rw [dxe] at ed
      cases ed
      exact h2
    · obtain ⟨o1, f1, f2, f3, _, f5⟩ := hs5 ox eox
      exact ⟨o1, f1, f2.trans cx, f5 dx dxe, fun c => f3 ▸ nx c⟩
    · obtain ⟨o1, f1, f2, f3, _, f5⟩ := hs5 ox eox
      obtain ⟨o2, g1, _, _, g4⟩ := I5
      obtain rfl := Option.some.inj (f1.symm.trans g1)
      rcases g4 with ⟨g5, _⟩ | ⟨d', g5, _, o3, es, ep, g6⟩
      · rw [f5 dx dxe] at g5; cases g5
      · obtain rfl := Option.some.inj ((f5 dx dxe).symm.trans g5)
        exact ⟨o3, g6.1, es, ep, g6.2⟩
  clear S4 I5 hk5 hs5
  refine wpAny_execs_cons (wpAny_If (wpAny_isTrue_value (wpAny_Constant_bool (wpAny_truthy_bool ?_))))
  rw [if_pos rfl]
  refine wpAny_execs_cons (for_listP r2.hh (h₀ := hh) d os ?_)
  refine nmL (ns_of (S5.getL 2 rfl)) e2 ⟨fun _ led g' => g' = g ∧ led = [(x, oInst dx), (dx, oNs1 fun y => if y = "_headers" then some (.ref D) else none), (L, oNs m3)], h5, g, k5, D, [], _, rfl, rfl, S5, ⟨rfl, rfl⟩, ?_, ?_, ?_, list_of (atE S5.keep hD)⟩
  · rintro i led₁ g' h' X _ ⟨rfl, rfl⟩ S'
    exact list_of (atE S'.keep hD)
  · intro i hi; exact absurd hi (Nat.not_lt_zero _)
  · rintro led₁ g' h' k' ⟨rfl, rfl⟩ S'
    refine wpAny_execs_nil (wpAny_execs_nil ⟨rfl, ?_⟩)
    exact hq x dx h' k' hne (S'.sub (.cons_cons _ (.cons_cons _ (.cons _ (List.Sublist.refl _)))))
end Mine
end
section
open PySem PySem.W PySem.Spec PySem.Calls PyProof.Rows
open PySem.Builtin.Str
namespace Mine
noncomputable def lowC (c : Nat) : Nat := if c < 97 then c + 32 else c
noncomputable def n12 : List Nat := [97,98,99,100,101,102,65,66,67,68,69,70]
theorem low12 : ∀ c ∈ n12, (PySem.placed (mkS [c]) fun i _ => Unicode.lowerAt (mkS [c]).cps i) = #[lowC c] := by decide +kernel
theorem low12n : ∀ c ∈ n12, lowC c ∈ n12 := by decide
theorem low12i : ∀ c ∈ n12, lowC (lowC c) = lowC c := by decide
section
variable {w : World} {A : Around} {E : Value → Shared → Prop} {env : Env} {s : Shared} {Q : Value → Shared → Prop} {apos pos : Pos}
theorem lowS {o : Expr} (h : wpAny (model PR w) A (eval o env) (fun ov s₁ => Ex2 fun c t => Al3 (ov = .str (mkS [c]) t) (c ∈ n12) (∀ t' k, Q (.str (mkS [lowC c]) t') { s₁ with toks := k })) E s)
    (hb : attributeBase o "lower" env (eval o env) = eval o env := by rfl) (hp : (apos.endLine == pos.line) = true := by rfl)
    (hr : ((backTo pos (starEach ([] : List Expr) env)).all (fun x => !x.1) && (backToKw pos (keywordEach [] env)).all (fun x => x.1.isSome)
      && decide (([] : List Expr).length + ([] : List Keyword).length + (if ([] : List Keyword).isEmpty then 0 else 1) < 30)) = true := by rfl) :
    wpAny (model PR w) A (eval (.Call (.Attribute o "lower" apos) [] [] pos) env) Q E s := by
  refine wpAny_Call_method hb hr hp F.plainAttrs_str F.slot_str_lower F.type_str_lower (wpAny_mono h (fun ov s₁ h₁ => ?_) fun _ _ x => x)
  obtain ⟨c, t, rfl, hc, hq⟩ := h₁
  refine ⟨typeIs_str _ _ _, fun a e => (nomatch e), PyProof.Rows.callWith_method0 ?_⟩
  have hz := low12 c hc
  refine call_gives F.slot_str_lower (typeIs_str _ _ _) F.entry_str_lower (F.args_str_lower_1 _) (gives_str_lower (mkS [c]) t (by rw [hz]; show tooLong 1 = false; decide)) ?_
  rw [hz]
  exact ⟨by rw [sizeLine_eq]; show 1 ≤ 16777216; decide, hq _ _⟩
end
end Mine
end
section
open PySem PySem.W PySem.Spec PySem.Calls PyProof.Rows
namespace Mine
noncomputable def oEnt (n v : List Nat) (o : Obj) : Prop := ∃ t u, o = { cls := .type "tuple", data := .seq #[.str (mkS n) t, .str (mkS v) u] }
noncomputable def EntAt (h : Heap) (e : Nat × List Nat) (y : Value) : Prop := ∃ a, y = .ref a ∧ ∃ o, h.get? a = some o ∧ oEnt [e.1] e.2 o
noncomputable abbrev mH (D : Addr) : Str → Option Value := fun y => if y = "_headers" then some (.ref D) else none
structure TabAt (h : Heap) (x D : Addr) (es : List (Nat × List Nat)) : Prop where
  inst : h.Inst x 206 (mH D)
  list : ∃ ys, (∃ o, h.get? D = some o ∧ oList ys o) ∧ Paired (EntAt h) es ys
theorem EntAt.ext {h h' : Heap} {e : Nat × List Nat} {y : Value} (x : EntAt h e y) (k : Kp h h') : EntAt h' e y := let ⟨a, q, o, r, z⟩ := x; ⟨a, q, o, k _ _ r, z⟩
theorem TabAt.ext {h h' : Heap} {x D : Addr} {es : List (Nat × List Nat)} (T : TabAt h x D es) (k : Kp h h') : TabAt h' x D es :=
  ⟨T.inst.keeps k, let ⟨ys, a, b⟩ := T.list; ⟨ys, atE k a, paired_mono (fun _ _ _ t => t.ext k) b⟩⟩
noncomputable def tget (es : List (Nat × List Nat)) (c : Nat) : Option (List Nat) := (es.find? fun e => lowC e.1 == lowC c).map (·.2)
noncomputable def optS (o : Option (List Nat)) (v : Value) : Prop := match o with | none => v = .none | some l => IsS l v
theorem obj_conv : typeLookup (.type "object") "_convert_string_type" = pure none := by rw [typeLookup_type, builtinLookup_eq_fast]; kernel_rfl
theorem okN1 : ∀ c ∈ n12, okRe codeN [c].toArray = true := by decide +kernel
set_option maxRecDepth 100000 in
set_option maxHeartbeats 4000000 in
theorem sp_get {w : World} {A : Around} {R : Result → Shared → Prop} {s : Shared} (x D : Addr) (es : List (Nat × List Nat)) (c : Nat) (tx : Tok) (hc : c ∈ n12) (hes : ∀ e ∈ es, e.1 ∈ n12) (hn : es.length ≤ 1000) (T : TabAt s.heap x D es) (r : Room A 40 400) (B : Bs w s.heap)
  (hret : ∀ v h' tk', Kp s.heap h' → optS (tget es c) v → R (.ok (.ret v)) { s with heap := h', toks := tk' }) :
  codeAny (model PR w) A (.call (.ref 153) ⟨[.ref x, .str (mkS [c]) tx], []⟩) R s := by
  refine enterC (d := 39) (u := 397) (binds := [(Str.ofString "self", .ref x), (Str.ofString "name", .str (mkS [c]) tx), (Str.ofString "default", .none)]) r B (by k_is) (by k_is) (fun Q E h => binds_K (K := hd.heap_39 w.params) B.K rfl (by k_is) rfl rfl rfl _ _ _ _ h) ?_ (by decide) ?_
  · intro y hy; simp at hy
    rcases hy with rfl | rfl | rfl <;> (left; rfl)
  intro L h₁ tk A S0 r
  obtain ⟨m0, S, e1, e2, e3⟩ : ∃ m0 : Str → Option Value, Al4 (St s.heap h₁ [(L, oNs m0)]) (m0 (Str.ofString "self") = some (.ref x)) (m0 (Str.ofString "name") = some (.str (mkS [c]) tx)) (m0 (Str.ofString "default") = some .none) := ⟨_, S0, rfl, rfl, rfl⟩
  clear S0
  refine wpAny_execs_cons (wpAny_Assign_Name (mthO (f := 107) (by k_is) (by k_is) obj_conv (by rfl) (nmL (ns_of (S.getL 0 rfl)) e1 ⟨x, mH D, rfl, B.ext S.keep, (T.ext S.keep).inst, if_neg (by decide), wpAny_items_cons (lowS (nmL (ns_of (S.getL 0 rfl)) e2 ⟨c, tx, rfl, hc, fun t2 k2 => wpAny_items_nil ?_⟩))⟩)))
  refine PyProof.Rows.kwAll_cons (wpAny_Constant_bool (PyProof.Rows.kwAll_nil ⟨B.ext S.keep, ?_⟩))
  refine sp_conv (.ref x) [lowC c] t2 true (okN1 _ (low12n c hc)) (by simp) r.less (B.ext S.keep) fun h3 k3 kp3 => ?_
  refine asg (S.ext kp3) 0 rfl fun h4 k4 S4 => ?_
  dsimp only [List.set] at S4
  obtain ⟨m4, S5, e1, e2, e3⟩ : ∃ m4 : Str → Option Value, Al4 (St s.heap h4 [(L, oNs m4)]) (m4 (Str.ofString "self") = some (.ref x)) (m4 (Str.ofString "name") = some (.str (mkS [lowC c]) t2)) (m4 (Str.ofString "default") = some .none) := ⟨_, S4, by walk_at "lk", by walk_at "lk", by walk_at "lk"⟩
  clear S4 S
  refine nrm h4 s.gens s.drawn _ s.os ?_
  obtain ⟨ys, hys, hp⟩ := T.list
  have hlen := paired_len hp
  refine wpAny_execs_cons (for_listP r.hh (h₀ := s.heap) s.drawn s.os (attrH (nmL (ns_of (S5.getL 0 rfl)) e1 ⟨x, D, mH D, rfl, B.ext S5.keep, (T.ext S5.keep).inst, if_pos rfl, fun k5 => ?_⟩)))
  refine ⟨fun i led g => g = s.gens ∧ ∃ m, Al4 (led = [(L, oNs m)]) (m (Str.ofString "name") = some (.str (mkS [lowC c]) t2)) (m (Str.ofString "default") = some .none) (∀ e ∈ es.take i, lowC e.1 ≠ lowC c), h4, s.gens, k5, D, ys, _, rfl, rfl, S5, ⟨rfl, m4, rfl, e2, e3, fun e he => (by simp at he)⟩, ?_, ?_, ?_, list_of (atE S5.keep hys)⟩
  · rintro i led₁ g' h' X _ _ S'
    exact list_of (atE S'.keep hys)
  · intro i hi
    have hie : i < es.length := by omega
    obtain ⟨y, hy, a, rfl, o, ho, ta, ua, hoe⟩ := paired_getD hp (0, []) i hie
    have hmem : es.getD i (0, []) ∈ es := getD_mem hie
    have hget : es[i]? = some (es.getD i (0, [])) := by rw [List.getD_eq_getElem?_getD, List.getElem?_eq_getElem hie]; rfl
    generalize es.getD i (0, []) = e at *
    refine ⟨a, .str (mkS [e.1]) ta, .str (mkS e.2) ua, hy, ?_, ?_⟩
    · rintro led₁ g h' X _ S'
      exact ⟨o, S'.keep _ _ ho, by rw [hoe], 0, by rw [hoe]⟩
    · rintro led₁ g h6 k6 I P E' ⟨rfl, m, rfl, g2, g3, hno⟩ S6
      refine asg S6 1 rfl fun h7 k7 S7 => ?_
      dsimp only [List.set] at S7
      refine asg S7 1 rfl fun h8 k8 S8 => ?_
      dsimp only [List.set] at S8
      refine wpAny_execs_cons (wpAny_If (wpAny_isTrue_Compare1 (lowS (nmL (ns_of (S8.getL 1 rfl)) (by walk_at "lk") ⟨e.1, ta, rfl, hes e hmem, fun t9 k9 => nmL (ns_of (S8.getL 1 rfl)) (by walk_at "lk") (eqS (wpAny_truthy_bool ?_))⟩))))
      by_cases heq : lowC e.1 = lowC c
      · rw [if_pos (by simp [heq])]
        refine wpAny_execs_cons (wpAny_Return_some (nmL (ns_of (S8.getL 1 rfl)) (by walk_at "lk") ?_))
        refine hret _ h8 _ S8.keep ?_
        have hf : es.find? (fun e => lowC e.1 == lowC c) = some e := by
          rw [← List.take_append_drop i es, List.find?_append, List.find?_eq_none.mpr (fun q hq => by simpa using hno q hq), List.drop_eq_getElem_cons hie]
          have h1 := (List.getElem?_eq_some_iff.mp hget).2
          rw [h1]
          simp [heq]
        unfold tget
        rw [hf]
        exact ⟨ua, rfl⟩
      · rw [if_neg (by simp [heq])]
        refine wpAny_execs_nil (wpAny_execs_nil ⟨h8, _, _, _, rfl, ⟨rfl, _, rfl, ?_, ?_, fun q hq => ?_⟩, S8⟩)
        · walk_at "lk"
        · walk_at "lk"
        · rw [List.take_add_one, hget] at hq
          rcases List.mem_append.mp hq with m | m
          · exact hno q m
          · simp at m; rw [m]; exact heq
  · rintro led₁ g h6 k6 ⟨rfl, m, rfl, g2, g3, hno⟩ S6
    refine wpAny_execs_cons (wpAny_Return_some (nmL (ns_of (S6.getL 0 rfl)) g3 ?_))
    refine hret .none h6 _ S6.keep ?_
    rw [← hlen, List.take_length] at hno
    unfold tget
    rw [List.find?_eq_none.mpr (fun q hq => by simpa using hno q hq)]
    rfl
end Mine
end
section
open PySem PySem.W PySem.Spec PySem.Calls PyProof.Rows
namespace Mine
noncomputable abbrev entLed (tl : List (Addr × Nat × List Nat)) : Led := tl.map fun p => (p.1, oEnt [p.2.1] p.2.2)
noncomputable abbrev entRefs (tl : List (Addr × Nat × List Nat)) : List Value := tl.map fun p => .ref p.1
noncomputable def tput (es : List (Nat × List Nat)) (c : Nat) (v : List Nat) : List (Nat × List Nat) := match tget es c with | none => es ++ [(c, v)] | some _ => es
theorem tabAt_of {hb h : Heap} {x D : Addr} {tl : List (Addr × Nat × List Nat)} {led : Led} (S : St hb h ((D, oList (entRefs tl)) :: (entLed tl ++ led))) (I : hb.Inst x 206 (mH D)) : TabAt h x D (tl.map (·.2)) := by
  refine ⟨I.keeps S.keep, _, S.getL 0 rfl, ?_⟩
  have key : ∀ l : List (Addr × Nat × List Nat), (∀ p ∈ l, (p.1, oEnt [p.2.1] p.2.2) ∈ (D, oList (entRefs tl)) :: (entLed tl ++ led)) → Paired (EntAt h) (l.map (·.2)) (entRefs l) := by
    intro l
    induction l with
    | nil => intro _; exact .nil
    | cons p l ih => intro hl; exact .cons ⟨_, rfl, S.cell _ (hl p (List.mem_cons_self ..))⟩ (ih fun q hq => hl q (.tail _ hq))
  exact key tl fun p hp => .tail _ (List.mem_append_left _ (List.mem_map.mpr ⟨p, hp, rfl⟩))
theorem obj_get : typeLookup (.type "object") "get" = pure none := by rw [typeLookup_type, builtinLookup_eq_fast]; kernel_rfl
set_option maxRecDepth 100000 in
set_option maxHeartbeats 4000000 in
theorem sp_setdefault {w : World} {A : Around} {R : Result → Shared → Prop} {s : Shared} {hb : Heap} {led : Led} (x D : Addr) (tl : List (Addr × Nat × List Nat)) (c : Nat) (val : List Nat) (tx tv : Tok) (hc : c ∈ n12) (hes : ∀ p ∈ tl, p.2.1 ∈ n12) (hn : tl.length ≤ 500) (hv : okRe codeV val.toArray = true) (hvl : val.length ≤ 100)
  (S : St hb s.heap ((D, oList (entRefs tl)) :: (entLed tl ++ led))) (I : hb.Inst x 206 (mH D)) (r : Room A 80 800) (B : Bs w hb)
  (hret : ∀ v tl' h' tk', St hb h' ((D, oList (entRefs tl')) :: (entLed tl' ++ led)) → tl'.map (·.2) = tput (tl.map (·.2)) c val → IsS ((tget (tl.map (·.2)) c).getD val) v → R (.ok (.ret v)) { s with heap := h', toks := tk' }) :
  codeAny (model PR w) A (.call (.ref 196) ⟨[.ref x, .str (mkS [c]) tx, .str (mkS val) tv], []⟩) R s := by
  refine enterC (d := 79) (u := 797) (binds := [(Str.ofString "self", .ref x), (Str.ofString "name", .str (mkS [c]) tx), (Str.ofString "value", .str (mkS val) tv)]) r (B.ext S.keep) (by k_is) (by k_is) (fun Q E h => wpAny_pure h) ?_ (by decide) ?_
  · intro y hy; simp at hy
    rcases hy with rfl | rfl | rfl <;> (left; rfl)
  intro L h₁ tk A S0 r
  obtain ⟨m0, S1, e1, e2, e3⟩ : ∃ m0 : Str → Option Value, Al4 (St hb h₁ ((L, oNs m0) :: (D, oList (entRefs tl)) :: (entLed tl ++ led))) (m0 (Str.ofString "self") = some (.ref x)) (m0 (Str.ofString "name") = some (.str (mkS [c]) tx)) (m0 (Str.ofString "value") = some (.str (mkS val) tv)) := ⟨_, S.comp S0, rfl, rfl, rfl⟩
  clear S0 S
  have hI : h₁.Inst x 206 (mH D) := I.keeps S1.keep
  refine wpAny_execs_cons (wpAny_Assign_Name (mthO (f := 153) (by k_is) (by k_is) obj_get (by rfl) (nmL (ns_of (S1.getL 0 rfl)) e1 ⟨x, mH D, rfl, B.ext S1.keep, hI, if_neg (by decide), wpAny_items_cons (nmL (ns_of (S1.getL 0 rfl)) e2 (wpAny_items_nil (PyProof.Rows.kwAll_nil ⟨B.ext S1.keep, ?_⟩)))⟩)))
  refine sp_get x D (tl.map (·.2)) c tx hc (fun e he => by obtain ⟨p, hp, rfl⟩ := List.mem_map.mp he; exact hes p hp) (by rw [List.length_map]; omega) (tabAt_of S1.tail I) r.less (B.ext S1.keep) fun v h3 k3 kp3 hget => ?_
  refine asg (S1.ext kp3) 0 rfl fun h4 k4 S4 => ?_
  dsimp only [List.set] at S4
  obtain ⟨m4, S5, e1, e2, e3, e4⟩ : ∃ m4 : Str → Option Value, Al5 (St hb h4 ((L, oNs m4) :: (D, oList (entRefs tl)) :: (entLed tl ++ led))) (m4 (Str.ofString "self") = some (.ref x)) (m4 (Str.ofString "name") = some (.str (mkS [c]) tx)) (m4 (Str.ofString "value") = some (.str (mkS val) tv)) (m4 (Str.ofString "result") = some v) := ⟨_, S4, by walk_at "lk", by walk_at "lk", by walk_at "lk", by walk_at "lk"⟩
  clear S4 S1 hI
  refine nrm h4 s.gens s.drawn _ s.os ?_
  cases hg : tget (tl.map (·.2)) c with
  | some t =>
    rw [hg] at hget hret
    obtain ⟨tt, rfl⟩ := hget
    refine wpAny_execs_cons (wpAny_If (wpAny_isTrue_Compare1 (nmL (ns_of (S5.getL 0 rfl)) e4 (wpAny_Constant_none (PyProof.Rows.is_str_none (wpAny_truthy_bool ?_))))))
    rw [if_neg Bool.false_ne_true]
    refine wpAny_execs_cons (wpAny_Return_some (nmL (ns_of (S5.getL 0 rfl)) e4 ?_))
    exact hret _ tl h4 _ S5.tail (by unfold tput; rw [hg]) ⟨tt, rfl⟩
  | none =>
    rw [hg] at hget hret
    have hv0 : v = .none := hget
    subst hv0
    refine wpAny_execs_cons (wpAny_If (wpAny_isTrue_Compare1 (nmL (ns_of (S5.getL 0 rfl)) e4 (wpAny_Constant_none (PyProof.Rows.is_none_none (wpAny_truthy_bool ?_))))))
    rw [if_pos rfl]
    refine wpAny_execs_cons (wpAny_Expr_any (app (attrH (nmL (ns_of (S5.getL 0 rfl)) e1 ⟨x, D, mH D, rfl, B.ext S5.keep, I.keeps S5.keep, if_pos rfl, fun k6 => ⟨D, entRefs tl, rfl, S5.getL 1 rfl, by rw [List.length_map]; omega, ?_⟩⟩))))
    refine tupD (wpAny_items_cons (mthO (f := 107) (by k_is) (by k_is) obj_conv (by rfl) (nmL (ns_of (S5.getL 0 rfl)) e1 ⟨x, mH D, rfl, B.ext S5.keep, I.keeps S5.keep, if_neg (by decide), wpAny_items_cons (nmL (ns_of (S5.getL 0 rfl)) e2 (wpAny_items_nil ?_))⟩)))
    refine PyProof.Rows.kwAll_cons (wpAny_Constant_bool (PyProof.Rows.kwAll_nil ⟨B.ext S5.keep, ?_⟩))
    refine sp_conv (.ref x) [c] tx true (okN1 _ hc) (by simp) r.less (B.ext S5.keep) fun h7 k7 kp7 => ?_
    have S7 := S5.ext kp7
    refine wpAny_items_cons (mthO (f := 107) (by k_is) (by k_is) obj_conv (by rfl) (nmL (ns_of (S7.getL 0 rfl)) e1 ⟨x, mH D, rfl, B.ext S7.keep, I.keeps S7.keep, if_neg (by decide), wpAny_items_cons (nmL (ns_of (S7.getL 0 rfl)) e3 (wpAny_items_nil ?_))⟩))
    refine PyProof.Rows.kwAll_cons (wpAny_Constant_bool (PyProof.Rows.kwAll_nil ⟨B.ext S7.keep, ?_⟩))
    refine sp_conv (.ref x) val tv false hv (by omega) r.less (B.ext S7.keep) fun h8 k8 kp8 => ?_
    have S8 := S7.ext kp8
    refine wpAny_items_nil ⟨by simp, fun a h9 kp9 han ha => ?_⟩
    have S9 := S8.fresh (P := oEnt [c] val) kp9 han ⟨_, ha, _, _, rfl⟩
    refine ⟨S9.getL 2 rfl, fun h10 hs10 hl10 => ?_⟩
    have S10 := S9.upd 2 rfl hs10.extBut hl10
    dsimp only [List.set] at S10
    refine wpAny_execs_cons (wpAny_Return_some (nmL (ns_of (S10.getL 1 rfl)) e3 ?_))
    refine hret _ (tl ++ [(a, c, val)]) h10 _ ?_ (by unfold tput; rw [hg]; simp) ⟨tv, rfl⟩
    have S11 := S10.sub (led' := (a, oEnt [c] val) :: (D, oList (entRefs tl ++ [.ref a])) :: (entLed tl ++ led)) (.cons_cons _ (.cons _ (List.Sublist.refl _)))
    have e1 : entLed (tl ++ [(a, c, val)]) = entLed tl ++ [(a, oEnt [c] val)] := by simp [entLed]
    have e2 : entRefs (tl ++ [(a, c, val)]) = entRefs tl ++ [.ref a] := by simp [entRefs]
    rw [e1, e2, List.append_assoc]
    refine S11.perm ((List.Perm.swap _ _ _).trans (.cons _ ?_))
    exact List.perm_middle.symm
end Mine
end
section

end
section
open PySem PySem.W PySem.Spec PySem.Calls PyProof.Rows
namespace Mine
theorem filter_map_v (f : Nat → Value) (tst : Value → Bool) : ∀ l : List Nat, (l.filter fun v => tst (f v)).map f = (l.map f).filter tst
  | [] => rfl
  | a :: l => by
    simp only [List.filter_cons, List.map_cons]
    cases tst (f a) <;> simp [filter_map_v f tst l]
theorem range_getD (its : List Value) : (List.range its.length).map (fun i => its.getD i .none) = its := by
  apply List.ext_getElem
  · simp
  · intro i h1 h2
    simp [List.getD_eq_getElem?_getD, List.getElem?_eq_getElem h2]
section
variable {w : World} {A : Around} {E : Value → Shared → Prop} {env : Env} {s : Shared} {Q : Value → Shared → Prop} {pos : Pos}
/-- a comprehension over a list whose target is a tuple of plain names -/
theorem comp_listT {elt iter : Expr} {ifs : List Expr} {scope : Scope} {cl : List (Str × Addr)} {elts : List Expr} {kt : Nat} {tp : Pos} (Bd : Value → (Str → Option Value) → Prop) (tst : Value → Bool) (F : Value → Value → Prop)
    (hh : A.handled = none) (hclos : closureFor scope env = pure cl) (hnames : ∀ y ∈ scope.names, y.2 = .local → scope.names.lookup y.1 = some .local) (hcells : ∀ n, newCells n scope.names = [])
    (h : wpAny (model PR w) A (eval iter env) (fun xv s₁ => Ex2 fun (ax : Addr) (its : List Value) => Al8 (xv = .ref ax) (s₁.heap.IsList ax its.toArray) (its.length ≤ 1000000) (∀ v ∈ its, ∃ a, v = .ref a) (∀ C v m X Y s₃ (Q' : Unit → Shared → Prop) E', v ∈ its → St s₁.heap s₃.heap [X, Y, (C, oNs m)] → (∀ m' h' k', Bd v m' → St s₁.heap h' [X, Y, (C, oNs m')] → Q' () { s₃ with heap := h', toks := k' }) →
        wpAny (model PR w) A (assign (.Tuple elts kt tp) (compEnvD scope cl C env) v) Q' E' s₃) (∀ C v m s₃ E', v ∈ its → Bd v m → s₃.heap.Ns C m → Kp s₁.heap s₃.heap → wpAny (model PR w) A (testsOf ifs (compEnvD scope cl C env)) (fun ok s₄ => ok = tst v ∧ Keeps s₃ s₄) E' s₃) (∀ C v m s₃ E', v ∈ its → tst v = true → Bd v m → s₃.heap.Ns C m → Kp s₁.heap s₃.heap → wpAny (model PR w) A (eval elt (compEnvD scope cl C env)) (fun y s₄ => F v y ∧ Keeps s₃ s₄) E' s₃) (∀ D h' tk ys, Kp s₁.heap h' → s₁.heap.get? D = none → (∃ o, h'.get? D = some o ∧ oList ys o) → Paired F (its.filter tst) ys → Q (.ref D) { s₁ with heap := h', toks := tk })) E s)
    (hkind : scope.kind = .function := by rfl) (hs : ∀ x, foldedSetIterable iter env x = pure x := by intro _; rfl) :
    wpAny (model PR w) A (eval (.ListComp elt [⟨.Tuple elts kt tp, iter, ifs, 0⟩] scope pos) env) Q E s := by
  refine comp_genT (Cc := fun o => o.cls = .type "list_iterator") (fun C own => ∃ m, own = [(C, oNs m)]) (fun C v own => ∃ m, own = [(C, oNs m)] ∧ Bd v m) hh hclos hnames ?_ ?_ ?_ (wpAny_mono h (fun xv s₁ h₁ => ?_) fun _ _ e => e) hkind hs
  · rintro C v led ⟨m, rfl, _⟩; exact ⟨m, rfl⟩
  · rintro C led ⟨m, rfl⟩; exact ⟨0, m, rfl⟩
  · intro C; rw [hcells]; exact ⟨_, rfl⟩
  obtain ⟨ax, its, rfl, hl, hsz, href, hasg, ht, he, hq⟩ := h₁
  have hax : ax < s₁.heap.objs.size := by obtain ⟨_, e, _⟩ := hl; exact Heap.lt_size e
  refine wpAny_pyIter_list hl ?_
  have inn : ∀ (i : Nat) v, its.toArray[i]? = some v → v ∈ its := fun i v e => List.mem_of_getElem? (i := i) (by rw [List.getElem?_toArray] at e; exact e)
  have ing : ∀ (i : Nat) v, its.toArray[i]? = some v → its.getD i .none = v := fun i v e => by rw [List.getElem?_toArray] at e; rw [List.getD_eq_getElem?_getD, e]; rfl
  have hW := Walks.list (prog := PR) (w := w) hh s₁.heap.objs.size ax (Nat.ne_of_lt hax) its.toArray
  rw [List.size_toArray] at hW
  refine ⟨fun i => tst (its.getD i .none), fun i y => F (its.getD i .none) y, s₁.heap.objs.size, _, _, its.length, _, _, rfl, hW, hsz, ⟨⟨_, Heap.get?_push_size _ rfl, rfl, rfl⟩, hl.push _⟩, Kp.push _ _, Heap.get?_none_of_le (Nat.le_refl _), Heap.get?_push_size _ rfl, ?_, ?_, ?_, ?_, ?_, ?_, ?_⟩
  · intro b hb hne
    simp only [List.mem_cons, List.not_mem_nil, or_false] at hb
    rcases hb with rfl | rfl
    · exact absurd rfl hne
    · obtain ⟨o, e, _⟩ := hl; exact ⟨o, e⟩
  · rintro i h ⟨⟨o, e, hc, _⟩, _⟩; exact ⟨o, e, hc⟩
  · rintro i v s₃ Q' E' hP ⟨o, e, hc⟩ hq'
    obtain ⟨a, rfl⟩ := href v (inn i v hP)
    exact letGo e hc (by decide) hq'
  · rintro C i v X Y own s₃ Q' E' hP ⟨m, rfl⟩ S₃ hQ'
    exact hasg C v m X Y s₃ Q' E' (inn i v hP) S₃ fun m' h' k' hb S' => hQ' _ _ _ ⟨m', rfl, hb⟩ S'
  · rintro C i v X Y own s₃ E' hi hP ⟨m, rfl, hb⟩ S₃
    simp only [ing i v hP]
    exact ht C v m s₃ E' (inn i v hP) hb (ns_of (S₃.getL 2 rfl)) S₃.keep
  · rintro C i v X Y own s₃ E' hi hti hP ⟨m, rfl, hb⟩ S₃
    simp only [ing i v hP] at hti ⊢
    exact he C v m s₃ E' (inn i v hP) hti hb (ns_of (S₃.getL 2 rfl)) S₃.keep
  · intro D h' tk ys hk hD hl' hp
    refine hq D h' tk ys hk hD hl' ?_
    have e1 := filter_map_v (fun i => its.getD i .none) tst (List.range its.length)
    rw [range_getD] at e1
    rw [← e1]
    exact paired_map (f := fun i => its.getD i Value.none) (fun a b x => x) hp
end
end Mine
end
section
open PySem PySem.W PySem.Spec PySem.Calls PyProof.Rows
namespace Mine
theorem EntAt.inj {h : Heap} {e e' : Nat × List Nat} {y : Value} (a : EntAt h e y) (b : EntAt h e' y) : e = e' := by
  obtain ⟨p, rfl, o, ho, t, u, ht⟩ := a
  obtain ⟨q, hq, o', ho', t', u', ht'⟩ := b
  cases hq
  rw [ho] at ho'
  cases ho'
  rw [ht] at ht'
  injection ht' with _ _ h3 _
  injection h3 with h4 _
  have h5 := congrArg Array.toList h4
  simp only [List.cons.injEq, Value.str.injEq, and_true] at h5
  have h6 := mkS_inj h5.1.1
  have h7 := mkS_inj h5.2.1
  obtain ⟨a, b⟩ := e
  obtain ⟨a', b'⟩ := e'
  simp only [List.cons.injEq, and_true] at h6
  simp only at h7
  rw [h6, h7]
theorem paired_filter {α β : Type} {G : α → β → Prop} {p : α → Bool} {q : β → Bool} (h : ∀ a b, G a b → p a = q b) : ∀ {l : List α} {m : List β}, Paired G l m → Paired G (l.filter p) (m.filter q)
  | _, _, .nil => .nil
  | _, _, .cons (a := a) (b := b) hd t => by
    simp only [List.filter_cons, h a b hd]
    cases q b with
    | true => exact .cons hd (paired_filter h t)
    | false => exact paired_filter h t
noncomputable def tvals (es : List (Nat × List Nat)) : List (List Nat) := es.map (·.2)
set_option maxRecDepth 100000 in
set_option maxHeartbeats 4000000 in
theorem sp_values {w : World} {A : Around} {R : Result → Shared → Prop} {s : Shared} (x D : Addr) (es : List (Nat × List Nat)) (hn : es.length ≤ 1000) (T : TabAt s.heap x D es) (r : Room A 40 400) (B : Bs w s.heap)
  (hret : ∀ D' ys h' tk', St s.heap h' [(D', oList ys)] → Paired IsS (tvals es) ys → R (.ok (.ret (.ref D'))) { s with heap := h', toks := tk' }) :
  codeAny (model PR w) A (.call (.ref 163) ⟨[.ref x], []⟩) R s := by
  refine enterC (d := 39) (u := 397) (binds := [(Str.ofString "self", .ref x)]) r B (by k_is) (by k_is) (fun Q E h => wpAny_pure h) ?_ (by decide) ?_
  · intro y hy; simp at hy
    rcases hy with rfl; left; rfl
  intro L h₁ tk A S0 r
  obtain ⟨m0, S, e1⟩ : ∃ m0 : Str → Option Value, St s.heap h₁ [(L, oNs m0)] ∧ m0 (Str.ofString "self") = some (.ref x) := ⟨_, S0, rfl⟩
  clear S0
  obtain ⟨ys, hys, hp⟩ := T.list
  have hlen := paired_len hp
  refine wpAny_execs_cons (wpAny_Return_some (comp_listT (cl := []) (fun v m => ∀ e, EntAt s.heap e v → ∃ u, m (Str.ofString "v") = some (.str (mkS e.2) u)) (fun _ => true) (fun v y => ∀ e, EntAt s.heap e v → IsS e.2 y) r.hh rfl (by decide) (fun n => rfl) ?_))
  refine attrH (nmL (ns_of (S.getL 0 rfl)) e1 ⟨x, D, mH D, rfl, B.ext S.keep, (T.ext S.keep).inst, if_pos rfl, fun k5 => ⟨D, ys, rfl, list_of (atE S.keep hys), by omega, ?_, ?_, ?_, ?_, ?_⟩⟩)
  · intro v hv
    obtain ⟨e, _, a, rfl, _⟩ := paired_left hp v hv
    exact ⟨a, rfl⟩
  · intro C v m X Y s₃ Q' E' hv S3 hq
    obtain ⟨e, _, a, rfl, o, ho, ta, ua, hoe⟩ := paired_left hp v hv
    have ho3 := S3.keep _ _ (S.keep _ _ ho)
    refine asgT2 r.hh ⟨o, ho3, by rw [hoe], 0, by rw [hoe]⟩ fun h6 kp6 => ?_
    refine asg (S3.ext kp6) 2 rfl (fun h7 k7 S7 => ?_) rfl rfl
    dsimp only [List.set] at S7
    refine asg S7 2 rfl (fun h8 k8 S8 => ?_) rfl rfl
    dsimp only [List.set] at S8
    refine hq _ h8 _ (fun e' he' => ?_) S8
    have : e = e' := EntAt.inj ⟨a, rfl, o, ho, ta, ua, hoe⟩ he'
    subst this
    exact ⟨ua, if_pos rfl⟩
  · intro C v m s₃ E' _ _ _ _
    exact wpAny_tests_nil ⟨rfl, _, _, rfl, fun _ _ e => e⟩
  · intro C v m s₃ E' hv _ hb hns _
    obtain ⟨e, _, he⟩ := paired_left hp v hv
    obtain ⟨u, hu⟩ := hb e he
    refine nmL hns hu ⟨fun e' he' => ?_, _, _, rfl, fun _ _ e => e⟩ rfl rfl
    rw [← EntAt.inj he he']; exact ⟨u, rfl⟩
  · intro D' h' tk' out kp hD hl hpo
    rw [List.filter_eq_self.mpr (fun _ _ => rfl)] at hpo
    refine hret D' out h' tk' ((S.fresh kp hD hl).sub (.cons_cons _ (.cons _ (List.Sublist.refl _)))) ?_
    have := paired_comp (H := fun (e : Nat × List Nat) y => IsS e.2 y) (fun e b c he hf => hf e he) hp hpo
    exact paired_map (f := fun e : Nat × List Nat => e.2) (fun a b x => x) this
section
variable {w : World} {A : Around} {E : Value → Shared → Prop} {env : Env} {s : Shared} {Q : Value → Shared → Prop} {pos : Pos}
/-- tuple[k] -/
theorem subT {value slice : Expr}
    (h : wpAny (model PR w) A (eval value env) (fun o s₁ => wpAny (model PR w) A (eval slice env) (fun i s₂ => Ex5 fun (a : Addr) (vs : List Value) (k : Int) (t : Tok) (v : Value) => Al7 (o = .ref a) (i = .int k t) (IsTup s₂.heap a vs.toArray) (0 ≤ k) (k < 1000000000) (vs[k.toNat]? = some v) (Q v s₂)) E s₁) E s)
    (hs : ∀ a k t, subscripted slice false (.ref a) (.int k t) = operate [.ref a, .int k t] (getItem (.ref a) (.int k t)) := by intro _ _ _; rfl) :
    wpAny (model PR w) A (eval (.Subscript value slice pos) env) Q E s := by
  refine Subscript_ (wpAny_mono h (fun o s₁ h₁ => wpAny_mono h₁ (fun i s₂ h₂ => ?_) fun _ _ x => x) fun _ _ x => x)
  obtain ⟨a, vs, k, t, v, rfl, rfl, hl, h0, h1, hv, hq⟩ := h₂
  have hlt : k.toNat < vs.length := (List.getElem?_eq_some_iff.mp hv).1
  exact tail_any hl.typeIs PySem.F.slot_tuple_getitem.lookup (getItem_tuple hl (by omega) (by omega) (j := k.toNat) (seqIndex_of h0 (by simp; omega)) (by rw [List.getElem?_toArray]; exact hv) hq) (hs _ _ _)
end
open Classical in
noncomputable def tsel (h : Heap) (c : Nat) (v : Value) : Bool := decide (∃ e, EntAt h e v ∧ lowC e.1 = lowC c)
open Classical in
theorem tsel_eq {h : Heap} {c : Nat} {v : Value} {e : Nat × List Nat} (he : EntAt h e v) : tsel h c v = decide (lowC e.1 = lowC c) := by
  unfold tsel
  by_cases hq : lowC e.1 = lowC c
  · rw [decide_eq_true hq, decide_eq_true ⟨e, he, hq⟩]
  · rw [decide_eq_false hq, decide_eq_false]
    rintro ⟨e', he', hq'⟩
    rw [EntAt.inj he he'] at hq
    exact hq hq'
noncomputable def tall (es : List (Nat × List Nat)) (c : Nat) : List (List Nat) := (es.filter fun e => decide (lowC e.1 = lowC c)).map (·.2)
set_option maxRecDepth 100000 in
set_option maxHeartbeats 4000000 in
theorem sp_getall {w : World} {A : Around} {R : Result → Shared → Prop} {s : Shared} (x D : Addr) (es : List (Nat × List Nat)) (c : Nat) (tx : Tok) (hc : c ∈ n12) (hes : ∀ e ∈ es, e.1 ∈ n12) (hn : es.length ≤ 1000) (T : TabAt s.heap x D es) (r : Room A 40 400) (B : Bs w s.heap)
  (hret : ∀ D' ys h' tk', St s.heap h' [(D', oList ys)] → Paired IsS (tall es c) ys → R (.ok (.ret (.ref D'))) { s with heap := h', toks := tk' }) :
  codeAny (model PR w) A (.call (.ref 145) ⟨[.ref x, .str (mkS [c]) tx], []⟩) R s := by
  refine enterC (d := 39) (u := 397) (binds := [(Str.ofString "self", .ref x), (Str.ofString "name", .str (mkS [c]) tx)]) r B (by k_is) (by k_is) (fun Q E h => wpAny_pure h) ?_ (by decide) ?_
  · intro y hy; simp at hy
    rcases hy with rfl | rfl
    · left; rfl
    · right; exact ⟨rfl, rfl⟩
  intro L h₁ tk A S0 r
  obtain ⟨m0, S, e1⟩ : ∃ m0 : Str → Option Value, St s.heap h₁ [(L, oNs m0), (L + 1, oCell (some (.str (mkS [c]) tx)))] ∧ m0 (Str.ofString "self") = some (.ref x) := ⟨_, S0, rfl⟩
  clear S0
  refine wpAny_execs_cons (wpAny_Assign_Name (mthO (f := 107) (by k_is) (by k_is) obj_conv (by rfl) (nmL (ns_of (S.getL 0 rfl)) e1 ⟨x, mH D, rfl, B.ext S.keep, (T.ext S.keep).inst, if_neg (by decide), wpAny_items_cons (lowS (nmC (c := L + 1) (cell_of (S.getL 1 rfl)) ⟨c, tx, rfl, hc, fun t2 k2 => wpAny_items_nil ?_⟩))⟩)))
  refine PyProof.Rows.kwAll_cons (wpAny_Constant_bool (PyProof.Rows.kwAll_nil ⟨B.ext S.keep, ?_⟩))
  refine sp_conv (.ref x) [lowC c] t2 true (okN1 _ (low12n c hc)) (by simp) r.less (B.ext S.keep) fun h3 k3 kp3 => ?_
  refine asgC (S.ext kp3) 1 rfl (c := L + 1) fun h4 S4 => ?_
  dsimp only [List.set] at S4
  obtain ⟨ys, hys, hp⟩ := T.list
  have hlen := paired_len hp
  have hnm := cell_of (S4.getL 1 rfl)
  refine wpAny_execs_cons (wpAny_Return_some (comp_list (cl := [(Str.ofString "name", L + 1)]) (tsel s.heap c) (fun v y => ∀ e, EntAt s.heap e v → IsS e.2 y) r.hh rfl (by decide) (by decide) rfl ?_))
  refine attrH (nmL (ns_of (S4.getL 0 rfl)) e1 ⟨x, D, mH D, rfl, B.ext S4.keep, (T.ext S4.keep).inst, if_pos rfl, fun k5 => ⟨D, ys, rfl, list_of (atE S4.keep hys), by omega, ?_, ?_, ?_⟩⟩)
  · intro C v s₃ m₃ E' hv hns hm hk
    obtain ⟨e, hem, a, rfl, o, ho, ta, ua, hoe⟩ := paired_left hp v hv
    have he : EntAt s.heap e (.ref a) := ⟨a, rfl, o, ho, ta, ua, hoe⟩
    have hT : IsTup s₃.heap a [.str (mkS [e.1]) ta, .str (mkS e.2) ua].toArray := ⟨o, hk _ _ (S4.keep _ _ ho), by rw [hoe], 0, by rw [hoe]⟩
    refine wpAny_tests_one (wpAny_isTrue_Compare1 (lowS (subT (nmL hns hm (wpAny_Constant_int ⟨a, _, _, _, _, rfl, rfl, hT, by decide, by decide, rfl, e.1, ta, rfl, hes e hem, fun t7 k7 => ?_⟩ ) rfl rfl))))
    refine nmC (c := L + 1) (hnm.keeps hk) (eqS (wpAny_truthy_bool ⟨?_, _, _, rfl, fun _ _ e => e⟩))
    rw [tsel_eq he]
    by_cases hq : lowC e.1 = lowC c
    · rw [decide_eq_true hq, decide_eq_true (by rw [hq])]
    · rw [decide_eq_false hq, decide_eq_false (by simpa using hq)]
  · intro C v s₃ m₃ E' hv _ hns hm hk
    obtain ⟨e, hem, a, rfl, o, ho, ta, ua, hoe⟩ := paired_left hp v hv
    have he : EntAt s.heap e (.ref a) := ⟨a, rfl, o, ho, ta, ua, hoe⟩
    have hT : IsTup s₃.heap a [.str (mkS [e.1]) ta, .str (mkS e.2) ua].toArray := ⟨o, hk _ _ (S4.keep _ _ ho), by rw [hoe], 0, by rw [hoe]⟩
    refine subT (nmL hns hm (wpAny_Constant_int ⟨a, _, _, _, _, rfl, rfl, hT, by decide, by decide, rfl, fun e' he' => ?_, _, _, rfl, fun _ _ e => e⟩) rfl rfl)
    rw [← EntAt.inj he he']; exact ⟨ua, rfl⟩
  · intro D' h' tk' out kp hD hl hpo
    refine hret D' out h' tk' ((S4.fresh kp hD hl).sub (.cons_cons _ (.cons _ (.cons _ (List.Sublist.refl _))))) ?_
    have h1 := paired_filter (p := fun e : Nat × List Nat => decide (lowC e.1 = lowC c)) (q := tsel s.heap c) (fun e y he => (tsel_eq he).symm) hp
    have := paired_comp (H := fun (e : Nat × List Nat) y => IsS e.2 y) (fun e b c he hf => hf e he) h1 hpo
    exact paired_map (f := fun e : Nat × List Nat => e.2) (fun a b x => x) this
end Mine
end
section
open PySem PySem.W PySem.Spec PySem.Calls PyProof.Rows
namespace Mine
noncomputable def wordOf (f : List Nat) : List Nat := f.map fun x => 97 + x % 3
noncomputable def lettersOf (turn : Nat) (f : List Nat) : List Nat := f.map fun x => if turn = 0 then 97 + x % 3 else 99 - x % 3
noncomputable def hiddenOf (turn : Nat) : List Nat := if turn = 0 then [92, 41] else [34, 40, 34]
noncomputable def cellsOf (turn : Nat) (f : List Nat) : List (List Nat) := f.map fun x => if 2 < x then hiddenOf turn ++ [65 + x % 3] else [97 + x % 3]
noncomputable def partsOf (turn : Nat) (f : List Nat) : List Nat := partsGo (piecesOf (lettersOf turn f) (cellsOf turn f))
noncomputable def longests (turn : Nat) (f : List Nat) : List Nat := (List.range f.length).map fun p => longestOf (lettersOf turn f) p
noncomputable def markOf (b c : Nat) : List Nat := [48 + b, 45, 48 + c]
noncomputable def nameOf (turn p : Nat) : Nat := if turn = 0 then 97 + p else 65 + p
/-- one place's offer: none = the law says False -/
noncomputable def offer (word : List Nat) (turn : Nat) (parts : List Nat) (es : Option (List (Nat × List Nat))) (p : Nat) : Option (List (Nat × List Nat)) :=
  es.bind fun es =>
    let q := parts.getD p 0
    let b := beginOf word p (p + q)
    let c := endOf word p (p + q)
    if b < p ∧ 2 * q ≤ c - b then (if (tget es (nameOf turn p)).getD (markOf b c) = markOf b c then some (tput es (nameOf turn p) (markOf b c)) else none) else some es
noncomputable def turnW (word parts longs : List Nat) (n turn : Nat) (es : List (Nat × List Nat)) : Option (List (Nat × List Nat)) :=
  if parts = longs then ((List.range (n - 1)).map (· + 1)).foldl (offer word turn parts) (some es) else none
noncomputable def dueW (runs : List (List Nat)) (p0 p1 : List Nat) (p : Nat) : List (List Nat) :=
  runs.filterMap fun r => match r with
    | [i, j, step] => if i < p ∧ p + step ≤ j ∧ (step = p0.getD p 0 ∨ step = p1.getD p 0) then some (markOf i j) else none
    | _ => none
noncomputable def restW (runs : List (List Nat)) (es : List (Nat × List Nat)) : List Nat :=
  runs.filterMap fun r => match r with
    | [i, j, _] => if markOf i j ∈ tvals es then none else some i
    | _ => none
noncomputable def endW (runs : List (List Nat)) (p0 p1 : List Nat) (n : Nat) (es : List (Nat × List Nat)) : Bool :=
  ((List.range (n - 1)).all fun p => tall es (97 + (p + 1)) == dueW runs p0 p1 (p + 1)) && (restW runs es == [])
noncomputable def lawW (word : List Nat) (runs : List (List Nat)) (p0 p1 l0 l1 : List Nat) (n : Nat) : Bool := match (turnW word p0 l0 n 0 []).bind fun es => turnW word p1 l1 n 1 es with
  | some es => endW runs p0 p1 n es
  | none => false
noncomputable def lawOk (f : List Nat) : Bool := lawW (wordOf f) (lawRuns (wordOf f)) (partsOf 0 f) (partsOf 1 f) (longests 0 f) (longests 1 f) f.length
noncomputable def allF (m : Nat) : Nat → List (List Nat)
  | 0 => [[]]
  | n + 1 => (allF m n).flatMap fun f => (List.range m).map fun x => x :: f
end Mine
end
section
namespace Mine
noncomputable abbrev TokL := List (Option (List Nat))
noncomputable def pcOf : Option (List Nat) → List Nat
  | none => [41]
  | some c => 40 :: c
noncomputable def flatT (t : TokL) : List Nat := (t.map pcOf).flatten
noncomputable def balB : Nat → List Bool → Bool
  | o, [] => decide (o = 0)
  | o, true :: r => balB (o + 1) r
  | 0, false :: _ => false
  | o + 1, false :: r => balB o r
noncomputable def shapeT (t : TokL) : List Bool := t.map Option.isSome
noncomputable def plainC (c : Nat) : Prop := c ≠ 34 ∧ c ≠ 40 ∧ c ≠ 41 ∧ c ≠ 92
noncomputable def cell0 (x : List Nat) : Prop := ∃ c, plainC c ∧ (x = [c] ∨ x = [92, 41, c])
noncomputable def cell1 (x : List Nat) : Prop := ∃ c, plainC c ∧ (x = [c] ∨ x = [34, 40, 34, c])
theorem flatT_cons (a : Option (List Nat)) (t : TokL) : flatT (a :: t) = pcOf a ++ flatT t := by simp [flatT]
theorem esc_plain {c : Nat} (h : c ≠ 92) (i : Nat) (r : List Nat) : escF i false (c :: r) = (i, [c]) :: escF (i + 1) false r := by
  simp only [escF, if_neg h]
theorem esc_bs (i c : Nat) (r : List Nat) : escF i false (92 :: c :: r) = (i + 1, [92, c]) :: escF (i + 2) false r := by
  simp [escF]
theorem chk_skip {x : List Nat} (h1 : x ≠ [40]) (h2 : x ≠ [41]) (o i : Nat) (r : List (Nat × List Nat)) : checkGo o ((i, x) :: r) = checkGo o r := by
  simp only [checkGo, if_neg h1, if_neg h2]
theorem chk0 : ∀ (t : TokL) (o i : Nat), (∀ x, some x ∈ t → cell0 x) → checkGo o (escF i false (flatT t)) = balB o (shapeT t)
  | [], o, i, _ => by simp [flatT, escF, checkGo, shapeT, balB]
  | none :: t, o, i, h => by
    rw [flatT_cons]
    show checkGo o (escF i false (41 :: flatT t)) = balB o (false :: shapeT t)
    rw [esc_plain (by decide)]
    have ih := fun o => chk0 t o (i + 1) fun x hx => h x (.tail _ hx)
    cases o with
    | zero => simp [checkGo, balB]
    | succ o => simp only [checkGo, balB, if_true]; rw [if_neg (by decide)]; exact ih o
  | some x :: t, o, i, h => by
    obtain ⟨c, ⟨h1, h2, h3, h4⟩, rfl | rfl⟩ := h x (List.mem_cons_self ..)
    · rw [flatT_cons]
      show checkGo o (escF i false (40 :: c :: flatT t)) = balB o (true :: shapeT t)
      rw [esc_plain (by decide), esc_plain h4]
      simp only [checkGo, if_true]
      rw [if_neg (by simp [h2]), if_neg (by simp [h3])]
      exact chk0 t (o + 1) _ fun x hx => h x (.tail _ hx)
    · rw [flatT_cons]
      show checkGo o (escF i false (40 :: 92 :: 41 :: c :: flatT t)) = balB o (true :: shapeT t)
      rw [esc_plain (by decide), esc_bs, esc_plain h4]
      simp only [checkGo, if_true]
      rw [if_neg (by decide), if_neg (by decide), if_neg (by simp [h2]), if_neg (by simp [h3])]
      exact chk0 t (o + 1) _ fun x hx => h x (.tail _ hx)
noncomputable def cleanT (t : TokL) : TokL := t.map fun a => a.map fun x => x.drop (x.length - 1)
theorem clean_shape (t : TokL) : shapeT (cleanT t) = shapeT t := by
  induction t with
  | nil => rfl
  | cons a t ih =>
    cases a with
    | none => exact congrArg (false :: ·) ih
    | some x => exact congrArg (true :: ·) ih
theorem step_skip {l : List Nat} {st : SSt} {i c : Nat} (h : c ≠ 34) : stripStep l st (i, [c]) = st := by
  unfold stripStep
  rw [if_neg (by simp [h])]
theorem strip1 (l : List Nat) : ∀ (t : TokL) (pre : List Nat) (start : Nat) (res : List (List Nat)), (∀ x, some x ∈ t → cell1 x) → l = pre ++ flatT t → start ≤ pre.length →
    (stripEnd l ((escF pre.length false (flatT t)).foldl (stripStep l) (start, none, res))).flatten = res.flatten ++ pre.drop start ++ flatT (cleanT t)
  | [], pre, start, res, _, hl, hs => by
    have hl' : l = pre := by rw [hl]; simp [flatT]
    subst hl'
    show (stripEnd l (start, none, res)).flatten = _
    unfold stripEnd
    simp only
    split
    · simp [flatT, cleanT]
    · rw [List.drop_eq_nil_of_le (by omega)]; simp [flatT, cleanT]
  | none :: t, pre, start, res, h, hl, hs => by
    have hl2 : l = (pre ++ [41]) ++ flatT t := by rw [hl, flatT_cons]; simp [pcOf]
    have ih := strip1 l t (pre ++ [41]) start res (fun x hx => h x (.tail _ hx)) hl2 (by simp; omega)
    rw [flatT_cons]
    show (stripEnd l ((escF pre.length false (41 :: flatT t)).foldl (stripStep l) (start, none, res))).flatten = _
    rw [esc_plain (by decide), List.foldl_cons, step_skip (by decide)]
    rw [show pre.length + 1 = (pre ++ [41]).length by simp, ih]
    rw [List.drop_append_of_le_length hs]
    show _ = _ ++ flatT (none :: cleanT t)
    rw [flatT_cons]; simp [pcOf]
  | some x :: t, pre, start, res, h, hl, hs => by
    obtain ⟨c, ⟨h1, h2, h3, h4⟩, rfl | rfl⟩ := h x (List.mem_cons_self ..)
    · have hl2 : l = (pre ++ [40, c]) ++ flatT t := by rw [hl, flatT_cons]; simp [pcOf]
      have ih := strip1 l t (pre ++ [40, c]) start res (fun x hx => h x (.tail _ hx)) hl2 (by simp; omega)
      rw [flatT_cons]
      show (stripEnd l ((escF pre.length false (40 :: c :: flatT t)).foldl (stripStep l) (start, none, res))).flatten = _
      rw [esc_plain (by decide), List.foldl_cons, step_skip (by decide), esc_plain h4, List.foldl_cons, step_skip h1]
      rw [show pre.length + 1 + 1 = (pre ++ [40, c]).length by simp, ih]
      rw [List.drop_append_of_le_length hs]
      show _ = _ ++ flatT (some [c] :: cleanT t)
      rw [flatT_cons]; simp [pcOf]
    · have hl2 : l = (pre ++ [40, 34, 40, 34, c]) ++ flatT t := by rw [hl, flatT_cons]; simp [pcOf]
      have ih := strip1 l t (pre ++ [40, 34, 40, 34, c]) (pre.length + 4) (res ++ [pre.drop start ++ [40]]) (fun x hx => h x (.tail _ hx)) hl2 (by simp)
      rw [flatT_cons]
      show (stripEnd l ((escF pre.length false (40 :: 34 :: 40 :: 34 :: c :: flatT t)).foldl (stripStep l) (start, none, res))).flatten = _
      rw [esc_plain (by decide), List.foldl_cons, step_skip (by decide), esc_plain (by decide), List.foldl_cons, esc_plain (by decide), List.foldl_cons, esc_plain (by decide), List.foldl_cons, esc_plain h4, List.foldl_cons, step_skip h1]
      have e1 : stripStep l (start, none, res) (pre.length + 1, [34]) = (start, some (pre.length + 1), res) := rfl
      have e2 : stripStep l (start, some (pre.length + 1), res) (pre.length + 1 + 1, [40]) = (start, some (pre.length + 1), res) := rfl
      have hsl : sl l start (pre.length + 1) = pre.drop start ++ [40] := by
        unfold sl
        rw [hl2, List.append_assoc, List.take_append, List.take_of_length_le (by omega), show pre.length + 1 - pre.length = 1 by omega]
        simp only [List.cons_append, List.take_succ_cons, List.take_zero]
        rw [List.drop_append_of_le_length hs]
      have e3 : stripStep l (start, some (pre.length + 1), res) (pre.length + 1 + 1 + 1, [34]) = (pre.length + 4, none, res ++ [pre.drop start ++ [40]]) := by
        unfold stripStep
        simp only [if_true]
        rw [if_neg (by omega), hsl]
      rw [e1, e2, e3]
      rw [show pre.length + 1 + 1 + 1 + 1 + 1 = (pre ++ [40, 34, 40, 34, c]).length by simp, ih]
      show _ = _ ++ flatT (some [c] :: cleanT t)
      rw [flatT_cons]; simp [pcOf]
end Mine
end
section
namespace Mine
theorem mem_flatT {t : TokL} {c : Nat} (h : c ∈ flatT t) : c = 41 ∨ c = 40 ∨ ∃ x, some x ∈ t ∧ c ∈ x := by
  obtain ⟨l, hl, hc⟩ := List.mem_flatten.mp h
  obtain ⟨a, ha, rfl⟩ := List.mem_map.mp hl
  cases a with
  | none => left; simpa [pcOf] using hc
  | some x =>
    rcases List.mem_cons.mp hc with rfl | m
    · right; left; rfl
    · right; right; exact ⟨x, ha, m⟩
theorem check0 {t : TokL} (h : ∀ x, some x ∈ t → cell0 x) : checkOf (flatT t) = balB 0 (shapeT t) := by
  have h34 : 34 ∉ flatT t := fun m => by
    rcases mem_flatT m with e | e | ⟨x, hx, hm⟩
    · cases e
    · cases e
    · obtain ⟨c, ⟨h1, _⟩, rfl | rfl⟩ := h x hx
      · simp at hm; exact h1 hm.symm
      · simp at hm; exact h1 hm.symm
  unfold checkOf stripOf
  rw [if_neg h34]
  exact chk0 t 0 0 h
theorem check1 {t : TokL} (h : ∀ x, some x ∈ t → cell1 x) : checkOf (flatT t) = balB 0 (shapeT t) := by
  unfold checkOf stripOf
  by_cases h34 : 34 ∈ flatT t
  · rw [if_pos h34]
    have := strip1 (flatT t) t [] 0 [] h (by simp) (by simp)
    have e : stripRun (flatT t) (escF 0 false (flatT t)).length = (escF 0 false (flatT t)).foldl (stripStep (flatT t)) (0, none, []) := by
      unfold stripRun; rw [List.take_length]
    rw [e]
    simp only [List.length_nil, List.flatten_nil, List.drop_nil, List.nil_append] at this
    rw [this, chk0 _ 0 0 ?_, clean_shape]
    intro x hx
    obtain ⟨a, ha, hax⟩ := List.mem_map.mp hx
    cases a with
    | none => cases hax
    | some y =>
      obtain ⟨c, hc, rfl | rfl⟩ := h y ha
      · exact ⟨c, hc, .inl (by simpa using hax.symm)⟩
      · exact ⟨c, hc, .inl (by simpa using hax.symm)⟩
  · rw [if_neg h34]
    refine chk0 t 0 0 fun x hx => ?_
    obtain ⟨c, hc, rfl | rfl⟩ := h x hx
    · exact ⟨c, hc, .inl rfl⟩
    · exfalso
      refine h34 (List.mem_flatten.mpr ⟨_, List.mem_map.mpr ⟨_, hx, rfl⟩, ?_⟩)
      simp [pcOf]
/-- the same, told by the brackets alone -/
noncomputable def sizeB : List Bool → Nat → List Bool → Nat
  | _, n, [] => n
  | s, n, true :: r => sizeB (s ++ [true]) (n + 1) r
  | s, n, false :: r => if balB 0 (s ++ [false]) then n else sizeB (s ++ [false]) n r
noncomputable def partsB : List Bool → List Nat
  | [] => []
  | false :: r => partsB r
  | true :: r => sizeB [true] 1 r :: partsB r
theorem shapeT_append (a b : TokL) : shapeT (a ++ b) = shapeT a ++ shapeT b := by simp [shapeT]
theorem flatT_append (a b : TokL) : flatT (a ++ b) = flatT a ++ flatT b := by simp [flatT]
theorem pc_some_ne (x : List Nat) : pcOf (some x) ≠ [41] := by simp [pcOf]
theorem sizeGo_eq {C : List Nat → Prop} (hck : ∀ t : TokL, (∀ x, some x ∈ t → C x) → checkOf (flatT t) = balB 0 (shapeT t)) :
    ∀ (r s : TokL) (n : Nat), (∀ x, some x ∈ s → C x) → (∀ x, some x ∈ r → C x) → sizeGo (flatT s) n (r.map pcOf) = sizeB (shapeT s) n (shapeT r)
  | [], s, n, _, _ => by simp [sizeGo, sizeB, shapeT]
  | none :: r, s, n, hs, hr => by
    have hs' : ∀ x, some x ∈ s ++ [none] → C x := fun x hx => by
      rcases List.mem_append.mp hx with m | m
      · exact hs x m
      · simp at m
    have ih := sizeGo_eq hck r (s ++ [none]) n hs' fun x hx => hr x (.tail _ hx)
    show sizeGo (flatT s) n ([41] :: r.map pcOf) = sizeB (shapeT s) n (false :: shapeT r)
    have e : flatT s ++ [41] = flatT (s ++ [none]) := by rw [flatT_append]; simp [flatT, pcOf]
    have e2 : shapeT s ++ [false] = shapeT (s ++ [none]) := by rw [shapeT_append]; rfl
    rw [sizeGo, if_pos rfl, sizeB, e, e2, hck _ hs', ih]
  | some y :: r, s, n, hs, hr => by
    have hs' : ∀ x, some x ∈ s ++ [some y] → C x := fun x hx => by
      rcases List.mem_append.mp hx with m | m
      · exact hs x m
      · simp at m; subst m; exact hr x (List.mem_cons_self ..)
    have ih := sizeGo_eq hck r (s ++ [some y]) (n + 1) hs' fun x hx => hr x (.tail _ hx)
    show sizeGo (flatT s) n (pcOf (some y) :: r.map pcOf) = sizeB (shapeT s) n (true :: shapeT r)
    have e : flatT s ++ pcOf (some y) = flatT (s ++ [some y]) := by rw [flatT_append]; simp [flatT]
    have e2 : shapeT s ++ [true] = shapeT (s ++ [some y]) := by rw [shapeT_append]; rfl
    rw [sizeGo, if_neg (pc_some_ne y), sizeB, e, e2, ih]
theorem partsGo_eq {C : List Nat → Prop} (hck : ∀ t : TokL, (∀ x, some x ∈ t → C x) → checkOf (flatT t) = balB 0 (shapeT t)) :
    ∀ t : TokL, (∀ x, some x ∈ t → C x) → partsGo (t.map pcOf) = partsB (shapeT t)
  | [], _ => rfl
  | none :: t, h => by
    have ih := partsGo_eq hck t fun x hx => h x (.tail _ hx)
    show partsGo ([41] :: t.map pcOf) = partsB (false :: shapeT t)
    rw [partsGo, if_pos rfl, partsB, ih]
  | some y :: t, h => by
    have ih := partsGo_eq hck t fun x hx => h x (.tail _ hx)
    show partsGo (pcOf (some y) :: t.map pcOf) = partsB (true :: shapeT t)
    rw [partsGo, if_neg (pc_some_ne y), partsB, ih]
    have := sizeGo_eq hck t [some y] 1 (fun x hx => by simp at hx; subst hx; exact h x (List.mem_cons_self ..)) fun x hx => h x (.tail _ hx)
    rw [show flatT [some y] = pcOf (some y) by simp [flatT]] at this
    rw [this]; rfl
noncomputable def toksOf (l : List Nat) (cells : List (List Nat)) : TokL := (List.range l.length).flatMap fun p => some (cells.getD p []) :: List.replicate ((shutOf l).getD p 0) none
noncomputable def shapeOf (l : List Nat) : List Bool := (List.range l.length).flatMap fun p => true :: List.replicate ((shutOf l).getD p 0) false
theorem pieces_toks (l : List Nat) (cells : List (List Nat)) : piecesOf l cells = (toksOf l cells).map pcOf := by
  unfold piecesOf piecesUpto toksOf
  rw [List.map_flatMap]
  congr 1
  funext p
  simp [piecesRow, pcOf]
theorem shape_toks (l : List Nat) (cells : List (List Nat)) : shapeT (toksOf l cells) = shapeOf l := by
  unfold shapeT toksOf shapeOf
  rw [List.map_flatMap]
  congr 1
  funext p
  simp
theorem partsOf_eq (turn : Nat) (f : List Nat) (h3 : ∀ x ∈ f, x < 6) (ht : turn = 0 ∨ turn = 1) : partsOf turn f = partsB (shapeOf (lettersOf turn f)) := by
  unfold partsOf
  rw [pieces_toks, ← shape_toks (lettersOf turn f) (cellsOf turn f)]
  have hmem : ∀ x, some x ∈ toksOf (lettersOf turn f) (cellsOf turn f) → ∃ y ∈ f, x = (if 2 < y then hiddenOf turn ++ [65 + y % 3] else [97 + y % 3]) := by
    intro x hx
    obtain ⟨p, hp, hx⟩ := List.mem_flatMap.mp hx
    have hpl : p < f.length := by simpa [lettersOf] using hp
    rcases List.mem_cons.mp hx with e | m
    · injection e with e
      subst e
      refine ⟨f[p], List.getElem_mem hpl, ?_⟩
      simp [cellsOf, List.getD_eq_getElem?_getD, List.getElem?_eq_getElem hpl]
    · simp at m
  have pl1 : ∀ y, plainC (65 + y % 3) := fun y => by unfold plainC; omega
  have pl2 : ∀ y, plainC (97 + y % 3) := fun y => by unfold plainC; omega
  rcases ht with rfl | rfl
  · refine partsGo_eq (C := cell0) (fun t => check0) _ fun x hx => ?_
    obtain ⟨y, hy, rfl⟩ := hmem x hx
    split
    · exact ⟨_, pl1 y, .inr rfl⟩
    · exact ⟨_, pl2 y, .inl rfl⟩
  · refine partsGo_eq (C := cell1) (fun t => check1) _ fun x hx => ?_
    obtain ⟨y, hy, rfl⟩ := hmem x hx
    split
    · exact ⟨_, pl1 y, .inr rfl⟩
    · exact ⟨_, pl2 y, .inl rfl⟩
end Mine
end
section
namespace Mine
noncomputable def lawB (f : List Nat) : Bool := lawW (wordOf f) (lawRuns (wordOf f)) (partsB (shapeOf (lettersOf 0 f))) (partsB (shapeOf (lettersOf 1 f))) (longests 0 f) (longests 1 f) f.length
theorem lawOk_eq (f : List Nat) (h : ∀ x ∈ f, x < 6) : lawOk f = lawB (f.map (· % 3)) := by
  unfold lawOk lawB
  rw [partsOf_eq 0 f h (.inl rfl), partsOf_eq 1 f h (.inr rfl)]
  have e1 : wordOf (f.map (· % 3)) = wordOf f := by simp [wordOf, Function.comp_def]
  have e2 : ∀ t, lettersOf t (f.map (· % 3)) = lettersOf t f := fun t => by simp [lettersOf, Function.comp_def]
  have e3 : ∀ t, longests t (f.map (· % 3)) = longests t f := fun t => by unfold longests; rw [e2, List.length_map]
  rw [e1, e2, e2, e3, e3, List.length_map]
theorem mem_allF (m : Nat) : ∀ (f : List Nat), (∀ x ∈ f, x < m) → f ∈ allF m f.length
  | [], _ => List.mem_singleton.mpr rfl
  | x :: f, h => List.mem_flatMap.mpr ⟨f, mem_allF m f fun y hy => h y (.tail _ hy), List.mem_map.mpr ⟨x, List.mem_range.mpr (h x (List.mem_cons_self ..)), rfl⟩⟩
end Mine
end
section
open PySem PySem.W PySem.Spec PySem.Calls PyProof.Rows
namespace Mine
/-- law's own record, read off the head -/
structure LawRec (P : Params) where
  params : Arguments
  body : List Stmt
  scope : Scope
  pm : Value
  doc : Value
  dV : Value
  kV : Value
  cd : Value
  ct : Value
  an : Option Addr
  od : Option Addr
  osl : Array (Option Value)
  at_ : (hd.heap_39 P).lookup 249 = some ⟨.type "function", od, .func (fnX "law" "law" params body scope [] dV kV doc pm an cd ct), osl⟩
noncomputable def lawRec (P : Params) : LawRec P := ⟨_, _, _, _, _, _, _, _, _, _, _, _, by k_is⟩
noncomputable def lawBody (P : Params) : List Stmt := (lawRec P).body
example (P : Params) : (lawBody P).length = 9 := rfl
/-- the turn's body and the last loop's -/
noncomputable def bodyOfFor : Stmt → List Stmt
  | .For _ _ b _ _ => b
  | _ => []
noncomputable def turnBody (P : Params) : List Stmt := bodyOfFor ((lawBody P).getD 5 (.Pass ⟨0, 0, 0, 0⟩))
noncomputable def tailBody (P : Params) : List Stmt := (lawBody P).drop 6
noncomputable def lawEnv (P : Params) (L : Addr) : Env := envX "law" (lawRec P).scope L 249 (.ref 248) (cellsFrom (L + 1) (lawRec P).scope.names [])
example (P : Params) : (turnBody P).length = 6 := rfl
set_option maxRecDepth 100000 in
example (P : Params) (L : Addr) : (lawEnv P L).cells.lookup (Str.ofString "both") = some (L + 1) := rfl
example (P : Params) (L : Addr) : (lawEnv P L).cells.lookup (Str.ofString "told") = some (L + 6) := rfl
end Mine
end
section
open PySem PySem.W PySem.Spec PySem.Calls PyProof.Rows
namespace Mine
section
variable {prog : Program} {w : World} {A : Around} {E : Value → Shared → Prop} {env : Env} {s : Shared} {pos : Pos}
theorem comp_genU {h₀ : Heap} {Q : Flow → Shared → Prop} {y : Str} {py spos : Pos} {elt target iter : Expr} {ifs : List Expr} {scope : Scope} {cl : List (Str × Addr)} (T : Addr → Led → Prop) (T' : Addr → Value → Led → Prop)
    (hsw : swapsWith (.ListComp elt [⟨target, iter, ifs, 0⟩] scope pos) (some (.Name y py)) spos.line env = pure true) (hy : env.kindOf y = some .local) (hTown : ∀ C own, T C own → ∃ m, own = [(C, oNs m)])
    (hh : A.handled = none) (hclos : closureFor scope env = pure cl)
    (hnames : ∀ y ∈ scope.names, y.2 = .local → scope.names.lookup y.1 = some .local)
    (hT : ∀ C v led, T' C v led → T C led) (hTns : ∀ (C : Addr) (led : Led), T C led → ∃ (i : Nat) (m : Str → Option Value), led[i]? = some (C, oNs m)) (hT0 : ∀ C, T C (newCells (C + 1) scope.names ++ [(C, oNs fun _ => none)]))
    (h : wpAny (model prog w) A (eval iter env) (fun xv s₁ => wpAny (model prog w) A (pyIter xv) (fun it s₂ => Ex11 fun (tst : Nat → Bool) (F : Nat → Value → Prop) (I : Addr) (oI : Obj) (fp : List Addr) (n : Nat) (P : Nat → Value → Prop) (Stt : Nat → Heap → Prop) (led : Led) (ix : Nat) (mm : Str → Option Value) => Al16 (St h₀ s₁.heap led) (led[ix]? = some (env.locals, oNs mm)) (it = .ref I) (Walks prog w A I fp [I] n P Stt) (n ≤ 1000000) (Stt 0 s₂.heap) (Kp s₁.heap s₂.heap) (s₁.heap.get? I = none) (s₂.heap.get? I = some oI) (∀ b ∈ fp, b ≠ I → ∃ o, s₁.heap.get? b = some o) (∀ i h, Stt i h → ∃ o, h.get? I = some o ∧ o.cls = .type "list_iterator") (∀ i v s₃ (Q' : Unit → Shared → Prop) E', P i v → (∃ o, s₃.heap.get? I = some o ∧ o.cls = .type "list_iterator") → Q' () s₃ → wpAny (model prog w) A (letOwnedTupleGo target (.ref I) v) Q' E' s₃) (∀ C i v X Y own s₃ Q' E', P i v → T C own → St s₁.heap s₃.heap (X :: Y :: own) →
        (∀ own' h' k', T' C v own' → St s₁.heap h' (X :: Y :: own') → Q' () { s₃ with heap := h', toks := k' }) → wpAny (model prog w) A (assign target (compEnvD scope cl C env) v) Q' E' s₃) (∀ C i v X Y own s₃ E', i < n → P i v → T' C v own → St s₁.heap s₃.heap (X :: Y :: own) →
        wpAny (model prog w) A (testsOf ifs (compEnvD scope cl C env)) (fun ok s₄ => ok = tst i ∧ Keeps s₃ s₄) E' s₃) (∀ C i v X Y own s₃ E', i < n → tst i = true → P i v → T' C v own → St s₁.heap s₃.heap (X :: Y :: own) →
        wpAny (model prog w) A (eval elt (compEnvD scope cl C env)) (fun y s₄ => F i y ∧ Keeps s₃ s₄) E' s₃) (∀ D h' tk ys, St h₀ h' ((D, oList ys) :: led.set ix (env.locals, oNs fun z => if z = y then some (.ref D) else mm z)) → Paired F ((List.range n).filter tst) ys → Q .next { s₂ with heap := h', toks := tk })) E s₁) E s)
    (hkind : scope.kind = .function := by rfl) (hk : env.scope.kind = .function := by kernel_rfl) (hs : ∀ x, foldedSetIterable iter env x = pure x := by intro _; rfl) :
    wpAny (model prog w) A (exec (.Assign [.Name y py] (.ListComp elt [⟨target, iter, ifs, 0⟩] scope pos) spos) env) Q E s := by
  rw [exec_Assign_Name_used _ _ _ _ hsw]
  refine wpAny_bind (wpAny_standAt (wpAny_bind ?_))
  show wpAny _ A (do let _ ← comprehension (.ListComp elt [⟨target, iter, ifs, 0⟩] scope pos) scope env _ (newList []) false (eval iter env) (some (assign (.Name y py) env))) _ _ s
  refine wpAny_bind (wpAny_mono (wpAny_comprehension_free (use := some (assign (.Name y py) env)) (Q := fun _ s' => Q .next s') rfl hs hclos hkind hnames (wpAny_mono h (fun xv s₁ h₁ => wpAny_mono h₁ (fun it s₂ h₂ => ?_) fun _ _ e => e) fun _ _ e => e)) (fun _ s' hq => wpAny_pure (wpAny_pure hq)) fun _ _ e => e)
  obtain ⟨tst, F, I, oI, fp, n, P, Stt, led, ix, mm, SL, hix, rfl, W, hsz, hst, kp12, hI1, hI2, hfp, hIx, hLet, hasg, htst, helt, hfin⟩ := h₂
  refine wpAny_newObj_type ?_
  simp only [newFunctionEnv, Option.isSome_some, if_true]
  refine wpAny_bind (wpAny_alloc ?_)
  refine wpAny_bind (wpAny_layCells _ (fun name kind cells => by cases hkc : kind == NameKind.cell <;> simp [hkc]) _ _ _ _ ?_)
  refine wpAny_bind ?_
  simp only [List.forIn_nil]
  refine wpAny_pure (wpAny_pure ?_)
  have S2 : St s₁.heap s₂.heap [(I, fun o => o = oI)] := by
    refine ⟨kp12, fun p hp => ?_, fun p hp => ?_, List.pairwise_singleton ..⟩
    · rw [List.mem_singleton.mp hp]; exact ⟨oI, hI2, rfl⟩
    · rw [List.mem_singleton.mp hp]; exact hI1
  have S3 := S2.push (o := { cls := Value.type "list", dict := none, data := Data.seq ([] : List Value).toArray }) (oList []) ⟨0, rfl⟩
  generalize hH2 : s₂.heap.push { cls := Value.type "list", dict := none, data := Data.seq ([] : List Value).toArray } = H2 at S3 ⊢
  have hH2s : H2.objs.size = s₂.heap.objs.size + 1 := by rw [← hH2, Heap.size_push]
  have S4 := S3.push (o := { cls := Value.type "dict", data := Data.dict #[] }) (oNs fun _ => none) ⟨#[], 0, rfl, fun _ he => by simp at he, fun _ => rfl⟩
  have S5 := S4.cells scope.names
  generalize hD : s₂.heap.objs.size = D at S3 S4 S5 ⊢
  simp only [Heap.size_push] at S5 ⊢
  generalize hC : H2.objs.size = C at S4 S5 ⊢
  have S6 : St s₁.heap (pushCells (H2.push { cls := Value.type "dict", data := Data.dict #[] }) scope.names) ((I, fun o => o = oI) :: (D, oList []) :: (newCells (C + 1) scope.names ++ [(C, oNs fun _ => none)])) := by
    refine S5.perm ?_
    have e1 : (newCells (C + 1) scope.names ++ (C, oNs fun _ => none) :: (D, oList []) :: [(I, fun o => o = oI)]).Perm (((newCells (C + 1) scope.names ++ [(C, oNs fun _ => none)]) ++ ((D, oList []) :: [(I, fun o => o = oI)]))) := by simp
    refine e1.trans (List.perm_append_comm.trans ?_)
    exact List.Perm.swap ..
  have hst6 := walks_frm W hfp 0 _ _ oI [] [(D, oList [])] [] _ S2 S6 hst
  have loop : codeAny (model prog w) A (.compLoop (.ListComp elt [⟨target, iter, ifs, 0⟩] scope pos) 0 (.ref I) (.ref D) (compEnvD scope cl C env)) (compPost (model prog w) A E (some (assign (.Name y py) env)) (fun _ s' => Q .next s') (.ref D) C)
      { s₂ with heap := pushCells (H2.push { cls := Value.type "dict", data := Data.dict #[] }) scope.names } := by
    refine comp_loop T T' hT W hsz hfp hIx hLet (hasg C) (htst C) (helt C) hst6 (hT0 C) S6 fun h₂ tk₂ own ys hTo Sa' hp => ?_
    obtain ⟨m, rfl⟩ := hTown C own hTo
    have ST : St h₀ h₂ ((D, oList ys) :: (C, oNs m) :: led) := SL.comp Sa'
    have hix2 : ((D, oList ys) :: (C, oNs m) :: led)[ix + 2]? = some (env.locals, oNs mm) := by simpa using hix
    show wpAny _ A (assign (.Name y py) env (.ref D)) _ _ _
    refine wpAny_assign_Name (wpAny_storeName_local hy (ns_of (ST.getL (ix + 2) hix2)) (fun h₃ hn₃ hs₃ => ?_) (by rw [hk]; rfl))
    have S3 := ST.upd (ix + 2) hix2 hs₃.extBut (of_ns hn₃)
    dsimp only [List.set_cons_succ] at S3
    refine ⟨m, ns_of (S3.getL 1 rfl), fun h₄ hs₄ => ?_⟩
    have S4 : St h₀ h₄ ((D, oList ys) :: led.set ix (env.locals, oNs fun z => if z = y then some (.ref D) else mm z)) := (S3.perm (List.Perm.swap _ _ _)).but hs₄.extBut
    exact hfin D h₄ _ ys S4 hp
  exact codeAny_compStart_list loop (W.self 0 _ _ _ hst6 loop)
end
end Mine
namespace Mine
section
variable {prog : Program} {w : World} {A : Around} {E : Value → Shared → Prop} {env : Env} {s : Shared} {Q : Value → Shared → Prop} {pos : Pos}

end
end Mine
end
section
open PySem PySem.W PySem.Spec PySem.Calls PyProof.Rows
namespace Mine
/-- two lists of like things, each pair of them told apart by Python as by Lean -/
theorem neList {α : Type} [DecidableEq α] {w : World} {A : Around} {E : Value → Shared → Prop} {s : Shared} {Q : Value → Shared → Prop} {R : α → Value → Prop} (hR : ∀ a b v u, R a v → R b u → SeqAt.EqAt A.in1 s v u (decide (a = b)))
    {l b : Addr} {xs ys : List α} {vs us : List Value} (hl : s.heap.IsList l vs.toArray) (hb : s.heap.IsList b us.toArray) (h1 : Paired R xs vs) (h2 : Paired R ys us) (hu : A.units < cLine)
    (h : Q (.bool (decide (xs ≠ ys))) s) : wpAny (model PR w) A (compareOp .NotEq (.ref l) (.ref b)) Q E s := by
  have e1 := paired_len h1
  have e2 := paired_len h2
  have key : ∀ {zs : Bool}, zs = decide (xs ≠ ys) → Q (.bool zs) s := fun e => by rw [e]; exact h
  show wpAny (model PR w) A (richCompare .NotEq (.ref l) (.ref b)) Q E s
  by_cases hlen : xs.length = ys.length
  · refine SeqAt.RcNeAt.lists (e := fun j => decide (xs[j]? = ys[j]?)) hl hb (by simp; omega) hu (fun j h3 h4 => ?_) PR w E Q (key ?_)
    · have h3' : j < vs.length := by simpa using h3
      have h4' : j < us.length := by simpa using h4
      have hx : j < xs.length := by omega
      have hy : j < ys.length := by omega
      obtain ⟨v, hv, rv⟩ := paired_getD h1 (xs[j]) j hx
      obtain ⟨u, hu', ru⟩ := paired_getD h2 (ys[j]) j hy
      have ev : vs.toArray[j] = v := by
        have := (List.getElem?_eq_some_iff.mp hv).2; simpa using this
      have eu : us.toArray[j] = u := by
        have := (List.getElem?_eq_some_iff.mp hu').2; simpa using this
      rw [ev, eu]
      have := hR _ _ _ _ rv ru
      rw [List.getD_eq_getElem?_getD, List.getElem?_eq_getElem hx, List.getD_eq_getElem?_getD, List.getElem?_eq_getElem hy] at this
      rw [List.getElem?_eq_getElem hx, List.getElem?_eq_getElem hy]
      simpa using this
    · by_cases hq : xs = ys
      · subst hq
        rw [decide_eq_false (fun h => h rfl)]
        simp
      · rw [decide_eq_true hq]
        have : ¬ ((List.range vs.toArray.size).all fun j => decide (xs[j]? = ys[j]?)) = true := by
          intro hall
          refine hq (List.ext_getElem? fun j => ?_)
          by_cases hj : j < vs.toArray.size
          · have := List.all_eq_true.mp hall j (List.mem_range.mpr hj)
            simpa using this
          · have hj' : vs.length ≤ j := by simpa using hj
            rw [List.getElem?_eq_none (by omega), List.getElem?_eq_none (by omega)]
        simp only [Bool.not_eq_true] at this
        rw [this]; rfl
  · refine SeqAt.RcNeAt.lists_lengths hl hb (by simp; omega) hu PR w E Q (key ?_)
    exact (decide_eq_true (p := xs ≠ ys) fun q => hlen (by rw [q])).symm
theorem neInts {w : World} {A : Around} {E : Value → Shared → Prop} {s : Shared} {Q : Value → Shared → Prop} {l b : Addr} {xs ys : List Nat} {vs us : List Value} (hl : s.heap.IsList l vs.toArray) (hb : s.heap.IsList b us.toArray) (h1 : Paired IsI xs vs) (h2 : Paired IsI ys us) (hu : A.units < cLine)
    (h : Q (.bool (decide (xs ≠ ys))) s) : wpAny (model PR w) A (compareOp .NotEq (.ref l) (.ref b)) Q E s := by
  refine neList (R := IsI) (fun a b v u ⟨t, e⟩ ⟨t', e'⟩ => ?_) hl hb h1 h2 hu h
  subst e e'
  have := SeqAt.EqAt.int_int (A := A.in1) (s := s) (a : Int) t (b : Int) t'
  have e2 : ((a : Int) == (b : Int)) = decide (a = b) := by
    by_cases q : a = b
    · subst q; simp
    · rw [decide_eq_false q, beq_eq_false_iff_ne.mpr (fun z => q (by omega))]
  rw [e2] at this; exact this
theorem neStrs {w : World} {A : Around} {E : Value → Shared → Prop} {s : Shared} {Q : Value → Shared → Prop} {l b : Addr} {xs ys : List (List Nat)} {vs us : List Value} (hl : s.heap.IsList l vs.toArray) (hb : s.heap.IsList b us.toArray) (h1 : Paired IsS xs vs) (h2 : Paired IsS ys us) (hu : A.units < cLine)
    (h : Q (.bool (decide (xs ≠ ys))) s) : wpAny (model PR w) A (compareOp .NotEq (.ref l) (.ref b)) Q E s := by
  refine neList (R := IsS) (fun a b v u ⟨t, e⟩ ⟨t', e'⟩ => ?_) hl hb h1 h2 hu h
  subst e e'
  have := SeqAt.EqAt.str_str (A := A.in1) (s := s) (mkS a) t (mkS b) t'
  rw [mkS_beq] at this; exact this
end Mine
end
section
open PySem PySem.W PySem.Spec PySem.Calls PyProof.Rows
namespace Mine
theorem digit_str : ∀ b : Nat, b < 10 → Str.ofString (toString (b : Int)) = mkS [48 + b] := by decide
section
variable {w : World} {A : Around} {E : Value → Shared → Prop} {s : Shared} {Q : Value → Shared → Prop}
/-- str of one digit -/
theorem strI {b : Nat} {t : Tok} (hb : b < 10) (h : ∀ t' k, Q (.str (mkS [48 + b]) t') { s with toks := k }) : wpAny (model PR w) A (call (.type "str") [.int (b : Nat) t]) Q E s := by
  refine PySem.P.str_of_int ?_ ?_
  · have : ((b : Int).natAbs).log2 ≤ (b : Int).natAbs := Nat.log2_le_self _
    omega
  · have e := digit_str b hb
    rw [show ((toString (b : Int) : String) : Str) = mkS [48 + b] from e]
    exact h _ _
theorem modI {a : Int} {b : Nat} {t u : Tok} (hb : b = 3 ∨ b = 6) (h : ∀ t' k, Q (.int ((a % (b : Int)).toNat : Nat) t') { s with toks := k }) : wpAny (model PR w) A (binaryOp .Mod (.int a t) (.int (b : Nat) u)) Q E s := by
  refine PyProof.Rows.mod_int (by omega) ?_
  have e : a.fmod (b : Int) = (((a % (b : Int)).toNat : Nat) : Int) := by
    rw [Int.fmod_eq_emod_of_nonneg _ (by omega)]
    have : 0 ≤ a % (b : Int) := Int.emod_nonneg _ (by omega)
    omega
  rw [e]; exact h _ _
end
end Mine
end
section
open PySem PySem.W PySem.Spec PySem.Calls PyProof.Rows
namespace Mine
section
variable {w : World} {A : Around} {E : Value → Shared → Prop} {env : Env} {s : Shared} {pos : Pos}
theorem let_tuple {elts : List Expr} {kt : Nat} {tp : Pos} : ∀ (I : Addr) (v : Value) (s₃ : Shared) (Q' : Unit → Shared → Prop) (E' : Value → Shared → Prop), (∃ a, v = .ref a) ∨ (∀ v', letOwnedTupleGo (.Tuple elts kt tp) (.ref I) v' = pure ()) → (∃ o, s₃.heap.get? I = some o ∧ o.cls = .type "list_iterator") → Q' () s₃ → wpAny (model PR w) A (letOwnedTupleGo (.Tuple elts kt tp) (.ref I) v) Q' E' s₃ := by
  rintro I v s₃ Q' E' (⟨a, rfl⟩ | h) ⟨o, e, hc⟩ hq
  · exact letGo e hc (by decide) hq
  · rw [h]; exact wpAny_pure hq
theorem let_name {x : Str} {px : Pos} : ∀ (I : Addr) (v : Value) (s₃ : Shared) (Q' : Unit → Shared → Prop) (E' : Value → Shared → Prop), (∃ a, v = .ref a) ∨ (∀ v', letOwnedTupleGo (.Name x px) (.ref I) v' = pure ()) → (∃ o, s₃.heap.get? I = some o ∧ o.cls = .type "list_iterator") → Q' () s₃ → wpAny (model PR w) A (letOwnedTupleGo (.Name x px) (.ref I) v) Q' E' s₃ := by
  intro I v s₃ Q' E' _ _ hq
  exact wpAny_pure hq
/-- name = [ .. for target in a list ] -/
theorem comp_listU {h₀ : Heap} {Qs : Flow → Shared → Prop} {y : Str} {py spos : Pos} {elt target iter : Expr} {ifs : List Expr} {scope : Scope} {cl : List (Str × Addr)} (Bd : Value → (Str → Option Value) → Prop) (tst : Value → Bool) (F : Value → Value → Prop)
    (hsw : swapsWith (.ListComp elt [⟨target, iter, ifs, 0⟩] scope pos) (some (.Name y py)) spos.line env = pure true) (hy : env.kindOf y = some .local)
    (hlet : ∀ (I : Addr) (v : Value) (s₃ : Shared) (Q' : Unit → Shared → Prop) E', (∃ a, v = .ref a) ∨ (∀ v', letOwnedTupleGo target (.ref I) v' = pure ()) → (∃ o, s₃.heap.get? I = some o ∧ o.cls = .type "list_iterator") → Q' () s₃ → wpAny (model PR w) A (letOwnedTupleGo target (.ref I) v) Q' E' s₃)
    (hh : A.handled = none) (hclos : closureFor scope env = pure cl) (hnames : ∀ y ∈ scope.names, y.2 = .local → scope.names.lookup y.1 = some .local) (hcells : ∀ n, newCells n scope.names = [])
    (h : wpAny (model PR w) A (eval iter env) (fun xv s₁ => Ex5 fun (ax : Addr) (its : List Value) (led : Led) (ix : Nat) (mm : Str → Option Value) => Al10 (St h₀ s₁.heap led) (led[ix]? = some (env.locals, oNs mm)) (xv = .ref ax) (s₁.heap.IsList ax its.toArray) (its.length ≤ 1000000) (∀ I, ∀ v ∈ its, (∃ a, v = .ref a) ∨ (∀ v', letOwnedTupleGo target (.ref I) v' = pure ())) (∀ C v m X Y s₃ (Q' : Unit → Shared → Prop) E', v ∈ its → St s₁.heap s₃.heap [X, Y, (C, oNs m)] → (∀ m' h' k', Bd v m' → St s₁.heap h' [X, Y, (C, oNs m')] → Q' () { s₃ with heap := h', toks := k' }) →
        wpAny (model PR w) A (assign target (compEnvD scope cl C env) v) Q' E' s₃) (∀ C v m s₃ E', v ∈ its → Bd v m → s₃.heap.Ns C m → Kp s₁.heap s₃.heap → wpAny (model PR w) A (testsOf ifs (compEnvD scope cl C env)) (fun ok s₄ => ok = tst v ∧ Keeps s₃ s₄) E' s₃) (∀ C v m s₃ E', v ∈ its → tst v = true → Bd v m → s₃.heap.Ns C m → Kp s₁.heap s₃.heap → wpAny (model PR w) A (eval elt (compEnvD scope cl C env)) (fun y s₄ => F v y ∧ Keeps s₃ s₄) E' s₃) (∀ D h' tk ys, St h₀ h' ((D, oList ys) :: led.set ix (env.locals, oNs fun z => if z = y then some (.ref D) else mm z)) → Paired F (its.filter tst) ys → Qs .next { s₁ with heap := h', toks := tk })) E s)
    (hkind : scope.kind = .function := by rfl) (hk : env.scope.kind = .function := by kernel_rfl) (hs : ∀ x, foldedSetIterable iter env x = pure x := by intro _; rfl) :
    wpAny (model PR w) A (exec (.Assign [.Name y py] (.ListComp elt [⟨target, iter, ifs, 0⟩] scope pos) spos) env) Qs E s := by
  refine comp_genU (h₀ := h₀) (fun C own => ∃ m, own = [(C, oNs m)]) (fun C v own => ∃ m, own = [(C, oNs m)] ∧ Bd v m) hsw hy (fun _ _ h => h) hh hclos hnames ?_ ?_ ?_ (wpAny_mono h (fun xv s₁ h₁ => ?_) fun _ _ e => e) hkind hk hs
  · rintro C v led ⟨m, rfl, _⟩; exact ⟨m, rfl⟩
  · rintro C led ⟨m, rfl⟩; exact ⟨0, m, rfl⟩
  · intro C; rw [hcells]; exact ⟨_, rfl⟩
  obtain ⟨ax, its, led, ix, mm, SL, hix, rfl, hl, hsz, href, hasg, ht, he, hq⟩ := h₁
  have hax : ax < s₁.heap.objs.size := by obtain ⟨_, e, _⟩ := hl; exact Heap.lt_size e
  refine wpAny_pyIter_list hl ?_
  have inn : ∀ (i : Nat) v, its.toArray[i]? = some v → v ∈ its := fun i v e => List.mem_of_getElem? (i := i) (by rw [List.getElem?_toArray] at e; exact e)
  have ing : ∀ (i : Nat) v, its.toArray[i]? = some v → its.getD i .none = v := fun i v e => by rw [List.getElem?_toArray] at e; rw [List.getD_eq_getElem?_getD, e]; rfl
  have hW := Walks.list (prog := PR) (w := w) hh s₁.heap.objs.size ax (Nat.ne_of_lt hax) its.toArray
  rw [List.size_toArray] at hW
  refine ⟨fun i => tst (its.getD i .none), fun i y => F (its.getD i .none) y, s₁.heap.objs.size, _, _, its.length, _, _, led, ix, mm, SL, hix, rfl, hW, hsz, ⟨⟨_, Heap.get?_push_size _ rfl, rfl, rfl⟩, hl.push _⟩, Kp.push _ _, Heap.get?_none_of_le (Nat.le_refl _), Heap.get?_push_size _ rfl, ?_, ?_, ?_, ?_, ?_, ?_, ?_⟩
  · intro b hb hne
    simp only [List.mem_cons, List.not_mem_nil, or_false] at hb
    rcases hb with rfl | rfl
    · exact absurd rfl hne
    · obtain ⟨o, e, _⟩ := hl; exact ⟨o, e⟩
  · rintro i h ⟨⟨o, e, hc, _⟩, _⟩; exact ⟨o, e, hc⟩
  · rintro i v s₃ Q' E' hP ⟨o, e, hc⟩ hq'
    exact hlet _ v s₃ Q' E' (href _ v (inn i v hP)) ⟨o, e, hc⟩ hq'
  · rintro C i v X Y own s₃ Q' E' hP ⟨m, rfl⟩ S₃ hQ'
    exact hasg C v m X Y s₃ Q' E' (inn i v hP) S₃ fun m' h' k' hb S' => hQ' _ _ _ ⟨m', rfl, hb⟩ S'
  · rintro C i v X Y own s₃ E' hi hP ⟨m, rfl, hb⟩ S₃
    simp only [ing i v hP]
    exact ht C v m s₃ E' (inn i v hP) hb (ns_of (S₃.getL 2 rfl)) S₃.keep
  · rintro C i v X Y own s₃ E' hi hti hP ⟨m, rfl, hb⟩ S₃
    simp only [ing i v hP] at hti ⊢
    exact he C v m s₃ E' (inn i v hP) hti hb (ns_of (S₃.getL 2 rfl)) S₃.keep
  · intro D h' tk ys SD hp
    refine hq D h' tk ys SD ?_
    have e1 := filter_map_v (fun i => its.getD i .none) tst (List.range its.length)
    rw [range_getD] at e1
    rw [← e1]
    exact paired_map (f := fun i => its.getD i Value.none) (fun a b x => x) hp
end
end Mine
end
section
open PySem PySem.W PySem.Spec PySem.Calls PyProof.Rows
namespace Mine
noncomputable def namesOf (turn : Nat) : List Nat := if turn = 0 then [97, 98, 99, 100, 101, 102] else [65, 66, 67, 68, 69, 70]
noncomputable def orderOf (turn : Nat) : List Nat := if turn = 0 then [97, 98, 99] else [99, 98, 97]
noncomputable abbrev ownT (L : Addr) (m : Str → Option Value) (pl le : Option Value) (hid ord : Value) (Bo : Addr) (tld : Option Value) (bs : List Value) (D : Addr) (tl : List (Addr × Nat × List Nat)) (rest : Led) : Led :=
  (L, oNs m) :: (L + 6, oCell tld) :: (L + 5, oCell pl) :: (L + 4, oCell le) :: (L + 3, oCell (some hid)) :: (L + 2, oCell (some ord)) :: (L + 1, oCell (some (.ref Bo))) :: (Bo, oList bs) :: (D, oList (entRefs tl)) :: (entLed tl ++ rest)
theorem order_at (turn x : Nat) (ht : turn = 0 ∨ turn = 1) : (orderOf turn)[x % 3]? = some (if turn = 0 then 97 + x % 3 else 99 - x % 3) := by
  have h : x % 3 = 0 ∨ x % 3 = 1 ∨ x % 3 = 2 := by omega
  rcases ht with rfl | rfl <;> rcases h with h | h | h <;> rw [h] <;> rfl
theorem abc_at (b x : Nat) (hb : b = 65 ∨ b = 97) : ([b, b + 1, b + 2] : List Nat)[x % 3]? = some (b + x % 3) := by
  have h : x % 3 = 0 ∨ x % 3 = 1 ∨ x % 3 = 2 := by omega
  rcases h with h | h | h <;> rw [h] <;> rfl
theorem flatten_single (l : List Nat) (g : Nat → Nat) : (l.map fun x => [g x]).flatten = l.map g := by
  induction l with
  | nil => rfl
  | cons a l ih => simp [ih]
set_option maxRecDepth 100000 in
set_option maxHeartbeats 8000000 in
theorem sp_turnA {w : World} {A : Around} {E : Value → Shared → Prop} {s : Shared} {Q : Flow → Shared → Prop} {hb : Heap} {rest : Led} (turn : Nat) (ht : turn = 0 ∨ turn = 1) (f : List Nat) (hf : ∀ x ∈ f, x < 6) (hfl : f.length = 5 ∨ f.length = 6)
    (L Bo D x Fg : Addr) (fs : List Value) (m : Str → Option Value) (pl le tld : Option Value) (bs : List Value) (tl : List (Addr × Nat × List Nat)) (tn to th tw : Tok) (rv : Value) (er : m (Str.ofString "runs") = some rv)
    (hFg : ∃ o, hb.get? Fg = some o ∧ oList fs o) (hfs : Paired IsI f fs) (I : hb.Inst x 206 (mH D)) (htl : ∀ p ∈ tl, p.2.1 ∈ n12) (htn : tl.length ≤ 100) (hbs : bs.length ≤ 10)
    (e1 : m (Str.ofString "figures") = some (.ref Fg)) (e2 : m (Str.ofString "word") = some (.str (mkS (wordOf f)) tw)) (e3 : m (Str.ofString "table") = some (.ref x)) (e4 : m (Str.ofString "names") = some (.str (mkS (namesOf turn)) tn))
    (T : TS hb s.heap (ownT L m pl le (.str (mkS (hiddenOf turn)) th) (.str (mkS (orderOf turn)) to) Bo tld bs D tl rest)) (hbare : AllBare s.gens) (r : Room A 300 3000) (B : Bs w hb)
    (hq : ∀ h' k' m' t' Cc ycs, TS hb h' ((Cc, oList ycs) :: ownT L m' pl (some (.str (mkS (lettersOf turn f)) t')) (.str (mkS (hiddenOf turn)) th) (.str (mkS (orderOf turn)) to) Bo tld bs D tl rest) → Paired IsS (cellsOf turn f) ycs →
      m' (Str.ofString "figures") = some (.ref Fg) → m' (Str.ofString "word") = some (.str (mkS (wordOf f)) tw) → m' (Str.ofString "table") = some (.ref x) → m' (Str.ofString "names") = some (.str (mkS (namesOf turn)) tn) → m' (Str.ofString "cells") = some (.ref Cc) → m' (Str.ofString "runs") = some rv →
      wpAny (model PR w) A (execs ((turnBody w.params).drop 2) (lawEnv w.params L)) Q E ⟨h', s.gens, s.drawn, k', s.os⟩) :
    wpAny (model PR w) A (execs (turnBody w.params) (lawEnv w.params L)) Q E s := by
  obtain ⟨ps1, ps2, tls, S, ok1, ok2⟩ := T
  dsimp only [turnBody, bodyOfFor, lawBody, lawRec, lawEnv, List.getD_cons_succ, List.getD_cons_zero, List.getD, List.getElem?_cons_succ, List.getElem?_cons_zero, Option.getD]
  have hfl' : f.length ≤ 6 := by omega
  have hfsl := paired_len hfs
  refine wpAny_execs_cons (wpAny_Assign_Name ?_)
  refine mthS (name := Str.ofString "join") F.slot_str_join F.type_str_join (cS [] rfl fun t3 k3 => ⟨_, _, rfl, wpAny_items_cons ?_⟩)
  refine comp_list (cl := [(Str.ofString "order", L + 2)]) (fun _ => true) (fun v y => ∀ a, IsI a v → IsS [if turn = 0 then 97 + a % 3 else 99 - a % 3] y) r.hh rfl (by decide) (by decide) rfl ?_
  refine nmL (ns_of (S.getL 0 rfl)) e1 ⟨Fg, fs, rfl, list_of (atE S.keep hFg), by omega, ?_, ?_, ?_⟩
  · intro C v s₃ m₃ E' _ _ _ _
    exact wpAny_tests_nil ⟨rfl, _, _, rfl, fun _ _ e => e⟩
  · intro C v s₃ m₃ E' hv _ hns hm hk
    obtain ⟨a, ha, tv, rfl⟩ := paired_left hfs v hv
    refine subS (nmC (c := L + 2) ((cell_of (S.getL 5 rfl)).keeps hk) (wpAny_BinOp (nmL hns hm (wpAny_Constant_int ?_) rfl rfl)))
    refine modI (b := 3) (.inl rfl) fun t5 k5 => ⟨orderOf turn, to, _, t5, if turn = 0 then 97 + a % 3 else 99 - a % 3, rfl, rfl, by omega, by omega, ?_, fun t6 k6 => ⟨fun a' ha' => ?_, _, _, rfl, fun _ _ e => e⟩⟩
    · rw [Int.toNat_natCast, show ((a : Int) % ((3 : Nat) : Int)).toNat = a % 3 by omega]
      exact order_at turn a ht
    · rw [IsI.inj ha' ⟨tv, rfl⟩]; exact ⟨t6, rfl⟩
  intro D1 h7 k7 ys kp7 hn7 hl7 hp7
  rw [List.filter_eq_self.mpr (fun _ _ => rfl)] at hp7
  have hletters : Paired IsS (f.map fun x => [if turn = 0 then 97 + x % 3 else 99 - x % 3]) ys :=
    paired_map (f := fun x => [if turn = 0 then 97 + x % 3 else 99 - x % 3]) (fun a b h => h) (paired_comp (H := fun (a : Nat) y => IsS [if turn = 0 then 97 + a % 3 else 99 - a % 3] y) (fun a b c hab hbc => hbc a hab) hfs hp7)
  refine wpAny_items_nil (joinS (list_of hl7) hletters (by rw [List.length_map]; omega) (fun z hz => ?_) fun t8 k8 => ?_)
  · obtain ⟨q, _, rfl⟩ := List.mem_map.mp hz
    simp
  rw [flatten_single]
  refine asgC (S.ext kp7) 3 rfl (c := L + 4) fun h9 S9 => ?_
  dsimp only [List.set, List.cons_append] at S9
  have hlet : (f.map fun x => if turn = 0 then 97 + x % 3 else 99 - x % 3) = lettersOf turn f := rfl
  rw [hlet] at S9
  clear S hletters hp7 hl7
  refine nrm h9 s.gens s.drawn _ s.os ?_
  refine wpAny_execs_cons (comp_listU (h₀ := hb) (cl := [(Str.ofString "hidden", L + 3)]) (fun v m => m (Str.ofString "x") = some v) (fun _ => true) (fun v y => ∀ a, IsI a v → IsS (if 2 < a then hiddenOf turn ++ [65 + a % 3] else [97 + a % 3]) y) rfl rfl let_name r.hh rfl (by decide) (fun n => rfl) ?_)
  refine nmL (ns_of (S9.getL 0 rfl)) e1 ⟨Fg, fs, _, 0, _, S9, rfl, rfl, list_of (atE S9.keep hFg), by omega, fun I v _ => .inr fun _ => rfl, ?_, ?_, ?_, ?_⟩
  · intro C v m X Y s₃ Q' E' hv S3 hq'
    refine wpAny_assign_Name (asg S3 2 rfl (fun h' k' S' => hq' _ h' k' (if_pos rfl) S') rfl rfl)
  · intro C v m s₃ E' _ _ _ _
    exact wpAny_tests_nil ⟨rfl, _, _, rfl, fun _ _ e => e⟩
  · intro C v m s₃ E' hv _ hm hns hk
    obtain ⟨a, ha, tv, rfl⟩ := paired_left hfs v hv
    have hh3 : s₃.heap.IsCell (L + 3) (some (.str (mkS (hiddenOf turn)) th)) := (cell_of (S9.getL 4 rfl)).keeps hk
    refine wpAny_IfExp (wpAny_isTrue_Compare1 (nmL hns hm (wpAny_Constant_int (gt_int (wpAny_truthy_bool ?_))) rfl rfl))
    by_cases h2 : 2 < a
    · rw [if_pos (decide_eq_true (by omega))]
      refine wpAny_BinOp (nmC (c := L + 3) hh3 (subS (cS [65, 66, 67] rfl fun t5 k5 => wpAny_BinOp (nmL hns hm (wpAny_Constant_int ?_) rfl rfl))))
      refine modI (b := 3) (.inl rfl) fun t6 k6 => ⟨[65, 66, 67], t5, _, t6, 65 + a % 3, rfl, rfl, by omega, by omega, ?_, fun t7 k7 => addS (by rcases ht with rfl | rfl <;> simp [hiddenOf]) fun t8 k8 => ⟨fun a' ha' => ?_, _, _, rfl, fun _ _ e => e⟩⟩
      · rw [Int.toNat_natCast, show ((a : Int) % ((3 : Nat) : Int)).toNat = a % 3 by omega]
        exact abc_at 65 a (.inl rfl)
      · rw [IsI.inj ha' ⟨tv, rfl⟩, if_pos h2]; exact ⟨t8, rfl⟩
    · rw [if_neg (by simp; omega)]
      refine subS (cS [97, 98, 99] rfl fun t5 k5 => wpAny_BinOp (nmL hns hm (wpAny_Constant_int ?_) rfl rfl))
      refine modI (b := 3) (.inl rfl) fun t6 k6 => ⟨[97, 98, 99], t5, _, t6, 97 + a % 3, rfl, rfl, by omega, by omega, ?_, fun t7 k7 => ⟨fun a' ha' => ?_, _, _, rfl, fun _ _ e => e⟩⟩
      · rw [Int.toNat_natCast, show ((a : Int) % ((3 : Nat) : Int)).toNat = a % 3 by omega]
        exact abc_at 97 a (.inr rfl)
      · rw [IsI.inj ha' ⟨tv, rfl⟩, if_neg h2]; exact ⟨t7, rfl⟩
  intro Cc h10 k10 ycs S10 hp10
  dsimp only [List.set, List.cons_append] at S10
  rw [List.filter_eq_self.mpr (fun _ _ => rfl)] at hp10
  have hcells : Paired IsS (cellsOf turn f) ycs := by
    have := paired_comp (H := fun (a : Nat) y => IsS (if 2 < a then hiddenOf turn ++ [65 + a % 3] else [97 + a % 3]) y) (fun a b c hab hbc => hbc a hab) hfs hp10
    exact paired_map (f := fun x => if 2 < x then hiddenOf turn ++ [65 + x % 3] else [97 + x % 3]) (fun a b h => h) this
  exact hq h10 k10 _ _ Cc ycs ⟨ps1, ps2, tls, S10, ok1, ok2⟩ hcells (by walk_at "lk") (by walk_at "lk") (by walk_at "lk") (by walk_at "lk") (by walk_at "lk") (by walk_at "lk")
end Mine
end
section
open PySem PySem.W PySem.Spec PySem.Calls PyProof.Rows
namespace Mine
set_option maxRecDepth 100000 in
set_option maxHeartbeats 4000000 in
theorem sp_longest {w : World} {A : Around} {R : Result → Shared → Prop} {s : Shared} (l : List Nat) (p : Nat) (tx tp : Tok) (hx : l.length ≤ 100) (hp : p < l.length) (r : Room A 10 100) (B : Bs w s.heap)
  (hret : ∀ t h' tk', Kp s.heap h' → R (.ok (.ret (.int (longestOf l p : Nat) t))) { s with heap := h', toks := tk' }) :
  codeAny (model PR w) A (.call (.ref 234) ⟨[.str (mkS l) tx, .int (p : Nat) tp], []⟩) R s := by
  refine enterC (d := 9) (u := 97) (binds := [(Str.ofString "letters", .str (mkS l) tx), (Str.ofString "place", .int (p : Nat) tp)]) r B (by k_is) (by k_is) (fun Q E h => wpAny_pure h) ?_ (by decide) ?_
  · intro y hy; simp at hy
    rcases hy with rfl | rfl <;> (right; exact ⟨rfl, rfl⟩)
  intro L h₁ tk A S0 r
  have S : St s.heap h₁ [(L, oNs fun _ => none), (L + 2, oCell (some (.int (p : Nat) tp))), (L + 1, oCell (some (.str (mkS l) tx)))] := S0
  clear S0
  have Sl : h₁.IsCell (L + 1) (some (.str (mkS l) tx)) := cell_of (S.getL 2 rfl)
  have Sp : h₁.IsCell (L + 2) (some (.int (p : Nat) tp)) := cell_of (S.getL 1 rfl)
  refine wpAny_execs_cons (wpAny_Return_some (wpAny_Call_NameR (nmB (v := .builtin "max") (B.ext S.keep) (by k_is) bb_max ?_)))
  refine PyProof.Rows.callWith_builtin1 (wpAny_items_cons ?_)
  refine comp_rangeC (cl := [(Str.ofString "place", L + 2), (Str.ofString "letters", L + 1)]) r.hh rfl (by decide) (fun n => rfl) rfl (fun n => rfl) ?_
  refine wpAny_Call_NameR (nmB (v := .type "range") (B.ext S.keep) (by k_is) bb_range (PyProof.Rows.callWith_type1 (wpAny_items_cons (wpAny_BinOp (nmC (c := L + 2) Sp (wpAny_Constant_int (add_int (wpAny_items_cons (wpAny_BinOp ?_)))))))))
  refine wpAny_Call_NameR (nmB (v := .builtin "len") (B.ext S.keep) (by k_is) bb_len (PyProof.Rows.callWith_builtin1 (wpAny_items_cons (nmC (c := L + 1) Sl (wpAny_items_nil ?_)))))
  refine lenS (by omega) fun t2 k2 => wpAny_Constant_int (add_int (wpAny_items_nil (mkRange2 (by omega) (by omega) (by omega) (by omega) fun rr h3 k3 kp3 _ RA => ?_)))
  have hn : (((l.length : Int) + 1) - ((p : Int) + 1)).toNat = l.length + 1 - (p + 1) := by omega
  rw [hn] at RA
  refine ⟨_, _, (fun i => decide (innerOf l p (p + 1 + i) = [])), (fun i => IsI (i + 1)), RA, by omega, ?_, ?_, ?_⟩
  · intro C i t s₃ E' hi hc hk
    have Sl3 := Sl.keeps (kp3.trans hk)
    have Sp3 := Sp.keeps (kp3.trans hk)
    have B3 : Bs w s₃.heap := B.ext ((S.keep.trans kp3).trans hk)
    have ec : ((p : Int) + 1) + (i : Int) = ((p + 1 + i : Nat) : Int) := by omega
    rw [ec] at hc
    refine wpAny_tests_one (wpAny_isTrue_Compare1 ?_)
    refine comp_range (cl := [(Str.ofString "place", L + 2), (Str.ofString "letters", L + 1), (Str.ofString "close", C + 1)]) (fun j => !decide (sl l p (p + 1 + i) < sl l (p + 1 + j) (p + 1 + i))) (fun j => IsI (p + 1 + j)) r.hh rfl (by decide) (by decide) rfl ?_
    refine wpAny_Call_NameR (nmB (v := .type "range") B3 (by k_is) bb_range (PyProof.Rows.callWith_type1 (wpAny_items_cons (wpAny_BinOp (nmC (c := L + 2) Sp3 (wpAny_Constant_int (add_int (wpAny_items_cons (nmC (c := C + 1) hc (wpAny_items_nil ?_))))))))))
    refine mkRange2 (by omega) (by omega) (by omega) (by omega) fun rr h5 k5 kp5 _ RA5 => ?_
    have hn5 : (((p + 1 + i : Nat) : Int) - ((p : Int) + 1)).toNat = p + 1 + i - (p + 1) := by omega
    rw [hn5] at RA5
    refine ⟨_, _, RA5, ?_, ?_, ?_⟩
    · intro C2 j t6 s₆ m₆ E6 hj hns hm hk6
      have Sl6 := Sl3.keeps (kp5.trans hk6)
      have Sp6 := Sp3.keeps (kp5.trans hk6)
      have hc6 := hc.keeps (kp5.trans hk6)
      refine wpAny_tests_one (wpAny_isTrue_Compare1 ?_)
      refine slS (nmC (c := L + 1) Sl6 (wpAny_evalPart_some (nmL hns hm (wpAny_evalPart_some (nmC (c := C + 1) hc6 ?_)))))
      refine ⟨l, _, some _, some _, rfl, rfl, rfl, nonneg_some (by omega), nonneg_some (by omega), by omega, fun h7 t7 k7 kp7 => ?_⟩
      refine slS (nmC (c := L + 1) (Sl6.keeps kp7) (wpAny_evalPart_some (nmC (c := L + 2) (Sp6.keeps kp7) (wpAny_evalPart_some (nmC (c := C + 1) (hc6.keeps kp7) ?_)))))
      refine ⟨l, _, some _, some _, rfl, rfl, rfl, nonneg_some (by omega), nonneg_some (by omega), by omega, fun h8 t8 k8 kp8 => ?_⟩
      refine P.le_str (wpAny_truthy_bool ⟨?_, h8, _, rfl, kp7.trans kp8⟩)
      simp only [mkS_cps, loN, hiN, Int.toNat_natCast]
      rw [show ((p : Int) + 1 + (j : Int)).toNat = p + 1 + j by omega]
    · intro C2 j t6 s₆ m₆ E6 hj _ hns hm hk6
      exact nmL hns hm ⟨⟨_, congrArg (Value.int · _) (show ((p : Int) + 1 + (j : Int)) = ((p + 1 + j : Nat) : Int) by omega)⟩, _, _, rfl, fun _ _ e => e⟩
    · intro D h6 k6 ys kp6 _ hl6 hpy
      refine lstD (wpAny_items_nil ⟨by simp, fun D2 h7 kp7 _ hl7 => ?_⟩)
      have hpy' : Paired IsI (innerOf l p (p + 1 + i)) ys := by
        unfold innerOf
        exact paired_map (F := fun j => IsI (p + 1 + j)) (G := IsI) (f := fun j => p + 1 + j) (fun _ _ x => x) hpy
      have hlen := paired_len hpy'
      have fin : ∀ b, b = decide (innerOf l p (p + 1 + i) = []) → wpAny (model PR w) A (truthy (.bool b)) (fun ok s₄ => ok = decide (innerOf l p (p + 1 + i) = []) ∧ Keeps s₃ s₄) E' { s₃ with heap := h7, toks := k6 } :=
        fun b e => wpAny_truthy_bool ⟨e, h7, k6, rfl, (kp5.trans kp6).trans kp7⟩
      by_cases hi0 : innerOf l p (p + 1 + i) = []
      · rw [hi0] at hlen
        have hy : ys = [] := List.length_eq_zero_iff.mp hlen.symm
        subst hy
        refine SeqAt.eq_listAt (e := fun _ => true) (list_of (atE kp7 hl6)) (list_of hl7) rfl (by have := r.hu; omega) (fun j h1 => by simp at h1) ?_
        exact fin _ (decide_eq_true hi0).symm
      · refine SeqAt.eq_list_lengthsAt (list_of (atE kp7 hl6)) (list_of hl7) ?_ (by have := r.hu; omega) ?_
        · simp only [List.size_toArray, List.length_nil, bne_iff_ne, ne_eq]
          rw [← hlen]
          exact fun e => hi0 (List.length_eq_zero_iff.mp e)
        · exact fin _ (decide_eq_false hi0).symm
  · intro C i t s₃ E' hi _ hc hk
    have ec : ((p : Int) + 1) + (i : Int) = ((p + 1 + i : Nat) : Int) := by omega
    rw [ec] at hc
    exact wpAny_BinOp (nmC (c := C + 1) hc (nmC (c := L + 2) (Sp.keeps (kp3.trans hk)) (sub_int ⟨⟨_, congrArg (Value.int · _) (show ((p + 1 + i : Nat) : Int) - (p : Int) = ((i + 1 : Nat) : Int) by omega)⟩, _, _, rfl, fun _ _ e => e⟩)))
  · intro D h4 k4 ys kp4 _ hl4 hpy
    refine wpAny_items_nil (maxN r.hh (ns := lengthsOf l p) (list_of hl4) ?_ (lengthsOf_ne l p hp) ?_)
    · unfold lengthsOf
      exact paired_map (F := fun i => IsI (i + 1)) (G := IsI) (f := fun i => i + 1) (fun _ _ x => x) hpy
    · intro M h9 k9 t9 hM hmax kp9
      rw [greatestOf_eq hM hmax]
      exact hret t9 h9 k9 (((S.keep.trans kp3).trans kp4).trans kp9)
end Mine
end
section
open PySem PySem.W PySem.Spec PySem.Calls PyProof.Rows
namespace Mine
theorem lettersOf_len (turn : Nat) (f : List Nat) : (lettersOf turn f).length = f.length := by simp [lettersOf]
theorem cellsOf_len (turn : Nat) (f : List Nat) : (cellsOf turn f).length = f.length := by simp [cellsOf]
theorem cell_small (turn : Nat) (ht : turn = 0 ∨ turn = 1) (f : List Nat) : ∀ c ∈ cellsOf turn f, c.length ≤ 4 ∧ ∀ x ∈ c, x < 128 := by
  intro c hc
  obtain ⟨y, _, rfl⟩ := List.mem_map.mp hc
  have h65 : 65 + y % 3 < 128 := by omega
  have h97 : 97 + y % 3 < 128 := by omega
  rcases ht with rfl | rfl
  · split
    · simp only [hiddenOf]; refine ⟨by simp, fun x hx => ?_⟩; simp at hx; omega
    · refine ⟨by simp, fun x hx => ?_⟩; simp at hx; omega
  · split
    · simp only [hiddenOf]; refine ⟨by simp, fun x hx => ?_⟩; simp at hx; omega
    · refine ⟨by simp, fun x hx => ?_⟩; simp at hx; omega
theorem piece_small (l : List Nat) (cells : List (List Nat)) (hl : cells.length = l.length) (h : ∀ c ∈ cells, c.length ≤ 4 ∧ ∀ x ∈ c, x < 128) : ∀ p ∈ piecesOf l cells, p.length ≤ 5 ∧ ∀ x ∈ p, x < 128 := by
  intro p hp
  obtain ⟨i, hi, hp⟩ := List.mem_flatMap.mp hp
  rcases List.mem_cons.mp hp with rfl | m
  · obtain ⟨h1, h2⟩ := h _ (getD_mem (d := []) (show i < cells.length by rw [hl]; exact List.mem_range.mp hi))
    refine ⟨by rw [List.length_cons]; omega, fun x hx => ?_⟩
    rcases List.mem_cons.mp hx with rfl | m
    · decide
    · exact h2 x m
  · rw [List.eq_of_mem_replicate m]
    exact ⟨by simp, fun x hx => by simp at hx; omega⟩
theorem flat_small : ∀ rs : List (List Nat), (∀ x ∈ rs, x.length ≤ 5) → rs.flatten.length ≤ rs.length * 5
  | [], _ => by simp
  | x :: r, h => by
    have h1 := h x (List.mem_cons_self ..)
    have h2 := flat_small r fun y hy => h y (.tail _ hy)
    simp only [List.flatten_cons, List.length_append, List.length_cons, Nat.succ_mul]; omega
set_option maxRecDepth 100000 in
set_option maxHeartbeats 8000000 in
theorem sp_turnB {w : World} {A : Around} {E : Value → Shared → Prop} {s : Shared} {Q : Flow → Shared → Prop} {hb : Heap} {rest : Led} (turn : Nat) (ht : turn = 0 ∨ turn = 1) (f : List Nat) (hfl : f.length = 5 ∨ f.length = 6)
    (L Bo D x Fg Cc : Addr) (m : Str → Option Value) (pl tld : Option Value) (hid ord : Value) (bs ycs : List Value) (tl : List (Addr × Nat × List Nat)) (tn tw t0 : Tok) (rv : Value) (er : m (Str.ofString "runs") = some rv)
    (hbs : bs.length ≤ 10) (T : TS hb s.heap ((Cc, oList ycs) :: ownT L m pl (some (.str (mkS (lettersOf turn f)) t0)) hid ord Bo tld bs D tl rest)) (hycs : Paired IsS (cellsOf turn f) ycs)
    (e1 : m (Str.ofString "figures") = some (.ref Fg)) (e2 : m (Str.ofString "word") = some (.str (mkS (wordOf f)) tw)) (e3 : m (Str.ofString "table") = some (.ref x)) (e4 : m (Str.ofString "names") = some (.str (mkS (namesOf turn)) tn)) (e5 : m (Str.ofString "cells") = some (.ref Cc))
    (hbare : AllBare s.gens) (r : Room A 300 3000) (B : Bs w hb) (heq : partsOf turn f = longests turn f)
    (hq : ∀ h' g' k' m' Dq qs, TS hb h' ((Dq, oList qs) :: ownT L m' pl (some (.str (mkS (lettersOf turn f)) t0)) hid ord Bo tld (bs ++ [.ref Dq]) D tl rest) → AllBare g' → Paired IsI (partsOf turn f) qs →
      m' (Str.ofString "figures") = some (.ref Fg) → m' (Str.ofString "word") = some (.str (mkS (wordOf f)) tw) → m' (Str.ofString "table") = some (.ref x) → m' (Str.ofString "names") = some (.str (mkS (namesOf turn)) tn) → m' (Str.ofString "parts") = some (.ref Dq) → m' (Str.ofString "runs") = some rv →
      wpAny (model PR w) A (execs ((turnBody w.params).drop 5) (lawEnv w.params L)) Q E ⟨h', g', s.drawn, k', s.os⟩) :
    wpAny (model PR w) A (execs ((turnBody w.params).drop 2) (lawEnv w.params L)) Q E s := by
  obtain ⟨ps1, ps2, tls, S, ok1, ok2⟩ := T
  have hl6 : (lettersOf turn f).length ≤ 6 := by rw [lettersOf_len]; omega
  have hcsm := cell_small turn ht f
  have hlc : (cellsOf turn f).length = (lettersOf turn f).length := by rw [cellsOf_len, lettersOf_len]
  have hpsm := piece_small (lettersOf turn f) (cellsOf turn f) hlc hcsm
  have hplen : (piecesOf (lettersOf turn f) (cellsOf turn f)).length ≤ 42 := Nat.le_trans (piecesUpto_len _ _ _ (Nat.le_refl _)) (Nat.le_trans (Nat.mul_le_mul hl6 (show _ ≤ 7 by omega)) (by decide))
  have hpfl := flat_small _ fun p hp => (hpsm p hp).1
  dsimp only [turnBody, bodyOfFor, lawBody, lawRec, lawEnv, List.getD_cons_succ, List.getD_cons_zero, List.getD, List.getElem?_cons_succ, List.getElem?_cons_zero, Option.getD, List.drop]
  refine wpAny_execs_cons (wpAny_Assign_Name (callG (B.ext S.keep) (by k_is) (by k_is) (wpAny_items_cons (callG (B.ext S.keep) (by k_is) (by k_is) (wpAny_items_cons (nmC (c := L + 4) (cell_of (S.getL 4 rfl)) (wpAny_items_cons (nmL (ns_of (S.getL 1 rfl)) e5 (wpAny_items_nil ⟨B.ext S.keep, ?_⟩)))))))))
  refine sp_pieces (hb := hb) (lettersOf turn f) (cellsOf turn f) Cc ycs t0 (by omega) (List.mem_cons_self ..) hycs hlc (fun c hc => by have := (hcsm c hc).1; omega) r.less B ⟨ps1, ps2, tls, S, ok1, ok2⟩ fun Dp pys h1 k1 T1 hp1 => ?_
  refine wpAny_items_nil ⟨B.ext T1.keep, ?_⟩
  refine sp_parts (piecesOf (lettersOf turn f) (cellsOf turn f)) Dp pys (T1.own.getL 0 rfl) hp1 (by omega) (by omega) (fun p hp => (hpsm p hp).2) r.less (B.ext T1.keep) hbare fun Dq qs h2 g2 k2 S2 hp2 hb2 => ?_
  have T2 := (T1.comp S2).sub (own' := (Dq, oList qs) :: ownT L m pl (some (.str (mkS (lettersOf turn f)) t0)) hid ord Bo tld bs D tl rest) (.cons_cons _ (.cons _ (.cons _ (List.Sublist.refl _))))
  clear S T1 S2 ok1 ok2
  obtain ⟨ps1, ps2, tls, S, ok1, ok2⟩ := T2
  refine asg S 1 rfl fun h3 k3 S3 => ?_
  dsimp only [List.set, List.cons_append] at S3
  obtain ⟨m4, S4, f1, f2, f3, f4, f5, f6⟩ : ∃ m4, Al7 (St hb h3 (tLed ((Dq, oList qs) :: ownT L m4 pl (some (.str (mkS (lettersOf turn f)) t0)) hid ord Bo tld bs D tl rest) ps1 ps2 tls)) (m4 (Str.ofString "figures") = some (.ref Fg)) (m4 (Str.ofString "word") = some (.str (mkS (wordOf f)) tw)) (m4 (Str.ofString "table") = some (.ref x)) (m4 (Str.ofString "names") = some (.str (mkS (namesOf turn)) tn)) (m4 (Str.ofString "parts") = some (.ref Dq)) (m4 (Str.ofString "runs") = some rv) := ⟨_, S3, by walk_at "lk", by walk_at "lk", by walk_at "lk", by walk_at "lk", by walk_at "lk", by walk_at "lk"⟩
  clear S S3 e1 e2 e3 e4 e5
  refine nrm h3 g2 s.drawn _ s.os ?_
  refine wpAny_execs_cons (wpAny_If (wpAny_isTrue_Compare1 (nmL (ns_of (S4.getL 1 rfl)) f5 ?_)))
  refine comp_range (cl := [(Str.ofString "letters", L + 4)]) (fun _ => true) (fun i => IsI (longestOf (lettersOf turn f) i)) r.hh rfl (by decide) (by decide) rfl ?_
  refine wpAny_Call_NameR (nmB (v := .type "range") (B.ext S4.keep) (by k_is) bb_range (PyProof.Rows.callWith_type1 (wpAny_items_cons ?_)))
  refine wpAny_Call_NameR (nmB (v := .builtin "len") (B.ext S4.keep) (by k_is) bb_len (PyProof.Rows.callWith_builtin1 (wpAny_items_cons (nmC (c := L + 4) (cell_of (S4.getL 4 rfl)) (wpAny_items_nil ?_)))))
  refine lenS (by omega) fun t5 k5 => wpAny_items_nil (mkRange1 (by omega) (by omega) fun rr h5 k5 kp5 _ RA => ?_)
  rw [show ((lettersOf turn f).length : Int).toNat = (lettersOf turn f).length by omega] at RA
  refine ⟨0, (lettersOf turn f).length, RA, ?_, ?_, ?_⟩
  · intro C i t s₃ m₃ E' _ _ _ _
    exact wpAny_tests_nil ⟨rfl, _, _, rfl, fun _ _ e => e⟩
  · intro C i t s₃ m₃ E' hi _ hns hm hk
    rw [Int.zero_add] at hm
    have kp := S4.keep.trans (kp5.trans hk)
    refine callG (B.ext kp) (by k_is) (by k_is) (wpAny_items_cons (nmC (c := L + 4) ((cell_of (S4.getL 4 rfl)).keeps (kp5.trans hk)) (wpAny_items_cons (nmL hns hm (wpAny_items_nil ⟨B.ext kp, ?_⟩) rfl rfl))))
    exact sp_longest (lettersOf turn f) i t0 t (by omega) hi r.less (B.ext kp) fun t6 h6 k6 kp6 => ⟨⟨t6, rfl⟩, _, _, rfl, kp6⟩
  intro D6 h6 k6 ys6 kp6 _ hl6' hp6
  rw [List.filter_eq_self.mpr (fun _ _ => rfl)] at hp6
  have hlong : Paired IsI (longests turn f) ys6 := by
    unfold longests
    rw [← lettersOf_len turn f]
    exact paired_map (f := fun p => longestOf (lettersOf turn f) p) (fun a b x => x) hp6
  have S6 := S4.ext (kp5.trans kp6)
  clear S4
  refine neInts (list_of (S6.getL 0 rfl)) (list_of hl6') hp2 hlong (by have := r.hu; omega) (wpAny_truthy_bool ?_)
  rw [if_neg (by rw [decide_eq_true_eq]; exact fun h => h heq)]
  refine wpAny_execs_nil ?_
  refine wpAny_execs_cons (wpAny_Expr_any (app (nmC (c := L + 1) (cell_of (S6.getL 7 rfl)) ⟨Bo, bs, rfl, S6.getL 8 rfl, by omega, nmL (ns_of (S6.getL 1 rfl)) f5 ⟨S6.getL 8 rfl, fun h7 hs7 hl7 => ?_⟩⟩)))
  have S7 := S6.upd 8 rfl hs7.extBut hl7
  dsimp only [List.set, List.cons_append] at S7
  exact hq h7 g2 _ m4 Dq qs ⟨ps1, ps2, tls, S7, ok1, ok2⟩ hb2 hp2 f1 f2 f3 f4 f5 f6
end Mine
end
section
open PySem PySem.W PySem.Spec PySem.Calls PyProof.Rows
namespace Mine
theorem obj_setdefault : typeLookup (.type "object") "setdefault" = pure none := by rw [typeLookup_type, builtinLookup_eq_fast]; kernel_rfl
theorem okMark : ∀ b, b < 10 → ∀ c, c < 10 → okRe codeV (markOf b c).toArray = true := by decide +kernel
theorem perm_sd (X Y rest en : Led) (d : Addr × (Obj → Prop)) : ((X ++ d :: (en ++ rest)) ++ Y).Perm (d :: (en ++ (rest ++ (Y ++ X)))) := by
  have e : d :: (en ++ (rest ++ (Y ++ X))) = (d :: (en ++ rest) ++ Y) ++ X := by simp
  rw [e, List.append_assoc]; exact List.perm_append_comm
theorem offer_none (word : List Nat) (turn : Nat) (parts : List Nat) : ∀ l : List Nat, l.foldl (offer word turn parts) none = none
  | [] => rfl
  | a :: l => by rw [List.foldl_cons]; exact offer_none word turn parts l
theorem offers_step {word : List Nat} {turn : Nat} {parts l : List Nat} {es0 cur es' : List (Nat × List Nat)} {i p : Nat} (hp : l[i]? = some p) (hcur : (l.take i).foldl (offer word turn parts) (some es0) = some cur) (hW : l.foldl (offer word turn parts) (some es0) = some es') :
    ∃ es, offer word turn parts (some cur) p = some es ∧ (l.take (i + 1)).foldl (offer word turn parts) (some es0) = some es := by
  have e : (l.take (i + 1)).foldl (offer word turn parts) (some es0) = offer word turn parts (some cur) p := by
    rw [List.take_add_one, hp, List.foldl_append, hcur]; rfl
  cases h : offer word turn parts (some cur) p with
  | some es => exact ⟨es, rfl, e.trans h⟩
  | none =>
    have h2 := congrArg (fun z => z.foldl (offer word turn parts) (some es0)) (List.take_append_drop (i + 1) l)
    simp only [List.foldl_append] at h2
    rw [e, h, offer_none, hW] at h2
    cases h2
theorem longest_bound (l : List Nat) (p : Nat) (hp : p < l.length) : 1 ≤ longestOf l p ∧ p + longestOf l p ≤ l.length := by
  have key : longestOf l p ∈ lengthsOf l p := by
    have hne := lengthsOf_ne l p hp
    obtain ⟨M, hM, hmax⟩ : ∃ M ∈ lengthsOf l p, ∀ a ∈ lengthsOf l p, a ≤ M := by
      generalize lengthsOf l p = ns at hne
      induction ns with
      | nil => exact absurd rfl hne
      | cons a r ih =>
        by_cases hr : r = []
        · subst hr; exact ⟨a, List.mem_cons_self .., fun b hb => by simp at hb; omega⟩
        · obtain ⟨M, hM, hmax⟩ := ih hr
          by_cases h : a ≤ M
          · exact ⟨M, .tail _ hM, fun b hb => by rcases List.mem_cons.mp hb with rfl | m; exact h; exact hmax b m⟩
          · exact ⟨a, List.mem_cons_self .., fun b hb => by
              rcases List.mem_cons.mp hb with rfl | m
              · exact Nat.le_refl _
              · have := hmax b m; omega⟩
    have := greatestOf_eq hM hmax
    unfold longestOf
    rw [← this]; exact hM
  obtain ⟨i, hi, e⟩ := List.mem_map.mp key
  have := List.mem_range.mp (List.mem_filter.mp hi).1
  omega
theorem longests_getD (turn : Nat) (f : List Nat) (p : Nat) (hp : p < f.length) : (longests turn f).getD p 0 = longestOf (lettersOf turn f) p := by
  unfold longests
  rw [List.getD_eq_getElem?_getD, List.getElem?_map, List.getElem?_range hp]; rfl
theorem places_at (n i : Nat) (h : i < n - 1) : ((List.range (n - 1)).map (· + 1))[i]? = some (i + 1) := by
  rw [List.getElem?_map, List.getElem?_range h]; rfl
theorem beginOf_le (l : List Nat) (p c : Nat) : beginOf l p c ≤ p + 1 := bis_le _ _ _ _ _ (Nat.le_refl _) (Nat.zero_le _)
theorem endOf_le (l : List Nat) (p c : Nat) (h : c ≤ l.length) : c - 1 ≤ endOf l p c ∧ endOf l p c ≤ l.length := by
  have : bisect (fun i => decide ((sl l p (c + i)).take (sl l c (c + i)).length = sl l c (c + i))) (l.length + 1 - c) ≤ l.length + 1 - c := bis_le _ _ _ _ _ (Nat.le_refl _) (Nat.zero_le _)
  unfold endOf
  omega
theorem names_at (turn p : Nat) (ht : turn = 0 ∨ turn = 1) (hp : p < 6) : (namesOf turn)[p]? = some (nameOf turn p) ∧ nameOf turn p ∈ n12 := by
  have h : p = 0 ∨ p = 1 ∨ p = 2 ∨ p = 3 ∨ p = 4 ∨ p = 5 := by omega
  rcases ht with rfl | rfl <;> rcases h with rfl | rfl | rfl | rfl | rfl | rfl <;> exact ⟨rfl, by decide⟩
theorem word_no_dot (f : List Nat) : 46 ∉ wordOf f := fun h => by
  obtain ⟨x, _, e⟩ := List.mem_map.mp h
  omega
theorem wordOf_len (f : List Nat) : (wordOf f).length = f.length := by simp [wordOf]
end Mine
end
section
open PySem PySem.W PySem.Spec PySem.Calls PyProof.Rows
namespace Mine
theorem tput_mem {es : List (Nat × List Nat)} {c : Nat} {v : List Nat} {e : Nat × List Nat} (h : e ∈ tput es c v) : e ∈ es ∨ e.1 = c := by
  unfold tput at h
  split at h
  · rcases List.mem_append.mp h with m | m
    · exact .inl m
    · rw [List.mem_singleton.mp m]; exact .inr rfl
  · exact .inl h
theorem tput_len (es : List (Nat × List Nat)) (c : Nat) (v : List Nat) : (tput es c v).length ≤ es.length + 1 := by
  unfold tput
  split
  · simp
  · omega
set_option maxRecDepth 100000 in
set_option maxHeartbeats 8000000 in
theorem sp_turnC {w : World} {A : Around} {E : Value → Shared → Prop} {s : Shared} {Q : Flow → Shared → Prop} {hb : Heap} {rest : Led} (turn : Nat) (ht : turn = 0 ∨ turn = 1) (f : List Nat) (hfl : f.length = 5 ∨ f.length = 6)
    (L Bo D x Fg Dq : Addr) (m : Str → Option Value) (pl le tld : Option Value) (hid ord : Value) (bs qs : List Value) (tl : List (Addr × Nat × List Nat)) (es' : List (Nat × List Nat)) (tn tw : Tok) (rv : Value)
    (T : TS hb s.heap ((Dq, oList qs) :: ownT L m pl le hid ord Bo tld bs D tl rest)) (hqs : Paired IsI (longests turn f) qs) (I : hb.Inst x 206 (mH D)) (htl : ∀ p ∈ tl, p.2.1 ∈ n12) (htn : tl.length ≤ 100)
    (e1 : m (Str.ofString "figures") = some (.ref Fg)) (e2 : m (Str.ofString "word") = some (.str (mkS (wordOf f)) tw)) (e3 : m (Str.ofString "table") = some (.ref x)) (e4 : m (Str.ofString "names") = some (.str (mkS (namesOf turn)) tn)) (e5 : m (Str.ofString "parts") = some (.ref Dq)) (er : m (Str.ofString "runs") = some rv)
    (hbare : AllBare s.gens) (r : Room A 300 3000) (B : Bs w hb)
    (hW : ((List.range (f.length - 1)).map (· + 1)).foldl (offer (wordOf f) turn (longests turn f)) (some (tl.map (·.2))) = some es')
    (hq : ∀ h' g' k' m' pl' tl', TS hb h' ((Dq, oList qs) :: ownT L m' pl' le hid ord Bo tld bs D tl' rest) → AllBare g' → tl'.map (·.2) = es' → (∀ p ∈ tl', p.2.1 ∈ n12) → tl'.length ≤ tl.length + 5 →
      m' (Str.ofString "figures") = some (.ref Fg) → m' (Str.ofString "word") = some (.str (mkS (wordOf f)) tw) → m' (Str.ofString "table") = some (.ref x) → m' (Str.ofString "runs") = some rv → Q .next ⟨h', g', s.drawn, k', s.os⟩) :
    wpAny (model PR w) A (execs ((turnBody w.params).drop 5) (lawEnv w.params L)) Q E s := by
  obtain ⟨ps1, ps2, tls, S, ok1, ok2⟩ := T
  have hwl : (wordOf f).length = f.length := wordOf_len f
  have hll : (lettersOf turn f).length = f.length := lettersOf_len turn f
  dsimp only [turnBody, bodyOfFor, lawBody, lawRec, lawEnv, List.getD_cons_succ, List.getD_cons_zero, List.getD, List.getElem?_cons_succ, List.getElem?_cons_zero, Option.getD, List.drop]
  refine wpAny_execs_cons (for_range r.hh (h₀ := hb) s.drawn s.os (fun i => i + 1) (J := fun i led g => Ex6 fun m pl tl2 ps1 ps2 tls => Al13 (AllBare g) (led = tLed ((Dq, oList qs) :: ownT L m pl le hid ord Bo tld bs D tl2 rest) ps1 ps2 tls) (okS ps1 tls) (okP ps2 tls) ((((List.range (f.length - 1)).map (· + 1)).take i).foldl (offer (wordOf f) turn (longests turn f)) (some (tl.map (·.2))) = some (tl2.map (·.2))) (∀ p ∈ tl2, p.2.1 ∈ n12) (tl2.length ≤ tl.length + i) (m (Str.ofString "figures") = some (.ref Fg)) (m (Str.ofString "word") = some (.str (mkS (wordOf f)) tw)) (m (Str.ofString "table") = some (.ref x)) (m (Str.ofString "names") = some (.str (mkS (namesOf turn)) tn)) (m (Str.ofString "parts") = some (.ref Dq)) (m (Str.ofString "runs") = some rv)) ?_)
  refine wpAny_Call_NameR (nmB (v := .type "range") (B.ext S.keep) (by k_is) bb_range (PyProof.Rows.callWith_type1 (wpAny_items_cons (wpAny_Constant_int (wpAny_items_cons ?_)))))
  refine wpAny_Call_NameR (nmB (v := .builtin "len") (B.ext S.keep) (by k_is) bb_len (PyProof.Rows.callWith_builtin1 (wpAny_items_cons (nmL (ns_of (S.getL 1 rfl)) e2 (wpAny_items_nil ?_)))))
  refine lenS (by omega) fun t1 k1 => wpAny_items_nil (mkRange2 (by omega) (by omega) (by omega) (by omega) fun rr h2 k2 kp2 _ RA => ?_)
  rw [show (((wordOf f).length : Int) - 1).toNat = f.length - 1 by omega] at RA
  refine ⟨_, _, _, 1, f.length - 1, _, rfl, RA, fun i _ => by omega, S.ext kp2, ⟨m, pl, tl, ps1, ps2, tls, hbare, rfl, ok1, ok2, rfl, htl, Nat.le_refl _, e1, e2, e3, e4, e5, er⟩, ?_, ?_⟩
  rotate_left
  · rintro led₁ g h3 k3 ⟨m, pl, tl2, ps1, ps2, tls, hbg, rfl, o1, o2, hcur, hn, hlen, q1, q2, q3, q4, q5, q6⟩ S3
    rw [List.take_of_length_le (by simp)] at hcur
    rw [hcur] at hW
    refine wpAny_execs_nil (hq h3 g k3 m pl tl2 ⟨ps1, ps2, tls, S3, o1, o2⟩ hbg (Option.some.inj hW) hn (by omega) q1 q2 q3 q6)
  rintro i led₁ g h3 k3 It Pt t3 E' hi ⟨m, pl, tl2, ps1, ps2, tls, hbg, rfl, o1, o2, hcur, hn, hlen, q1, q2, q3, q4, q5, q6⟩ S3
  clear S e1 e2 e3 e4 e5 er RA ok1 ok2 hbare
  have hif : i + 1 < f.length := by omega
  obtain ⟨es, hof, hnext⟩ := offers_step (places_at f.length i hi) hcur hW
  have hlb := longest_bound (lettersOf turn f) (i + 1) (by omega)
  obtain ⟨vq, hvq, tq, rfl⟩ := paired_getD hqs 0 (i + 1) (by simp [longests]; omega)
  rw [longests_getD turn f (i + 1) hif] at hvq
  unfold offer at hof
  simp only [Option.bind_some, longests_getD turn f (i + 1) hif] at hof
  generalize longestOf (lettersOf turn f) (i + 1) = q at hvq hlb hof
  have hqlen := paired_len hqs
  have hb1 := beginOf_le (wordOf f) (i + 1) (i + 1 + q)
  have hb2 := endOf_le (wordOf f) (i + 1) (i + 1 + q) (by omega)
  refine asgC S3 4 rfl (c := L + 5) fun h4 S4 => ?_
  dsimp only [List.set, List.cons_append] at S4
  refine post fun F1 hF1 => ?_
  clear S3
  refine wpAny_execs_cons (PyProof.Rows.Assign_Tuple (callG (B.ext S4.keep) (by k_is) (by k_is) (wpAny_items_cons (nmL (ns_of (S4.getL 2 rfl)) q2 (wpAny_items_cons (nmC (c := L + 5) (cell_of (S4.getL 4 rfl)) (wpAny_items_cons (wpAny_BinOp (nmC (c := L + 5) (cell_of (S4.getL 4 rfl)) (subL (nmL (ns_of (S4.getL 2 rfl)) q5 (nmC (c := L + 5) (cell_of (S4.getL 4 rfl)) ⟨Dq, qs, _, _, _, rfl, rfl, list_of (S4.getL 1 rfl), by omega, by omega, by rw [Int.toNat_natCast]; exact hvq, add_int (wpAny_items_nil ⟨B.ext S4.keep, ?_⟩)⟩))))))))))))
  rw [show ((i + 1 : Nat) : Int) + ((q : Nat) : Int) = ((i + 1 + q : Nat) : Int) by omega]
  refine sp_stretch (hb := hb) (own := (It, Pt) :: (Dq, oList qs) :: ownT L m (some (.int ((i + 1 : Nat) : Int) t3)) le hid ord Bo tld bs D tl2 rest) (wordOf f) (i + 1) (i + 1 + q) tw t3 _ (by omega) (by omega) (by omega) (word_no_dot f) r.less B ⟨ps1, ps2, tls, S4, o1, o2⟩ fun a tb tc h5 k5 T5 => ?_
  clear S4
  obtain ⟨ps1, ps2, tls, S5, o1, o2⟩ := T5
  refine asgT2 r.hh ⟨_, isO_of (S5.getL 0 rfl), rfl, 0, rfl⟩ fun h6 kp6 => ?_
  have S6 := S5.ext kp6
  clear S5
  generalize hbe : beginOf (wordOf f) (i + 1) (i + 1 + q) = b at *
  generalize hce : endOf (wordOf f) (i + 1) (i + 1 + q) = c at *
  refine asg S6 3 rfl fun h7 k7 S7 => ?_
  dsimp only [List.set, List.cons_append] at S7
  refine asg S7 3 rfl fun h8 k8 S8 => ?_
  dsimp only [List.set, List.cons_append] at S8
  clear S6 S7
  obtain ⟨m8, S9, z1, z2, z3, z4, z5, z6, z7, z8⟩ : ∃ m8, Al9 (St hb h8 (tLed ((It, Pt) :: (Dq, oList qs) :: ownT L m8 (some (.int ((i + 1 : Nat) : Int) t3)) le hid ord Bo tld bs D tl2 rest) ps1 ps2 tls)) (m8 (Str.ofString "figures") = some (.ref Fg)) (m8 (Str.ofString "word") = some (.str (mkS (wordOf f)) tw)) (m8 (Str.ofString "table") = some (.ref x)) (m8 (Str.ofString "names") = some (.str (mkS (namesOf turn)) tn)) (m8 (Str.ofString "parts") = some (.ref Dq)) (m8 (Str.ofString "runs") = some rv) (m8 (Str.ofString "begin") = some (.int (b : Nat) tb)) (m8 (Str.ofString "close") = some (.int (c : Nat) tc)) :=
    ⟨_, S8.tail, by walk_at "lk", by walk_at "lk", by walk_at "lk", by walk_at "lk", by walk_at "lk", by walk_at "lk", by walk_at "lk", by walk_at "lk"⟩
  clear S8 q1 q2 q3 q4 q5 q6
  refine nrm h8 g s.drawn _ s.os ?_
  refine wpAny_execs_cons (wpAny_Assign_Name (wpAny_BinOp (wpAny_BinOp (wpAny_Call_NameR (nmB (v := .type "str") (B.ext S9.keep) (by k_is) bb_str (PyProof.Rows.callWith_type1 (wpAny_items_cons (nmL (ns_of (S9.getL 2 rfl)) z7 (wpAny_items_nil (strI (by omega) fun t10 k10 => cS [45] rfl fun t11 k11 => addS (by simp) fun t12 k12 => ?_))))))))))
  refine wpAny_Call_NameR (nmB (v := .type "str") (B.ext S9.keep) (by k_is) bb_str (PyProof.Rows.callWith_type1 (wpAny_items_cons (nmL (ns_of (S9.getL 2 rfl)) z8 (wpAny_items_nil (strI (by omega) fun t13 k13 => addS (by simp) fun t14 k14 => ?_))))))
  refine asg S9 2 rfl fun h15 k15 S15 => ?_
  dsimp only [List.set, List.cons_append] at S15
  obtain ⟨m15, S16, q1, q2, q3, q4, q5, q6, q7, q8, q9⟩ : ∃ m15, Al10 (St hb h15 (tLed ((It, Pt) :: (Dq, oList qs) :: ownT L m15 (some (.int ((i + 1 : Nat) : Int) t3)) le hid ord Bo tld bs D tl2 rest) ps1 ps2 tls)) (m15 (Str.ofString "figures") = some (.ref Fg)) (m15 (Str.ofString "word") = some (.str (mkS (wordOf f)) tw)) (m15 (Str.ofString "table") = some (.ref x)) (m15 (Str.ofString "names") = some (.str (mkS (namesOf turn)) tn)) (m15 (Str.ofString "parts") = some (.ref Dq)) (m15 (Str.ofString "runs") = some rv) (m15 (Str.ofString "begin") = some (.int (b : Nat) tb)) (m15 (Str.ofString "close") = some (.int (c : Nat) tc)) (m15 (Str.ofString "mark") = some (.str (mkS (markOf b c)) t14)) :=
    ⟨_, S15, by walk_at "lk", by walk_at "lk", by walk_at "lk", by walk_at "lk", by walk_at "lk", by walk_at "lk", by walk_at "lk", by walk_at "lk", by walk_at "lk"⟩
  clear S15 S9 z1 z2 z3 z4 z5 z6 z7 z8
  refine nrm h15 g s.drawn _ s.os ?_
  have fin : ∀ h' k' tl3 ps1 ps2 tls, St hb h' (tLed ((It, Pt) :: (Dq, oList qs) :: ownT L m15 (some (.int ((i + 1 : Nat) : Int) t3)) le hid ord Bo tld bs D tl3 rest) ps1 ps2 tls) → okS ps1 tls → okP ps2 tls → tl3.map (·.2) = es → (∀ p ∈ tl3, p.2.1 ∈ n12) → tl3.length ≤ tl2.length + 1 →
      F1 .next ⟨h', g, s.drawn, k', s.os⟩ :=
    fun h' k' tl3 ps1 ps2 tls S' o1 o2 he hn' hl' => (hF1 _ _ ⟨h', g, k', _, rfl, ⟨m15, _, tl3, ps1, ps2, tls, hbg, rfl, o1, o2, by rw [he]; exact hnext, hn', by omega, q1, q2, q3, q4, q5, q6⟩, S'⟩)
  clear hnext
  refine wpAny_execs_cons (wpAny_If (PyProof.Rows.isTrue_and (wpAny_isTrue_Compare1 (nmL (ns_of (S16.getL 2 rfl)) q7 (nmC (c := L + 5) (cell_of (S16.getL 4 rfl)) (lt_int (wpAny_truthy_bool ?_)))))))
  by_cases hb0 : b < i + 1
  · rw [if_pos (decide_eq_true (by omega))]
    refine PyProof.Rows.isTrue_and (wpAny_isTrue_Compare1 (wpAny_BinOp (nmL (ns_of (S16.getL 2 rfl)) q8 (nmL (ns_of (S16.getL 2 rfl)) q7 (sub_int (wpAny_BinOp (wpAny_Constant_int (subL (nmL (ns_of (S16.getL 2 rfl)) q5 (nmC (c := L + 5) (cell_of (S16.getL 4 rfl)) ⟨Dq, qs, _, _, _, rfl, rfl, list_of (S16.getL 1 rfl), by omega, by omega, by rw [Int.toNat_natCast]; exact hvq, mul_int (ge_int (wpAny_truthy_bool ?_)) (mulOk (by omega) (by omega))⟩))))))))))
    by_cases hcq : 2 * q ≤ c - b
    · rw [if_pos (decide_eq_true (by omega))]
      rw [if_pos ⟨hb0, hcq⟩] at hof
      obtain ⟨hnm, hn12⟩ := names_at turn (i + 1) ht (by omega)
      refine PyProof.Rows.isTrue_and (wpAny_isTrue_Compare1 (mthO (f := 196) (by k_is) (by k_is) obj_setdefault (by rfl) (nmL (ns_of (S16.getL 2 rfl)) q3 ⟨x, mH D, rfl, B.ext S16.keep, I.keeps S16.keep, if_neg (by decide), wpAny_items_cons (subS (nmL (ns_of (S16.getL 2 rfl)) q4 (nmC (c := L + 5) (cell_of (S16.getL 4 rfl)) ⟨_, _, _, _, nameOf turn (i + 1), rfl, rfl, by omega, by omega, by rw [Int.toNat_natCast]; exact hnm, fun t17 k17 => ?_⟩)))⟩)))
      refine wpAny_items_cons (nmL (ns_of (S16.getL 2 rfl)) q9 (wpAny_items_nil (PyProof.Rows.kwAll_nil ⟨B.ext S16.keep, ?_⟩)))
      have SD := S16.perm (perm_sd [(It, Pt), (Dq, oList qs), (L, oNs m15), (L + 6, oCell tld), (L + 5, oCell (some (.int ((i + 1 : Nat) : Int) t3))), (L + 4, oCell le), (L + 3, oCell (some hid)), (L + 2, oCell (some ord)), (L + 1, oCell (some (.ref Bo))), (Bo, oList bs)] ((224, isO (tabObj ps1)) :: (212, isO (tabObj ps2)) :: tls) rest (entLed tl2) (D, oList (entRefs tl2)))
      refine sp_setdefault x D tl2 (nameOf turn (i + 1)) (markOf b c) t17 t14 hn12 hn (by omega) (okMark b (by omega) c (by omega)) (by simp [markOf]) SD I r.less B fun v tl3 h18 k18 S18 he3 hv => ?_
      have S19 : St hb h18 (tLed ((It, Pt) :: (Dq, oList qs) :: ownT L m15 (some (.int ((i + 1 : Nat) : Int) t3)) le hid ord Bo tld bs D tl3 rest) ps1 ps2 tls) := S18.perm (perm_sd [(It, Pt), (Dq, oList qs), (L, oNs m15), (L + 6, oCell tld), (L + 5, oCell (some (.int ((i + 1 : Nat) : Int) t3))), (L + 4, oCell le), (L + 3, oCell (some hid)), (L + 2, oCell (some ord)), (L + 1, oCell (some (.ref Bo))), (Bo, oList bs)] ((224, isO (tabObj ps1)) :: (212, isO (tabObj ps2)) :: tls) rest (entLed tl3) (D, oList (entRefs tl3))).symm
      clear S18 SD
      obtain ⟨tv, rfl⟩ := hv
      have hmk : (tget (tl2.map (·.2)) (nameOf turn (i + 1))).getD (markOf b c) = markOf b c := by
        by_cases h : (tget (tl2.map (·.2)) (nameOf turn (i + 1))).getD (markOf b c) = markOf b c
        · exact h
        · rw [if_neg h] at hof; cases hof
      rw [if_pos hmk] at hof
      refine nmL (ns_of (S19.getL 2 rfl)) q9 (neS (wpAny_truthy_bool ?_))
      rw [if_neg (by rw [decide_eq_true_eq]; exact fun h => h hmk)]
      rw [if_neg Bool.false_ne_true]
      refine wpAny_execs_nil (wpAny_execs_nil (fin h18 _ tl3 ps1 ps2 tls S19 o1 o2 (by rw [he3]; exact Option.some.inj hof) ?_ ?_))
      · intro p hp
        have hpm : p.2 ∈ tput (tl2.map (·.2)) (nameOf turn (i + 1)) (markOf b c) := by rw [← he3]; exact List.mem_map_of_mem hp
        rcases tput_mem hpm with h | h
        · obtain ⟨p', hp', e⟩ := List.mem_map.mp h
          rw [← e]; exact hn p' hp'
        · rw [h]; exact hn12
      · have := congrArg List.length he3
        have h2 := tput_len (tl2.map (·.2)) (nameOf turn (i + 1)) (markOf b c)
        rw [List.length_map] at this h2
        omega
    · rw [if_neg (by rw [decide_eq_true_eq]; omega)]
      rw [if_neg (fun h => hcq h.2)] at hof
      rw [if_neg Bool.false_ne_true]
      exact wpAny_execs_nil (wpAny_execs_nil (fin h15 _ tl2 ps1 ps2 tls S16 o1 o2 (Option.some.inj hof) hn (by omega)))
  · rw [if_neg (by rw [decide_eq_true_eq]; omega)]
    rw [if_neg (fun h => hb0 h.1)] at hof
    rw [if_neg Bool.false_ne_true]
    exact wpAny_execs_nil (wpAny_execs_nil (fin h15 _ tl2 ps1 ps2 tls S16 o1 o2 (Option.some.inj hof) hn (by omega)))
end Mine
end
section
open PySem PySem.W PySem.Spec PySem.Calls PyProof.Rows
namespace Mine
section
variable {w : World} {A : Around} {E : Value → Shared → Prop} {env : Env} {s : Shared} {apos pos : Pos}
/-- a method without arguments called on an object of the class -/
theorem mthO0 {Q : Value → Shared → Prop} {f : Addr} {fd : FuncData} {od : Option Addr} {osl : Array (Option Value)} {o : Expr} {name : Str} {y : Option Value} {pl : Sem Bool}
    (hf : nsIn (hd.heap_39 w.params) 205 name = some (some (.ref f))) (ho : (hd.heap_39 w.params).lookup f = some ⟨.type "function", od, .func fd, osl⟩) (hB : typeLookup (.type "object") name = pure y)
    (h : wpAny (model PR w) A (eval o env) (fun ov s₁ => Ex2 fun x mA => Al5 (ov = .ref x) (Bs w s₁.heap) (s₁.heap.Inst x 206 mA) (mA name = none) (codeAny (model PR w) A (.call (.ref f) ⟨[.ref x], []⟩) (fun r s' => match r with | .ok (.ret v) => Q v s' | .ok _ => False | .error e => E e s') s₁)) E s)
    (he : eval (.Call (.Attribute o name apos) [] [] pos) env = (do
      let ov ← eval o env
      standAt apos.atName
      let (f, first) ← holding [ov] (getMethod ov name pl)
      callWith pos f first (backTo pos (starEach [] env)) (backToKw pos (keywordEach [] env))) := by rfl) :
    wpAny (model PR w) A (eval (.Call (.Attribute o name apos) [] [] pos) env) Q E s := by
  refine methodCall_KW (pl := pl) (wpAny_mono h (fun ov s₁ h₁ => ?_) fun _ _ x => x) he
  obtain ⟨x, mA, rfl, B, I, hsh, h₂⟩ := h₁
  obtain ⟨mN, G, g1, g2, nm, q, bs, sn, sub, col, dd, k0, k1, k2, k3, k5, hC⟩ := cls_at B
  obtain ⟨hh, g, d, t, os⟩ := s₁
  refine method_of hC G (g2 _ (nga _)) (g2 _ (ngh _)) (g1 _ _ hf) (B.K _ _ ho) rfl hB I hsh ?_
  refine callWith_function_kw (o := ⟨.type "function", od, .func fd, osl⟩) (fd := fd) (PyProof.Rows.evalArgs_kw2_nil rfl ?_)
  exact PyProof.Rows.kwAll_nil ⟨⟨B.K _ _ ho, rfl⟩, wpAny_call h₂⟩
/-- for x, y, z in a tuple of triples -/
theorem for_tupT {Q : Flow → Shared → Prop} {x y z : Str} {px py pz tp : Pos} {kt : Nat} {iter : Expr} {body : List Stmt} (hh : A.handled = none) {h₀ : Heap} (dr : Drawn) (os : OsState)
    (h : wpAny (model PR w) A (eval iter env) (fun xv s₁ => Ex7 fun (J : Nat → Led → Array GenState → Prop) (h₁ : Heap) (g₁ : Array GenState) (tk₁ : Nat) (ax : Addr) (its : List Value) (led : Led) => Al8 (s₁ = ⟨h₁, g₁, dr, tk₁, os⟩) (xv = .ref ax) (St h₀ h₁ led) (J 0 led g₁) (∀ i led₁ g h₁ X, i ≤ its.length → J i led₁ g → St h₀ h₁ (X :: led₁) → h₁.IsTuple ax its.toArray) (∀ i, i < its.length → Ex4 fun a u v t => Al3 (its[i]? = some (.ref a)) (∀ led₁ g h₁ X, J i led₁ g → St h₀ h₁ (X :: led₁) → h₁.IsTuple a #[u, v, t]) (∀ led₁ g h₁ tk I P E', J i led₁ g → St h₀ h₁ ((I, P) :: led₁) →
        wpAny (model PR w) A (storeName env x u) (fun _ s₂ => wpAny (model PR w) A (storeName env y v) (fun _ s₂' => wpAny (model PR w) A (storeName env z t) (fun _ s₂'' => wpAny (model PR w) A (execs body env)
          (fun f s₃ => match f with
            | .next | .cont => Ex4 fun h₃ g₃ tk₃ led₃ => Al3 (s₃ = ⟨h₃, g₃, dr, tk₃, os⟩) (J (i + 1) led₃ g₃) (St h₀ h₃ ((I, P) :: led₃))
            | .brk => Q .next s₃
            | .ret v => Q (.ret v) s₃) E' s₂'') E' s₂') E' s₂) E' ⟨h₁, g, dr, tk, os⟩)) (∀ led₁ g h₁ tk, J its.length led₁ g → St h₀ h₁ led₁ → Q .next ⟨h₁, g, dr, tk, os⟩) (h₁.IsTuple ax its.toArray)) E s)
    (hs : ∀ x, foldedSetIterable iter env x = pure x := by intro _; rfl) :
    wpAny (model PR w) A (exec (.For (.Tuple [.Name x px, .Name y py, .Name z pz] kt tp) iter body [] pos) env) Q E s := by
  refine wpAny_For (wpAny_mono h (fun xv s₁ h₁ => ?_) fun _ _ e => e) hs
  obtain ⟨J, H, G, T, ax, its, led, rfl, rfl, S, hJ, hL, step, fin, hl⟩ := h₁
  refine wpAny_pyIter_tuple hl ?_
  refine codeAny_forLoop_any
    (fun k s' => Ex5 fun h₁ g tk i led₁ => Al5 (s' = ⟨h₁, g, dr, tk, os⟩) (i ≤ its.length) (k = its.length - i) (J i led₁ g) (St h₀ h₁ ((H.objs.size, fun o => o.cls = .type "tuple_iterator" ∧ o.data = .fields #[.ref ax, .int i 0]) :: led₁))) ?_ its.length ?_
  · rintro k s' ⟨h₁, g, tk, i, led₁, rfl, hi, rfl, hJ, S₁⟩
    have hit : h₁.IsTupleIter H.objs.size ax i := S₁.getL 0 rfl
    have hl1 := hL i led₁ g h₁ _ hi hJ S₁
    by_cases hlt : i < its.length
    · obtain ⟨a, u, v, t, hc, hT, step⟩ := step i hlt
      refine wpAny_pyNext_tuple_item hit hl1 (x := .ref a) (by rw [List.getElem?_toArray]; exact hc) fun h₂ hit₂ hs₂ => ?_
      have S₂ := S₁.upd 0 rfl hs₂.extBut hit₂
      dsimp only [List.set] at S₂
      obtain ⟨oI, eI, cI, _⟩ := S₂.getL 0 rfl
      refine letGo eI cI (by decide) (asgT3 hh (hT led₁ g h₂ _ hJ S₂) fun h₃ kp₃ => ?_)
      refine wpAny_mono (step led₁ g h₃ _ _ _ _ hJ (S₂.ext kp₃)) (fun _ s₂ hs => wpAny_mono hs (fun _ s₂' hs' => wpAny_mono hs' (fun _ s₂'' hs'' => wpAny_mono hs'' (fun f s₃ hf => ?_) fun _ _ x => x) fun _ _ x => x) fun _ _ x => x) fun _ _ x => x
      cases f with
      | next => obtain ⟨h₃, g₃, tk₃, led₃, rfl, hJ₃, S₃⟩ := hf; exact ⟨its.length - (i + 1), by omega, h₃, g₃, tk₃, i + 1, led₃, rfl, hlt, rfl, hJ₃, S₃⟩
      | cont => obtain ⟨h₃, g₃, tk₃, led₃, rfl, hJ₃, S₃⟩ := hf; exact ⟨its.length - (i + 1), by omega, h₃, g₃, tk₃, i + 1, led₃, rfl, hlt, rfl, hJ₃, S₃⟩
      | brk => exact hf
      | ret v => exact hf
    · have hin : i = its.length := by omega
      subst hin
      refine wpAny_pyNext_tuple_end hh hit hl1 (by simp) fun h₂ he => wpAny_execs_nil ?_
      exact fin led₁ g h₂ tk hJ (S₁.but he)
  · refine ⟨_, G, T, 0, led, rfl, Nat.zero_le _, rfl, hJ, ?_⟩
    exact S.push _ ⟨rfl, rfl⟩
end
theorem ints_inj {xs ys : List Nat} {vs : List Value} (a : Paired IsI xs vs) (b : Paired IsI ys vs) : xs = ys := by
  induction a generalizing ys with
  | nil => cases b; rfl
  | cons h _ ih => cases b with
    | cons h' t' => rw [IsI.inj h h', ih t']
theorem TupAt.inj {h : Heap} {xs ys : List Nat} {y : Value} (a : TupAt h xs y) (b : TupAt h ys y) : xs = ys := by
  obtain ⟨p, rfl, o, ho, vs, hv, e⟩ := a
  obtain ⟨q, hq, o', ho', vs', hv', e'⟩ := b
  cases hq
  rw [ho] at ho'
  cases ho'
  rw [e] at e'
  injection e' with _ _ h3 _
  injection h3 with h4 _
  have h5 := congrArg Array.toList h4
  simp only at h5
  subst h5
  exact ints_inj hv hv'
theorem three_ints {i j k : Nat} {vs : List Value} (h : Paired IsI [i, j, k] vs) : Ex3 fun a b c => vs = [.int (i : Nat) a, .int (j : Nat) b, .int (k : Nat) c] := by
  cases h with
  | cons h1 t1 => cases t1 with
    | cons h2 t2 => cases t2 with
      | cons h3 t3 => cases t3 with
        | nil =>
          obtain ⟨a, rfl⟩ := h1
          obtain ⟨b, rfl⟩ := h2
          obtain ⟨c, rfl⟩ := h3
          exact ⟨a, b, c, rfl⟩
open Classical in
noncomputable def rsel (h : Heap) (c : List Nat → Bool) (v : Value) : Bool := decide (∃ r, TupAt h r v ∧ c r = true)
open Classical in
theorem rsel_eq {h : Heap} {c : List Nat → Bool} {v : Value} {r : List Nat} (hr : TupAt h r v) : rsel h c v = c r := by
  unfold rsel
  cases hc : c r with
  | true => exact decide_eq_true ⟨r, hr, hc⟩
  | false =>
    refine decide_eq_false ?_
    rintro ⟨r', hr', hc'⟩
    rw [TupAt.inj hr hr', hc'] at hc
    cases hc
noncomputable def dueC (p0 p1 : List Nat) (p : Nat) (r : List Nat) : Bool := match r with
  | [i, j, step] => decide (i < p ∧ p + step ≤ j ∧ (step = p0.getD p 0 ∨ step = p1.getD p 0))
  | _ => false
noncomputable def mkOf (r : List Nat) : List Nat := match r with
  | [i, j, _] => markOf i j
  | _ => []
theorem dueW_eq (p0 p1 : List Nat) (p : Nat) : ∀ rs : List (List Nat), (rs.filter (dueC p0 p1 p)).map mkOf = dueW rs p0 p1 p
  | [] => rfl
  | r :: rs => by
    have ih := dueW_eq p0 p1 p rs
    unfold dueW at ih ⊢
    rw [List.filterMap_cons, List.filter_cons]
    rcases r with _ | ⟨i, _ | ⟨j, _ | ⟨step, _ | ⟨_, _⟩⟩⟩⟩
    · simpa [dueC] using ih
    · simpa [dueC] using ih
    · simpa [dueC] using ih
    · dsimp only
      by_cases h : i < p ∧ p + step ≤ j ∧ (step = p0.getD p 0 ∨ step = p1.getD p 0)
      · rw [if_pos h, show dueC p0 p1 p [i, j, step] = true from decide_eq_true h, if_pos rfl, List.map_cons, ih]; rfl
      · rw [if_neg h, show dueC p0 p1 p [i, j, step] = false from decide_eq_false h, if_neg Bool.false_ne_true, ih]
    · simpa [dueC] using ih
noncomputable def restC (es : List (Nat × List Nat)) (r : List Nat) : Bool := match r with
  | [i, j, _] => decide (markOf i j ∉ tvals es)
  | _ => false
noncomputable def fstOf (r : List Nat) : Nat := match r with
  | [i, _, _] => i
  | _ => 0
theorem restW_eq (es : List (Nat × List Nat)) : ∀ rs : List (List Nat), (rs.filter (restC es)).map fstOf = restW rs es
  | [] => rfl
  | r :: rs => by
    have ih := restW_eq es rs
    unfold restW at ih ⊢
    rw [List.filterMap_cons, List.filter_cons]
    rcases r with _ | ⟨i, _ | ⟨j, _ | ⟨step, _ | ⟨_, _⟩⟩⟩⟩
    · simpa [restC] using ih
    · simpa [restC] using ih
    · simpa [restC] using ih
    · dsimp only
      by_cases h : markOf i j ∈ tvals es
      · rw [if_pos h, show restC es [i, j, step] = false from decide_eq_false (fun q => q h), if_neg Bool.false_ne_true, ih]
      · rw [if_neg h, show restC es [i, j, step] = true from decide_eq_true h, if_pos rfl, List.map_cons, ih]; rfl
    · simpa [restC] using ih
theorem run_shape (l : List Nat) : ∀ r ∈ lawRuns l, Ex3 fun i j k => r = [i, j, k] ∧ i < l.length ∧ j ≤ l.length := by
  intro r hr
  obtain ⟨i, hi, hr⟩ := List.mem_flatMap.mp hr
  obtain ⟨k, hk, hr⟩ := List.mem_flatMap.mp hr
  have h1 := List.mem_range.mp hi
  have h2 := List.mem_range.mp hk
  split at hr
  · rw [List.mem_singleton.mp hr]; exact ⟨_, _, _, rfl, h1, by omega⟩
  · cases hr
noncomputable def eqS1 (n : List Nat) (y : Value) : Bool := match y with | .str b _ => b == mkS n | _ => false
theorem eqS_at {A : Around} {s : Shared} {ns : List (List Nat)} {ys : List Value} (h : Paired IsS ns ys) (n : List Nat) (t : Tok) : ∀ y ∈ ys, SeqAt.EqAt A s y (.str (mkS n) t) (eqS1 n y) := by
  intro y hy
  obtain ⟨a, _, u, rfl⟩ := paired_left h y hy
  exact SeqAt.EqAt.str_str _ _ _ _
theorem any_eqS {ns : List (List Nat)} {ys : List Value} (h : Paired IsS ns ys) (n : List Nat) : ys.any (eqS1 n) = decide (n ∈ ns) := by
  have e1 : ys.any (eqS1 n) = ns.any (fun a => decide (a = n)) := by
    refine (paired_any (F := IsS) (fun a b hab => ?_) h).symm
    obtain ⟨u, rfl⟩ := hab
    exact (mkS_beq a n).symm
  rw [e1]
  by_cases hm : n ∈ ns
  · rw [decide_eq_true hm]
    exact List.any_eq_true.mpr ⟨n, hm, decide_eq_true rfl⟩
  · rw [decide_eq_false hm]
    refine List.any_eq_false.mpr fun a ha => ?_
    rw [decide_eq_true_eq]
    exact fun e => hm (e ▸ ha)
end Mine
end
section
open PySem PySem.W PySem.Spec PySem.Calls PyProof.Rows
namespace Mine
theorem obj_getall : typeLookup (.type "object") "get_all" = pure none := by rw [typeLookup_type, builtinLookup_eq_fast]; kernel_rfl
theorem obj_values : typeLookup (.type "object") "values" = pure none := by rw [typeLookup_type, builtinLookup_eq_fast]; kernel_rfl
noncomputable def BdR (hb : Heap) (v : Value) (m : Str → Option Value) : Prop := ∀ i j k, TupAt hb [i, j, k] v → Al3 (∃ t, m (Str.ofString "i") = some (.int (i : Nat) t)) (∃ t, m (Str.ofString "j") = some (.int (j : Nat) t)) (∃ t, m (Str.ofString "step") = some (.int (k : Nat) t))
set_option maxRecDepth 100000 in
set_option maxHeartbeats 8000000 in
theorem sp_tail {w : World} {A : Around} {E : Value → Shared → Prop} {s : Shared} {Q : Flow → Shared → Prop} {hb : Heap} {rest : Led} (f : List Nat) (hfl : f.length = 5 ∨ f.length = 6)
    (L Bo D x D0 D1 : Addr) (m : Str → Option Value) (pl le tld : Option Value) (hid ord rv : Value) (q0 q1 : List Value) (p0 p1 : List Nat) (tl : List (Addr × Nat × List Nat)) (tw : Tok)
    (T : TS hb s.heap ((D0, oList q0) :: (D1, oList q1) :: ownT L m pl le hid ord Bo tld [.ref D0, .ref D1] D tl rest)) (hq0 : Paired IsI p0 q0) (hq1 : Paired IsI p1 q1) (hl0 : p0.length = f.length) (hl1 : p1.length = f.length)
    (I : hb.Inst x 206 (mH D)) (htl : ∀ p ∈ tl, p.2.1 ∈ n12) (htn : tl.length ≤ 200) (hruns : RunsAt hb rv (lawRuns (wordOf f)))
    (e2 : m (Str.ofString "word") = some (.str (mkS (wordOf f)) tw)) (e3 : m (Str.ofString "table") = some (.ref x)) (er : m (Str.ofString "runs") = some rv)
    (hbare : AllBare s.gens) (r : Room A 300 3000) (B : Bs w hb)
    (hE1 : ∀ p, p < f.length - 1 → tall (tl.map (·.2)) (97 + (p + 1)) = dueW (lawRuns (wordOf f)) p0 p1 (p + 1)) (hE2 : restW (lawRuns (wordOf f)) (tl.map (·.2)) = [])
    (hq : ∀ h' g' k', TS hb h' [] → AllBare g' → Q (.ret (.bool true)) ⟨h', g', s.drawn, k', s.os⟩) :
    wpAny (model PR w) A (execs (tailBody w.params) (lawEnv w.params L)) Q E s := by
  obtain ⟨ps1, ps2, tls, S, ok1, ok2⟩ := T
  have hwl : (wordOf f).length = f.length := wordOf_len f
  obtain ⟨Dr, rys, rfl, hDr, hrp⟩ := hruns
  have hrlen := paired_len hrp
  have hshape := run_shape (wordOf f)
  have hrsmall : (lawRuns (wordOf f)).length ≤ 100 := by
    have := runsUpto_len (wordOf f) (wordOf f).length
    have e : runsUpto (wordOf f) (wordOf f).length = lawRuns (wordOf f) := rfl
    rw [e] at this
    refine Nat.le_trans this (Nat.le_trans (Nat.mul_le_mul (show _ ≤ 6 by omega) (show _ ≤ 6 by omega)) (by decide))
  dsimp only [tailBody, lawBody, lawRec, lawEnv, List.drop]
  refine wpAny_execs_cons (for_range r.hh (h₀ := hb) s.drawn s.os (fun i => i + 1) (J := fun i led g => Ex2 fun m pl => Al5 (g = s.gens) (led = tLed ((D0, oList q0) :: (D1, oList q1) :: ownT L m pl le hid ord Bo tld [.ref D0, .ref D1] D tl rest) ps1 ps2 tls) (m (Str.ofString "word") = some (.str (mkS (wordOf f)) tw)) (m (Str.ofString "table") = some (.ref x)) (m (Str.ofString "runs") = some (.ref Dr))) ?_)
  refine wpAny_Call_NameR (nmB (v := .type "range") (B.ext S.keep) (by k_is) bb_range (PyProof.Rows.callWith_type1 (wpAny_items_cons (wpAny_Constant_int (wpAny_items_cons ?_)))))
  refine wpAny_Call_NameR (nmB (v := .builtin "len") (B.ext S.keep) (by k_is) bb_len (PyProof.Rows.callWith_builtin1 (wpAny_items_cons (nmL (ns_of (S.getL 2 rfl)) e2 (wpAny_items_nil ?_)))))
  refine lenS (by omega) fun t1 k1 => wpAny_items_nil (mkRange2 (by omega) (by omega) (by omega) (by omega) fun rr h2 k2 kp2 _ RA => ?_)
  rw [show (((wordOf f).length : Int) - 1).toNat = f.length - 1 by omega] at RA
  refine ⟨_, _, _, 1, f.length - 1, _, rfl, RA, fun i _ => by omega, S.ext kp2, ⟨m, pl, rfl, rfl, e2, e3, er⟩, ?_, ?_⟩
  · rintro i led₁ g h3 k3 It Pt t3 E' hi ⟨m, pl, rfl, rfl, z1, z2, z3⟩ S3
    clear S e2 e3 er RA
    have hif : i + 1 < f.length := by omega
    refine asgC S3 5 rfl (c := L + 5) fun h4 S4 => ?_
    dsimp only [List.set, List.cons_append] at S4
    clear S3
    refine nrm h4 s.gens s.drawn _ s.os ?_
    refine wpAny_execs_cons (comp_listU (h₀ := hb) (cl := [(Str.ofString "place", L + 5), (Str.ofString "both", L + 1)]) (BdR hb) (rsel hb (dueC p0 p1 (i + 1))) (fun v y => ∀ i j k, TupAt hb [i, j, k] v → i < 10 → j < 10 → IsS (markOf i j) y) rfl rfl let_tuple r.hh rfl (by decide) (fun n => rfl) ?_)
    refine nmL (ns_of (S4.getL 3 rfl)) z3 ⟨Dr, rys, _, 3, _, S4, rfl, rfl, list_of (atE S4.keep hDr), by omega, fun I' v hv => ?_, ?_, ?_, ?_, ?_⟩
    · obtain ⟨rr, _, a, rfl, _⟩ := paired_left hrp v hv
      exact .inl ⟨a, rfl⟩
    · intro C v m X Y s₃ Q' E' hv S5 hq'
      obtain ⟨rr, hrr, a, rfl, o, ho, vs, hvs, hoe⟩ := paired_left hrp v hv
      have hT : TupAt hb rr (.ref a) := ⟨a, rfl, o, ho, vs, hvs, hoe⟩
      obtain ⟨i', j', k', rfl, _, _⟩ := hshape rr hrr
      obtain ⟨ta, tb, tc, rfl⟩ := three_ints hvs
      have ho3 := S5.keep _ _ (S4.keep _ _ ho)
      refine asgT3 r.hh ⟨o, ho3, by rw [hoe], 0, by rw [hoe]⟩ fun h6 kp6 => ?_
      refine asg (S5.ext kp6) 2 rfl (fun h7 k7 S7 => ?_) rfl rfl
      dsimp only [List.set] at S7
      refine asg S7 2 rfl (fun h8 k8 S8 => ?_) rfl rfl
      dsimp only [List.set] at S8
      refine asg S8 2 rfl (fun h9 k9 S9 => ?_) rfl rfl
      dsimp only [List.set] at S9
      refine hq' _ h9 _ (fun i2 j2 k2 h2 => ?_) S9
      have e := TupAt.inj hT h2
      injection e with e4 e
      injection e with e5 e
      injection e with e6 e
      subst e4 e5 e6
      exact ⟨⟨_, by walk_at "lk"⟩, ⟨_, by walk_at "lk"⟩, ⟨_, by walk_at "lk"⟩⟩
    · intro C v m₂ s₃ E₂ hv hbd hns hk
      obtain ⟨rr, hrr, hT⟩ := paired_left hrp v hv
      obtain ⟨i', j', k', rfl, hi', hj'⟩ := hshape rr hrr
      obtain ⟨⟨ta, b1⟩, ⟨tb, b2⟩, ⟨tc, b3⟩⟩ := hbd i' j' k' hT
      rw [rsel_eq hT]
      have hcB : s₃.heap.IsCell (L + 1) (some (.ref Bo)) := (cell_of (S4.getL 9 rfl)).keeps hk
      have hcP : s₃.heap.IsCell (L + 5) (some (.int ((i + 1 : Nat) : Int) t3)) := (cell_of (S4.getL 5 rfl)).keeps hk
      have hlB : s₃.heap.IsList Bo [.ref D0, .ref D1].toArray := list_of (atE hk (S4.getL 10 rfl))
      have hl0' : s₃.heap.IsList D0 q0.toArray := list_of (atE hk (S4.getL 1 rfl))
      have hl1' : s₃.heap.IsList D1 q1.toArray := list_of (atE hk (S4.getL 2 rfl))
      obtain ⟨v0, hv0, t0, rfl⟩ := paired_getD hq0 0 (i + 1) (by omega)
      obtain ⟨v1, hv1, t1', rfl⟩ := paired_getD hq1 0 (i + 1) (by omega)
      refine wpAny_tests_one (PyProof.Rows.isTrue_and (wpAny_isTrue_Compare1 (nmL hns b1 (nmC (c := L + 5) hcP (lt_int (wpAny_truthy_bool ?_))) rfl rfl)))
      by_cases hc1 : i' < i + 1
      · rw [if_pos (decide_eq_true (by omega))]
        refine PyProof.Rows.isTrue_and (wpAny_isTrue_Compare1 (wpAny_BinOp (nmC (c := L + 5) hcP (nmL hns b3 (add_int (nmL hns b2 (le_int (wpAny_truthy_bool ?_)) rfl rfl)) rfl rfl))))
        by_cases hc2 : i + 1 + k' ≤ j'
        · rw [if_pos (decide_eq_true (by omega))]
          have hpp : Paired IsI [p0.getD (i + 1) 0, p1.getD (i + 1) 0] [.int ((p0.getD (i + 1) 0 : Nat) : Int) t0, .int ((p1.getD (i + 1) 0 : Nat) : Int) t1'] := .cons ⟨_, rfl⟩ (.cons ⟨_, rfl⟩ .nil)
          refine PyProof.Rows.isTrue_and (wpAny_isTrue_Compare1 (nmL hns b3 (tupD (wpAny_items_cons ?_)) rfl rfl))
          refine subL (subL (nmC (c := L + 1) hcB (wpAny_Constant_int ⟨Bo, _, 0, _, .ref D0, rfl, rfl, hlB, by decide, by decide, rfl, nmC (c := L + 5) hcP ⟨D0, q0, _, _, _, rfl, rfl, hl0', by omega, by omega, by rw [Int.toNat_natCast]; exact hv0, wpAny_items_cons ?_⟩⟩)))
          refine subL (subL (nmC (c := L + 1) hcB (wpAny_Constant_int ⟨Bo, _, 1, _, .ref D1, rfl, rfl, hlB, by decide, by decide, rfl, nmC (c := L + 5) hcP ⟨D1, q1, _, _, _, rfl, rfl, hl1', by omega, by omega, by rw [Int.toNat_natCast]; exact hv1, wpAny_items_nil ⟨by simp, fun Dt h5 kp5 _ ht5 => ?_⟩⟩⟩)))
          refine SeqAt.in_tupleAt (eqI k') ⟨_, ht5, rfl, 0, rfl⟩ (fun y hy => eqI_at hpp k' tc y (by simpa using hy)) (wpAny_truthy_bool ?_)
          have hany : ([.int ((p0.getD (i + 1) 0 : Nat) : Int) t0, .int ((p1.getD (i + 1) 0 : Nat) : Int) t1'] : List Value).toArray.any (eqI k') = decide (k' = p0.getD (i + 1) 0 ∨ k' = p1.getD (i + 1) 0) := by
            rw [List.any_toArray, any_eqI hpp k']
            simp only [List.any_cons, List.any_nil, Bool.or_false]
            generalize p0.getD (i + 1) 0 = a
            generalize p1.getD (i + 1) 0 = b
            by_cases ha : a = k'
            · subst ha; simp
            · by_cases hb' : b = k'
              · subst hb'; simp
              · rw [beq_eq_false_iff_ne.mpr ha, beq_eq_false_iff_ne.mpr hb', decide_eq_false (by omega)]; rfl
          rw [hany]
          by_cases hc3 : k' = p0.getD (i + 1) 0 ∨ k' = p1.getD (i + 1) 0
          · rw [if_pos (decide_eq_true hc3)]
            exact PyProof.Rows.isTrue_and_nil ⟨(decide_eq_true ⟨hc1, hc2, hc3⟩).symm, h5, _, rfl, kp5⟩
          · rw [if_neg (by rw [decide_eq_true_eq]; exact hc3)]
            exact ⟨(decide_eq_false fun h => hc3 h.2.2).symm, h5, _, rfl, kp5⟩
        · rw [if_neg (by rw [decide_eq_true_eq]; omega)]
          refine ⟨(decide_eq_false fun h => hc2 h.2.1).symm, _, _, rfl, fun _ _ e => e⟩
      · rw [if_neg (by rw [decide_eq_true_eq]; omega)]
        refine ⟨(decide_eq_false fun h => hc1 h.1).symm, _, _, rfl, fun _ _ e => e⟩
    · intro C v m₂ s₃ E₂ hv _ hbd hns hk
      obtain ⟨rr, hrr, hT⟩ := paired_left hrp v hv
      obtain ⟨i', j', k', rfl, hi', hj'⟩ := hshape rr hrr
      obtain ⟨⟨ta, b1⟩, ⟨tb, b2⟩, _⟩ := hbd i' j' k' hT
      have B3 := B.ext (S4.keep.trans hk)
      refine wpAny_BinOp (wpAny_BinOp (wpAny_Call_NameR (nmB (v := .type "str") B3 (by k_is) bb_str (PyProof.Rows.callWith_type1 (wpAny_items_cons (nmL hns b1 (wpAny_items_nil (strI (by omega) fun t10 k10 => cS [45] rfl fun t11 k11 => addS (by simp) fun t12 k12 => ?_)) rfl rfl))))))
      refine wpAny_Call_NameR (nmB (v := .type "str") B3 (by k_is) bb_str (PyProof.Rows.callWith_type1 (wpAny_items_cons (nmL hns b2 (wpAny_items_nil (strI (by omega) fun t13 k13 => addS (by simp) fun t14 k14 => ⟨fun i2 j2 k2 h2 _ _ => ?_, _, _, rfl, fun _ _ e => e⟩)) rfl rfl))))
      have e := TupAt.inj hT h2
      injection e with e4 e
      injection e with e5 e
      subst e4 e5
      exact ⟨t14, rfl⟩
    intro Du h5 k5 ys5 S5 hp5
    dsimp only [List.set, List.cons_append] at S5
    clear S4
    have hdue : Paired IsS (dueW (lawRuns (wordOf f)) p0 p1 (i + 1)) ys5 := by
      rw [← dueW_eq]
      have h1 := paired_filter (p := dueC p0 p1 (i + 1)) (q := rsel hb (dueC p0 p1 (i + 1))) (fun rr y hrr => (rsel_eq hrr).symm) hrp
      have h1' : Paired (fun rr v => TupAt hb rr v ∧ rr ∈ lawRuns (wordOf f)) _ _ := paired_mono (fun rr v hm h => ⟨h, (List.mem_filter.mp hm).1⟩) h1
      have h2 : Paired (fun rr y => IsS (mkOf rr) y) ((lawRuns (wordOf f)).filter (dueC p0 p1 (i + 1))) ys5 := by
        refine paired_comp (fun rr v y hrv hvy => ?_) h1' hp5
        obtain ⟨hT, hrr⟩ := hrv
        obtain ⟨i', j', k', rfl, hi', hj'⟩ := hshape rr hrr
        exact hvy i' j' k' hT (by omega) (by omega)
      exact paired_map (f := mkOf) (fun a b x => x) h2
    refine nrm h5 s.gens s.drawn _ s.os ?_
    obtain ⟨m5, S6, z1, z2, z3, z4⟩ : ∃ m5, Al5 (St hb h5 ((Du, oList ys5) :: (It, Pt) :: tLed ((D0, oList q0) :: (D1, oList q1) :: ownT L m5 (some (.int ((i + 1 : Nat) : Int) t3)) le hid ord Bo tld [.ref D0, .ref D1] D tl rest) ps1 ps2 tls)) (m5 (Str.ofString "word") = some (.str (mkS (wordOf f)) tw)) (m5 (Str.ofString "table") = some (.ref x)) (m5 (Str.ofString "runs") = some (.ref Dr)) (m5 (Str.ofString "due") = some (.ref Du)) := ⟨_, S5, by walk_at "lk", by walk_at "lk", by walk_at "lk", by walk_at "lk"⟩
    clear S5 hp5
    obtain ⟨hnm, hn12⟩ := names_at 0 (i + 1) (.inl rfl) (by omega)
    refine wpAny_execs_cons (wpAny_If (wpAny_isTrue_Compare1 (mthO (f := 145) (by k_is) (by k_is) obj_getall (by rfl) (nmL (ns_of (S6.getL 4 rfl)) z2 ⟨x, mH D, rfl, B.ext S6.keep, I.keeps S6.keep, if_neg (by decide), wpAny_items_cons (subS (cS [97, 98, 99, 100, 101, 102] rfl fun t7 k7 => nmC (c := L + 5) (cell_of (S6.getL 6 rfl)) ⟨_, _, _, _, nameOf 0 (i + 1), rfl, rfl, by omega, by omega, by rw [Int.toNat_natCast]; exact hnm, fun t8 k8 => wpAny_items_nil (PyProof.Rows.kwAll_nil ⟨B.ext S6.keep, ?_⟩)⟩))⟩))))
    have SD := S6.perm (perm_sd [(Du, oList ys5), (It, Pt), (D0, oList q0), (D1, oList q1), (L, oNs m5), (L + 6, oCell tld), (L + 5, oCell (some (.int ((i + 1 : Nat) : Int) t3))), (L + 4, oCell le), (L + 3, oCell (some hid)), (L + 2, oCell (some ord)), (L + 1, oCell (some (.ref Bo))), (Bo, oList [.ref D0, .ref D1])] ((224, isO (tabObj ps1)) :: (212, isO (tabObj ps2)) :: tls) rest (entLed tl) (D, oList (entRefs tl)))
    refine sp_getall x D (tl.map (·.2)) (nameOf 0 (i + 1)) t8 hn12 (fun e he => by obtain ⟨p, hp, rfl⟩ := List.mem_map.mp he; exact htl p hp) (by rw [List.length_map]; omega) (tabAt_of SD I) r.less (B.ext S6.keep) fun Dg gys h9 k9 Sg hg => ?_
    have S9 := S6.comp Sg
    clear SD S6
    have hE := hE1 i hi
    refine nmL (ns_of (S9.getL 5 rfl)) z4 (neStrs (list_of (S9.getL 0 rfl)) (list_of (S9.getL 1 rfl)) hg hdue (by have := r.hu; omega) (wpAny_truthy_bool ?_))
    rw [if_neg (by rw [decide_eq_true_eq]; exact fun h => h hE)]
    refine wpAny_execs_nil (wpAny_execs_nil ⟨h9, s.gens, _, _, rfl, ⟨m5, _, rfl, rfl, z1, z2, z3⟩, S9.sub (.cons _ (.cons _ (List.Sublist.refl _)))⟩)
  rintro led₁ g h3 k3 ⟨m, pl, rfl, rfl, z1, z2, z3⟩ S3
  clear S e2 e3 er RA
  refine wpAny_execs_cons (wpAny_Assign_Name (mthO0 (f := 163) (by k_is) (by k_is) obj_values (nmL (ns_of (S3.getL 2 rfl)) z2 ⟨x, mH D, rfl, B.ext S3.keep, I.keeps S3.keep, if_neg (by decide), ?_⟩)))
  have SD := S3.perm (perm_sd [(D0, oList q0), (D1, oList q1), (L, oNs m), (L + 6, oCell tld), (L + 5, oCell pl), (L + 4, oCell le), (L + 3, oCell (some hid)), (L + 2, oCell (some ord)), (L + 1, oCell (some (.ref Bo))), (Bo, oList [.ref D0, .ref D1])] ((224, isO (tabObj ps1)) :: (212, isO (tabObj ps2)) :: tls) rest (entLed tl) (D, oList (entRefs tl)))
  refine sp_values x D (tl.map (·.2)) (by rw [List.length_map]; omega) (tabAt_of SD I) r.less (B.ext S3.keep) fun Dv vys h4 k4 Sv hv => ?_
  have S4 := S3.comp Sv
  clear SD S3
  refine asgC S4 4 rfl (c := L + 6) fun h5 S5 => ?_
  dsimp only [List.set, List.cons_append, List.nil_append] at S5
  clear S4
  refine nrm h5 s.gens s.drawn _ s.os ?_
  refine wpAny_execs_cons (wpAny_Return_some (wpAny_Compare1 (comp_listT (cl := [(Str.ofString "told", L + 6)]) (BdR hb) (rsel hb (restC (tl.map (·.2)))) (fun v y => True) r.hh rfl (by decide) (fun n => rfl) ?_)))
  refine nmL (ns_of (S5.getL 3 rfl)) z3 ⟨Dr, rys, rfl, list_of (atE S5.keep hDr), by omega, fun v hv => ?_, ?_, ?_, ?_, ?_⟩
  · obtain ⟨rr, _, a, rfl, _⟩ := paired_left hrp v hv
    exact ⟨a, rfl⟩
  · intro C v m X Y s₃ Q' E' hv S6 hq'
    obtain ⟨rr, hrr, a, rfl, o, ho, vs, hvs, hoe⟩ := paired_left hrp v hv
    have hT : TupAt hb rr (.ref a) := ⟨a, rfl, o, ho, vs, hvs, hoe⟩
    obtain ⟨i', j', k', rfl, _, _⟩ := hshape rr hrr
    obtain ⟨ta, tb, tc, rfl⟩ := three_ints hvs
    have ho3 := S6.keep _ _ (S5.keep _ _ ho)
    refine asgT3 r.hh ⟨o, ho3, by rw [hoe], 0, by rw [hoe]⟩ fun h6 kp6 => ?_
    refine asg (S6.ext kp6) 2 rfl (fun h7 k7 S7 => ?_) rfl rfl
    dsimp only [List.set] at S7
    refine asg S7 2 rfl (fun h8 k8 S8 => ?_) rfl rfl
    dsimp only [List.set] at S8
    refine asg S8 2 rfl (fun h9 k9 S9 => ?_) rfl rfl
    dsimp only [List.set] at S9
    refine hq' _ h9 _ (fun i2 j2 k2 h2 => ?_) S9
    have e := TupAt.inj hT h2
    injection e with e4 e
    injection e with e5 e
    injection e with e6 e
    subst e4 e5 e6
    exact ⟨⟨_, by walk_at "lk"⟩, ⟨_, by walk_at "lk"⟩, ⟨_, by walk_at "lk"⟩⟩
  · intro C v m₂ s₃ E₂ hvm hbd hns hk
    obtain ⟨rr, hrr, hT⟩ := paired_left hrp v hvm
    obtain ⟨i', j', k', rfl, hi', hj'⟩ := hshape rr hrr
    obtain ⟨⟨ta, b1⟩, ⟨tb, b2⟩, _⟩ := hbd i' j' k' hT
    have B3 := B.ext (S5.keep.trans hk)
    rw [rsel_eq hT]
    refine wpAny_tests_one (wpAny_isTrue_Compare1 (wpAny_BinOp (wpAny_BinOp (wpAny_Call_NameR (nmB (v := .type "str") B3 (by k_is) bb_str (PyProof.Rows.callWith_type1 (wpAny_items_cons (nmL hns b1 (wpAny_items_nil (strI (by omega) fun t10 k10 => cS [45] rfl fun t11 k11 => addS (by simp) fun t12 k12 => ?_)) rfl rfl))))))))
    refine wpAny_Call_NameR (nmB (v := .type "str") B3 (by k_is) bb_str (PyProof.Rows.callWith_type1 (wpAny_items_cons (nmL hns b2 (wpAny_items_nil (strI (by omega) fun t13 k13 => addS (by simp) fun t14 k14 => nmC (c := L + 6) ((cell_of (S5.getL 4 rfl)).keeps hk) ?_)) rfl rfl))))
    refine ninL (eqS1 (markOf i' j')) (list_of (atE hk (S5.getL 0 rfl))) (eqS_at hv (markOf i' j') t14) (wpAny_truthy_bool ⟨?_, _, _, rfl, fun _ _ e => e⟩)
    rw [any_eqS hv (markOf i' j')]
    show (!decide _) = decide (¬ _)
    rw [decide_not]
  · intro C v m₂ s₃ E₂ hvm _ hbd hns hk
    obtain ⟨rr, hrr, hT⟩ := paired_left hrp v hvm
    obtain ⟨i', j', k', rfl, hi', hj'⟩ := hshape rr hrr
    obtain ⟨⟨ta, b1⟩, _⟩ := hbd i' j' k' hT
    exact nmL hns b1 ⟨trivial, _, _, rfl, fun _ _ e => e⟩ rfl rfl
  · intro D' h6 k6 out kp6 _ hl6 hpo
    have h1 := paired_filter (p := restC (tl.map (·.2))) (q := rsel hb (restC (tl.map (·.2)))) (fun rr y hrr => (rsel_eq hrr).symm) hrp
    have hz : ((lawRuns (wordOf f)).filter (restC (tl.map (·.2)))).length = 0 := by
      have := congrArg List.length (restW_eq (tl.map (·.2)) (lawRuns (wordOf f)))
      rw [hE2, List.length_map] at this
      exact this
    have hout : out = [] := List.length_eq_zero_iff.mp (by rw [← paired_len hpo, ← paired_len h1, hz])
    subst hout
    refine lstD (wpAny_items_nil ⟨by simp, fun D2 h7 kp7 _ hl7 => ?_⟩)
    refine SeqAt.eq_listAt (e := fun _ => true) (list_of (atE kp7 hl6)) (list_of hl7) rfl (by have := r.hu; omega) (fun j h1 => by simp at h1) ?_
    have T7 : TS hb h7 ((Dv, oList vys) :: (D0, oList q0) :: (D1, oList q1) :: ownT L m pl le hid ord Bo (some (.ref Dv)) [.ref D0, .ref D1] D tl rest) := ⟨ps1, ps2, tls, S5.ext (kp6.trans kp7), ok1, ok2⟩
    exact hq h7 s.gens k6 (T7.sub (List.nil_sublist _)) hbare
end Mine
end
section
open PySem PySem.W PySem.Spec PySem.Calls PyProof.Rows
namespace Mine
set_option maxRecDepth 100000 in
set_option maxHeartbeats 4000000 in
theorem sp_step {w : World} {A : Around} {R : Result → Shared → Prop} {s : Shared} (l : List Nat) (tx : Tok) (hx : l.length ≤ 1000) (hx1 : 1 ≤ l.length) (r : Room A 5 50) (B : Bs w s.heap)
  (hret : ∀ t h' tk', Kp s.heap h' → R (.ok (.ret (.int (lawStep l : Nat) t))) { s with heap := h', toks := tk' }) :
  codeAny (model PR w) A (.call (.ref 239) ⟨[.str (mkS l) tx], []⟩) R s := by
  refine enterC (d := 4) (u := 47) (binds := [(Str.ofString "text", .str (mkS l) tx)]) r B (by k_is) (by k_is) (fun Q E h => wpAny_pure h) ?_ (by decide) ?_
  · intro y hy; simp at hy; subst hy; right; exact ⟨rfl, rfl⟩
  intro L h₁ tk A S0 r
  have S : St s.heap h₁ [(L, oNs fun _ => none), (L + 1, oCell (some (.str (mkS l) tx)))] := S0
  clear S0
  refine wpAny_execs_cons (wpAny_Return_some (wpAny_Call_NameR (nmB (v := .builtin "min") (B.ext S.keep) (by k_is) bb_min ?_)))
  refine PyProof.Rows.callWith_builtin1 (wpAny_items_cons ?_)
  have Sx : h₁.IsCell (L + 1) (some (.str (mkS l) tx)) := cell_of (S.getL 1 rfl)
  refine comp_range (cl := [(Str.ofString "text", L + 1)]) (fun i => decide (l.drop (i + 1) = l.take (l.length - (i + 1)))) (fun i => IsI (i + 1)) r.hh rfl (by decide) (by decide) rfl ?_
  refine wpAny_Call_NameR (nmB (v := .type "range") (B.ext S.keep) (by k_is) bb_range (PyProof.Rows.callWith_type1 (wpAny_items_cons (wpAny_Constant_int (wpAny_items_cons (wpAny_BinOp ?_))))))
  refine wpAny_Call_NameR (nmB (v := .builtin "len") (B.ext S.keep) (by k_is) bb_len (PyProof.Rows.callWith_builtin1 (wpAny_items_cons (nmC (c := L + 1) Sx (wpAny_items_nil ?_)))))
  refine lenS (by omega) fun t1 k1 => ?_
  refine wpAny_Constant_int (add_int (wpAny_items_nil (mkRange2 (by omega) (by omega) (by omega) (by omega) fun rr h2 k2 kp2 _ RA => ?_)))
  have hn : (((l.length : Int) + 1) - 1).toNat = l.length := by omega
  rw [hn] at RA
  refine ⟨1, l.length, RA, ?_, ?_, ?_⟩
  · intro C i t s₃ m₃ E' hi hns hm hk
    have Sx3 : s₃.heap.IsCell (L + 1) (some (.str (mkS l) tx)) := Sx.keeps (kp2.trans hk)
    have B3 : Bs w s₃.heap := B.ext ((S.keep.trans kp2).trans hk)
    refine wpAny_tests_one (wpAny_isTrue_Compare1 ?_)
    refine slS (nmC (c := L + 1) Sx3 (wpAny_evalPart_some (nmL hns hm (wpAny_evalPart_none ?_))))
    refine ⟨l, tx, some _, none, rfl, rfl, rfl, nonneg_some (by omega), nonneg_none, by omega, fun h4 t4 k4 kp4 => ?_⟩
    have Sx4 : h4.IsCell (L + 1) (some (.str (mkS l) tx)) := Sx3.keeps kp4
    refine slS (nmC (c := L + 1) Sx4 (wpAny_evalPart_none (wpAny_evalPart_some (wpAny_BinOp ?_))))
    refine wpAny_Call_NameR (nmB (v := .builtin "len") (B3.ext kp4) (by k_is) bb_len (PyProof.Rows.callWith_builtin1 (wpAny_items_cons (nmC (c := L + 1) Sx4 (wpAny_items_nil ?_)))))
    refine lenS (by omega) fun t5 k5 => ?_
    refine nmL (hns.keeps kp4) hm (sub_int ?_)
    refine ⟨l, tx, none, some _, rfl, rfl, rfl, nonneg_none, nonneg_some (by omega), by omega, fun h6 t6 k6 kp6 => ?_⟩
    refine eqS (wpAny_truthy_bool ⟨?_, h6, _, rfl, kp4.trans kp6⟩)
    refine decide_eq_decide.mpr ?_
    simp only [sl, loN, hiN]
    have e1 : ((1 : Int) + (i : Int)).toNat = i + 1 := by omega
    have e2 : ((l.length : Int) - (1 + (i : Int))).toNat = l.length - (i + 1) := by omega
    rw [e1, e2, List.take_length, List.drop_zero]
  · intro C i t s₃ m₃ E' hi hp hns hm hk
    refine nmL hns hm ⟨⟨t, ?_⟩, _, _, rfl, fun _ _ e => e⟩
    rw [show (1 : Int) + (i : Int) = ((i + 1 : Nat) : Int) by omega]
  · intro D h' tk' ys kp' hD hl' hpair
    refine wpAny_items_nil (minN r.hh (ns := stepsOf l) (list_of hl') ?_ ?_ ?_)
    · unfold stepsOf
      exact paired_map (F := fun i => IsI (i + 1)) (G := IsI) (f := (· + 1)) (fun _ _ x => x) hpair
    · refine List.ne_nil_of_mem (a := l.length) ?_
      unfold stepsOf
      refine List.mem_map.mpr ⟨l.length - 1, List.mem_filter.mpr ⟨List.mem_range.mpr (by omega), ?_⟩, by omega⟩
      rw [show l.length - 1 + 1 = l.length by omega]; simp
    · intro M h9 k9 t9 hM hmin kp9
      rw [leastOf_eq hM hmin]
      exact hret t9 h9 k9 (((S.keep.trans kp2).trans kp').trans kp9)
end Mine
end
section
open PySem PySem.W PySem.Spec PySem.Calls PyProof.Rows
namespace Mine
set_option maxRecDepth 100000 in
set_option maxHeartbeats 4000000 in
theorem sp_runs {w : World} {A : Around} {R : Result → Shared → Prop} {s : Shared} (l : List Nat) (tx : Tok) (hx : l.length ≤ 100) (r : Room A 10 100) (B : Bs w s.heap)
  (hret : ∀ v h' tk', Kp s.heap h' → RunsAt h' v (lawRuns l) → R (.ok (.ret v)) { s with heap := h', toks := tk' }) :
  codeAny (model PR w) A (.call (.ref 244) ⟨[.str (mkS l) tx], []⟩) R s := by
  refine enterC (d := 9) (u := 97) (binds := [(Str.ofString "word", .str (mkS l) tx)]) r B (by k_is) (by k_is) (fun Q E h => wpAny_pure h) ?_ (by decide) ?_
  · intro y hy; simp at hy; subst hy; left; rfl
  intro L h₁ tk A S0 r
  have S : St s.heap h₁ [(L, oNs fun y => if y = Str.ofString "word" then some (.str (mkS l) tx) else none)] := S0
  clear S0
  refine wpAny_execs_cons (wpAny_Assign_Name (lstD (wpAny_items_nil ⟨by simp, fun D h2 kp2 hD hl2 => ?_⟩)))
  have S2 := S.fresh kp2 hD hl2
  refine asg S2 1 rfl fun h3 k3 S3 => ?_
  dsimp only [List.set] at S3
  refine wpAny_execs_cons ?_
  refine for_range r.hh (h₀ := s.heap) s.drawn s.os (fun i => i) (J := fun i led g => Ex2 fun m tl => Al5 (led = (D, oList (tupRefs tl)) :: (L, oNs m) :: tupLed tl) (tl.map (·.2) = runsUpto l i) (m (Str.ofString "word") = some (.str (mkS l) tx)) (m (Str.ofString "runs") = some (.ref D)) (g = s.gens)) ?_
  refine wpAny_Call_NameR (nmB (v := .type "range") (B.ext S3.keep) (by k_is) bb_range (PyProof.Rows.callWith_type1 (wpAny_items_cons ?_)))
  refine wpAny_Call_NameR (nmB (v := .builtin "len") (B.ext S3.keep) (by k_is) bb_len (PyProof.Rows.callWith_builtin1 (wpAny_items_cons (nmL (ns_of (S3.getL 1 rfl)) (by walk_at "lk") (wpAny_items_nil ?_)))))
  refine lenS (by omega) fun t4 k4 => wpAny_items_nil (mkRange1 (by omega) (by omega) fun rr h5 k5 kp5 _ RA => ?_)
  have hn : (l.length : Int).toNat = l.length := by omega
  rw [hn] at RA
  refine ⟨_, _, _, 0, l.length, _, rfl, RA, fun i _ => by omega, S3.ext kp5, ⟨_, [], rfl, rfl, by walk_at "lk", by walk_at "lk", rfl⟩, ?_, ?_⟩
  · rintro i led₁ g h6 k6 I P t6 E' hi ⟨m, tl, rfl, htl, hm1, hm2, rfl⟩ S6
    refine asg S6 2 rfl fun h7 k7 S7 => ?_
    dsimp only [List.set] at S7
    refine post fun F1 hF1 => ?_
    refine wpAny_execs_cons (for_range r.hh (h₀ := s.heap) s.drawn s.os (fun k => i + 2 + k) (J := fun k led g => Ex2 fun m tl2 => Al6 (led = (I, P) :: (D, oList (tupRefs tl2)) :: (L, oNs m) :: tupLed tl2) (tl2.map (·.2) = runsUpto l i ++ runsRow l i (List.range k)) (m (Str.ofString "word") = some (.str (mkS l) tx)) (m (Str.ofString "runs") = some (.ref D)) (m (Str.ofString "i") = some (.int (i : Nat) t6)) (g = s.gens)) ?_)
    refine wpAny_Call_NameR (nmB (v := .type "range") (B.ext S7.keep) (by k_is) bb_range (PyProof.Rows.callWith_type1 (wpAny_items_cons (wpAny_BinOp (nmL (ns_of (S7.getL 2 rfl)) (by walk_at "lk") (wpAny_Constant_int (add_int (wpAny_items_cons (wpAny_BinOp ?_)))))))))
    refine wpAny_Call_NameR (nmB (v := .builtin "len") (B.ext S7.keep) (by k_is) bb_len (PyProof.Rows.callWith_builtin1 (wpAny_items_cons (nmL (ns_of (S7.getL 2 rfl)) (by walk_at "lk") (wpAny_items_nil ?_)))))
    refine lenS (by omega) fun t8 k8 => wpAny_Constant_int (add_int (wpAny_items_nil (mkRange2 (by omega) (by omega) (by omega) (by omega) fun rr h9 k9 kp9 _ RA2 => ?_)))
    have hn2 : (((l.length : Int) + 1) - ((i : Int) + 2)).toNat = l.length + 1 - (i + 2) := by omega
    rw [hn2] at RA2
    refine ⟨_, _, _, _, _, _, rfl, RA2, fun k _ => by omega, S7.ext kp9, ⟨_, tl, rfl, by simpa [runsRow] using htl, by walk_at "lk", by walk_at "lk", by walk_at "lk", rfl⟩, ?_, ?_⟩
    · rintro k led₁ g h10 k10 I2 P2 t10 E2 hk ⟨m2, tl2, rfl, htl2, hm1', hm2', hm3', rfl⟩ S10
      have hjl : i + 2 + k ≤ l.length := by omega
      refine asg S10 3 rfl fun h11 k11 S11 => ?_
      dsimp only [List.set] at S11
      refine post fun F2 hF2 => ?_
      refine wpAny_execs_cons (wpAny_Assign_Name (callG (B.ext S11.keep) (by k_is) (by k_is) (wpAny_items_cons (slS (nmL (ns_of (S11.getL 3 rfl)) (by walk_at "lk") (wpAny_evalPart_some (nmL (ns_of (S11.getL 3 rfl)) (by walk_at "lk") (wpAny_evalPart_some (nmL (ns_of (S11.getL 3 rfl)) (by walk_at "lk") ?_)))))))))
      refine ⟨l, _, some _, some _, rfl, rfl, rfl, nonneg_some (by omega), nonneg_some (by omega), by omega, fun h12 t12 k12 kp12 => wpAny_items_nil ⟨B.ext (S11.keep.trans kp12), ?_⟩⟩
      refine nrmC h12 s.gens s.drawn k12 s.os ?_
      refine sp_step (sl l (i : Int).toNat ((i + 2 + k : Nat) : Int).toNat) t12 (by rw [sl_length]; omega) (by rw [sl_length]; omega) r.less (B.ext (S11.keep.trans kp12)) fun t13 h13 k13 kp13 => ?_
      simp only [Int.toNat_natCast]
      have S13 := (S11.ext kp12).ext kp13
      refine asg S13 3 rfl fun h14 k14 S14 => ?_
      dsimp only [List.set] at S14
      clear S13 S11 S10 S7 S6
      refine wpAny_execs_cons (wpAny_Assign_Name (wpAny_BinOp ?_))
      refine nrm h14 s.gens s.drawn k14 s.os ?_
      refine wpAny_mono (Q := fun v s' => Ex4 fun D1 ys h' k' => Al5 (v = .ref D1) (s' = ⟨h', s.gens, s.drawn, k', s.os⟩) (Kp h14 h') (∃ o, h'.get? D1 = some o ∧ oList ys o) (Paired IsS (if 0 < i then [sl l (i - 1) (i + 2 + k)] else []) ys)) ?_ ?_ fun _ _ x => x
      · refine wpAny_IfExp (wpAny_isTrue_Compare1 (nmL (ns_of (S14.getL 3 rfl)) (by walk_at "lk") (wpAny_Constant_int (gt_int (wpAny_truthy_bool ?_)))))
        by_cases h0 : 0 < i
        · rw [if_pos (decide_eq_true (by omega)), if_pos h0]
          refine post fun F3 hF3 => ?_
          refine lstD (wpAny_items_cons (slS (nmL (ns_of (S14.getL 3 rfl)) (by walk_at "lk") (wpAny_evalPart_some (wpAny_BinOp (nmL (ns_of (S14.getL 3 rfl)) (by walk_at "lk") (wpAny_Constant_int (sub_int (wpAny_evalPart_some (nmL (ns_of (S14.getL 3 rfl)) (by walk_at "lk") ?_))))))))))
          refine ⟨l, _, some _, some _, rfl, rfl, rfl, nonneg_some (by omega), nonneg_some (by omega), by omega, fun h15 t15 k15 kp15 => wpAny_items_nil ⟨by simp, fun D1 h16 kp16 _ hl16 => hF3 _ _ ⟨D1, _, h16, _, rfl, rfl, kp15.trans kp16, hl16, .cons ⟨t15, ?_⟩ .nil⟩⟩⟩
          simp only [loN, hiN, Int.toNat_natCast]
          rw [show ((i : Int) - 1).toNat = i - 1 by omega]
        · rw [if_neg (by simp; omega), if_neg h0]
          refine post fun F3 hF3 => ?_
          exact lstD (wpAny_items_nil ⟨by simp, fun D1 h16 kp16 _ hl16 => hF3 _ _ ⟨D1, _, h16, _, rfl, rfl, kp16, hl16, .nil⟩⟩)
      rintro v1 s1 ⟨D1, ys1, h17, k17, rfl, rfl, kp17, hl1, hp1⟩
      have S17 := S14.ext kp17
      refine wpAny_mono (Q := fun v s' => Ex4 fun D2 ys h' k' => Al5 (v = .ref D2) (s' = ⟨h', s.gens, s.drawn, k', s.os⟩) (Kp h17 h') (∃ o, h'.get? D2 = some o ∧ oList ys o) (Paired IsS (if i + 2 + k < l.length then [sl l i (i + 2 + k + 1)] else []) ys)) ?_ ?_ fun _ _ x => x
      · refine wpAny_IfExp (wpAny_isTrue_Compare1 (nmL (ns_of (S17.getL 3 rfl)) (by walk_at "lk") ?_))
        refine wpAny_Call_NameR (nmB (v := .builtin "len") (B.ext S17.keep) (by k_is) bb_len (PyProof.Rows.callWith_builtin1 (wpAny_items_cons (nmL (ns_of (S17.getL 3 rfl)) (by walk_at "lk") (wpAny_items_nil ?_)))))
        refine lenS (by omega) fun t18 k18 => lt_int (wpAny_truthy_bool ?_)
        by_cases h0 : i + 2 + k < l.length
        · rw [if_pos (decide_eq_true (by omega)), if_pos h0]
          refine post fun F3 hF3 => ?_
          refine lstD (wpAny_items_cons (slS (nmL (ns_of (S17.getL 3 rfl)) (by walk_at "lk") (wpAny_evalPart_some (nmL (ns_of (S17.getL 3 rfl)) (by walk_at "lk") (wpAny_evalPart_some (wpAny_BinOp (nmL (ns_of (S17.getL 3 rfl)) (by walk_at "lk") (wpAny_Constant_int (add_int ?_))))))))))
          refine ⟨l, _, some _, some _, rfl, rfl, rfl, nonneg_some (by omega), nonneg_some (by omega), by omega, fun h15 t15 k15 kp15 => wpAny_items_nil ⟨by simp, fun D1 h16 kp16 _ hl16 => hF3 _ _ ⟨D1, _, h16, _, rfl, rfl, kp15.trans kp16, hl16, .cons ⟨t15, ?_⟩ .nil⟩⟩⟩
          simp only [loN, hiN, Int.toNat_natCast]
          rw [show (((i + 2 + k : Nat) : Int) + 1).toNat = i + 2 + k + 1 by omega]
        · rw [if_neg (by simp; omega), if_neg h0]
          refine post fun F3 hF3 => ?_
          exact lstD (wpAny_items_nil ⟨by simp, fun D1 h16 kp16 _ hl16 => hF3 _ _ ⟨D1, _, h16, _, rfl, rfl, kp16, hl16, .nil⟩⟩)
      rintro v2 s2 ⟨D2, ys2, h19, k19, rfl, rfl, kp19, hl2, hp2⟩
      have hp3 := paired_append hp1 hp2
      have hlen3 : ys1.length + ys2.length ≤ 2 := by
        have := paired_len hp3
        rw [List.length_append, List.length_append] at this
        rw [← this]
        split <;> split <;> simp
      refine addL (list_of (atE kp19 hl1)) (list_of hl2) (by omega) fun h20 D3 kp20 hD3 hl3 => ?_
      refine asg ((S17.ext kp19).fresh kp20 hD3 hl3) 4 rfl fun h21 k21 S21 => ?_
      dsimp only [List.set] at S21
      clear S17 S14
      refine wpAny_execs_cons ?_
      refine nrm h21 s.gens s.drawn k21 s.os ?_
      have fin : ∀ (h30 : Heap) (k30 : Nat) (m9 : Str → Option Value) (tl9 : List (Addr × List Nat)), St s.heap h30 ((I2, P2) :: (I, P) :: (D, oList (tupRefs tl9)) :: (L, oNs m9) :: tupLed tl9) → tl9.map (·.2) = runsUpto l i ++ runsRow l i (List.range (k + 1)) →
          m9 (Str.ofString "word") = some (.str (mkS l) tx) → m9 (Str.ofString "runs") = some (.ref D) → m9 (Str.ofString "i") = some (.int (i : Nat) t6) →
          F2 .next ⟨h30, s.gens, s.drawn, k30, s.os⟩ :=
        fun h30 k30 m9 tl9 S30 e1 e2 e3 e4 => hF2 _ _ ⟨h30, _, k30, _, rfl, ⟨m9, tl9, rfl, e1, e2, e3, e4, rfl⟩, S30⟩
      have rr1 : runsRow l i (List.range (k + 1)) = runsRow l i (List.range k) ++ (if runCond l i (i + 2 + k) then [[i, i + 2 + k, lawStep (sl l i (i + 2 + k))]] else []) := by
        unfold runsRow
        rw [List.range_succ, List.flatMap_append]; simp
      refine wpAny_If (wpAny_isTrue_BoolOp ?_)
      refine wpAny_mono (Q := fun b s' => Ex2 fun h' k' => Al3 (b = runCond l i (i + 2 + k)) (s' = ⟨h', s.gens, s.drawn, k', s.os⟩) (Kp h21 h')) ?_ ?_ fun _ _ x => x
      · refine post fun F3 hF3 => ?_
        refine wpAny_allTrue_And_cons (wpAny_isTrue_Compare1 (wpAny_BinOp (wpAny_Constant_int (nmL (ns_of (S21.getL 4 rfl)) (by walk_at "lk") (mul_int ?_ (mulOk (by omega) (by omega)))))))
        refine wpAny_BinOp (nmL (ns_of (S21.getL 4 rfl)) (by walk_at "lk") (nmL (ns_of (S21.getL 4 rfl)) (by walk_at "lk") (sub_int (le_int (wpAny_truthy_bool ?_)))))
        have hlong : longer l i (i + 2 + k) = (if 0 < i then [sl l (i - 1) (i + 2 + k)] else []) ++ (if i + 2 + k < l.length then [sl l i (i + 2 + k + 1)] else []) := rfl
        rw [← hlong] at hp3
        have hb : ∀ t ∈ longer l i (i + 2 + k), 1 ≤ t.length ∧ t.length ≤ 1000 := by
          intro t ht
          rw [hlong] at ht
          rcases List.mem_append.mp ht with ht | ht
          · split at ht
            · rw [List.mem_singleton.mp ht, sl_length]; omega
            · cases ht
          · split at ht
            · rw [List.mem_singleton.mp ht, sl_length]; omega
            · cases ht
        by_cases hc : 2 * lawStep (sl l i (i + 2 + k)) ≤ i + 2 + k - i
        · rw [if_pos (decide_eq_true (by omega))]
          refine wpAny_allTrue_And_cons (wpAny_isTrue_Compare1 (nmL (ns_of (S21.getL 4 rfl)) (by walk_at "lk") ?_))
          refine comp_list (cl := []) (fun _ => true) (fun v y => ∀ t, IsS t v → IsI (lawStep t) y) r.hh rfl (by decide) (by decide) rfl ?_
          refine nmL (ns_of (S21.getL 4 rfl)) (by walk_at "lk") ⟨D3, _, rfl, list_of (S21.getL 0 rfl), by rw [List.length_append]; omega, ?_, ?_, ?_⟩
          · intro C v s₃ m₃ E' hv hns hm hk
            exact wpAny_tests_nil ⟨rfl, _, _, rfl, fun _ _ e => e⟩
          · intro C v s₃ m₃ E' hv _ hns hm hk'
            obtain ⟨t, ht, tk9, rfl⟩ := paired_left hp3 v hv
            refine callG (B.ext (S21.keep.trans hk')) (by k_is) (by k_is) (wpAny_items_cons (nmL hns hm (wpAny_items_nil ⟨B.ext (S21.keep.trans hk'), ?_⟩)))
            refine sp_step t tk9 (hb t ht).2 (hb t ht).1 r.less (B.ext (S21.keep.trans hk')) fun t30 h30 k30 kp30 => ⟨fun t' ht' => ?_, h30, k30, rfl, kp30⟩
            rw [IsS.inj ht' ⟨tk9, rfl⟩]
            exact ⟨t30, rfl⟩
          · intro D4 h30 k30 ys kp30 _ hl30 hpy
            have hpI : Paired IsI ((longer l i (i + 2 + k)).map lawStep) ys := by
              rw [List.filter_eq_self.mpr (fun _ _ => rfl)] at hpy
              exact paired_map (F := fun t y => IsI (lawStep t) y) (G := IsI) (f := lawStep) (fun _ _ x => x) (paired_comp (fun a b c hab hbc => hbc a hab) hp3 hpy)
            refine ninL (eqI (lawStep (sl l i (i + 2 + k)))) (list_of hl30) (eqI_at hpI _ _) (wpAny_truthy_bool ?_)
            rw [any_eqI hpI, List.any_map]
            have e9 : runCond l i (i + 2 + k) = !((longer l i (i + 2 + k)).any ((fun x => x == lawStep (sl l i (i + 2 + k))) ∘ lawStep)) := by
              unfold runCond
              rw [decide_eq_true hc, Bool.true_and]; rfl
            rw [← e9]
            cases e10 : runCond l i (i + 2 + k) with
            | true => exact wpAny_allTrue_And_nil (hF3 _ _ ⟨h30, k30, e10.symm, rfl, kp30⟩)
            | false => exact hF3 _ _ ⟨h30, k30, e10.symm, rfl, kp30⟩
        · rw [if_neg (by simp; omega)]
          exact hF3 _ _ ⟨h21, _, by unfold runCond; rw [decide_eq_false hc]; rfl, rfl, Kp.refl _⟩
      · rintro b s' ⟨h22, k22, rfl, rfl, kp22⟩
        have S22 := S21.ext kp22
        cases e10 : runCond l i (i + 2 + k) with
        | false =>
          rw [if_neg (by simp)]
          refine wpAny_execs_nil (wpAny_execs_nil (fin _ _ _ tl2 S22.tail ?_ (by walk_at "lk") (by walk_at "lk") (by walk_at "lk")))
          rw [rr1, e10, htl2]; simp
        | true =>
          rw [if_pos rfl]
          have hlen : (tupRefs tl2).length ≤ 100000 := by
            have e1 := congrArg List.length htl2
            have e2 := runsUpto_len l i
            have e3 := runsRow_len l i (List.range k)
            have e4 : i * l.length ≤ 100 * 100 := Nat.mul_le_mul (by omega) hx
            simp only [List.length_map, List.length_append, List.length_range] at e1 e3 ⊢
            omega
          refine wpAny_execs_cons (wpAny_Expr_any (app (nmL (ns_of (S22.getL 4 rfl)) (by walk_at "lk") ⟨D, _, rfl, S22.getL 3 rfl, by omega, ?_⟩)))
          refine tupD (wpAny_items_cons (nmL (ns_of (S22.getL 4 rfl)) (by walk_at "lk") (wpAny_items_cons (nmL (ns_of (S22.getL 4 rfl)) (by walk_at "lk") (wpAny_items_cons (nmL (ns_of (S22.getL 4 rfl)) (by walk_at "lk") (wpAny_items_nil ⟨by simp, fun a h23 kp23 ha hta => ?_⟩)))))))
          have S23 := S22.tail.fresh kp23 ha (P := oTup [i, i + 2 + k, lawStep (sl l i (i + 2 + k))]) ⟨_, hta, _, .cons ⟨_, rfl⟩ (.cons ⟨_, rfl⟩ (.cons ⟨_, rfl⟩ .nil)), rfl⟩
          refine ⟨S23.getL 3 rfl, fun h24 hs24 hl24 => ?_⟩
          have S24 := S23.upd 3 rfl hs24.extBut hl24
          dsimp only [List.set] at S24
          have S25 := S24.perm (List.perm_append_singleton (a, oTup [i, i + 2 + k, lawStep (sl l i (i + 2 + k))]) _).symm
          have e1 : tupLed (tl2 ++ [(a, [i, i + 2 + k, lawStep (sl l i (i + 2 + k))])]) = tupLed tl2 ++ [(a, oTup [i, i + 2 + k, lawStep (sl l i (i + 2 + k))])] := by simp [tupLed]
          have e2 : tupRefs (tl2 ++ [(a, [i, i + 2 + k, lawStep (sl l i (i + 2 + k))])]) = tupRefs tl2 ++ [.ref a] := by simp [tupRefs]
          simp only [List.cons_append] at S25
          rw [← e1, ← e2] at S25
          refine wpAny_execs_nil (wpAny_execs_nil (fin _ _ _ _ S25 ?_ (by walk_at "lk") (by walk_at "lk") (by walk_at "lk")))
          rw [rr1, e10, List.map_append, htl2]; simp
    · rintro led₁ g h10 k10 ⟨m2, tl2, rfl, htl2, hm1', hm2', _, rfl⟩ S10
      refine wpAny_execs_nil (hF1 _ _ ⟨h10, _, k10, _, rfl, ⟨m2, tl2, rfl, ?_, hm1', hm2', rfl⟩, S10⟩)
      rw [htl2]
      unfold runsUpto
      rw [List.range_succ, List.flatMap_append]; simp
  · rintro led₁ g h6 k6 ⟨m, tl, rfl, htl, hm1, hm2, rfl⟩ S6
    refine wpAny_execs_cons (wpAny_Return_some (nmL (ns_of (S6.getL 1 rfl)) hm2 ?_))
    refine hret _ _ _ S6.keep ?_
    have := runsAt_of S6 (D := D) (tl := tl) (List.mem_cons_self ..) (fun p hp => List.mem_cons_of_mem _ (List.mem_cons_of_mem _ (List.mem_map.mpr ⟨p, hp, rfl⟩)))
    rw [htl] at this
    exact this
end Mine
end
section
open PySem PySem.W PySem.Spec PySem.Calls PyProof.Rows
namespace Mine
theorem keep206 (P : Params) : keepIn (hd.heap_39 P) (.ref 206) = true := by first | rfl | kernel_rfl | decide +kernel
/-- the class called by its name -/
theorem callH {w : World} {A : Around} {E : Value → Shared → Prop} {env : Env} {s : Shared} {Q : Value → Shared → Prop} {p pos : Pos} {x : Str} {args : List Expr} (B : Bs w s.heap) (e : nsIn (hd.heap_39 w.params) mainGlobals x = some (some (.ref 206)))
    (h : wpAny (model PR w) A (spliced (backTo pos (starEach args env))) (fun vs s₁ => Bs w s₁.heap ∧ wpAny (model PR w) A (call (.ref 206) vs) Q E s₁) E s)
    (hne : ∃ a r, args = a :: r ∧ starEach (a :: r) env = (false, eval a env) :: starEach r env := by exact ⟨_, _, rfl, rfl⟩)
    (hplain : ((backTo pos (starEach args env)).any (·.1)) = false := by rfl)
    (hk : env.scope.kind = .function := by kernel_rfl) (hl : env.kindOf x = some .globalImplicit := by kernel_rfl) (hg : env.globals = mainGlobals := by kernel_rfl) (hd : (x == ("__debug__" : Str)) = false := by kernel_rfl) :
    wpAny (model PR w) A (eval (.Call (.Name x p) args [] pos) env) Q E s := by
  obtain ⟨a, r, rfl, he⟩ := hne
  refine wpAny_Call_NameR (nmG B e ?_ hk hl hg hd)
  refine callWith_of (P := fun h => (Mine.hd.heap_39 w.params).In h) (by rw [hplain]; rfl) (keeps_K (keep206 w.params)) ?_
  rw [he] at h ⊢
  exact Calls.evalArgs_plain (wpAny_mono h (fun vs s₁ h₁ => ⟨h₁.1.K, h₁.2⟩) fun _ _ x => x)
/-- what is seen in the heap and owned by none stays in the ground -/
theorem runsAt_sub {h hb : Heap} {v : Value} {rs : List (List Nat)} {led : Led} (hs : ∀ b o, h.get? b = some o → (∀ p ∈ led, p.1 ≠ b) → hb.get? b = some o) (hc : ∀ p ∈ led, ∃ o, h.get? p.1 = some o ∧ p.2 o) (hns : ∀ p ∈ led, ∀ o, p.2 o → ∀ xs n, o.data ≠ .seq xs n) (x : RunsAt h v rs) : RunsAt hb v rs := by
  have key : ∀ b o xs n, h.get? b = some o → o.data = .seq xs n → hb.get? b = some o := by
    intro b o xs n e hd
    refine hs b o e fun p hp q => ?_
    obtain ⟨o', e', hp'⟩ := hc p hp
    rw [q, e] at e'
    cases e'
    exact hns p hp o hp' xs n hd
  obtain ⟨D, ys, rfl, ⟨o, e, n, q⟩, hp⟩ := x
  refine ⟨D, ys, rfl, ⟨o, key D o _ n e (by rw [q]), n, q⟩, paired_mono (fun r y _ ht => ?_) hp⟩
  obtain ⟨a, rfl, o, ho, vs, hv, hoe⟩ := ht
  exact ⟨a, rfl, o, key a o _ 0 ho (by rw [hoe]), vs, hv, hoe⟩
/-- a cut of a list that has no name -/
theorem slLfT {w : World} {A : Around} {E : Value → Shared → Prop} {env : Env} {s : Shared} {Q : Value → Shared → Prop} {p pos : Pos} {value lo : Expr}
    (h : wpAny (model PR w) A (eval value env) (fun o s₁ => wpAny (model PR w) A (eval lo env) (fun vu s₃ =>
      Ex3 fun D its t => ∃ b : Nat, Al5 (o = .ref D) (vu = .int (b : Nat) t) (s₃.heap.IsList D (its : List Value).toArray) (its.length ≤ 1000000) (∀ D' h', Kp s₃.heap h' → s₃.heap.get? D' = none → (∃ o, h'.get? D' = some o ∧ oList (its.drop b) o) → Q (.ref D') { s₃ with heap := h' })) E s₁) E s) :
    wpAny (model PR w) A (eval (.Subscript value (.Slice (some lo) none none p) pos) env) Q E s := by
  refine Subscript_ (wpAny_mono h (fun o s₁ h₁ => wpAny_Slice (wpAny_evalPart_some (wpAny_mono h₁ (fun vu s₃ h₃ => wpAny_evalPart_none ?_) fun _ _ x => x))) fun _ _ x => x)
  obtain ⟨D, its, t, b, rfl, rfl, hl, hsz, hq⟩ := h₃
  rw [evalPart_none]
  refine wpAny_pure ?_
  refine tail_any (ops := [_, _]) (hl.push _).typeIs list_getitem_lookup (wpAny_getItem_list_slice (lo := some (b : Int)) (hi := none) (hl.push _) (Heap.IsSliceOf.new ..) (.int _ _) .none .none (by simp) ?_ (by rw [sizeLine_eq]; simp; omega)) rfl
  rw [slicePick_from']
  refine hq _ _ ((Kp.push _ _).trans (Kp.push _ _)) (Heap.get?_none_of_le (by rw [Heap.size_push]; omega)) ⟨_, ?_, 0, rfl⟩
  exact Heap.get?_push_size _ rfl
noncomputable def figsOf (ns : List Int) : List Nat := (ns.take 6).map (fun n => (n % 6).toNat) ++ [0, 4, 3, 1, 4].drop ns.length
theorem figs_len (ns : List Int) : (figsOf ns).length = 5 ∨ (figsOf ns).length = 6 := by
  simp only [figsOf, List.length_append, List.length_map, List.length_take, List.length_drop, List.length_cons, List.length_nil]; omega
theorem figs_small (ns : List Int) : ∀ x ∈ figsOf ns, x < 6 := by
  intro x hx
  rcases List.mem_append.mp hx with m | m
  · obtain ⟨n, _, rfl⟩ := List.mem_map.mp m
    omega
  · have := List.mem_of_mem_drop m
    simp at this; omega
noncomputable def IsZ (n : Int) (v : Value) : Prop := ∃ t, v = .int n t
theorem ints_paired {vs : List Value} {ns : List Int} (h : IntsAre vs ns) : Paired IsZ ns vs := by
  induction h with
  | nil => exact .nil
  | cons n t _ ih => exact .cons ⟨t, rfl⟩ ih
end Mine
end
section
open PySem PySem.W PySem.Spec PySem.Calls PyProof.Rows
namespace Mine
theorem perm_hd (a x dx b : Addr × (Obj → Prop)) (M T : Led) : (a :: x :: dx :: b :: (M ++ T)).Perm ([x, dx] ++ (M ++ (a :: b :: T))) := by
  refine (List.Perm.swap x a _).trans (.cons x ((List.Perm.swap dx a _).trans (.cons dx ?_)))
  exact List.perm_append_comm_assoc [a, b] M T
noncomputable abbrev tabs0 : Led := [(224, isO (tabObj #[])), (212, isO (tabObj #[]))]
set_option maxRecDepth 100000 in
set_option maxHeartbeats 8000000 in
theorem sp_lawA {w : World} {A : Around} {E : Value → Shared → Prop} {s : Shared} {Q : Flow → Shared → Prop} {h0 : Heap} (L Sa : Addr) (m0 : Str → Option Value) (vs : List Value) (ns : List Int) (hI : IntsAre vs ns) (hS : h0.IsList Sa vs.toArray) (hn : ns.length ≤ 63)
    (e0 : m0 (Str.ofString "script") = some (.ref Sa))
    (S : St h0 s.heap ((L, oNs m0) :: (L + 6, oCell none) :: (L + 5, oCell none) :: (L + 4, oCell none) :: (L + 3, oCell none) :: (L + 2, oCell none) :: (L + 1, oCell none) :: tabs0))
    (r : Room A 300 3000) (B : Bs w h0)
    (hq : ∀ hb h' k' m' Fg fs x Bo D tw rv, Kp h0 hb → (∃ o, hb.get? Fg = some o ∧ oList fs o) → Paired IsI (figsOf ns) fs → hb.Inst x 206 (mH D) → RunsAt hb rv (lawRuns (wordOf (figsOf ns))) →
      St hb h' ((L, oNs m') :: (L + 6, oCell none) :: (L + 5, oCell none) :: (L + 4, oCell none) :: (L + 3, oCell none) :: (L + 2, oCell none) :: (L + 1, oCell (some (.ref Bo))) :: (Bo, oList []) :: (D, oList []) :: tabs0) →
      m' (Str.ofString "figures") = some (.ref Fg) → m' (Str.ofString "word") = some (.str (mkS (wordOf (figsOf ns))) tw) → m' (Str.ofString "table") = some (.ref x) → m' (Str.ofString "runs") = some rv →
      wpAny (model PR w) A (execs ((lawBody w.params).drop 5) (lawEnv w.params L)) Q E ⟨h', s.gens, s.drawn, k', s.os⟩) :
    wpAny (model PR w) A (execs (lawBody w.params) (lawEnv w.params L)) Q E s := by
  have hpI := ints_paired hI
  have hlen := paired_len hpI
  dsimp only [lawBody, lawRec, lawEnv]
  refine wpAny_execs_cons (wpAny_Assign_Name (wpAny_BinOp (comp_list (cl := []) (fun _ => true) (fun v y => ∀ n, IsZ n v → IsI ((n % 6).toNat) y) r.hh rfl (by decide) (by decide) rfl ?_)))
  refine slLt (nmL (ns_of (S.getL 0 rfl)) e0 (wpAny_Constant_int ⟨Sa, vs, _, 6, rfl, rfl, ilE S.keep hS, by omega, fun D1 h1 kp1 hn1 hl1 => ⟨D1, vs.take 6, rfl, list_of hl1, by rw [List.length_take]; omega, ?_, ?_, ?_⟩⟩))
  · intro C v s₃ m₃ E' _ _ _ _
    exact wpAny_tests_nil ⟨rfl, _, _, rfl, fun _ _ e => e⟩
  · intro C v s₃ m₃ E' hv _ hns hm hk
    obtain ⟨n, hn, t, rfl⟩ := paired_left hpI v (List.mem_of_mem_take hv)
    refine wpAny_BinOp (nmL hns hm (wpAny_Constant_int ?_) rfl rfl)
    refine modI (b := 6) (.inr rfl) fun t6 k6 => ⟨fun n' hn' => ?_, _, _, rfl, fun _ _ e => e⟩
    obtain ⟨t', e'⟩ := hn'
    injection e' with e'
    subst e'
    exact ⟨t6, rfl⟩
  intro D2 h2 k2 ys kp2 hn2 hl2 hp2
  rw [List.filter_eq_self.mpr (fun _ _ => rfl)] at hp2
  have hp2' : Paired IsI ((ns.take 6).map fun n => (n % 6).toNat) ys :=
    paired_map (f := fun n : Int => (n % 6).toNat) (fun a b h => h) (paired_comp (H := fun (n : Int) y => IsI ((n % 6).toNat) y) (fun a b c hab hbc => hbc a hab) (paired_take hpI 6) hp2)
  have hyl := paired_len hp2'
  rw [List.length_map, List.length_take] at hyl
  refine slLfT (lstD (wpAny_items_cons (wpAny_Constant_int (wpAny_items_cons (wpAny_Constant_int (wpAny_items_cons (wpAny_Constant_int (wpAny_items_cons (wpAny_Constant_int (wpAny_items_cons (wpAny_Constant_int (wpAny_items_nil ⟨by simp, fun D3 h3 kp3 hn3 hl3 => ?_⟩))))))))))))
  have kp03 := (kp1.trans kp2).trans kp3
  refine wpAny_Call_NameR (nmB (v := .builtin "len") (B.ext (S.keep.trans kp03)) (by k_is) bb_len (PyProof.Rows.callWith_builtin1 (wpAny_items_cons (nmL (ns_of ((S.ext kp03).getL 0 rfl)) e0 (wpAny_items_nil ?_)))))
  refine lenL (ilE (S.keep.trans kp03) hS) (by omega) fun t4 k4 => ⟨D3, _, _, vs.length, rfl, rfl, list_of hl3, by simp, fun D4 h4 kp4 hn4 hl4 => ?_⟩
  refine addL (list_of (atE (kp3.trans kp4) hl2)) (list_of hl4) (by rw [List.length_drop, ← hyl]; simp; omega) fun h5 D5 kp5 hn5 hl5 => ?_
  have S5 := (S.ext (kp03.trans kp4)).fresh kp5 hn5 hl5
  have qq0 : ∃ fs, St h0 h5 ((D5, oList fs) :: (L, oNs m0) :: (L + 6, oCell none) :: (L + 5, oCell none) :: (L + 4, oCell none) :: (L + 3, oCell none) :: (L + 2, oCell none) :: (L + 1, oCell none) :: tabs0) ∧ Paired IsI (figsOf ns) fs :=
    ⟨_, S5, paired_append hp2' (by rw [← hlen]; exact paired_drop (.cons ⟨_, rfl⟩ (.cons ⟨_, rfl⟩ (.cons ⟨_, rfl⟩ (.cons ⟨_, rfl⟩ (.cons ⟨_, rfl⟩ .nil))))) ns.length)⟩
  clear S5
  obtain ⟨fs, S5, hfs⟩ := qq0
  clear hl5 hp2 hp2' hl2 hl3 hl4 hl1
  have hfl := figs_len ns
  have hfsl := paired_len hfs
  refine asg S5 1 rfl fun h6 k6 S6 => ?_
  dsimp only [List.set] at S6
  have qq1 : ∃ m6, St h0 h6 ((D5, oList fs) :: (L, oNs m6) :: (L + 6, oCell none) :: (L + 5, oCell none) :: (L + 4, oCell none) :: (L + 3, oCell none) :: (L + 2, oCell none) :: (L + 1, oCell none) :: tabs0) ∧ m6 (Str.ofString "figures") = some (.ref D5) := ⟨_, S6, if_pos rfl⟩
  obtain ⟨m6, S7, z1⟩ := qq1
  clear S6 S5 S
  refine nrm h6 s.gens s.drawn _ s.os ?_
  refine wpAny_execs_cons (wpAny_Assign_Name ?_)
  refine mthS (name := Str.ofString "join") F.slot_str_join F.type_str_join (cS [] rfl fun t8 k8 => ⟨_, _, rfl, wpAny_items_cons ?_⟩)
  refine comp_list (cl := []) (fun _ => true) (fun v y => ∀ a, IsI a v → IsS [97 + a % 3] y) r.hh rfl (by decide) (by decide) rfl ?_
  refine nmL (ns_of (S7.getL 1 rfl)) z1 ⟨D5, fs, rfl, list_of (S7.getL 0 rfl), by omega, ?_, ?_, ?_⟩
  · intro C v s₃ m₃ E' _ _ _ _
    exact wpAny_tests_nil ⟨rfl, _, _, rfl, fun _ _ e => e⟩
  · intro C v s₃ m₃ E' hv _ hns hm hk
    obtain ⟨a, ha, tv, rfl⟩ := paired_left hfs v hv
    refine subS (cS [97, 98, 99] rfl fun t5 k5 => wpAny_BinOp (nmL hns hm (wpAny_Constant_int ?_) rfl rfl))
    refine modI (b := 3) (.inl rfl) fun t6 k6 => ⟨[97, 98, 99], t5, _, t6, 97 + a % 3, rfl, rfl, by omega, by omega, ?_, fun t7 k7 => ⟨fun a' ha' => ?_, _, _, rfl, fun _ _ e => e⟩⟩
    · rw [Int.toNat_natCast, show ((a : Int) % ((3 : Nat) : Int)).toNat = a % 3 by omega]
      exact abc_at 97 a (.inr rfl)
    · rw [IsI.inj ha' ⟨tv, rfl⟩]; exact ⟨t7, rfl⟩
  intro D9 h9 k9 ys9 kp9 hn9 hl9 hp9
  rw [List.filter_eq_self.mpr (fun _ _ => rfl)] at hp9
  have hletters : Paired IsS ((figsOf ns).map fun x => [97 + x % 3]) ys9 :=
    paired_map (f := fun x => [97 + x % 3]) (fun a b h => h) (paired_comp (H := fun (a : Nat) y => IsS [97 + a % 3] y) (fun a b c hab hbc => hbc a hab) hfs hp9)
  refine wpAny_items_nil (joinS (list_of hl9) hletters (by rw [List.length_map]; omega) (fun z hz => ?_) fun t10 k10 => ?_)
  · obtain ⟨q, _, rfl⟩ := List.mem_map.mp hz
    simp
  rw [flatten_single]
  refine asg (S7.ext kp9) 1 rfl fun h11 k11 S11 => ?_
  dsimp only [List.set] at S11
  have hword : ((figsOf ns).map fun x => 97 + x % 3) = wordOf (figsOf ns) := rfl
  rw [hword] at S11
  have qq2 : ∃ m12, Al3 (St h0 h11 ((D5, oList fs) :: (L, oNs m12) :: (L + 6, oCell none) :: (L + 5, oCell none) :: (L + 4, oCell none) :: (L + 3, oCell none) :: (L + 2, oCell none) :: (L + 1, oCell none) :: tabs0)) (m12 (Str.ofString "figures") = some (.ref D5)) (m12 (Str.ofString "word") = some (.str (mkS (wordOf (figsOf ns))) t10)) := ⟨_, S11, by walk_at "lk", by walk_at "lk"⟩
  obtain ⟨m12, S12, z1, z2⟩ := qq2
  clear S11 S7 hletters hp9 hl9
  have hwl := wordOf_len (figsOf ns)
  refine nrm h11 s.gens s.drawn _ s.os ?_
  refine wpAny_execs_cons (wpAny_Assign_Name (callG (B.ext S12.keep) (by k_is) (by k_is) (wpAny_items_cons (nmL (ns_of (S12.getL 1 rfl)) z2 (wpAny_items_nil ⟨B.ext S12.keep, ?_⟩)))))
  refine sp_runs (wordOf (figsOf ns)) t10 (by omega) r.less (B.ext S12.keep) fun rv h13 k13 kp13 hruns => ?_
  have S13 := S12.ext kp13
  clear S12
  obtain ⟨hb, kph, Sf, hX, kpb, hother⟩ := S13.freeze (X := [(D5, oList fs)])
  clear S13
  have hFg := hX _ (List.mem_cons_self ..)
  have hruns' : RunsAt hb rv (lawRuns (wordOf (figsOf ns))) := by
    refine runsAt_sub hother Sf.cell ?_ hruns
    intro p hp o ho xs n hd
    simp only [List.mem_cons, List.not_mem_nil, or_false] at hp
    rcases hp with rfl | rfl | rfl | rfl | rfl | rfl | rfl | rfl | rfl
    · obtain ⟨es, ep, h, _⟩ := ho
      rw [hd] at h; cases h
    · rw [show o.data = _ from ho] at hd; cases hd
    · rw [show o.data = _ from ho] at hd; cases hd
    · rw [show o.data = _ from ho] at hd; cases hd
    · rw [show o.data = _ from ho] at hd; cases hd
    · rw [show o.data = _ from ho] at hd; cases hd
    · rw [show o.data = _ from ho] at hd; cases hd
    · rw [show o = tabObj #[] from ho] at hd; cases hd
    · rw [show o = tabObj #[] from ho] at hd; cases hd
  clear hX hother hruns
  have B1 := B.ext kph
  refine asg Sf 0 rfl fun h14 k14 S14 => ?_
  dsimp only [List.set] at S14
  have qq3 : ∃ m15, Al4 (St hb h14 ((L, oNs m15) :: (L + 6, oCell none) :: (L + 5, oCell none) :: (L + 4, oCell none) :: (L + 3, oCell none) :: (L + 2, oCell none) :: (L + 1, oCell none) :: tabs0)) (m15 (Str.ofString "figures") = some (.ref D5)) (m15 (Str.ofString "word") = some (.str (mkS (wordOf (figsOf ns))) t10)) (m15 (Str.ofString "runs") = some rv) := ⟨_, S14, by walk_at "lk", by walk_at "lk", by walk_at "lk"⟩
  obtain ⟨m15, S15, z1, z2, z3⟩ := qq3
  clear S14 Sf
  refine nrm h14 s.gens s.drawn _ s.os ?_
  refine wpAny_execs_cons (wpAny_Assign_Name (callH (B1.ext S15.keep) (by k_is) (wpAny_items_cons (lstD (wpAny_items_nil ⟨by simp, fun D16 h16 kp16 hn16 hl16 => wpAny_items_nil ⟨B1.ext (S15.keep.trans kp16), ?_⟩⟩)))))
  have S16 := S15.fresh kp16 hn16 hl16
  clear S15
  refine mkH D16 (S16.getL 0 rfl) r.less (B1.ext S16.keep) fun x dx h17 k17 hdx S17 => ?_
  have S18 := S16.comp S17
  clear S16 S17
  refine asg S18 3 rfl fun h19 k19 S19 => ?_
  dsimp only [List.set, List.cons_append, List.nil_append] at S19
  clear S18
  refine wpAny_execs_cons (wpAny_Assign_Name (lstD (wpAny_items_nil ⟨by simp, fun D20 h20 kp20 hn20 hl20 => ?_⟩)))
  have S20 := S19.fresh kp20 hn20 hl20
  clear S19
  refine asgC S20 10 rfl (c := L + 1) fun h21 S21 => ?_
  dsimp only [List.set] at S21
  clear S20
  have qq4 : ∃ m22, Al5 (St hb h21 ((D20, oList []) :: (x, oInst dx) :: (dx, oNs1 fun y => if y = "_headers" then some (.ref D16) else none) :: (D16, oList []) :: ([(L, oNs m22), (L + 6, oCell none), (L + 5, oCell none), (L + 4, oCell none), (L + 3, oCell none), (L + 2, oCell none), (L + 1, oCell (some (.ref D20)))] ++ tabs0))) (m22 (Str.ofString "figures") = some (.ref D5)) (m22 (Str.ofString "word") = some (.str (mkS (wordOf (figsOf ns))) t10)) (m22 (Str.ofString "table") = some (.ref x)) (m22 (Str.ofString "runs") = some rv) := ⟨_, S21, by walk_at "lk", by walk_at "lk", if_pos rfl, by walk_at "lk"⟩
  clear S21
  obtain ⟨m22, S22, z1, z2, z3, z4⟩ := qq4
  obtain ⟨hb2, kp2, Sg, hX2, _, _⟩ := (S22.perm (perm_hd _ _ _ _ _ _)).freeze
  have I2 : hb2.Inst x 206 (mH D16) := inst_of hdx (hX2 (x, oInst dx) (List.mem_cons_self ..)) (hX2 (dx, oNs1 fun y => if y = "_headers" then some (.ref D16) else none) (.tail _ (List.mem_cons_self ..)))
  exact hq hb2 h21 _ m22 D5 fs x D20 D16 t10 rv (kph.trans kp2) (atE kp2 hFg) hfs I2 (hruns'.ext kp2) Sg z1 z2 z3 z4
end Mine
end
section
open PySem PySem.W PySem.Spec PySem.Calls PyProof.Rows
namespace Mine
set_option maxRecDepth 100000 in
set_option maxHeartbeats 8000000 in
theorem sp_turn {w : World} {A : Around} {E : Value → Shared → Prop} {s : Shared} {Q : Flow → Shared → Prop} {hb : Heap} {rest : Led} (turn : Nat) (ht : turn = 0 ∨ turn = 1) (f : List Nat) (hf : ∀ x ∈ f, x < 6) (hfl : f.length = 5 ∨ f.length = 6)
    (L Bo D x Fg : Addr) (fs : List Value) (m : Str → Option Value) (pl le tld : Option Value) (bs : List Value) (tl : List (Addr × Nat × List Nat)) (es' : List (Nat × List Nat)) (tn to th tw : Tok) (rv : Value) (er : m (Str.ofString "runs") = some rv)
    (hFg : ∃ o, hb.get? Fg = some o ∧ oList fs o) (hfs : Paired IsI f fs) (I : hb.Inst x 206 (mH D)) (htl : ∀ p ∈ tl, p.2.1 ∈ n12) (htn : tl.length ≤ 100) (hbs : bs.length ≤ 10)
    (e1 : m (Str.ofString "figures") = some (.ref Fg)) (e2 : m (Str.ofString "word") = some (.str (mkS (wordOf f)) tw)) (e3 : m (Str.ofString "table") = some (.ref x)) (e4 : m (Str.ofString "names") = some (.str (mkS (namesOf turn)) tn))
    (T : TS hb s.heap (ownT L m pl le (.str (mkS (hiddenOf turn)) th) (.str (mkS (orderOf turn)) to) Bo tld bs D tl rest)) (hbare : AllBare s.gens) (r : Room A 300 3000) (B : Bs w hb)
    (heq : partsOf turn f = longests turn f) (hW : ((List.range (f.length - 1)).map (· + 1)).foldl (offer (wordOf f) turn (longests turn f)) (some (tl.map (·.2))) = some es')
    (hq : ∀ h' g' k' m' pl' le' Dq qs tl', TS hb h' ((Dq, oList qs) :: ownT L m' pl' le' (.str (mkS (hiddenOf turn)) th) (.str (mkS (orderOf turn)) to) Bo tld (bs ++ [.ref Dq]) D tl' rest) → AllBare g' → Paired IsI (longests turn f) qs → tl'.map (·.2) = es' → (∀ p ∈ tl', p.2.1 ∈ n12) → tl'.length ≤ tl.length + 5 →
      m' (Str.ofString "figures") = some (.ref Fg) → m' (Str.ofString "word") = some (.str (mkS (wordOf f)) tw) → m' (Str.ofString "table") = some (.ref x) → m' (Str.ofString "runs") = some rv → Q .next ⟨h', g', s.drawn, k', s.os⟩) :
    wpAny (model PR w) A (execs (turnBody w.params) (lawEnv w.params L)) Q E s := by
  refine sp_turnA turn ht f hf hfl L Bo D x Fg fs m pl le tld bs tl tn to th tw rv er hFg hfs I htl htn hbs e1 e2 e3 e4 T hbare r B fun h1 k1 m1 t1 Cc ycs T1 hcells a1 a2 a3 a4 a5 a6 => ?_
  refine sp_turnB turn ht f hfl L Bo D x Fg Cc m1 pl tld _ _ bs ycs tl tn tw t1 rv a6 hbs T1 hcells a1 a2 a3 a4 a5 hbare r B heq fun h2 g2 k2 m2 Dq qs T2 hb2 hqs b1 b2 b3 b4 b5 b6 => ?_
  rw [heq] at hqs
  exact sp_turnC turn ht f hfl L Bo D x Fg Dq m2 pl _ tld _ _ (bs ++ [.ref Dq]) qs tl es' tn tw rv T2 hqs I htl htn b1 b2 b3 b4 b5 b6 hb2 r B hW fun h3 g3 k3 m3 pl3 tl3 T3 hb3 c1 c2 c3 c4 c5 c6 c7 => hq h3 g3 k3 m3 pl3 _ Dq qs tl3 T3 hb3 hqs c1 c2 c3 c4 c5 c6 c7
noncomputable abbrev ownG (L : Addr) (m : Str → Option Value) (tld pl le ho oo : Option Value) (Bo : Addr) (bs : List Value) (D : Addr) (tl : List (Addr × Nat × List Nat)) (rest : Led) : Led :=
  (L, oNs m) :: (L + 6, oCell tld) :: (L + 5, oCell pl) :: (L + 4, oCell le) :: (L + 3, oCell ho) :: (L + 2, oCell oo) :: (L + 1, oCell (some (.ref Bo))) :: (Bo, oList bs) :: (D, oList (entRefs tl)) :: (entLed tl ++ rest)
theorem perm_it (X en rest Y : Led) (p : Addr × (Obj → Prop)) : (p :: ((X ++ (en ++ rest)) ++ Y)).Perm ((X ++ (en ++ (p :: rest))) ++ Y) := by
  have e1 : p :: ((X ++ (en ++ rest)) ++ Y) = p :: ((X ++ en) ++ (rest ++ Y)) := by simp
  have e2 : (X ++ (en ++ (p :: rest))) ++ Y = (X ++ en) ++ p :: (rest ++ Y) := by simp
  rw [e1, e2]
  exact List.perm_middle.symm
theorem perm_own (L : Addr) (m : Str → Option Value) (tld pl le ho oo : Option Value) (Bo : Addr) (bs : List Value) (D : Addr) (tl : List (Addr × Nat × List Nat)) (rest : Led) (ps1 ps2 : Array Value) (tls : Led) (p : Addr × (Obj → Prop)) :
    (p :: tLed (ownG L m tld pl le ho oo Bo bs D tl rest) ps1 ps2 tls).Perm (tLed (ownG L m tld pl le ho oo Bo bs D tl (p :: rest)) ps1 ps2 tls) :=
  perm_it [(L, oNs m), (L + 6, oCell tld), (L + 5, oCell pl), (L + 4, oCell le), (L + 3, oCell ho), (L + 2, oCell oo), (L + 1, oCell (some (.ref Bo))), (Bo, oList bs), (D, oList (entRefs tl))] (entLed tl) rest ((224, isO (tabObj ps1)) :: (212, isO (tabObj ps2)) :: tls) p
theorem mem_own {L : Addr} {m : Str → Option Value} {tld pl le ho oo : Option Value} {Bo : Addr} {bs : List Value} {D : Addr} {tl : List (Addr × Nat × List Nat)} {rest : Led} {p : Addr × (Obj → Prop)} (h : p ∈ rest) : p ∈ ownG L m tld pl le ho oo Bo bs D tl rest :=
  .tail _ (.tail _ (.tail _ (.tail _ (.tail _ (.tail _ (.tail _ (.tail _ (.tail _ (List.mem_append_right _ h)))))))))
end Mine
end
section
open PySem PySem.W PySem.Spec PySem.Calls PyProof.Rows
namespace Mine
/-- where the loop over the two orders stands -/
noncomputable def JT (f : List Nat) (L Bo D Fg x : Addr) (tw : Tok) (rv : Value) (es1 es2 : List (Nat × List Nat)) (RT : Led) (i : Nat) (led : Led) (g : Array GenState) : Prop :=
  AllBare g ∧ Ex9 fun m pl le ho oo tl ps1 ps2 tls => Al9 (okS ps1 tls) (okP ps2 tls) (m (Str.ofString "figures") = some (.ref Fg)) (m (Str.ofString "word") = some (.str (mkS (wordOf f)) tw)) (m (Str.ofString "table") = some (.ref x)) (m (Str.ofString "runs") = some rv) (∀ p ∈ tl, p.2.1 ∈ n12) (tl.length ≤ 5 * i) ((Al3 (i = 0) (tl.map (·.2) = []) (led = tLed (ownG L m none pl le ho oo Bo [] D tl RT) ps1 ps2 tls)) ∨
     (Al3 (i = 1) (tl.map (·.2) = es1) (Ex2 fun D0 q0 => Paired IsI (longests 0 f) q0 ∧ led = tLed (ownG L m none pl le ho oo Bo [.ref D0] D tl ((D0, oList q0) :: RT)) ps1 ps2 tls)) ∨
     (Al3 (i = 2) (tl.map (·.2) = es2) (Ex6 fun D0 q0 D1 q1 hid ord => Al3 (Paired IsI (longests 0 f) q0) (Paired IsI (longests 1 f) q1) (led = (D0, oList q0) :: (D1, oList q1) :: tLed (ownG L m none pl le (some hid) (some ord) Bo [.ref D0, .ref D1] D tl RT) ps1 ps2 tls))))
theorem JT.rt {f : List Nat} {L Bo D Fg x : Addr} {tw : Tok} {rv : Value} {es1 es2 : List (Nat × List Nat)} {RT : Led} {i : Nat} {led : Led} {g : Array GenState} (h : JT f L Bo D Fg x tw rv es1 es2 RT i led g) : ∀ p ∈ RT, p ∈ led := by
  obtain ⟨_, m, pl, le, ho, oo, tl, ps1, ps2, tls, _, _, _, _, _, _, _, _, hc⟩ := h
  intro p hp
  rcases hc with ⟨_, _, rfl⟩ | ⟨_, _, D0, q0, _, rfl⟩ | ⟨_, _, D0, q0, D1, q1, hid, ord, _, _, rfl⟩
  · exact List.mem_append_left _ (mem_own hp)
  · exact List.mem_append_left _ (mem_own (.tail _ hp))
  · exact .tail _ (.tail _ (List.mem_append_left _ (mem_own hp)))
theorem tupAt_in {hb h₁ : Heap} {led : Led} {a : Addr} {vs : List Value} (S : St hb h₁ led) (hm : (a, isO { cls := .type "tuple", data := .seq vs.toArray }) ∈ led) : h₁.IsTuple a vs.toArray := by
  obtain ⟨o, e, ho⟩ := S.cell _ hm
  have ho' : o = { cls := .type "tuple", data := .seq vs.toArray } := ho
  exact ⟨o, e, by rw [ho'], 0, by rw [ho']⟩
theorem tupAt_rt {hb h₁ : Heap} {X : Addr × (Obj → Prop)} {led : Led} {a : Addr} {vs : List Value} (S : St hb h₁ (X :: led)) (hm : (a, isO { cls := .type "tuple", data := .seq vs.toArray }) ∈ led) : h₁.IsTuple a vs.toArray := by
  obtain ⟨o, e, ho⟩ := S.cell _ (.tail _ hm)
  have ho' : o = { cls := .type "tuple", data := .seq vs.toArray } := ho
  exact ⟨o, e, by rw [ho'], 0, by rw [ho']⟩
set_option maxRecDepth 100000 in
set_option maxHeartbeats 8000000 in
theorem sp_lawB {w : World} {A : Around} {E : Value → Shared → Prop} {s : Shared} {Q : Flow → Shared → Prop} {hb : Heap} (f : List Nat) (hf : ∀ x ∈ f, x < 6) (hfl : f.length = 5 ∨ f.length = 6)
    (L Bo D x Fg : Addr) (fs : List Value) (m : Str → Option Value) (tw : Tok) (rv : Value) (es1 es2 : List (Nat × List Nat))
    (S : St hb s.heap ((L, oNs m) :: (L + 6, oCell none) :: (L + 5, oCell none) :: (L + 4, oCell none) :: (L + 3, oCell none) :: (L + 2, oCell none) :: (L + 1, oCell (some (.ref Bo))) :: (Bo, oList []) :: (D, oList []) :: tabs0))
    (hFg : ∃ o, hb.get? Fg = some o ∧ oList fs o) (hfs : Paired IsI f fs) (I : hb.Inst x 206 (mH D)) (hruns : RunsAt hb rv (lawRuns (wordOf f)))
    (e1 : m (Str.ofString "figures") = some (.ref Fg)) (e2 : m (Str.ofString "word") = some (.str (mkS (wordOf f)) tw)) (e3 : m (Str.ofString "table") = some (.ref x)) (er : m (Str.ofString "runs") = some rv)
    (hbare : AllBare s.gens) (r : Room A 300 3000) (B : Bs w hb)
    (hq0 : partsOf 0 f = longests 0 f) (hq1 : partsOf 1 f = longests 1 f)
    (hW0 : ((List.range (f.length - 1)).map (· + 1)).foldl (offer (wordOf f) 0 (longests 0 f)) (some []) = some es1)
    (hW1 : ((List.range (f.length - 1)).map (· + 1)).foldl (offer (wordOf f) 1 (longests 1 f)) (some es1) = some es2)
    (hE1 : ∀ p, p < f.length - 1 → tall es2 (97 + (p + 1)) = dueW (lawRuns (wordOf f)) (longests 0 f) (longests 1 f) (p + 1)) (hE2 : restW (lawRuns (wordOf f)) es2 = [])
    (hq : ∀ h' g' k', TS hb h' [] → AllBare g' → Q (.ret (.bool true)) ⟨h', g', s.drawn, k', s.os⟩) :
    wpAny (model PR w) A (execs ((lawBody w.params).drop 5) (lawEnv w.params L)) Q E s := by
  dsimp only [lawBody, lawRec, lawEnv, List.drop]
  refine wpAny_execs_cons (for_tupT r.hh (h₀ := hb) s.drawn s.os ?_)
  refine tupD (wpAny_items_cons (tupD (wpAny_items_cons (cS [97, 98, 99, 100, 101, 102] rfl fun t1 k1 => wpAny_items_cons (cS [97, 98, 99] rfl fun t2 k2 => wpAny_items_cons (cS [92, 41] rfl fun t3 k3 => wpAny_items_nil ⟨by simp, fun a0 h1 kp1 hn1 ha0 => ?_⟩))))))
  refine wpAny_items_cons (tupD (wpAny_items_cons (cS [65, 66, 67, 68, 69, 70] rfl fun t4 k4 => wpAny_items_cons (cS [99, 98, 97] rfl fun t5 k5 => wpAny_items_cons (cS [34, 40, 34] rfl fun t6 k6 => wpAny_items_nil ⟨by simp, fun a1 h2 kp2 hn2 ha1 => ?_⟩)))))
  refine wpAny_items_nil ⟨by simp, fun ax h3 kp3 hn3 hax => ?_⟩
  have S1 := S.fresh (P := isO _) kp1 hn1 ⟨_, ha0, rfl⟩
  have S2 := S1.fresh (P := isO _) kp2 hn2 ⟨_, ha1, rfl⟩
  have S3 := S2.fresh (P := isO _) kp3 hn3 ⟨_, hax, rfl⟩
  clear S S1 S2 ha0 ha1 hax hn1 hn2 hn3
  have qq : ∃ RT : Led, Al4 (St hb h3 (tLed (ownG L m none none none none none Bo [] D [] RT) #[] #[] [])) ((a0, isO { cls := .type "tuple", data := .seq [.str (mkS (namesOf 0)) t1, .str (mkS (orderOf 0)) t2, .str (mkS (hiddenOf 0)) t3].toArray }) ∈ RT) ((a1, isO { cls := .type "tuple", data := .seq [.str (mkS (namesOf 1)) t4, .str (mkS (orderOf 1)) t5, .str (mkS (hiddenOf 1)) t6].toArray }) ∈ RT) ((ax, isO { cls := .type "tuple", data := .seq [.ref a0, .ref a1].toArray }) ∈ RT) :=
    ⟨[(ax, _), (a1, _), (a0, _)], S3.perm (List.perm_append_comm_assoc [(ax, _), (a1, _), (a0, _)] [(L, oNs m), (L + 6, oCell none), (L + 5, oCell none), (L + 4, oCell none), (L + 3, oCell none), (L + 2, oCell none), (L + 1, oCell (some (.ref Bo))), (Bo, oList []), (D, oList [])] tabs0),
      .tail _ (.tail _ (List.mem_cons_self ..)), .tail _ (List.mem_cons_self ..), List.mem_cons_self ..⟩
  clear S3
  obtain ⟨RT, S4, hm0, hm1, hmx⟩ := qq
  refine ⟨JT f L Bo D Fg x tw rv es1 es2 RT, h3, s.gens, _, ax, [.ref a0, .ref a1], _, rfl, rfl, S4, ⟨hbare, m, none, none, none, none, [], #[], #[], [], .inl rfl, .inl rfl, e1, e2, e3, er, fun p hp => (nomatch hp), Nat.zero_le _, .inl ⟨rfl, rfl, rfl⟩⟩, ?_, ?_, ?_, tupAt_in S4 (List.mem_append_left _ (mem_own hmx))⟩
  · rintro i led₁ g h₁ X _ hJ S'
    exact tupAt_rt S' (hJ.rt _ hmx)
  · intro i hi
    rcases i with _ | _ | i
    · refine ⟨a0, _, _, _, rfl, fun led₁ g h₁ X hJ S' => tupAt_rt S' (hJ.rt _ hm0), ?_⟩
      rintro led₁ g h4 k4 It Pt E' ⟨hbg, m, pl, le, ho, oo, tl, ps1, ps2, tls, o1, o2, z1, z2, z3, z4, hn, hl, hc⟩ S'
      rcases hc with ⟨_, htl, rfl⟩ | ⟨h, _⟩ | ⟨h, _⟩
      rotate_left
      · cases h
      · cases h
      have S5 := S'.perm (perm_own L m none pl le ho oo Bo [] D tl RT ps1 ps2 tls (It, Pt))
      clear S' S4
      refine asg S5 0 rfl fun h6 k6 S6 => ?_
      dsimp only [List.set, List.cons_append] at S6
      refine asgC S6 5 rfl (c := L + 2) fun h7 S7 => ?_
      dsimp only [List.set, List.cons_append] at S7
      refine asgC S7 4 rfl (c := L + 3) fun h8 S8 => ?_
      dsimp only [List.set, List.cons_append] at S8
      clear S5 S6 S7
      have qq : ∃ m8, Al6 (St hb h8 (tLed (ownT L m8 pl le (.str (mkS (hiddenOf 0)) t3) (.str (mkS (orderOf 0)) t2) Bo none [] D tl ((It, Pt) :: RT)) ps1 ps2 tls)) (m8 (Str.ofString "figures") = some (.ref Fg)) (m8 (Str.ofString "word") = some (.str (mkS (wordOf f)) tw)) (m8 (Str.ofString "table") = some (.ref x)) (m8 (Str.ofString "runs") = some rv) (m8 (Str.ofString "names") = some (.str (mkS (namesOf 0)) t1)) :=
        ⟨_, S8, by walk_at "lk", by walk_at "lk", by walk_at "lk", by walk_at "lk", if_pos rfl⟩
      clear S8 z1 z2 z3 z4
      obtain ⟨m8, S8, z1, z2, z3, z4, z5⟩ := qq
      refine nrm h8 g s.drawn _ s.os ?_
      refine sp_turn 0 (.inl rfl) f hf hfl L Bo D x Fg fs m8 pl le none [] tl es1 t1 t2 t3 tw rv z4 hFg hfs I hn (by omega) (by simp) z1 z2 z3 z5 ⟨ps1, ps2, tls, S8, o1, o2⟩ hbg r B hq0 (by rw [htl]; exact hW0) fun h9 g9 k9 m9 pl9 le9 Dq qs tl9 T9 hb9 hqs he9 hn9 hl9 c1 c2 c3 c4 => ?_
      obtain ⟨ps1', ps2', tls', S9, o1', o2'⟩ := T9
      refine ⟨h9, g9, k9, _, rfl, ⟨hb9, m9, pl9, le9, some (.str (mkS (hiddenOf 0)) t3), some (.str (mkS (orderOf 0)) t2), tl9, ps1', ps2', tls', o1', o2', c1, c2, c3, c4, hn9, by omega, .inr (.inl ⟨rfl, he9, Dq, qs, hqs, rfl⟩)⟩, ?_⟩
      exact S9.perm (((perm_own L m9 none pl9 le9 _ _ Bo [.ref Dq] D tl9 RT ps1' ps2' tls' (It, Pt)).symm.cons (Dq, oList qs)).trans ((List.Perm.swap _ _ _).trans ((perm_own L m9 none pl9 le9 _ _ Bo [.ref Dq] D tl9 RT ps1' ps2' tls' (Dq, oList qs)).cons (It, Pt))))
    · refine ⟨a1, _, _, _, rfl, fun led₁ g h₁ X hJ S' => tupAt_rt S' (hJ.rt _ hm1), ?_⟩
      rintro led₁ g h4 k4 It Pt E' ⟨hbg, m, pl, le, ho, oo, tl, ps1, ps2, tls, o1, o2, z1, z2, z3, z4, hn, hl, hc⟩ S'
      rcases hc with ⟨h, _⟩ | ⟨_, htl, D0, q0, hq0', rfl⟩ | ⟨h, _⟩
      · cases h
      rotate_left
      · cases h
      have S5 := S'.perm (perm_own L m none pl le ho oo Bo [.ref D0] D tl ((D0, oList q0) :: RT) ps1 ps2 tls (It, Pt))
      clear S' S4
      refine asg S5 0 rfl fun h6 k6 S6 => ?_
      dsimp only [List.set, List.cons_append] at S6
      refine asgC S6 5 rfl (c := L + 2) fun h7 S7 => ?_
      dsimp only [List.set, List.cons_append] at S7
      refine asgC S7 4 rfl (c := L + 3) fun h8 S8 => ?_
      dsimp only [List.set, List.cons_append] at S8
      clear S5 S6 S7
      have qq : ∃ m8, Al6 (St hb h8 (tLed (ownT L m8 pl le (.str (mkS (hiddenOf 1)) t6) (.str (mkS (orderOf 1)) t5) Bo none [.ref D0] D tl ((It, Pt) :: ((D0, oList q0) :: RT))) ps1 ps2 tls)) (m8 (Str.ofString "figures") = some (.ref Fg)) (m8 (Str.ofString "word") = some (.str (mkS (wordOf f)) tw)) (m8 (Str.ofString "table") = some (.ref x)) (m8 (Str.ofString "runs") = some rv) (m8 (Str.ofString "names") = some (.str (mkS (namesOf 1)) t4)) :=
        ⟨_, S8, by walk_at "lk", by walk_at "lk", by walk_at "lk", by walk_at "lk", if_pos rfl⟩
      clear S8 z1 z2 z3 z4
      obtain ⟨m8, S8, z1, z2, z3, z4, z5⟩ := qq
      refine nrm h8 g s.drawn _ s.os ?_
      refine sp_turn 1 (.inr rfl) f hf hfl L Bo D x Fg fs m8 pl le none [.ref D0] tl es2 t4 t5 t6 tw rv z4 hFg hfs I hn (by omega) (by simp) z1 z2 z3 z5 ⟨ps1, ps2, tls, S8, o1, o2⟩ hbg r B hq1 (by rw [htl]; exact hW1) fun h9 g9 k9 m9 pl9 le9 Dq qs tl9 T9 hb9 hqs he9 hn9 hl9 c1 c2 c3 c4 => ?_
      obtain ⟨ps1', ps2', tls', S9, o1', o2'⟩ := T9
      refine ⟨h9, g9, k9, _, rfl, ⟨hb9, m9, pl9, le9, none, none, tl9, ps1', ps2', tls', o1', o2', c1, c2, c3, c4, hn9, by omega, .inr (.inr ⟨rfl, he9, D0, q0, Dq, qs, .str (mkS (hiddenOf 1)) t6, .str (mkS (orderOf 1)) t5, hq0', hqs, rfl⟩)⟩, ?_⟩
      refine S9.perm (((perm_own L m9 none pl9 le9 _ _ Bo [.ref D0, .ref Dq] D tl9 ((D0, oList q0) :: RT) ps1' ps2' tls' (It, Pt)).symm.cons (Dq, oList qs)).trans ?_)
      refine ((((perm_own L m9 none pl9 le9 _ _ Bo [.ref D0, .ref Dq] D tl9 RT ps1' ps2' tls' (D0, oList q0)).symm.cons (It, Pt)).cons (Dq, oList qs)).trans ?_)
      exact (List.Perm.swap _ _ _).trans ((List.Perm.swap _ _ _).cons _)
    · exact absurd (show i + 1 + 1 < 2 from hi) (by omega)
  · rintro led₁ g h4 k4 ⟨hbg, m, pl, le, ho, oo, tl, ps1, ps2, tls, o1, o2, z1, z2, z3, z4, hn, hl, hc⟩ S'
    clear S4
    rcases hc with ⟨h, _⟩ | ⟨h, _⟩ | ⟨_, htl, D0, q0, D1, q1, hid, ord, hq0', hq1', rfl⟩
    · cases h
    · cases h
    refine sp_tail f hfl L Bo D x D0 D1 m pl le none hid ord rv q0 q1 (longests 0 f) (longests 1 f) tl tw ⟨ps1, ps2, tls, S', o1, o2⟩ hq0' hq1' (by simp [longests]) (by simp [longests]) I hn ?_ hruns z2 z3 z4 hbg r B (by rw [htl]; exact hE1) (by rw [htl]; exact hE2) hq
    have : tl.length ≤ 5 * 2 := hl
    omega
end Mine
end
section
open PySem PySem.W PySem.Spec PySem.Calls PyProof.Rows
namespace Mine
theorem St.ghost {h h' : Heap} {led : Led} (S : St h h' led) {a b : Addr} (hab : a ≠ b) {o o' : Obj} (ha : h.get? a = some o) (hb : h.get? b = some o') : St (hideAll h [a, b]) h' (led ++ [(a, isO o), (b, isO o')]) := by
  refine ⟨fun c ob e => S.keep c ob (of_hideAll _ e), fun p hp => ?_, fun p hp => ?_, ?_⟩
  · rcases List.mem_append.mp hp with m | m
    · exact S.cell p m
    · simp only [List.mem_cons, List.not_mem_nil, or_false] at m
      rcases m with rfl | rfl
      · exact ⟨o, S.keep _ _ ha, rfl⟩
      · exact ⟨o', S.keep _ _ hb, rfl⟩
  · rcases List.mem_append.mp hp with m | m
    · cases q : (hideAll h [a, b]).get? p.1 with
      | none => rfl
      | some ob => have := S.new p m; rw [of_hideAll _ q] at this; cases this
    · simp only [List.mem_cons, List.not_mem_nil, or_false] at m
      rcases m with rfl | rfl
      · exact hideAll_none _ (by simp)
      · exact hideAll_none _ (by simp)
  · refine List.pairwise_append.mpr ⟨S.nd, by simpa using hab, fun p hp q hq e => ?_⟩
    have h1 := S.new p hp
    simp only [List.mem_cons, List.not_mem_nil, or_false] at hq
    rcases hq with rfl | rfl
    · rw [e] at h1
      have h1' : h.get? a = none := h1
      rw [ha] at h1'; cases h1'
    · rw [e] at h1
      have h1' : h.get? b = none := h1
      rw [hb] at h1'; cases h1'
theorem lawOk_split {f : List Nat} (h : lawOk f = true) : ∃ es1 es2, partsOf 0 f = longests 0 f ∧ partsOf 1 f = longests 1 f ∧
    ((List.range (f.length - 1)).map (· + 1)).foldl (offer (wordOf f) 0 (longests 0 f)) (some []) = some es1 ∧
    ((List.range (f.length - 1)).map (· + 1)).foldl (offer (wordOf f) 1 (longests 1 f)) (some es1) = some es2 ∧
    (∀ p, p < f.length - 1 → tall es2 (97 + (p + 1)) = dueW (lawRuns (wordOf f)) (longests 0 f) (longests 1 f) (p + 1)) ∧ restW (lawRuns (wordOf f)) es2 = [] := by
  unfold lawOk lawW turnW at h
  by_cases h0 : partsOf 0 f = longests 0 f
  · by_cases h1 : partsOf 1 f = longests 1 f
    · rw [if_pos h0, h0, h1] at h
      cases e1 : ((List.range (f.length - 1)).map (· + 1)).foldl (offer (wordOf f) 0 (longests 0 f)) (some []) with
      | none => rw [e1] at h; cases h
      | some es1 =>
        rw [e1] at h
        simp only [Option.bind_some, if_true] at h
        cases e2 : ((List.range (f.length - 1)).map (· + 1)).foldl (offer (wordOf f) 1 (longests 1 f)) (some es1) with
        | none => rw [e2] at h; cases h
        | some es2 =>
          rw [e2] at h
          simp only [endW, Bool.and_eq_true, List.all_eq_true, beq_iff_eq] at h
          exact ⟨es1, es2, h0, h1, rfl, e2, fun p hp => h.1 p (List.mem_range.mpr hp), h.2⟩
    · simp only [if_pos h0, if_neg h1] at h
      cases e1 : ((List.range (f.length - 1)).map (· + 1)).foldl (offer (wordOf f) 0 (partsOf 0 f)) (some []) with
      | none => rw [e1] at h; cases h
      | some es1 => rw [e1] at h; cases h
  · rw [if_neg h0] at h; cases h
set_option maxRecDepth 100000 in
set_option maxHeartbeats 8000000 in
theorem sp_law {w : World} {A : Around} {R : Result → Shared → Prop} {s : Shared} (Sa : Addr) (vs : List Value) (ns : List Int) (hI : IntsAre vs ns) (hS : (hideAll s.heap [224, 212]).IsList Sa vs.toArray) (hn : ns.length ≤ 63) (r : Room A 301 3003)
    (B : Bs w (hideAll s.heap [224, 212])) (h1 : s.heap.get? 224 = some (tabObj #[])) (h2 : s.heap.get? 212 = some (tabObj #[])) (hbare : AllBare s.gens) (hok : lawOk (figsOf ns) = true)
    (hret : ∀ h' g' k', Kp (hideAll s.heap [224, 212]) h' → (∃ ps, h'.get? 224 = some (tabObj ps)) → (∃ ps, h'.get? 212 = some (tabObj ps)) → AllBare g' → R (.ok (.ret (.bool true))) ⟨h', g', s.drawn, k', s.os⟩) :
    codeAny (model PR w) A (.call (.ref 249) ⟨[.ref Sa], []⟩) R s := by
  have kp0 : Kp (hideAll s.heap [224, 212]) s.heap := fun b o e => of_hideAll _ e
  obtain ⟨es1, es2, hq0, hq1, hW0, hW1, hE1, hE2⟩ := lawOk_split hok
  refine enterC (d := 300) (u := 3000) (binds := [(Str.ofString "script", .ref Sa)]) r (B.ext kp0) (by k_is) (by k_is) (fun Q E h => wpAny_pure h) ?_ (by decide) ?_
  · intro y hy; simp at hy; subst hy; left; rfl
  intro L h₁ tk A S0 r
  have q : ∃ m0 : Str → Option Value, St s.heap h₁ [(L, oNs m0), (L + 6, oCell none), (L + 5, oCell none), (L + 4, oCell none), (L + 3, oCell none), (L + 2, oCell none), (L + 1, oCell none)] ∧ m0 (Str.ofString "script") = some (.ref Sa) := ⟨_, S0, rfl⟩
  clear S0
  obtain ⟨m0, S, e0⟩ := q
  have S1 := S.ghost (a := 224) (b := 212) (by decide) h1 h2
  refine sp_lawA (s := ⟨h₁, s.gens, s.drawn, tk, s.os⟩) L Sa m0 vs ns hI hS hn e0 S1 r B fun hb h' k' m' Fg fs x Bo D tw rv kp hFg hfs I hruns S' f1 f2 f3 f4 => ?_
  refine sp_lawB (s := ⟨h', s.gens, s.drawn, k', s.os⟩) (figsOf ns) (figs_small ns) (figs_len ns) L Bo D x Fg fs m' tw rv es1 es2 S' hFg hfs I hruns f1 f2 f3 f4 hbare r (B.ext kp) hq0 hq1 hW0 hW1 hE1 hE2 fun h2 g2 k2 T hb2 => ?_
  obtain ⟨ps1, ps2, tls, S2, _, _⟩ := T
  exact hret h2 g2 k2 (kp.trans S2.keep) ⟨ps1, isO_of (S2.getL 0 rfl)⟩ ⟨ps2, isO_of (S2.getL 1 rfl)⟩ hb2
end Mine
end
section
namespace Mine
theorem q5_00 : ((allF 3 3).map (· ++ [0, 0])).all lawB = true := by decide +kernel
theorem q5_01 : ((allF 3 3).map (· ++ [0, 1])).all lawB = true := by decide +kernel
theorem q5_02 : ((allF 3 3).map (· ++ [0, 2])).all lawB = true := by decide +kernel
theorem q5_10 : ((allF 3 3).map (· ++ [1, 0])).all lawB = true := by decide +kernel
theorem q5_11 : ((allF 3 3).map (· ++ [1, 1])).all lawB = true := by decide +kernel
theorem q5_12 : ((allF 3 3).map (· ++ [1, 2])).all lawB = true := by decide +kernel
theorem q5_20 : ((allF 3 3).map (· ++ [2, 0])).all lawB = true := by decide +kernel
theorem q5_21 : ((allF 3 3).map (· ++ [2, 1])).all lawB = true := by decide +kernel
theorem q5_22 : ((allF 3 3).map (· ++ [2, 2])).all lawB = true := by decide +kernel
theorem q6_000 : ((allF 3 3).map (· ++ [0, 0, 0])).all lawB = true := by decide +kernel
theorem q6_001 : ((allF 3 3).map (· ++ [0, 0, 1])).all lawB = true := by decide +kernel
theorem q6_002 : ((allF 3 3).map (· ++ [0, 0, 2])).all lawB = true := by decide +kernel
theorem q6_010 : ((allF 3 3).map (· ++ [0, 1, 0])).all lawB = true := by decide +kernel
theorem q6_011 : ((allF 3 3).map (· ++ [0, 1, 1])).all lawB = true := by decide +kernel
theorem q6_012 : ((allF 3 3).map (· ++ [0, 1, 2])).all lawB = true := by decide +kernel
theorem q6_020 : ((allF 3 3).map (· ++ [0, 2, 0])).all lawB = true := by decide +kernel
theorem q6_021 : ((allF 3 3).map (· ++ [0, 2, 1])).all lawB = true := by decide +kernel
theorem q6_022 : ((allF 3 3).map (· ++ [0, 2, 2])).all lawB = true := by decide +kernel
theorem q6_100 : ((allF 3 3).map (· ++ [1, 0, 0])).all lawB = true := by decide +kernel
theorem q6_101 : ((allF 3 3).map (· ++ [1, 0, 1])).all lawB = true := by decide +kernel
theorem q6_102 : ((allF 3 3).map (· ++ [1, 0, 2])).all lawB = true := by decide +kernel
theorem q6_110 : ((allF 3 3).map (· ++ [1, 1, 0])).all lawB = true := by decide +kernel
theorem q6_111 : ((allF 3 3).map (· ++ [1, 1, 1])).all lawB = true := by decide +kernel
theorem q6_112 : ((allF 3 3).map (· ++ [1, 1, 2])).all lawB = true := by decide +kernel
theorem q6_120 : ((allF 3 3).map (· ++ [1, 2, 0])).all lawB = true := by decide +kernel
theorem q6_121 : ((allF 3 3).map (· ++ [1, 2, 1])).all lawB = true := by decide +kernel
theorem q6_122 : ((allF 3 3).map (· ++ [1, 2, 2])).all lawB = true := by decide +kernel
theorem q6_200 : ((allF 3 3).map (· ++ [2, 0, 0])).all lawB = true := by decide +kernel
theorem q6_201 : ((allF 3 3).map (· ++ [2, 0, 1])).all lawB = true := by decide +kernel
theorem q6_202 : ((allF 3 3).map (· ++ [2, 0, 2])).all lawB = true := by decide +kernel
theorem q6_210 : ((allF 3 3).map (· ++ [2, 1, 0])).all lawB = true := by decide +kernel
theorem q6_211 : ((allF 3 3).map (· ++ [2, 1, 1])).all lawB = true := by decide +kernel
theorem q6_212 : ((allF 3 3).map (· ++ [2, 1, 2])).all lawB = true := by decide +kernel
theorem q6_220 : ((allF 3 3).map (· ++ [2, 2, 0])).all lawB = true := by decide +kernel
theorem q6_221 : ((allF 3 3).map (· ++ [2, 2, 1])).all lawB = true := by decide +kernel
theorem q6_222 : ((allF 3 3).map (· ++ [2, 2, 2])).all lawB = true := by decide +kernel
theorem of_slice {t : List Nat} (h : ((allF 3 3).map (· ++ t)).all lawB = true) {a b c : Nat} (ha : a < 3) (hb : b < 3) (hc : c < 3) : lawB ([a, b, c] ++ t) = true :=
  List.all_eq_true.mp h _ (List.mem_map.mpr ⟨[a, b, c], mem_allF 3 [a, b, c] (fun x hx => by simp at hx; rcases hx with rfl | rfl | rfl <;> assumption), rfl⟩)
theorem three {d : Nat} (h : d < 3) : d = 0 ∨ d = 1 ∨ d = 2 := by omega
theorem lawB5 {a b c d e : Nat} (ha : a < 3) (hb : b < 3) (hc : c < 3) (hd : d < 3) (he : e < 3) : lawB [a, b, c, d, e] = true := by
  rcases three hd with rfl | rfl | rfl <;> rcases three he with rfl | rfl | rfl
  · exact of_slice q5_00 ha hb hc
  · exact of_slice q5_01 ha hb hc
  · exact of_slice q5_02 ha hb hc
  · exact of_slice q5_10 ha hb hc
  · exact of_slice q5_11 ha hb hc
  · exact of_slice q5_12 ha hb hc
  · exact of_slice q5_20 ha hb hc
  · exact of_slice q5_21 ha hb hc
  · exact of_slice q5_22 ha hb hc
theorem lawB6 {a b c d e f : Nat} (ha : a < 3) (hb : b < 3) (hc : c < 3) (hd : d < 3) (he : e < 3) (hf : f < 3) : lawB [a, b, c, d, e, f] = true := by
  rcases three hd with rfl | rfl | rfl <;> rcases three he with rfl | rfl | rfl <;> rcases three hf with rfl | rfl | rfl
  · exact of_slice q6_000 ha hb hc
  · exact of_slice q6_001 ha hb hc
  · exact of_slice q6_002 ha hb hc
  · exact of_slice q6_010 ha hb hc
  · exact of_slice q6_011 ha hb hc
  · exact of_slice q6_012 ha hb hc
  · exact of_slice q6_020 ha hb hc
  · exact of_slice q6_021 ha hb hc
  · exact of_slice q6_022 ha hb hc
  · exact of_slice q6_100 ha hb hc
  · exact of_slice q6_101 ha hb hc
  · exact of_slice q6_102 ha hb hc
  · exact of_slice q6_110 ha hb hc
  · exact of_slice q6_111 ha hb hc
  · exact of_slice q6_112 ha hb hc
  · exact of_slice q6_120 ha hb hc
  · exact of_slice q6_121 ha hb hc
  · exact of_slice q6_122 ha hb hc
  · exact of_slice q6_200 ha hb hc
  · exact of_slice q6_201 ha hb hc
  · exact of_slice q6_202 ha hb hc
  · exact of_slice q6_210 ha hb hc
  · exact of_slice q6_211 ha hb hc
  · exact of_slice q6_212 ha hb hc
  · exact of_slice q6_220 ha hb hc
  · exact of_slice q6_221 ha hb hc
  · exact of_slice q6_222 ha hb hc
theorem lawB_all (g : List Nat) (hl : g.length = 5 ∨ g.length = 6) (h : ∀ x ∈ g, x < 3) : lawB g = true := by
  rcases hl with hl | hl
  · match g, hl with
    | [a, b, c, d, e], _ => exact lawB5 (h a (by simp)) (h b (by simp)) (h c (by simp)) (h d (by simp)) (h e (by simp))
  · match g, hl with
    | [a, b, c, d, e, f], _ => exact lawB6 (h a (by simp)) (h b (by simp)) (h c (by simp)) (h d (by simp)) (h e (by simp)) (h f (by simp))
theorem lawOk_all (ns : List Int) : lawOk (figsOf ns) = true := by
  rw [lawOk_eq _ (figs_small ns)]
  refine lawB_all _ (by rw [List.length_map]; exact figs_len ns) fun x hx => ?_
  obtain ⟨y, _, rfl⟩ := List.mem_map.mp hx
  omega
end Mine
end
section
open PySem PySem.W PySem.Spec PySem.Calls PyProof.Rows
namespace Mine
theorem my_post {M : Model} {A : Around} {cd : Code} {s s₁ : Shared} {cw : ClaimW} {cl : Str → Option Addr} {mean : ExcName → Option Value} {args : List WData} {tabs : List (Addr × Addr)} (hT : TabsAt tabs s₁.heap) (hr : ∀ a x, cw.raises a x = false) (hp : cw.post args (.bool true) args = true)
    (h : codeAny M A cd (fun r s' => r = .ok (.ret (.bool true)) ∧ Kp (ghostOf s₁.heap tabs) s'.heap ∧ s'.os = s₁.os ∧ AllBare s'.gens ∧ GrownAll tabs s'.heap) s) : codeAny M A cd (GoodWG cw cl mean args s₁) s :=
  codeAny_mono h fun r s' ⟨hc, hk, hos, hg, hgr⟩ => by
    have keep : ∀ b o, b ∉ tabs.map (·.2) → s₁.heap.get? b = some o → s'.heap.get? b = some o := fun b o hb e => hk b o (ghost_ne e hb)
    have grown : ∀ b o, b ∈ tabs.map (·.2) → s₁.heap.get? b = some o → isCodeTable s₁.heap b ∧ o = tabObj #[] ∧ ∃ ps, s'.heap.get? b = some (tabObj ps) := fun b o hb e => by
      obtain ⟨q, hq, rfl⟩ := List.mem_map.mp hb
      have e2 := (hT q hq).2
      rw [e] at e2
      exact ⟨((hT q hq).1.tab (hT q hq).2).isCodeTable, Option.some.inj e2, hgr.get q hq⟩
    refine ⟨.inl ⟨.bool true, .bool true, [], hc, hr args, .bool true, hp, fun _ => ⟨List.nodup_nil, fun a ha => nomatch ha⟩⟩, ⟨fun b o e => ?_, fun b o e => ?_⟩, hos, hg⟩
    · by_cases hb : b ∈ tabs.map (·.2)
      · obtain ⟨ht, rfl, ps, hP⟩ := grown b o hb e
        exact .inr (.inl ⟨ht, rfl, #[], ps, rfl, by rw [Array.empty_append]; exact hP⟩)
      · exact .inl (keep b o hb e)
    · by_cases hb : b ∈ tabs.map (·.2)
      · obtain ⟨_, _, ps, hP⟩ := grown b o hb e
        exact ⟨_, hP⟩
      · exact ⟨o, keep b o hb e⟩
end Mine
set_option maxRecDepth 100000 in
set_option maxHeartbeats 8000000 in
theorem PySem.Challenge.cw_us0020_01_holds : PySem.Challenge.rw_us0020_01.Holds := by
  exact Mine.hd (by
    k_fill
    intro w s₀ s₁ mg mb G Y fa o pm cd doc dV kV ho hd' hcd hD hmg hg args vals as hpre hlay hrd hwl hlo
    have KX := km_in_of Y
    km_tabs Y
    have X := (Ground.X G).1
    have V := (Ground.X G).2
    refine Ground.open G ?_
    intro T B D TE TW
    try (refine guard_noD D (by decide +kernel) ?_; clear D)
    km_lay T hmg ho hd' cd
    wrow_args hpre hlay hrd hwl hlo
    refine enter_call ?_
    have h249 := mg_of KX T.g (show nsIn (Mine.hd.heap_39 w.params) mainGlobals (Str.ofString "law") = some (some (.ref 249)) by k_is)
    have hmg' : mg (Str.ofString "law") = some (.ref fa) := hmg
    rw [h249] at hmg'
    cases hmg'
    refine Mine.my_post hT9 (fun _ _ => rfl) ?_ ?_
    rotate_left
    · refine Mine.sp_law (s := s₁) _ _ _ ‹IntsAre _ _› (ghost_list hT9 ‹Heap.IsList _ _ _›) (by omega) ⟨rfl, by decide, by decide⟩ ⟨ghost_K hT9 KX (by kernel_rfl), ⟨mg, mb, Mine.topQ_of (ghost_top hT9 T)⟩, (ghost_code hT9).1, (ghost_code hT9).2.1⟩ (hT8 224 (by simp)) (hT8 212 (by simp)) (.of_eq hg) (Mine.lawOk_all _) fun h' g' k' kp h1 h2 hb => ?_
      exact ⟨rfl, kp, rfl, hb, h1, h2, trivial⟩
    kernel_rfl)
end
